import JvmDerived
import JvmDerived.Pilot.@@N@@Statement
import JvmDerived.Pilot.@@N@@Code
set_option linter.unusedVariables false
set_option linter.unusedSimpArgs false
namespace Jvm.RoadKit
open Sem ClassFile Op Lib Jvm.Stand Jvm.Free Jvm.LawKit
section New
variable {p : Program} {l : Launch} {e : Env} {R : Room} {s : State} {m : MethodId} {args : Array Value} {below : List Frame} {meth : Method} {c : Code} {T : State} {locs : List Loc} {cells slots : Nat}
theorem retI (X : Stand p l e R s m args below meth c T locs cells slots) (hx : p.tables.exec = Jvm.exec) {pc : Nat} {Ls : Array Slot} {z : Int32} {rest : List Value} (hret : meth.sig.returnType = some .int) (hd : decode c.code pc = .ok (.ireturn, 1)) {fs : List Frame}
    (hl : ∀ (f : JFrame) (acts : List Action), f.method = m → f.locked = none → f.entered = [] → (doReturn e (T.setTop f) acts (some (.int z))).1 = T.setFrames fs) : Steps p.tables e below (T.setTop (mkF m pc Ls (.int z :: rest))) (T.setFrames fs) := by
  have hm' : T.vm.method? m = some meth := X.method'
  have hn : narrow .int (.int z) = .int z := rfl
  show Steps p.tables e below (T.setTop { method := m, pc := pc, locals := Ls, stack := _ :: rest, locked := none }) _
  jvm_step X.here [X.here.top, hx, hd, hm', hret, hn]
  first | (intro acts; rw [hl _ acts rfl rfl rfl]) | rw [hl _ _ rfl rfl rfl]
  exact Steps.refl _
end New
end Jvm.RoadKit
namespace Jvm.Pilot.@@N@@
open Jvm Jvm.ClassFile Sem Op Lib Jvm.Free Jvm.Stand Jvm.LawKit Jvm.RoadKit Bundle Jvm.Pilot.@@N@@.Jvm.D

theorem own_nar {b : Int32} (h : b = 0 ∨ b = 1) : nar .boolean b = b := by rcases h with rfl | rfl <;> decide
def own_whole (t : Int32) : Int32 := if t.toInt = -6 ∨ t.toInt = -5 ∨ t.toInt = 4 ∨ t.toInt = 5 then 1 else 0
def own_exact (t : Int32) : Int32 := if t = (2 : Int32) then (1 : Int32) else if t = (3 : Int32) then (1 : Int32) else (0 : Int32)
def own_appr (t : Int32) : Int32 := if t = (7 : Int32) then (1 : Int32) else if t = (6 : Int32) then (1 : Int32) else if t = (8 : Int32) then (1 : Int32) else (0 : Int32)
def own_tells (t sc : Int32) : Int32 := if own_whole t = (0 : Int32) then (if own_exact t = (0 : Int32) then (if own_appr t = (0 : Int32) then (0 : Int32) else (if sc = (-2147483648 : Int32) then (1 : Int32) else (0 : Int32))) else (1 : Int32)) else (1 : Int32)
theorem own_w01 (t : Int32) : own_whole t = 0 ∨ own_whole t = 1 := by unfold own_whole; split <;> simp
theorem own_e01 (t : Int32) : own_exact t = 0 ∨ own_exact t = 1 := by unfold own_exact; repeat' split
                                                                      all_goals simp
theorem own_a01 (t : Int32) : own_appr t = 0 ∨ own_appr t = 1 := by unfold own_appr; repeat' split
                                                                    all_goals simp
theorem dR_0 : decode jdk_30_method_1_code 0 = .ok (.aload_n 0, 1) := by decide +kernel
theorem dR_1 : decode jdk_30_method_1_code 1 = .ok (.invokespecial 1, 3) := by decide +kernel
theorem dR_4 : decode jdk_30_method_1_code 4 = .ok (.return_, 1) := by decide +kernel
theorem ef_dR_ (m : MethodId) (a1 : Addr) : entryFrame m #[(.ref a1)] 1 = mkF m 0 #[.val (.ref a1)] [] := by first | (simp [entryFrame, mkF, argsToLocals, Value.category]; done) | rfl
def Q_rmR (Z : State) (a1 : Addr)  (h0 : Heap) (n0 : Nat) (v : Option Value) (h : Heap) (L : List Loc) : Prop := v = none ∧ Fr n0 L ∧ h = h0
theorem pn_rmR : plainName "java/lang/Record" = true := by first | (simp [plainName, overriddenIn]; done) | decide +kernel
set_option maxRecDepth 65536 in
set_option maxHeartbeats 40000000 in
theorem rmR (l : Launch) (Z : State) (a0 : Array Value) (hw : ∀ d ∈ tables_1, d.before a0 Z = true) (ws : List Jvm.Cond) (a1 : Addr)  (h0 : Heap) (n0 : Nat) (Z0 : n0 ≤ h0.size)  :
    MetFree l (⟨"java/lang/Record", "<init>", "()V"⟩ : MethodName) (head1 (Jvm.Cond.code (⟨"java/lang/Record", "<init>", "()V"⟩ : MethodName) jdk_30_method_1_code 1 none :: ws) ({ frames := 1, cells := 0, slots := 0, locals := 12 } : Room)) (fun a U => a = #[(.ref a1)] ∧ Z.Warmed39 U.vm ∧ U.heap = h0) (fun _ _ _ _ _ => True) (fun _ U o U' => ∃ v L, o = .returned v ∧ Q_rmR Z a1  h0 n0 v U'.heap L ∧ FrameEnd U o U' L ({ frames := 1, cells := 0, slots := 0, locals := 12 } : Room).cells ({ frames := 1, cells := 0, slots := 0, locals := 12 } : Room).slots) := by
  refine MetFree.of_bodySF (plainFor_of_name pn_rmR) hisR ?_
  intro p e s m args below meth c s₁ Bd hml0 hP hK
  obtain ⟨rfl, hZ, hh⟩ := hP
  have hx := Bd.exec
  have hby := Bd.bytes
  have hml : c.maxLocals = 1 := hml0
  have hown : s.vm.findClass "java/lang/Record" = some m.cls := findClass_of_methodNamed Bd.named
  have hnm := (name_of_methodNamed Bd.named Bd.method).1
  have X0 : Stand p l e ({ frames := 1, cells := 0, slots := 0, locals := 12 } : Room) s m #[(.ref a1)] below meth c s₁ [] 0 0 := Stand.of_body Bd
  have e0 : s₁.heap = h0 := by rw [← hh, Bd.state]; rfl
  have N0 := Fr.nil n0
  have pre0 : ∀ tZ, Steps p.tables e below (s₁.setTop (mkF m 0 #[.val (.ref a1)] [])) tZ → Steps p.tables e below (s₁.setTop (entryFrame m #[(.ref a1)] 1)) tZ := fun tZ kZ => castTop (ef_dR_ m a1) kZ
  obtain ⟨T1, X1, e1, st1⟩ := initO X0 hx hZ hown (hw _ (List.mem_of_getElem? (i := 12) rfl)) (hw _ (List.mem_of_getElem? (i := 13) rfl)) (hw _ (List.mem_of_getElem? (i := 14) rfl)) e0 (g := (mkF m 1 #[.val (.ref a1)] [(.ref a1)])) rfl (by rw [hml]; rfl) rfl (hb hby dR_1) (by decide) (W := 0) (by show 2 * 0 + _ ≤ _; exact Nat.le_of_eq rfl) (by decide)
  obtain ⟨fs, hr, hrun, hended, hW, hsame⟩ := X1.leave (v := none) (fun _ => rfl)
  refine ⟨_, _, pre0 _ ?_, hrun, hended, _, _, rfl, ?_, ⟨_, rfl⟩, hW, hsame.mono (by decide) (by decide)⟩
  · show Steps p.tables e below (s₁.setTop (mkF m 0 #[.val (.ref a1)] [])) _
    refine XS.aloadN X0.here hx rfl (hb hby dR_0) rfl rfl ?_
    show Steps p.tables e below (s₁.setTop (mkF m 1 #[.val (.ref a1)] [(.ref a1)])) _
    refine st1 _ ?_
    show Steps p.tables e below (T1.setTop (mkF m 4 #[.val (.ref a1)] [])) _
    exact X1.returnOut hx Bd.returns (hb hby dR_4) hr
  · show Q_rmR Z a1 h0 n0 _ T1.heap _
    rw [e1]
    exact ⟨rfl, N0, rfl⟩

theorem d1_0 : decode prog_5_method_1_code 0 = .ok (.aload_n 0, 1) := by decide +kernel
theorem d1_1 : decode prog_5_method_1_code 1 = .ok (.invokespecial 3, 3) := by decide +kernel
theorem d1_4 : decode prog_5_method_1_code 4 = .ok (.aload_n 0, 1) := by decide +kernel
theorem d1_5 : decode prog_5_method_1_code 5 = .ok (.iload_n 1, 1) := by decide +kernel
theorem d1_6 : decode prog_5_method_1_code 6 = .ok (.putfield 9, 3) := by decide +kernel
theorem d1_9 : decode prog_5_method_1_code 9 = .ok (.aload_n 0, 1) := by decide +kernel
theorem d1_10 : decode prog_5_method_1_code 10 = .ok (.iload_n 2, 1) := by decide +kernel
theorem d1_11 : decode prog_5_method_1_code 11 = .ok (.putfield 15, 3) := by decide +kernel
theorem d1_14 : decode prog_5_method_1_code 14 = .ok (.aload_n 0, 1) := by decide +kernel
theorem d1_15 : decode prog_5_method_1_code 15 = .ok (.iload_n 3, 1) := by decide +kernel
theorem d1_16 : decode prog_5_method_1_code 16 = .ok (.putfield 18, 3) := by decide +kernel
theorem d1_19 : decode prog_5_method_1_code 19 = .ok (.return_, 1) := by decide +kernel
theorem pd_d1___V : parseMethodDescriptor "()V" = some ⟨[], none⟩ := by decide +kernel
theorem ef_d1_ (m : MethodId) (a1 : Addr) (p2 : Int32) (p3 : Int32) (p4 : Int32) : entryFrame m #[(.ref a1), (.int p2), (.int p3), (.int p4)] 4 = mkF m 0 #[.val (.ref a1), .val (.int p2), .val (.int p3), .val (.int p4)] [] := by first | (simp [entryFrame, mkF, argsToLocals, Value.category]; done) | rfl
def Q_rm1 (Z : State) (a1 : Addr) (p2 : Int32) (p3 : Int32) (p4 : Int32)  (h0 : Heap) (n0 : Nat) (v : Option Value) (h : Heap) (L : List Loc) : Prop := v = none ∧ Fr n0 L ∧ Keep h0 h [a1] ∧ Exa Z h a1 "aestiva/ColumnType" ∧ Fld Z h a1 "aestiva/ColumnType" "sqlType" "I" (.int p2) ∧ Fld Z h a1 "aestiva/ColumnType" "scale" "I" (.int p4)
theorem pn_rm1 : plainName "aestiva/ColumnType" = true := by first | (simp [plainName, overriddenIn]; done) | decide +kernel
set_option maxRecDepth 65536 in
set_option maxHeartbeats 40000000 in
theorem rm1 (l : Launch) (Z : State) (a0 : Array Value) (hw : ∀ d ∈ tables_1, d.before a0 Z = true) (ws : List Jvm.Cond) (a1 : Addr) (p2 : Int32) (p3 : Int32) (p4 : Int32)  (h0 : Heap) (n0 : Nat) (Z0 : n0 ≤ h0.size) (E : Exa Z h0 a1 "aestiva/ColumnType") (F_sqlType : Fld Z h0 a1 "aestiva/ColumnType" "sqlType" "I" (.int (0 : Int32))) (F_precision : Fld Z h0 a1 "aestiva/ColumnType" "precision" "I" (.int (0 : Int32))) (F_scale : Fld Z h0 a1 "aestiva/ColumnType" "scale" "I" (.int (0 : Int32))) (ga : n0 ≤ a1) :
    MetFree l (⟨"aestiva/ColumnType", "<init>", "(III)V"⟩ : MethodName) (head1 (Jvm.Cond.code (⟨"aestiva/ColumnType", "<init>", "(III)V"⟩ : MethodName) prog_5_method_1_code 4 none :: ws) ({ frames := 2, cells := 0, slots := 0, locals := 24 } : Room)) (fun a U => a = #[(.ref a1), (.int p2), (.int p3), (.int p4)] ∧ Z.Warmed39 U.vm ∧ U.heap = h0) (fun _ _ _ _ _ => True) (fun _ U o U' => ∃ v L, o = .returned v ∧ Q_rm1 Z a1 p2 p3 p4  h0 n0 v U'.heap L ∧ FrameEnd U o U' L ({ frames := 2, cells := 0, slots := 0, locals := 24 } : Room).cells ({ frames := 2, cells := 0, slots := 0, locals := 24 } : Room).slots) := by
  refine MetFree.of_bodySF (plainFor_of_name pn_rm1) hisR ?_
  intro p e s m args below meth c s₁ Bd hml0 hP hK
  obtain ⟨rfl, hZ, hh⟩ := hP
  have hx := Bd.exec
  have hby := Bd.bytes
  have hml : c.maxLocals = 4 := hml0
  have hown : s.vm.findClass "aestiva/ColumnType" = some m.cls := findClass_of_methodNamed Bd.named
  have hnm := (name_of_methodNamed Bd.named Bd.method).1
  have X0 : Stand p l e ({ frames := 2, cells := 0, slots := 0, locals := 24 } : Room) s m #[(.ref a1), (.int p2), (.int p3), (.int p4)] below meth c s₁ [] 0 0 := Stand.of_body Bd
  have e0 : s₁.heap = h0 := by rw [← hh, Bd.state]; rfl
  have N0 := Fr.nil n0
  have pre0 : ∀ tZ, Steps p.tables e below (s₁.setTop (mkF m 0 #[.val (.ref a1), .val (.int p2), .val (.int p3), .val (.int p4)] [])) tZ → Steps p.tables e below (s₁.setTop (entryFrame m #[(.ref a1), (.int p2), (.int p3), (.int p4)] 4)) tZ := fun tZ kZ => castTop (ef_d1_ m a1 p2 p3 p4) kZ
  obtain ⟨_, _, ⟨T1, L1, k1, n1⟩, -, X1, ⟨Lc1, hQ1, l1, y1, z1⟩, st1⟩ := X0.specialBack hx (y := (⟨"java/lang/Record", "<init>", "()V"⟩ : MethodName)) rfl hown (mvT hZ (hw _ (List.mem_of_getElem? (i := 7) rfl))) (mvT hZ (hw _ (List.mem_of_getElem? (i := 8) rfl))) (mvT hZ (hw _ (List.mem_of_getElem? (i := 11) rfl))) (by decide) (backOf (W := 0) (rmR l Z a0 hw [] a1 h0 n0 Z0) hZ (hw _ (List.mem_of_getElem? (i := 11) rfl)) (hw _ (List.mem_of_getElem? (i := 10) rfl)) (by decide) (by decide)) (g := (mkF m 1 #[.val (.ref a1), .val (.int p2), .val (.int p3), .val (.int p4)] [(.ref a1)])) rfl (by rw [hml]; rfl) (Steps.refl _) (a := a1) (argsL := []) (rest := []) (lenOf pd_d1___V rfl) rfl (by show 2 * 0 + _ ≤ _; exact Nat.le_of_eq rfl) (hb hby d1_1) (fun _ _ => ⟨rfl, e0, (by decide : 0 + 0 ≤ _), (by decide : 0 + 0 ≤ _)⟩)
  dsimp only [Pt.U, Pt.locs, Pt.cells, Pt.slots] at X1 l1 y1 z1 st1 hQ1
  subst l1 y1 z1
  obtain ⟨rfl, N1q, e1⟩ := hQ1
  have N1 := Fr.app N0 N1q
  obtain ⟨T2, h2, X2, e2, W2, st2⟩ := putF X1 hx hZ hown (host := "") (Or.inl (hw _ (List.mem_of_getElem? (i := 15) rfl))) Via.refl e1 F_sqlType E (Or.inr ⟨(hw _ (List.mem_of_getElem? (i := 16) rfl)), rfl, hnm⟩) (hw _ (List.mem_of_getElem? (i := 2) rfl)) (ty := .int) (by decide) rfl rfl (g := (mkF m 6 #[.val (.ref a1), .val (.int p2), .val (.int p3), .val (.int p4)] [(.int p2), (.ref a1)])) rfl rfl (hb hby d1_6)
  have F_sqlType_2 := F_sqlType.same W2
  have F_precision_2 := F_precision.other W2 (Or.inr (slot_ne (Or.inr (hw _ (List.mem_of_getElem? (i := 18) rfl))) (Or.inr (hw _ (List.mem_of_getElem? (i := 16) rfl))) (by decide) (t := .int) (t' := .int) (by decide) (by decide)))
  have F_scale_2 := F_scale.other W2 (Or.inr (slot_ne (Or.inr (hw _ (List.mem_of_getElem? (i := 20) rfl))) (Or.inr (hw _ (List.mem_of_getElem? (i := 16) rfl))) (by decide) (t := .int) (t' := .int) (by decide) (by decide)))
  have E_2 := E.wr W2
  have K_2 : Keep h0 h2 [a1] := (Keep.refl h0 [a1]).wr W2 (Or.inl (List.mem_of_getElem? (i := 0) rfl))
  have M_2 := Fr.snoc X2 N1 ga
  obtain ⟨T3, h3, X3, e3, W3, st3⟩ := putF X2 hx hZ hown (host := "") (Or.inl (hw _ (List.mem_of_getElem? (i := 17) rfl))) Via.refl e2 F_precision_2 E_2 (Or.inr ⟨(hw _ (List.mem_of_getElem? (i := 18) rfl)), rfl, hnm⟩) (hw _ (List.mem_of_getElem? (i := 2) rfl)) (ty := .int) (by decide) rfl rfl (g := (mkF m 11 #[.val (.ref a1), .val (.int p2), .val (.int p3), .val (.int p4)] [(.int p3), (.ref a1)])) rfl rfl (hb hby d1_11)
  have F_sqlType_3 := F_sqlType_2.other W3 (Or.inr (slot_ne (Or.inr (hw _ (List.mem_of_getElem? (i := 16) rfl))) (Or.inr (hw _ (List.mem_of_getElem? (i := 18) rfl))) (by decide) (t := .int) (t' := .int) (by decide) (by decide)))
  have F_precision_3 := F_precision_2.same W3
  have F_scale_3 := F_scale_2.other W3 (Or.inr (slot_ne (Or.inr (hw _ (List.mem_of_getElem? (i := 20) rfl))) (Or.inr (hw _ (List.mem_of_getElem? (i := 18) rfl))) (by decide) (t := .int) (t' := .int) (by decide) (by decide)))
  have E_3 := E_2.wr W3
  have K_3 : Keep h0 h3 [a1] := K_2.wr W3 (Or.inl (List.mem_of_getElem? (i := 0) rfl))
  have M_3 := Fr.snoc X3 M_2 ga
  obtain ⟨T4, h4, X4, e4, W4, st4⟩ := putF X3 hx hZ hown (host := "") (Or.inl (hw _ (List.mem_of_getElem? (i := 19) rfl))) Via.refl e3 F_scale_3 E_3 (Or.inr ⟨(hw _ (List.mem_of_getElem? (i := 20) rfl)), rfl, hnm⟩) (hw _ (List.mem_of_getElem? (i := 2) rfl)) (ty := .int) (by decide) rfl rfl (g := (mkF m 16 #[.val (.ref a1), .val (.int p2), .val (.int p3), .val (.int p4)] [(.int p4), (.ref a1)])) rfl rfl (hb hby d1_16)
  have F_sqlType_4 := F_sqlType_3.other W4 (Or.inr (slot_ne (Or.inr (hw _ (List.mem_of_getElem? (i := 16) rfl))) (Or.inr (hw _ (List.mem_of_getElem? (i := 20) rfl))) (by decide) (t := .int) (t' := .int) (by decide) (by decide)))
  have F_scale_4 := F_scale_3.same W4
  have E_4 := E_3.wr W4
  have K_4 : Keep h0 h4 [a1] := K_3.wr W4 (Or.inl (List.mem_of_getElem? (i := 0) rfl))
  have M_4 := Fr.snoc X4 M_3 ga
  obtain ⟨fs, hr, hrun, hended, hW, hsame⟩ := X4.leave (v := none) (fun _ => rfl)
  refine ⟨_, _, pre0 _ ?_, hrun, hended, _, _, rfl, ?_, ⟨_, rfl⟩, hW, hsame.mono (by decide) (by decide)⟩
  · show Steps p.tables e below (s₁.setTop (mkF m 0 #[.val (.ref a1), .val (.int p2), .val (.int p3), .val (.int p4)] [])) _
    refine XS.aloadN X0.here hx rfl (hb hby d1_0) rfl rfl ?_
    show Steps p.tables e below (s₁.setTop (mkF m 1 #[.val (.ref a1), .val (.int p2), .val (.int p3), .val (.int p4)] [(.ref a1)])) _
    refine st1.trans ?_
    show Steps p.tables e below (T1.setTop (mkF m 4 #[.val (.ref a1), .val (.int p2), .val (.int p3), .val (.int p4)] [])) _
    refine XS.aloadN X1.here hx rfl (hb hby d1_4) rfl rfl ?_
    show Steps p.tables e below (T1.setTop (mkF m 5 #[.val (.ref a1), .val (.int p2), .val (.int p3), .val (.int p4)] [(.ref a1)])) _
    refine XS.iloadN X1.here hx rfl (hb hby d1_5) rfl ?_
    show Steps p.tables e below (T1.setTop (mkF m 6 #[.val (.ref a1), .val (.int p2), .val (.int p3), .val (.int p4)] [(.int p2), (.ref a1)])) _
    refine st2 _ ?_
    show Steps p.tables e below (T2.setTop (mkF m 9 #[.val (.ref a1), .val (.int p2), .val (.int p3), .val (.int p4)] [])) _
    refine XS.aloadN X2.here hx rfl (hb hby d1_9) rfl rfl ?_
    show Steps p.tables e below (T2.setTop (mkF m 10 #[.val (.ref a1), .val (.int p2), .val (.int p3), .val (.int p4)] [(.ref a1)])) _
    refine XS.iloadN X2.here hx rfl (hb hby d1_10) rfl ?_
    show Steps p.tables e below (T2.setTop (mkF m 11 #[.val (.ref a1), .val (.int p2), .val (.int p3), .val (.int p4)] [(.int p3), (.ref a1)])) _
    refine st3 _ ?_
    show Steps p.tables e below (T3.setTop (mkF m 14 #[.val (.ref a1), .val (.int p2), .val (.int p3), .val (.int p4)] [])) _
    refine XS.aloadN X3.here hx rfl (hb hby d1_14) rfl rfl ?_
    show Steps p.tables e below (T3.setTop (mkF m 15 #[.val (.ref a1), .val (.int p2), .val (.int p3), .val (.int p4)] [(.ref a1)])) _
    refine XS.iloadN X3.here hx rfl (hb hby d1_15) rfl ?_
    show Steps p.tables e below (T3.setTop (mkF m 16 #[.val (.ref a1), .val (.int p2), .val (.int p3), .val (.int p4)] [(.int p4), (.ref a1)])) _
    refine st4 _ ?_
    show Steps p.tables e below (T4.setTop (mkF m 19 #[.val (.ref a1), .val (.int p2), .val (.int p3), .val (.int p4)] [])) _
    exact X4.returnOut hx Bd.returns (hb hby d1_19) hr
  · show Q_rm1 Z a1 p2 p3 p4 h0 n0 _ T4.heap _
    rw [e4]
    exact ⟨rfl, M_4, K_4, E_4, F_sqlType_4, F_scale_4⟩

theorem d8_0 : decode prog_5_method_8_code 0 = .ok (.iload_n 0, 1) := by decide +kernel
theorem d8_1 : decode prog_5_method_8_code 1 = .ok (.lookupswitch 47 #[(-6, 43), (-5, 43), (4, 43), (5, 43)], 43) := by decide +kernel
theorem d8_44 : decode prog_5_method_8_code 44 = .ok (.iconst 1, 1) := by decide +kernel
theorem d8_45 : decode prog_5_method_8_code 45 = .ok (.goto 4, 3) := by decide +kernel
theorem d8_48 : decode prog_5_method_8_code 48 = .ok (.iconst 0, 1) := by decide +kernel
theorem d8_49 : decode prog_5_method_8_code 49 = .ok (.ireturn, 1) := by decide +kernel
theorem ef_d8_ (m : MethodId) (t : Int32) : entryFrame m #[(.int t)] 1 = mkF m 0 #[.val (.int t)] [] := by first | (simp [entryFrame, mkF, argsToLocals, Value.category]; done) | rfl
def Q_rm8 (Z : State) (t : Int32)  (h0 : Heap) (n0 : Nat) (v : Option Value) (h : Heap) (L : List Loc) : Prop := v = some (.int (own_whole t)) ∧ Fr n0 L ∧ h = h0
theorem pn_rm8 : plainName "aestiva/ColumnType" = true := by first | (simp [plainName, overriddenIn]; done) | decide +kernel
set_option maxRecDepth 65536 in
set_option maxHeartbeats 40000000 in
theorem rm8 (l : Launch) (Z : State) (a0 : Array Value) (hw : ∀ d ∈ tables_1, d.before a0 Z = true) (ws : List Jvm.Cond) (t : Int32)  (h0 : Heap) (n0 : Nat) (Z0 : n0 ≤ h0.size)  :
    MetFree l (⟨"aestiva/ColumnType", "whole", "(I)Z"⟩ : MethodName) (head1 (Jvm.Cond.code (⟨"aestiva/ColumnType", "whole", "(I)Z"⟩ : MethodName) prog_5_method_8_code 1 (some .boolean) :: ws) ({ frames := 0, cells := 0, slots := 0, locals := 0 } : Room)) (fun a U => a = #[(.int t)] ∧ Z.Warmed39 U.vm ∧ U.heap = h0) (fun _ _ _ _ _ => True) (fun _ U o U' => ∃ v L, o = .returned v ∧ Q_rm8 Z t  h0 n0 v U'.heap L ∧ FrameEnd U o U' L ({ frames := 0, cells := 0, slots := 0, locals := 0 } : Room).cells ({ frames := 0, cells := 0, slots := 0, locals := 0 } : Room).slots) := by
  refine MetFree.of_bodySF (plainFor_of_name pn_rm8) hisR ?_
  intro p e s m args below meth c s₁ Bd hml0 hP hK
  obtain ⟨rfl, hZ, hh⟩ := hP
  have hx := Bd.exec
  have hby := Bd.bytes
  have hml : c.maxLocals = 1 := hml0
  have hown : s.vm.findClass "aestiva/ColumnType" = some m.cls := findClass_of_methodNamed Bd.named
  have hnm := (name_of_methodNamed Bd.named Bd.method).1
  have X0 : Stand p l e ({ frames := 0, cells := 0, slots := 0, locals := 0 } : Room) s m #[(.int t)] below meth c s₁ [] 0 0 := Stand.of_body Bd
  have e0 : s₁.heap = h0 := by rw [← hh, Bd.state]; rfl
  have N0 := Fr.nil n0
  have pre0 : ∀ tZ, Steps p.tables e below (s₁.setTop (mkF m 0 #[.val (.int t)] [])) tZ → Steps p.tables e below (s₁.setTop (entryFrame m #[(.int t)] 1)) tZ := fun tZ kZ => castTop (ef_d8_ m t) kZ
  obtain ⟨fs, hr, hrun, hended, hW, hsame⟩ := X0.leave (v := some (.int (nar .boolean (own_whole t)))) (fun h => by rw [Bd.returns] at h; cases h)
  refine ⟨_, _, pre0 _ ?_, hrun, hended, _, _, rfl, ?_, ⟨_, rfl⟩, hW, hsame.mono (by decide) (by decide)⟩
  · show Steps p.tables e below (s₁.setTop (mkF m 0 #[.val (.int t)] [])) _
    refine XS.iloadN X0.here hx rfl (hb hby d8_0) rfl ?_
    show Steps p.tables e below (s₁.setTop (mkF m 1 #[.val (.int t)] [(.int t)])) _
    have sg1 : ∀ target, Steps p.tables e below (s₁.setTop (mkF m 49 #[.val (.int t)] [(.int (own_whole t))])) target → Steps p.tables e below (s₁.setTop (mkF m 1 #[.val (.int t)] [(.int t)])) target := by
      intro target kt
      unfold own_whole at kt
      by_cases hh : t.toInt = -6 ∨ t.toInt = -5 ∨ t.toInt = 4 ∨ t.toInt = 5
      · rw [if_pos hh] at kt
        refine X0.lookupswitchHit hx (g := mkF m 1 #[.val (.int t)] [(.int t)]) (k := t) (rest := []) rfl rfl (hb hby d8_1) (by decide) (a := t.toInt) (off := 43) (by rcases hh with h | h | h | h <;> simp [h]) (by show (0 : Int) ≤ 1 + 43; decide) _ ?_
        show Steps p.tables e below (s₁.setTop (mkF m 44 #[.val (.int t)] [])) _
        refine XS.iconst X0.here hx rfl (hb hby d8_44) ?_
        show Steps p.tables e below (s₁.setTop (mkF m 45 #[.val (.int t)] [(.int (1 : Int32))])) _
        refine XS.goto X0.here hx rfl (pc0 := 45) (pc' := 49) rfl (hb hby d8_45) (by decide) (by decide) ?_
        show Steps p.tables e below (s₁.setTop (mkF m 49 #[.val (.int t)] [(.int (1 : Int32))])) _
        exact kt
      · rw [if_neg hh] at kt
        refine X0.lookupswitchMiss hx (g := mkF m 1 #[.val (.int t)] [(.int t)]) (k := t) (rest := []) rfl rfl (hb hby d8_1) (by decide) (find_miss (by intro q hq; simp only [List.mem_cons, List.not_mem_nil, or_false] at hq; rcases hq with rfl | rfl | rfl | rfl <;> (show _ ≠ t.toInt; simp only; omega))) (by show (0 : Int) ≤ 1 + 47; decide) _ ?_
        show Steps p.tables e below (s₁.setTop (mkF m 48 #[.val (.int t)] [])) _
        refine XS.iconst X0.here hx rfl (hb hby d8_48) ?_
        show Steps p.tables e below (s₁.setTop (mkF m 49 #[.val (.int t)] [(.int (0 : Int32))])) _
        exact kt
    refine sg1 _ ?_
    show Steps p.tables e below (s₁.setTop (mkF m 49 #[.val (.int t)] [(.int (own_whole t))])) _
    exact retN X0 hx (t := .boolean) Bd.returns (by simp) (hb hby d8_49) hr
  · show Q_rm8 Z t h0 n0 _ s₁.heap _
    rw [e0]
    exact ⟨by rw [own_nar (own_w01 t)], N0, rfl⟩

theorem d9_0 : decode prog_5_method_9_code 0 = .ok (.iload_n 0, 1) := by decide +kernel
theorem d9_1 : decode prog_5_method_9_code 1 = .ok (.iconst 2, 1) := by decide +kernel
theorem d9_2 : decode prog_5_method_9_code 2 = .ok (.if_icmp .eq 8, 3) := by decide +kernel
theorem d9_5 : decode prog_5_method_9_code 5 = .ok (.iload_n 0, 1) := by decide +kernel
theorem d9_6 : decode prog_5_method_9_code 6 = .ok (.iconst 3, 1) := by decide +kernel
theorem d9_7 : decode prog_5_method_9_code 7 = .ok (.if_icmp .ne 7, 3) := by decide +kernel
theorem d9_10 : decode prog_5_method_9_code 10 = .ok (.iconst 1, 1) := by decide +kernel
theorem d9_11 : decode prog_5_method_9_code 11 = .ok (.goto 4, 3) := by decide +kernel
theorem d9_14 : decode prog_5_method_9_code 14 = .ok (.iconst 0, 1) := by decide +kernel
theorem d9_15 : decode prog_5_method_9_code 15 = .ok (.ireturn, 1) := by decide +kernel
theorem ef_d9_ (m : MethodId) (t : Int32) : entryFrame m #[(.int t)] 1 = mkF m 0 #[.val (.int t)] [] := by first | (simp [entryFrame, mkF, argsToLocals, Value.category]; done) | rfl
def Q_rm9 (Z : State) (t : Int32)  (h0 : Heap) (n0 : Nat) (v : Option Value) (h : Heap) (L : List Loc) : Prop := v = some (.int (own_exact t)) ∧ Fr n0 L ∧ h = h0
theorem pn_rm9 : plainName "aestiva/ColumnType" = true := by first | (simp [plainName, overriddenIn]; done) | decide +kernel
set_option maxRecDepth 65536 in
set_option maxHeartbeats 40000000 in
theorem rm9 (l : Launch) (Z : State) (a0 : Array Value) (hw : ∀ d ∈ tables_1, d.before a0 Z = true) (ws : List Jvm.Cond) (t : Int32)  (h0 : Heap) (n0 : Nat) (Z0 : n0 ≤ h0.size)  :
    MetFree l (⟨"aestiva/ColumnType", "exact", "(I)Z"⟩ : MethodName) (head1 (Jvm.Cond.code (⟨"aestiva/ColumnType", "exact", "(I)Z"⟩ : MethodName) prog_5_method_9_code 1 (some .boolean) :: ws) ({ frames := 0, cells := 0, slots := 0, locals := 0 } : Room)) (fun a U => a = #[(.int t)] ∧ Z.Warmed39 U.vm ∧ U.heap = h0) (fun _ _ _ _ _ => True) (fun _ U o U' => ∃ v L, o = .returned v ∧ Q_rm9 Z t  h0 n0 v U'.heap L ∧ FrameEnd U o U' L ({ frames := 0, cells := 0, slots := 0, locals := 0 } : Room).cells ({ frames := 0, cells := 0, slots := 0, locals := 0 } : Room).slots) := by
  refine MetFree.of_bodySF (plainFor_of_name pn_rm9) hisR ?_
  intro p e s m args below meth c s₁ Bd hml0 hP hK
  obtain ⟨rfl, hZ, hh⟩ := hP
  have hx := Bd.exec
  have hby := Bd.bytes
  have hml : c.maxLocals = 1 := hml0
  have hown : s.vm.findClass "aestiva/ColumnType" = some m.cls := findClass_of_methodNamed Bd.named
  have hnm := (name_of_methodNamed Bd.named Bd.method).1
  have X0 : Stand p l e ({ frames := 0, cells := 0, slots := 0, locals := 0 } : Room) s m #[(.int t)] below meth c s₁ [] 0 0 := Stand.of_body Bd
  have e0 : s₁.heap = h0 := by rw [← hh, Bd.state]; rfl
  have N0 := Fr.nil n0
  have pre0 : ∀ tZ, Steps p.tables e below (s₁.setTop (mkF m 0 #[.val (.int t)] [])) tZ → Steps p.tables e below (s₁.setTop (entryFrame m #[(.int t)] 1)) tZ := fun tZ kZ => castTop (ef_d9_ m t) kZ
  obtain ⟨fs, hr, hrun, hended, hW, hsame⟩ := X0.leave (v := some (.int (nar .boolean (if t = (2 : Int32) then (1 : Int32) else (if t = (3 : Int32) then (1 : Int32) else (0 : Int32)))))) (fun h => by rw [Bd.returns] at h; cases h)
  refine ⟨_, _, pre0 _ ?_, hrun, hended, _, _, rfl, ?_, ⟨_, rfl⟩, hW, hsame.mono (by decide) (by decide)⟩
  · show Steps p.tables e below (s₁.setTop (mkF m 0 #[.val (.int t)] [])) _
    refine XS.iloadN X0.here hx rfl (hb hby d9_0) rfl ?_
    show Steps p.tables e below (s₁.setTop (mkF m 1 #[.val (.int t)] [(.int t)])) _
    refine XS.iconst X0.here hx rfl (hb hby d9_1) ?_
    show Steps p.tables e below (s₁.setTop (mkF m 2 #[.val (.int t)] [(.int (2 : Int32)), (.int t)])) _
    have sg2 : ∀ target, Steps p.tables e below (s₁.setTop (mkF m 15 #[.val (.int t)] [(.int (if t = (2 : Int32) then (1 : Int32) else (if t = (3 : Int32) then (1 : Int32) else (0 : Int32))))])) target → Steps p.tables e below (s₁.setTop (mkF m 2 #[.val (.int t)] [(.int (2 : Int32)), (.int t)])) target := by
      intro target kt
      rcases Classical.em (t = (2 : Int32)) with hr2_0 | hr2_0
      · (try simp only [if_pos hr2_0] at kt)
        refine XS.icmpYes X0.here hx rfl (pc0 := 2) (pc' := 10) rfl (hb hby d9_2) rfl (teq hr2_0).1 (by decide) (by decide) ?_
        show Steps p.tables e below (s₁.setTop (mkF m 10 #[.val (.int t)] [])) _
        refine XS.iconst X0.here hx rfl (hb hby d9_10) ?_
        show Steps p.tables e below (s₁.setTop (mkF m 11 #[.val (.int t)] [(.int (1 : Int32))])) _
        refine XS.goto X0.here hx rfl (pc0 := 11) (pc' := 15) rfl (hb hby d9_11) (by decide) (by decide) ?_
        show Steps p.tables e below (s₁.setTop (mkF m 15 #[.val (.int t)] [(.int (1 : Int32))])) _
        exact kt
      · (try simp only [if_neg hr2_0] at kt)
        refine XS.icmpNo X0.here hx rfl (hb hby d9_2) rfl (feq hr2_0).1 ?_
        show Steps p.tables e below (s₁.setTop (mkF m 5 #[.val (.int t)] [])) _
        refine XS.iloadN X0.here hx rfl (hb hby d9_5) rfl ?_
        show Steps p.tables e below (s₁.setTop (mkF m 6 #[.val (.int t)] [(.int t)])) _
        refine XS.iconst X0.here hx rfl (hb hby d9_6) ?_
        show Steps p.tables e below (s₁.setTop (mkF m 7 #[.val (.int t)] [(.int (3 : Int32)), (.int t)])) _
        rcases Classical.em (t = (3 : Int32)) with hr7_1 | hr7_1
        · (try simp only [if_pos hr7_1] at kt)
          refine XS.icmpNo X0.here hx rfl (hb hby d9_7) rfl (teq hr7_1).2 ?_
          show Steps p.tables e below (s₁.setTop (mkF m 10 #[.val (.int t)] [])) _
          refine XS.iconst X0.here hx rfl (hb hby d9_10) ?_
          show Steps p.tables e below (s₁.setTop (mkF m 11 #[.val (.int t)] [(.int (1 : Int32))])) _
          refine XS.goto X0.here hx rfl (pc0 := 11) (pc' := 15) rfl (hb hby d9_11) (by decide) (by decide) ?_
          show Steps p.tables e below (s₁.setTop (mkF m 15 #[.val (.int t)] [(.int (1 : Int32))])) _
          exact kt
        · (try simp only [if_neg hr7_1] at kt)
          refine XS.icmpYes X0.here hx rfl (pc0 := 7) (pc' := 14) rfl (hb hby d9_7) rfl (feq hr7_1).2 (by decide) (by decide) ?_
          show Steps p.tables e below (s₁.setTop (mkF m 14 #[.val (.int t)] [])) _
          refine XS.iconst X0.here hx rfl (hb hby d9_14) ?_
          show Steps p.tables e below (s₁.setTop (mkF m 15 #[.val (.int t)] [(.int (0 : Int32))])) _
          exact kt
    refine sg2 _ ?_
    show Steps p.tables e below (s₁.setTop (mkF m 15 #[.val (.int t)] [(.int (if t = (2 : Int32) then (1 : Int32) else (if t = (3 : Int32) then (1 : Int32) else (0 : Int32))))])) _
    exact retN X0 hx (t := .boolean) Bd.returns (by simp) (hb hby d9_15) hr
  · show Q_rm9 Z t h0 n0 _ s₁.heap _
    rw [e0]
    exact ⟨by rw [own_nar (show (if t = (2 : Int32) then (1 : Int32) else (if t = (3 : Int32) then (1 : Int32) else (0 : Int32))) = 0 ∨ (if t = (2 : Int32) then (1 : Int32) else (if t = (3 : Int32) then (1 : Int32) else (0 : Int32))) = 1 from own_e01 t)]; rfl, N0, rfl⟩

theorem d10_0 : decode prog_5_method_10_code 0 = .ok (.iload_n 0, 1) := by decide +kernel
theorem d10_1 : decode prog_5_method_10_code 1 = .ok (.bipush 7, 2) := by decide +kernel
theorem d10_3 : decode prog_5_method_10_code 3 = .ok (.if_icmp .eq 15, 3) := by decide +kernel
theorem d10_6 : decode prog_5_method_10_code 6 = .ok (.iload_n 0, 1) := by decide +kernel
theorem d10_7 : decode prog_5_method_10_code 7 = .ok (.bipush 6, 2) := by decide +kernel
theorem d10_9 : decode prog_5_method_10_code 9 = .ok (.if_icmp .eq 9, 3) := by decide +kernel
theorem d10_12 : decode prog_5_method_10_code 12 = .ok (.iload_n 0, 1) := by decide +kernel
theorem d10_13 : decode prog_5_method_10_code 13 = .ok (.bipush 8, 2) := by decide +kernel
theorem d10_15 : decode prog_5_method_10_code 15 = .ok (.if_icmp .ne 7, 3) := by decide +kernel
theorem d10_18 : decode prog_5_method_10_code 18 = .ok (.iconst 1, 1) := by decide +kernel
theorem d10_19 : decode prog_5_method_10_code 19 = .ok (.goto 4, 3) := by decide +kernel
theorem d10_22 : decode prog_5_method_10_code 22 = .ok (.iconst 0, 1) := by decide +kernel
theorem d10_23 : decode prog_5_method_10_code 23 = .ok (.ireturn, 1) := by decide +kernel
theorem ef_d10_ (m : MethodId) (t : Int32) : entryFrame m #[(.int t)] 1 = mkF m 0 #[.val (.int t)] [] := by first | (simp [entryFrame, mkF, argsToLocals, Value.category]; done) | rfl
def Q_rm10 (Z : State) (t : Int32)  (h0 : Heap) (n0 : Nat) (v : Option Value) (h : Heap) (L : List Loc) : Prop := v = some (.int (own_appr t)) ∧ Fr n0 L ∧ h = h0
theorem pn_rm10 : plainName "aestiva/ColumnType" = true := by first | (simp [plainName, overriddenIn]; done) | decide +kernel
set_option maxRecDepth 65536 in
set_option maxHeartbeats 40000000 in
theorem rm10 (l : Launch) (Z : State) (a0 : Array Value) (hw : ∀ d ∈ tables_1, d.before a0 Z = true) (ws : List Jvm.Cond) (t : Int32)  (h0 : Heap) (n0 : Nat) (Z0 : n0 ≤ h0.size)  :
    MetFree l (⟨"aestiva/ColumnType", "approximate", "(I)Z"⟩ : MethodName) (head1 (Jvm.Cond.code (⟨"aestiva/ColumnType", "approximate", "(I)Z"⟩ : MethodName) prog_5_method_10_code 1 (some .boolean) :: ws) ({ frames := 0, cells := 0, slots := 0, locals := 0 } : Room)) (fun a U => a = #[(.int t)] ∧ Z.Warmed39 U.vm ∧ U.heap = h0) (fun _ _ _ _ _ => True) (fun _ U o U' => ∃ v L, o = .returned v ∧ Q_rm10 Z t  h0 n0 v U'.heap L ∧ FrameEnd U o U' L ({ frames := 0, cells := 0, slots := 0, locals := 0 } : Room).cells ({ frames := 0, cells := 0, slots := 0, locals := 0 } : Room).slots) := by
  refine MetFree.of_bodySF (plainFor_of_name pn_rm10) hisR ?_
  intro p e s m args below meth c s₁ Bd hml0 hP hK
  obtain ⟨rfl, hZ, hh⟩ := hP
  have hx := Bd.exec
  have hby := Bd.bytes
  have hml : c.maxLocals = 1 := hml0
  have hown : s.vm.findClass "aestiva/ColumnType" = some m.cls := findClass_of_methodNamed Bd.named
  have hnm := (name_of_methodNamed Bd.named Bd.method).1
  have X0 : Stand p l e ({ frames := 0, cells := 0, slots := 0, locals := 0 } : Room) s m #[(.int t)] below meth c s₁ [] 0 0 := Stand.of_body Bd
  have e0 : s₁.heap = h0 := by rw [← hh, Bd.state]; rfl
  have N0 := Fr.nil n0
  have pre0 : ∀ tZ, Steps p.tables e below (s₁.setTop (mkF m 0 #[.val (.int t)] [])) tZ → Steps p.tables e below (s₁.setTop (entryFrame m #[(.int t)] 1)) tZ := fun tZ kZ => castTop (ef_d10_ m t) kZ
  obtain ⟨fs, hr, hrun, hended, hW, hsame⟩ := X0.leave (v := some (.int (nar .boolean (if t = (7 : Int32) then (1 : Int32) else (if t = (6 : Int32) then (1 : Int32) else (if t = (8 : Int32) then (1 : Int32) else (0 : Int32))))))) (fun h => by rw [Bd.returns] at h; cases h)
  refine ⟨_, _, pre0 _ ?_, hrun, hended, _, _, rfl, ?_, ⟨_, rfl⟩, hW, hsame.mono (by decide) (by decide)⟩
  · show Steps p.tables e below (s₁.setTop (mkF m 0 #[.val (.int t)] [])) _
    refine XS.iloadN X0.here hx rfl (hb hby d10_0) rfl ?_
    show Steps p.tables e below (s₁.setTop (mkF m 1 #[.val (.int t)] [(.int t)])) _
    refine XS.bipush X0.here hx rfl (hb hby d10_1) ?_
    show Steps p.tables e below (s₁.setTop (mkF m 3 #[.val (.int t)] [(.int (7 : Int32)), (.int t)])) _
    have sg3 : ∀ target, Steps p.tables e below (s₁.setTop (mkF m 23 #[.val (.int t)] [(.int (if t = (7 : Int32) then (1 : Int32) else (if t = (6 : Int32) then (1 : Int32) else (if t = (8 : Int32) then (1 : Int32) else (0 : Int32)))))])) target → Steps p.tables e below (s₁.setTop (mkF m 3 #[.val (.int t)] [(.int (7 : Int32)), (.int t)])) target := by
      intro target kt
      rcases Classical.em (t = (7 : Int32)) with hr3_0 | hr3_0
      · (try simp only [if_pos hr3_0] at kt)
        refine XS.icmpYes X0.here hx rfl (pc0 := 3) (pc' := 18) rfl (hb hby d10_3) rfl (teq hr3_0).1 (by decide) (by decide) ?_
        show Steps p.tables e below (s₁.setTop (mkF m 18 #[.val (.int t)] [])) _
        refine XS.iconst X0.here hx rfl (hb hby d10_18) ?_
        show Steps p.tables e below (s₁.setTop (mkF m 19 #[.val (.int t)] [(.int (1 : Int32))])) _
        refine XS.goto X0.here hx rfl (pc0 := 19) (pc' := 23) rfl (hb hby d10_19) (by decide) (by decide) ?_
        show Steps p.tables e below (s₁.setTop (mkF m 23 #[.val (.int t)] [(.int (1 : Int32))])) _
        exact kt
      · (try simp only [if_neg hr3_0] at kt)
        refine XS.icmpNo X0.here hx rfl (hb hby d10_3) rfl (feq hr3_0).1 ?_
        show Steps p.tables e below (s₁.setTop (mkF m 6 #[.val (.int t)] [])) _
        refine XS.iloadN X0.here hx rfl (hb hby d10_6) rfl ?_
        show Steps p.tables e below (s₁.setTop (mkF m 7 #[.val (.int t)] [(.int t)])) _
        refine XS.bipush X0.here hx rfl (hb hby d10_7) ?_
        show Steps p.tables e below (s₁.setTop (mkF m 9 #[.val (.int t)] [(.int (6 : Int32)), (.int t)])) _
        rcases Classical.em (t = (6 : Int32)) with hr9_1 | hr9_1
        · (try simp only [if_pos hr9_1] at kt)
          refine XS.icmpYes X0.here hx rfl (pc0 := 9) (pc' := 18) rfl (hb hby d10_9) rfl (teq hr9_1).1 (by decide) (by decide) ?_
          show Steps p.tables e below (s₁.setTop (mkF m 18 #[.val (.int t)] [])) _
          refine XS.iconst X0.here hx rfl (hb hby d10_18) ?_
          show Steps p.tables e below (s₁.setTop (mkF m 19 #[.val (.int t)] [(.int (1 : Int32))])) _
          refine XS.goto X0.here hx rfl (pc0 := 19) (pc' := 23) rfl (hb hby d10_19) (by decide) (by decide) ?_
          show Steps p.tables e below (s₁.setTop (mkF m 23 #[.val (.int t)] [(.int (1 : Int32))])) _
          exact kt
        · (try simp only [if_neg hr9_1] at kt)
          refine XS.icmpNo X0.here hx rfl (hb hby d10_9) rfl (feq hr9_1).1 ?_
          show Steps p.tables e below (s₁.setTop (mkF m 12 #[.val (.int t)] [])) _
          refine XS.iloadN X0.here hx rfl (hb hby d10_12) rfl ?_
          show Steps p.tables e below (s₁.setTop (mkF m 13 #[.val (.int t)] [(.int t)])) _
          refine XS.bipush X0.here hx rfl (hb hby d10_13) ?_
          show Steps p.tables e below (s₁.setTop (mkF m 15 #[.val (.int t)] [(.int (8 : Int32)), (.int t)])) _
          rcases Classical.em (t = (8 : Int32)) with hr15_2 | hr15_2
          · (try simp only [if_pos hr15_2] at kt)
            refine XS.icmpNo X0.here hx rfl (hb hby d10_15) rfl (teq hr15_2).2 ?_
            show Steps p.tables e below (s₁.setTop (mkF m 18 #[.val (.int t)] [])) _
            refine XS.iconst X0.here hx rfl (hb hby d10_18) ?_
            show Steps p.tables e below (s₁.setTop (mkF m 19 #[.val (.int t)] [(.int (1 : Int32))])) _
            refine XS.goto X0.here hx rfl (pc0 := 19) (pc' := 23) rfl (hb hby d10_19) (by decide) (by decide) ?_
            show Steps p.tables e below (s₁.setTop (mkF m 23 #[.val (.int t)] [(.int (1 : Int32))])) _
            exact kt
          · (try simp only [if_neg hr15_2] at kt)
            refine XS.icmpYes X0.here hx rfl (pc0 := 15) (pc' := 22) rfl (hb hby d10_15) rfl (feq hr15_2).2 (by decide) (by decide) ?_
            show Steps p.tables e below (s₁.setTop (mkF m 22 #[.val (.int t)] [])) _
            refine XS.iconst X0.here hx rfl (hb hby d10_22) ?_
            show Steps p.tables e below (s₁.setTop (mkF m 23 #[.val (.int t)] [(.int (0 : Int32))])) _
            exact kt
    refine sg3 _ ?_
    show Steps p.tables e below (s₁.setTop (mkF m 23 #[.val (.int t)] [(.int (if t = (7 : Int32) then (1 : Int32) else (if t = (6 : Int32) then (1 : Int32) else (if t = (8 : Int32) then (1 : Int32) else (0 : Int32)))))])) _
    exact retN X0 hx (t := .boolean) Bd.returns (by simp) (hb hby d10_23) hr
  · show Q_rm10 Z t h0 n0 _ s₁.heap _
    rw [e0]
    exact ⟨by rw [own_nar (show (if t = (7 : Int32) then (1 : Int32) else (if t = (6 : Int32) then (1 : Int32) else (if t = (8 : Int32) then (1 : Int32) else (0 : Int32)))) = 0 ∨ (if t = (7 : Int32) then (1 : Int32) else (if t = (6 : Int32) then (1 : Int32) else (if t = (8 : Int32) then (1 : Int32) else (0 : Int32)))) = 1 from own_a01 t)]; rfl, N0, rfl⟩

theorem d3_0 : decode prog_5_method_3_code 0 = .ok (.aload_n 0, 1) := by decide +kernel
theorem d3_1 : decode prog_5_method_3_code 1 = .ok (.getfield 9, 3) := by decide +kernel
theorem d3_4 : decode prog_5_method_3_code 4 = .ok (.invokestatic 52, 3) := by decide +kernel
theorem d3_7 : decode prog_5_method_3_code 7 = .ok (.ifCond .ne 32, 3) := by decide +kernel
theorem d3_10 : decode prog_5_method_3_code 10 = .ok (.aload_n 0, 1) := by decide +kernel
theorem d3_11 : decode prog_5_method_3_code 11 = .ok (.getfield 9, 3) := by decide +kernel
theorem d3_14 : decode prog_5_method_3_code 14 = .ok (.invokestatic 30, 3) := by decide +kernel
theorem d3_17 : decode prog_5_method_3_code 17 = .ok (.ifCond .ne 22, 3) := by decide +kernel
theorem d3_20 : decode prog_5_method_3_code 20 = .ok (.aload_n 0, 1) := by decide +kernel
theorem d3_21 : decode prog_5_method_3_code 21 = .ok (.getfield 9, 3) := by decide +kernel
theorem d3_24 : decode prog_5_method_3_code 24 = .ok (.invokestatic 39, 3) := by decide +kernel
theorem d3_27 : decode prog_5_method_3_code 27 = .ok (.ifCond .eq 16, 3) := by decide +kernel
theorem d3_30 : decode prog_5_method_3_code 30 = .ok (.aload_n 0, 1) := by decide +kernel
theorem d3_31 : decode prog_5_method_3_code 31 = .ok (.getfield 18, 3) := by decide +kernel
theorem d3_34 : decode prog_5_method_3_code 34 = .ok (.ldc 45, 2) := by decide +kernel
theorem d3_36 : decode prog_5_method_3_code 36 = .ok (.if_icmp .ne 7, 3) := by decide +kernel
theorem d3_39 : decode prog_5_method_3_code 39 = .ok (.iconst 1, 1) := by decide +kernel
theorem d3_40 : decode prog_5_method_3_code 40 = .ok (.goto 4, 3) := by decide +kernel
theorem d3_43 : decode prog_5_method_3_code 43 = .ok (.iconst 0, 1) := by decide +kernel
theorem d3_44 : decode prog_5_method_3_code 44 = .ok (.ireturn, 1) := by decide +kernel
theorem pd_d3__I_Z : parseMethodDescriptor "(I)Z" = some ⟨[.int], some .boolean⟩ := by decide +kernel
theorem ef_d3_ (m : MethodId) (a1 : Addr) : entryFrame m #[(.ref a1)] 1 = mkF m 0 #[.val (.ref a1)] [] := by first | (simp [entryFrame, mkF, argsToLocals, Value.category]; done) | rfl
def Q_rm3 (Z : State) (a1 : Addr) (t : Int32) (sc : Int32) (h0 : Heap) (n0 : Nat) (v : Option Value) (h : Heap) (L : List Loc) : Prop := v = some (.int (own_tells t sc)) ∧ Fr n0 L ∧ h = h0
theorem pn_rm3 : plainName "aestiva/ColumnType" = true := by first | (simp [plainName, overriddenIn]; done) | decide +kernel
set_option maxRecDepth 65536 in
set_option maxHeartbeats 40000000 in
theorem rm3 (l : Launch) (Z : State) (a0 : Array Value) (hw : ∀ d ∈ tables_1, d.before a0 Z = true) (ws : List Jvm.Cond) (a1 : Addr) (t : Int32) (sc : Int32) (h0 : Heap) (n0 : Nat) (Z0 : n0 ≤ h0.size) (F1 : Fld Z h0 a1 "aestiva/ColumnType" "sqlType" "I" (.int t)) (F2 : Fld Z h0 a1 "aestiva/ColumnType" "scale" "I" (.int sc)) :
    MetFree l (⟨"aestiva/ColumnType", "tellsRounding", "()Z"⟩ : MethodName) (head1 (Jvm.Cond.code (⟨"aestiva/ColumnType", "tellsRounding", "()Z"⟩ : MethodName) prog_5_method_3_code 1 (some .boolean) :: ws) ({ frames := 1, cells := 0, slots := 0, locals := 12 } : Room)) (fun a U => a = #[(.ref a1)] ∧ Z.Warmed39 U.vm ∧ U.heap = h0) (fun _ _ _ _ _ => True) (fun _ U o U' => ∃ v L, o = .returned v ∧ Q_rm3 Z a1 t  sc  h0 n0 v U'.heap L ∧ FrameEnd U o U' L ({ frames := 1, cells := 0, slots := 0, locals := 12 } : Room).cells ({ frames := 1, cells := 0, slots := 0, locals := 12 } : Room).slots) := by
  refine MetFree.of_bodySF (plainFor_of_name pn_rm3) hisR ?_
  intro p e s m args below meth c s₁ Bd hml0 hP hK
  obtain ⟨rfl, hZ, hh⟩ := hP
  have hx := Bd.exec
  have hby := Bd.bytes
  have hml : c.maxLocals = 1 := hml0
  have hown : s.vm.findClass "aestiva/ColumnType" = some m.cls := findClass_of_methodNamed Bd.named
  have hnm := (name_of_methodNamed Bd.named Bd.method).1
  have X0 : Stand p l e ({ frames := 1, cells := 0, slots := 0, locals := 12 } : Room) s m #[(.ref a1)] below meth c s₁ [] 0 0 := Stand.of_body Bd
  have e0 : s₁.heap = h0 := by rw [← hh, Bd.state]; rfl
  have N0 := Fr.nil n0
  have pre0 : ∀ tZ, Steps p.tables e below (s₁.setTop (mkF m 0 #[.val (.ref a1)] [])) tZ → Steps p.tables e below (s₁.setTop (entryFrame m #[(.ref a1)] 1)) tZ := fun tZ kZ => castTop (ef_d3_ m a1) kZ
  rcases Classical.em ((own_whole t) = (0 : Int32)) with c0 | c0
  · skip
    rcases Classical.em ((own_exact t) = (0 : Int32)) with c1 | c1
    · skip
      rcases Classical.em ((own_appr t) = (0 : Int32)) with c2 | c2
      · skip
        obtain ⟨T1, X1, e1, st1⟩ := getF X0 hx hZ hown (host := "") (Or.inl (hw _ (List.mem_of_getElem? (i := 15) rfl))) Via.refl e0 F1 (g := (mkF m 1 #[.val (.ref a1)] [(.ref a1)])) rfl rfl (hb hby d3_1)
        obtain ⟨_, _, ⟨T2, L2, k2, n2⟩, -, X2, ⟨Lc2, hQ2, l2, y2, z2⟩, st2⟩ := Jvm.LawKit.callS X1 hx (y := (⟨"aestiva/ColumnType", "whole", "(I)Z"⟩ : MethodName)) hown (mvT hZ (hw _ (List.mem_of_getElem? (i := 26) rfl))) (mvT hZ (hw _ (List.mem_of_getElem? (i := 27) rfl))) (mvT hZ (hw _ (List.mem_of_getElem? (i := 3) rfl))) (mvT hZ (hw _ (List.mem_of_getElem? (i := 28) rfl))) (by decide) (backOf (W := 0) (rm8 l Z a0 hw [] t h0 n0 Z0) hZ (hw _ (List.mem_of_getElem? (i := 28) rfl)) (hw _ (List.mem_of_getElem? (i := 3) rfl)) (by decide) (by decide)) (g := (mkF m 4 #[.val (.ref a1)] [(.int t)])) rfl (by rw [hml]; rfl) (argsL := [(.int t)]) (rest := []) (lenOf pd_d3__I_Z rfl) rfl (by show 2 * 0 + _ ≤ _; exact Nat.le_of_eq rfl) (hb hby d3_4) (fun _ _ => ⟨rfl, e1, (by decide : 0 + 0 ≤ _), (by decide : 0 + 0 ≤ _)⟩)
        dsimp only [Pt.U, Pt.locs, Pt.cells, Pt.slots] at X2 l2 y2 z2 st2 hQ2
        subst l2 y2 z2
        obtain ⟨rfl, N2q, e2⟩ := hQ2
        have N2 := Fr.app N0 N2q
        obtain ⟨T3, X3, e3, st3⟩ := getF X2 hx hZ hown (host := "") (Or.inl (hw _ (List.mem_of_getElem? (i := 15) rfl))) Via.refl e2 F1 (g := (mkF m 11 #[.val (.ref a1)] [(.ref a1)])) rfl rfl (hb hby d3_11)
        obtain ⟨_, _, ⟨T4, L4, k4, n4⟩, -, X4, ⟨Lc4, hQ4, l4, y4, z4⟩, st4⟩ := Jvm.LawKit.callS X3 hx (y := (⟨"aestiva/ColumnType", "exact", "(I)Z"⟩ : MethodName)) hown (mvT hZ (hw _ (List.mem_of_getElem? (i := 29) rfl))) (mvT hZ (hw _ (List.mem_of_getElem? (i := 30) rfl))) (mvT hZ (hw _ (List.mem_of_getElem? (i := 3) rfl))) (mvT hZ (hw _ (List.mem_of_getElem? (i := 31) rfl))) (by decide) (backOf (W := 0) (rm9 l Z a0 hw [] t h0 n0 Z0) hZ (hw _ (List.mem_of_getElem? (i := 31) rfl)) (hw _ (List.mem_of_getElem? (i := 3) rfl)) (by decide) (by decide)) (g := (mkF m 14 #[.val (.ref a1)] [(.int t)])) rfl (by rw [hml]; rfl) (argsL := [(.int t)]) (rest := []) (lenOf pd_d3__I_Z rfl) rfl (by show 2 * 0 + _ ≤ _; exact Nat.le_of_eq rfl) (hb hby d3_14) (fun _ _ => ⟨rfl, e3, (by decide : 0 + 0 ≤ _), (by decide : 0 + 0 ≤ _)⟩)
        dsimp only [Pt.U, Pt.locs, Pt.cells, Pt.slots] at X4 l4 y4 z4 st4 hQ4
        subst l4 y4 z4
        obtain ⟨rfl, N4q, e4⟩ := hQ4
        have N4 := Fr.app N2 N4q
        obtain ⟨T5, X5, e5, st5⟩ := getF X4 hx hZ hown (host := "") (Or.inl (hw _ (List.mem_of_getElem? (i := 15) rfl))) Via.refl e4 F1 (g := (mkF m 21 #[.val (.ref a1)] [(.ref a1)])) rfl rfl (hb hby d3_21)
        obtain ⟨_, _, ⟨T6, L6, k6, n6⟩, -, X6, ⟨Lc6, hQ6, l6, y6, z6⟩, st6⟩ := Jvm.LawKit.callS X5 hx (y := (⟨"aestiva/ColumnType", "approximate", "(I)Z"⟩ : MethodName)) hown (mvT hZ (hw _ (List.mem_of_getElem? (i := 32) rfl))) (mvT hZ (hw _ (List.mem_of_getElem? (i := 33) rfl))) (mvT hZ (hw _ (List.mem_of_getElem? (i := 3) rfl))) (mvT hZ (hw _ (List.mem_of_getElem? (i := 34) rfl))) (by decide) (backOf (W := 0) (rm10 l Z a0 hw [] t h0 n0 Z0) hZ (hw _ (List.mem_of_getElem? (i := 34) rfl)) (hw _ (List.mem_of_getElem? (i := 3) rfl)) (by decide) (by decide)) (g := (mkF m 24 #[.val (.ref a1)] [(.int t)])) rfl (by rw [hml]; rfl) (argsL := [(.int t)]) (rest := []) (lenOf pd_d3__I_Z rfl) rfl (by show 2 * 0 + _ ≤ _; exact Nat.le_of_eq rfl) (hb hby d3_24) (fun _ _ => ⟨rfl, e5, (by decide : 0 + 0 ≤ _), (by decide : 0 + 0 ≤ _)⟩)
        dsimp only [Pt.U, Pt.locs, Pt.cells, Pt.slots] at X6 l6 y6 z6 st6 hQ6
        subst l6 y6 z6
        obtain ⟨rfl, N6q, e6⟩ := hQ6
        have N6 := Fr.app N4 N6q
        obtain ⟨fs, hr, hrun, hended, hW, hsame⟩ := X6.leave (v := some (.int (0 : Int32))) (fun h => by rw [Bd.returns] at h; cases h)
        refine ⟨_, _, pre0 _ ?_, hrun, hended, _, _, rfl, ?_, ⟨_, rfl⟩, hW, hsame.mono (by decide) (by decide)⟩
        · show Steps p.tables e below (s₁.setTop (mkF m 0 #[.val (.ref a1)] [])) _
          refine XS.aloadN X0.here hx rfl (hb hby d3_0) rfl rfl ?_
          show Steps p.tables e below (s₁.setTop (mkF m 1 #[.val (.ref a1)] [(.ref a1)])) _
          refine st1 _ ?_
          show Steps p.tables e below (T1.setTop (mkF m 4 #[.val (.ref a1)] [(.int t)])) _
          refine st2 _ ?_
          show Steps p.tables e below (T2.setTop (mkF m 7 #[.val (.ref a1)] [(.int (own_whole t))])) _
          refine XS.ifNo X2.here hx rfl (hb hby d3_7) rfl ((if0 _ _).trans (teq c0).2) ?_
          show Steps p.tables e below (T2.setTop (mkF m 10 #[.val (.ref a1)] [])) _
          refine XS.aloadN X2.here hx rfl (hb hby d3_10) rfl rfl ?_
          show Steps p.tables e below (T2.setTop (mkF m 11 #[.val (.ref a1)] [(.ref a1)])) _
          refine st3 _ ?_
          show Steps p.tables e below (T3.setTop (mkF m 14 #[.val (.ref a1)] [(.int t)])) _
          refine st4 _ ?_
          show Steps p.tables e below (T4.setTop (mkF m 17 #[.val (.ref a1)] [(.int (own_exact t))])) _
          refine XS.ifNo X4.here hx rfl (hb hby d3_17) rfl ((if0 _ _).trans (teq c1).2) ?_
          show Steps p.tables e below (T4.setTop (mkF m 20 #[.val (.ref a1)] [])) _
          refine XS.aloadN X4.here hx rfl (hb hby d3_20) rfl rfl ?_
          show Steps p.tables e below (T4.setTop (mkF m 21 #[.val (.ref a1)] [(.ref a1)])) _
          refine st5 _ ?_
          show Steps p.tables e below (T5.setTop (mkF m 24 #[.val (.ref a1)] [(.int t)])) _
          refine st6 _ ?_
          show Steps p.tables e below (T6.setTop (mkF m 27 #[.val (.ref a1)] [(.int (own_appr t))])) _
          refine XS.ifYes X6.here hx rfl (pc0 := 27) (pc' := 43) rfl (hb hby d3_27) rfl ((if0 _ _).trans (teq c2).1) (by decide) (by decide) ?_
          show Steps p.tables e below (T6.setTop (mkF m 43 #[.val (.ref a1)] [])) _
          refine XS.iconst X6.here hx rfl (hb hby d3_43) ?_
          show Steps p.tables e below (T6.setTop (mkF m 44 #[.val (.ref a1)] [(.int (0 : Int32))])) _
          exact retN X6 hx (t := .boolean) Bd.returns (by simp) (hb hby d3_44) hr
        · show Q_rm3 Z a1 t sc h0 n0 _ T6.heap _
          rw [e6]
          exact ⟨by simp only [own_tells, if_pos c0, if_pos c1, if_pos c2]; try rfl, N6, rfl⟩
      · skip
        rcases Classical.em (sc = (-2147483648 : Int32)) with c3 | c3
        · skip
          obtain ⟨T1, X1, e1, st1⟩ := getF X0 hx hZ hown (host := "") (Or.inl (hw _ (List.mem_of_getElem? (i := 15) rfl))) Via.refl e0 F1 (g := (mkF m 1 #[.val (.ref a1)] [(.ref a1)])) rfl rfl (hb hby d3_1)
          obtain ⟨_, _, ⟨T2, L2, k2, n2⟩, -, X2, ⟨Lc2, hQ2, l2, y2, z2⟩, st2⟩ := Jvm.LawKit.callS X1 hx (y := (⟨"aestiva/ColumnType", "whole", "(I)Z"⟩ : MethodName)) hown (mvT hZ (hw _ (List.mem_of_getElem? (i := 26) rfl))) (mvT hZ (hw _ (List.mem_of_getElem? (i := 27) rfl))) (mvT hZ (hw _ (List.mem_of_getElem? (i := 3) rfl))) (mvT hZ (hw _ (List.mem_of_getElem? (i := 28) rfl))) (by decide) (backOf (W := 0) (rm8 l Z a0 hw [] t h0 n0 Z0) hZ (hw _ (List.mem_of_getElem? (i := 28) rfl)) (hw _ (List.mem_of_getElem? (i := 3) rfl)) (by decide) (by decide)) (g := (mkF m 4 #[.val (.ref a1)] [(.int t)])) rfl (by rw [hml]; rfl) (argsL := [(.int t)]) (rest := []) (lenOf pd_d3__I_Z rfl) rfl (by show 2 * 0 + _ ≤ _; exact Nat.le_of_eq rfl) (hb hby d3_4) (fun _ _ => ⟨rfl, e1, (by decide : 0 + 0 ≤ _), (by decide : 0 + 0 ≤ _)⟩)
          dsimp only [Pt.U, Pt.locs, Pt.cells, Pt.slots] at X2 l2 y2 z2 st2 hQ2
          subst l2 y2 z2
          obtain ⟨rfl, N2q, e2⟩ := hQ2
          have N2 := Fr.app N0 N2q
          obtain ⟨T3, X3, e3, st3⟩ := getF X2 hx hZ hown (host := "") (Or.inl (hw _ (List.mem_of_getElem? (i := 15) rfl))) Via.refl e2 F1 (g := (mkF m 11 #[.val (.ref a1)] [(.ref a1)])) rfl rfl (hb hby d3_11)
          obtain ⟨_, _, ⟨T4, L4, k4, n4⟩, -, X4, ⟨Lc4, hQ4, l4, y4, z4⟩, st4⟩ := Jvm.LawKit.callS X3 hx (y := (⟨"aestiva/ColumnType", "exact", "(I)Z"⟩ : MethodName)) hown (mvT hZ (hw _ (List.mem_of_getElem? (i := 29) rfl))) (mvT hZ (hw _ (List.mem_of_getElem? (i := 30) rfl))) (mvT hZ (hw _ (List.mem_of_getElem? (i := 3) rfl))) (mvT hZ (hw _ (List.mem_of_getElem? (i := 31) rfl))) (by decide) (backOf (W := 0) (rm9 l Z a0 hw [] t h0 n0 Z0) hZ (hw _ (List.mem_of_getElem? (i := 31) rfl)) (hw _ (List.mem_of_getElem? (i := 3) rfl)) (by decide) (by decide)) (g := (mkF m 14 #[.val (.ref a1)] [(.int t)])) rfl (by rw [hml]; rfl) (argsL := [(.int t)]) (rest := []) (lenOf pd_d3__I_Z rfl) rfl (by show 2 * 0 + _ ≤ _; exact Nat.le_of_eq rfl) (hb hby d3_14) (fun _ _ => ⟨rfl, e3, (by decide : 0 + 0 ≤ _), (by decide : 0 + 0 ≤ _)⟩)
          dsimp only [Pt.U, Pt.locs, Pt.cells, Pt.slots] at X4 l4 y4 z4 st4 hQ4
          subst l4 y4 z4
          obtain ⟨rfl, N4q, e4⟩ := hQ4
          have N4 := Fr.app N2 N4q
          obtain ⟨T5, X5, e5, st5⟩ := getF X4 hx hZ hown (host := "") (Or.inl (hw _ (List.mem_of_getElem? (i := 15) rfl))) Via.refl e4 F1 (g := (mkF m 21 #[.val (.ref a1)] [(.ref a1)])) rfl rfl (hb hby d3_21)
          obtain ⟨_, _, ⟨T6, L6, k6, n6⟩, -, X6, ⟨Lc6, hQ6, l6, y6, z6⟩, st6⟩ := Jvm.LawKit.callS X5 hx (y := (⟨"aestiva/ColumnType", "approximate", "(I)Z"⟩ : MethodName)) hown (mvT hZ (hw _ (List.mem_of_getElem? (i := 32) rfl))) (mvT hZ (hw _ (List.mem_of_getElem? (i := 33) rfl))) (mvT hZ (hw _ (List.mem_of_getElem? (i := 3) rfl))) (mvT hZ (hw _ (List.mem_of_getElem? (i := 34) rfl))) (by decide) (backOf (W := 0) (rm10 l Z a0 hw [] t h0 n0 Z0) hZ (hw _ (List.mem_of_getElem? (i := 34) rfl)) (hw _ (List.mem_of_getElem? (i := 3) rfl)) (by decide) (by decide)) (g := (mkF m 24 #[.val (.ref a1)] [(.int t)])) rfl (by rw [hml]; rfl) (argsL := [(.int t)]) (rest := []) (lenOf pd_d3__I_Z rfl) rfl (by show 2 * 0 + _ ≤ _; exact Nat.le_of_eq rfl) (hb hby d3_24) (fun _ _ => ⟨rfl, e5, (by decide : 0 + 0 ≤ _), (by decide : 0 + 0 ≤ _)⟩)
          dsimp only [Pt.U, Pt.locs, Pt.cells, Pt.slots] at X6 l6 y6 z6 st6 hQ6
          subst l6 y6 z6
          obtain ⟨rfl, N6q, e6⟩ := hQ6
          have N6 := Fr.app N4 N6q
          obtain ⟨T7, X7, e7, st7⟩ := getF X6 hx hZ hown (host := "") (Or.inl (hw _ (List.mem_of_getElem? (i := 19) rfl))) Via.refl e6 F2 (g := (mkF m 31 #[.val (.ref a1)] [(.ref a1)])) rfl rfl (hb hby d3_31)
          obtain ⟨fs, hr, hrun, hended, hW, hsame⟩ := X7.leave (v := some (.int (1 : Int32))) (fun h => by rw [Bd.returns] at h; cases h)
          refine ⟨_, _, pre0 _ ?_, hrun, hended, _, _, rfl, ?_, ⟨_, rfl⟩, hW, hsame.mono (by decide) (by decide)⟩
          · show Steps p.tables e below (s₁.setTop (mkF m 0 #[.val (.ref a1)] [])) _
            refine XS.aloadN X0.here hx rfl (hb hby d3_0) rfl rfl ?_
            show Steps p.tables e below (s₁.setTop (mkF m 1 #[.val (.ref a1)] [(.ref a1)])) _
            refine st1 _ ?_
            show Steps p.tables e below (T1.setTop (mkF m 4 #[.val (.ref a1)] [(.int t)])) _
            refine st2 _ ?_
            show Steps p.tables e below (T2.setTop (mkF m 7 #[.val (.ref a1)] [(.int (own_whole t))])) _
            refine XS.ifNo X2.here hx rfl (hb hby d3_7) rfl ((if0 _ _).trans (teq c0).2) ?_
            show Steps p.tables e below (T2.setTop (mkF m 10 #[.val (.ref a1)] [])) _
            refine XS.aloadN X2.here hx rfl (hb hby d3_10) rfl rfl ?_
            show Steps p.tables e below (T2.setTop (mkF m 11 #[.val (.ref a1)] [(.ref a1)])) _
            refine st3 _ ?_
            show Steps p.tables e below (T3.setTop (mkF m 14 #[.val (.ref a1)] [(.int t)])) _
            refine st4 _ ?_
            show Steps p.tables e below (T4.setTop (mkF m 17 #[.val (.ref a1)] [(.int (own_exact t))])) _
            refine XS.ifNo X4.here hx rfl (hb hby d3_17) rfl ((if0 _ _).trans (teq c1).2) ?_
            show Steps p.tables e below (T4.setTop (mkF m 20 #[.val (.ref a1)] [])) _
            refine XS.aloadN X4.here hx rfl (hb hby d3_20) rfl rfl ?_
            show Steps p.tables e below (T4.setTop (mkF m 21 #[.val (.ref a1)] [(.ref a1)])) _
            refine st5 _ ?_
            show Steps p.tables e below (T5.setTop (mkF m 24 #[.val (.ref a1)] [(.int t)])) _
            refine st6 _ ?_
            show Steps p.tables e below (T6.setTop (mkF m 27 #[.val (.ref a1)] [(.int (own_appr t))])) _
            refine XS.ifNo X6.here hx rfl (hb hby d3_27) rfl ((if0 _ _).trans (feq c2).1) ?_
            show Steps p.tables e below (T6.setTop (mkF m 30 #[.val (.ref a1)] [])) _
            refine XS.aloadN X6.here hx rfl (hb hby d3_30) rfl rfl ?_
            show Steps p.tables e below (T6.setTop (mkF m 31 #[.val (.ref a1)] [(.ref a1)])) _
            refine st7 _ ?_
            show Steps p.tables e below (T7.setTop (mkF m 34 #[.val (.ref a1)] [(.int sc)])) _
            refine X7.ldcInt hx hown (mvT hZ (hw _ (List.mem_of_getElem? (i := 35) rfl))) (g := (mkF m 34 #[.val (.ref a1)] [(.int sc)])) rfl (hb hby d3_34) _ ?_
            show Steps p.tables e below (T7.setTop (mkF m 36 #[.val (.ref a1)] [(.int (-2147483648 : Int32)), (.int sc)])) _
            refine XS.icmpNo X7.here hx rfl (hb hby d3_36) rfl (teq c3).2 ?_
            show Steps p.tables e below (T7.setTop (mkF m 39 #[.val (.ref a1)] [])) _
            refine XS.iconst X7.here hx rfl (hb hby d3_39) ?_
            show Steps p.tables e below (T7.setTop (mkF m 40 #[.val (.ref a1)] [(.int (1 : Int32))])) _
            refine XS.goto X7.here hx rfl (pc0 := 40) (pc' := 44) rfl (hb hby d3_40) (by decide) (by decide) ?_
            show Steps p.tables e below (T7.setTop (mkF m 44 #[.val (.ref a1)] [(.int (1 : Int32))])) _
            exact retN X7 hx (t := .boolean) Bd.returns (by simp) (hb hby d3_44) hr
          · show Q_rm3 Z a1 t sc h0 n0 _ T7.heap _
            rw [e7]
            exact ⟨by simp only [own_tells, if_pos c0, if_pos c1, if_neg c2, if_pos c3]; try rfl, N6, rfl⟩
        · skip
          obtain ⟨T1, X1, e1, st1⟩ := getF X0 hx hZ hown (host := "") (Or.inl (hw _ (List.mem_of_getElem? (i := 15) rfl))) Via.refl e0 F1 (g := (mkF m 1 #[.val (.ref a1)] [(.ref a1)])) rfl rfl (hb hby d3_1)
          obtain ⟨_, _, ⟨T2, L2, k2, n2⟩, -, X2, ⟨Lc2, hQ2, l2, y2, z2⟩, st2⟩ := Jvm.LawKit.callS X1 hx (y := (⟨"aestiva/ColumnType", "whole", "(I)Z"⟩ : MethodName)) hown (mvT hZ (hw _ (List.mem_of_getElem? (i := 26) rfl))) (mvT hZ (hw _ (List.mem_of_getElem? (i := 27) rfl))) (mvT hZ (hw _ (List.mem_of_getElem? (i := 3) rfl))) (mvT hZ (hw _ (List.mem_of_getElem? (i := 28) rfl))) (by decide) (backOf (W := 0) (rm8 l Z a0 hw [] t h0 n0 Z0) hZ (hw _ (List.mem_of_getElem? (i := 28) rfl)) (hw _ (List.mem_of_getElem? (i := 3) rfl)) (by decide) (by decide)) (g := (mkF m 4 #[.val (.ref a1)] [(.int t)])) rfl (by rw [hml]; rfl) (argsL := [(.int t)]) (rest := []) (lenOf pd_d3__I_Z rfl) rfl (by show 2 * 0 + _ ≤ _; exact Nat.le_of_eq rfl) (hb hby d3_4) (fun _ _ => ⟨rfl, e1, (by decide : 0 + 0 ≤ _), (by decide : 0 + 0 ≤ _)⟩)
          dsimp only [Pt.U, Pt.locs, Pt.cells, Pt.slots] at X2 l2 y2 z2 st2 hQ2
          subst l2 y2 z2
          obtain ⟨rfl, N2q, e2⟩ := hQ2
          have N2 := Fr.app N0 N2q
          obtain ⟨T3, X3, e3, st3⟩ := getF X2 hx hZ hown (host := "") (Or.inl (hw _ (List.mem_of_getElem? (i := 15) rfl))) Via.refl e2 F1 (g := (mkF m 11 #[.val (.ref a1)] [(.ref a1)])) rfl rfl (hb hby d3_11)
          obtain ⟨_, _, ⟨T4, L4, k4, n4⟩, -, X4, ⟨Lc4, hQ4, l4, y4, z4⟩, st4⟩ := Jvm.LawKit.callS X3 hx (y := (⟨"aestiva/ColumnType", "exact", "(I)Z"⟩ : MethodName)) hown (mvT hZ (hw _ (List.mem_of_getElem? (i := 29) rfl))) (mvT hZ (hw _ (List.mem_of_getElem? (i := 30) rfl))) (mvT hZ (hw _ (List.mem_of_getElem? (i := 3) rfl))) (mvT hZ (hw _ (List.mem_of_getElem? (i := 31) rfl))) (by decide) (backOf (W := 0) (rm9 l Z a0 hw [] t h0 n0 Z0) hZ (hw _ (List.mem_of_getElem? (i := 31) rfl)) (hw _ (List.mem_of_getElem? (i := 3) rfl)) (by decide) (by decide)) (g := (mkF m 14 #[.val (.ref a1)] [(.int t)])) rfl (by rw [hml]; rfl) (argsL := [(.int t)]) (rest := []) (lenOf pd_d3__I_Z rfl) rfl (by show 2 * 0 + _ ≤ _; exact Nat.le_of_eq rfl) (hb hby d3_14) (fun _ _ => ⟨rfl, e3, (by decide : 0 + 0 ≤ _), (by decide : 0 + 0 ≤ _)⟩)
          dsimp only [Pt.U, Pt.locs, Pt.cells, Pt.slots] at X4 l4 y4 z4 st4 hQ4
          subst l4 y4 z4
          obtain ⟨rfl, N4q, e4⟩ := hQ4
          have N4 := Fr.app N2 N4q
          obtain ⟨T5, X5, e5, st5⟩ := getF X4 hx hZ hown (host := "") (Or.inl (hw _ (List.mem_of_getElem? (i := 15) rfl))) Via.refl e4 F1 (g := (mkF m 21 #[.val (.ref a1)] [(.ref a1)])) rfl rfl (hb hby d3_21)
          obtain ⟨_, _, ⟨T6, L6, k6, n6⟩, -, X6, ⟨Lc6, hQ6, l6, y6, z6⟩, st6⟩ := Jvm.LawKit.callS X5 hx (y := (⟨"aestiva/ColumnType", "approximate", "(I)Z"⟩ : MethodName)) hown (mvT hZ (hw _ (List.mem_of_getElem? (i := 32) rfl))) (mvT hZ (hw _ (List.mem_of_getElem? (i := 33) rfl))) (mvT hZ (hw _ (List.mem_of_getElem? (i := 3) rfl))) (mvT hZ (hw _ (List.mem_of_getElem? (i := 34) rfl))) (by decide) (backOf (W := 0) (rm10 l Z a0 hw [] t h0 n0 Z0) hZ (hw _ (List.mem_of_getElem? (i := 34) rfl)) (hw _ (List.mem_of_getElem? (i := 3) rfl)) (by decide) (by decide)) (g := (mkF m 24 #[.val (.ref a1)] [(.int t)])) rfl (by rw [hml]; rfl) (argsL := [(.int t)]) (rest := []) (lenOf pd_d3__I_Z rfl) rfl (by show 2 * 0 + _ ≤ _; exact Nat.le_of_eq rfl) (hb hby d3_24) (fun _ _ => ⟨rfl, e5, (by decide : 0 + 0 ≤ _), (by decide : 0 + 0 ≤ _)⟩)
          dsimp only [Pt.U, Pt.locs, Pt.cells, Pt.slots] at X6 l6 y6 z6 st6 hQ6
          subst l6 y6 z6
          obtain ⟨rfl, N6q, e6⟩ := hQ6
          have N6 := Fr.app N4 N6q
          obtain ⟨T7, X7, e7, st7⟩ := getF X6 hx hZ hown (host := "") (Or.inl (hw _ (List.mem_of_getElem? (i := 19) rfl))) Via.refl e6 F2 (g := (mkF m 31 #[.val (.ref a1)] [(.ref a1)])) rfl rfl (hb hby d3_31)
          obtain ⟨fs, hr, hrun, hended, hW, hsame⟩ := X7.leave (v := some (.int (0 : Int32))) (fun h => by rw [Bd.returns] at h; cases h)
          refine ⟨_, _, pre0 _ ?_, hrun, hended, _, _, rfl, ?_, ⟨_, rfl⟩, hW, hsame.mono (by decide) (by decide)⟩
          · show Steps p.tables e below (s₁.setTop (mkF m 0 #[.val (.ref a1)] [])) _
            refine XS.aloadN X0.here hx rfl (hb hby d3_0) rfl rfl ?_
            show Steps p.tables e below (s₁.setTop (mkF m 1 #[.val (.ref a1)] [(.ref a1)])) _
            refine st1 _ ?_
            show Steps p.tables e below (T1.setTop (mkF m 4 #[.val (.ref a1)] [(.int t)])) _
            refine st2 _ ?_
            show Steps p.tables e below (T2.setTop (mkF m 7 #[.val (.ref a1)] [(.int (own_whole t))])) _
            refine XS.ifNo X2.here hx rfl (hb hby d3_7) rfl ((if0 _ _).trans (teq c0).2) ?_
            show Steps p.tables e below (T2.setTop (mkF m 10 #[.val (.ref a1)] [])) _
            refine XS.aloadN X2.here hx rfl (hb hby d3_10) rfl rfl ?_
            show Steps p.tables e below (T2.setTop (mkF m 11 #[.val (.ref a1)] [(.ref a1)])) _
            refine st3 _ ?_
            show Steps p.tables e below (T3.setTop (mkF m 14 #[.val (.ref a1)] [(.int t)])) _
            refine st4 _ ?_
            show Steps p.tables e below (T4.setTop (mkF m 17 #[.val (.ref a1)] [(.int (own_exact t))])) _
            refine XS.ifNo X4.here hx rfl (hb hby d3_17) rfl ((if0 _ _).trans (teq c1).2) ?_
            show Steps p.tables e below (T4.setTop (mkF m 20 #[.val (.ref a1)] [])) _
            refine XS.aloadN X4.here hx rfl (hb hby d3_20) rfl rfl ?_
            show Steps p.tables e below (T4.setTop (mkF m 21 #[.val (.ref a1)] [(.ref a1)])) _
            refine st5 _ ?_
            show Steps p.tables e below (T5.setTop (mkF m 24 #[.val (.ref a1)] [(.int t)])) _
            refine st6 _ ?_
            show Steps p.tables e below (T6.setTop (mkF m 27 #[.val (.ref a1)] [(.int (own_appr t))])) _
            refine XS.ifNo X6.here hx rfl (hb hby d3_27) rfl ((if0 _ _).trans (feq c2).1) ?_
            show Steps p.tables e below (T6.setTop (mkF m 30 #[.val (.ref a1)] [])) _
            refine XS.aloadN X6.here hx rfl (hb hby d3_30) rfl rfl ?_
            show Steps p.tables e below (T6.setTop (mkF m 31 #[.val (.ref a1)] [(.ref a1)])) _
            refine st7 _ ?_
            show Steps p.tables e below (T7.setTop (mkF m 34 #[.val (.ref a1)] [(.int sc)])) _
            refine X7.ldcInt hx hown (mvT hZ (hw _ (List.mem_of_getElem? (i := 35) rfl))) (g := (mkF m 34 #[.val (.ref a1)] [(.int sc)])) rfl (hb hby d3_34) _ ?_
            show Steps p.tables e below (T7.setTop (mkF m 36 #[.val (.ref a1)] [(.int (-2147483648 : Int32)), (.int sc)])) _
            refine XS.icmpYes X7.here hx rfl (pc0 := 36) (pc' := 43) rfl (hb hby d3_36) rfl (feq c3).2 (by decide) (by decide) ?_
            show Steps p.tables e below (T7.setTop (mkF m 43 #[.val (.ref a1)] [])) _
            refine XS.iconst X7.here hx rfl (hb hby d3_43) ?_
            show Steps p.tables e below (T7.setTop (mkF m 44 #[.val (.ref a1)] [(.int (0 : Int32))])) _
            exact retN X7 hx (t := .boolean) Bd.returns (by simp) (hb hby d3_44) hr
          · show Q_rm3 Z a1 t sc h0 n0 _ T7.heap _
            rw [e7]
            exact ⟨by simp only [own_tells, if_pos c0, if_pos c1, if_neg c2, if_neg c3]; try rfl, N6, rfl⟩
    · skip
      obtain ⟨T1, X1, e1, st1⟩ := getF X0 hx hZ hown (host := "") (Or.inl (hw _ (List.mem_of_getElem? (i := 15) rfl))) Via.refl e0 F1 (g := (mkF m 1 #[.val (.ref a1)] [(.ref a1)])) rfl rfl (hb hby d3_1)
      obtain ⟨_, _, ⟨T2, L2, k2, n2⟩, -, X2, ⟨Lc2, hQ2, l2, y2, z2⟩, st2⟩ := Jvm.LawKit.callS X1 hx (y := (⟨"aestiva/ColumnType", "whole", "(I)Z"⟩ : MethodName)) hown (mvT hZ (hw _ (List.mem_of_getElem? (i := 26) rfl))) (mvT hZ (hw _ (List.mem_of_getElem? (i := 27) rfl))) (mvT hZ (hw _ (List.mem_of_getElem? (i := 3) rfl))) (mvT hZ (hw _ (List.mem_of_getElem? (i := 28) rfl))) (by decide) (backOf (W := 0) (rm8 l Z a0 hw [] t h0 n0 Z0) hZ (hw _ (List.mem_of_getElem? (i := 28) rfl)) (hw _ (List.mem_of_getElem? (i := 3) rfl)) (by decide) (by decide)) (g := (mkF m 4 #[.val (.ref a1)] [(.int t)])) rfl (by rw [hml]; rfl) (argsL := [(.int t)]) (rest := []) (lenOf pd_d3__I_Z rfl) rfl (by show 2 * 0 + _ ≤ _; exact Nat.le_of_eq rfl) (hb hby d3_4) (fun _ _ => ⟨rfl, e1, (by decide : 0 + 0 ≤ _), (by decide : 0 + 0 ≤ _)⟩)
      dsimp only [Pt.U, Pt.locs, Pt.cells, Pt.slots] at X2 l2 y2 z2 st2 hQ2
      subst l2 y2 z2
      obtain ⟨rfl, N2q, e2⟩ := hQ2
      have N2 := Fr.app N0 N2q
      obtain ⟨T3, X3, e3, st3⟩ := getF X2 hx hZ hown (host := "") (Or.inl (hw _ (List.mem_of_getElem? (i := 15) rfl))) Via.refl e2 F1 (g := (mkF m 11 #[.val (.ref a1)] [(.ref a1)])) rfl rfl (hb hby d3_11)
      obtain ⟨_, _, ⟨T4, L4, k4, n4⟩, -, X4, ⟨Lc4, hQ4, l4, y4, z4⟩, st4⟩ := Jvm.LawKit.callS X3 hx (y := (⟨"aestiva/ColumnType", "exact", "(I)Z"⟩ : MethodName)) hown (mvT hZ (hw _ (List.mem_of_getElem? (i := 29) rfl))) (mvT hZ (hw _ (List.mem_of_getElem? (i := 30) rfl))) (mvT hZ (hw _ (List.mem_of_getElem? (i := 3) rfl))) (mvT hZ (hw _ (List.mem_of_getElem? (i := 31) rfl))) (by decide) (backOf (W := 0) (rm9 l Z a0 hw [] t h0 n0 Z0) hZ (hw _ (List.mem_of_getElem? (i := 31) rfl)) (hw _ (List.mem_of_getElem? (i := 3) rfl)) (by decide) (by decide)) (g := (mkF m 14 #[.val (.ref a1)] [(.int t)])) rfl (by rw [hml]; rfl) (argsL := [(.int t)]) (rest := []) (lenOf pd_d3__I_Z rfl) rfl (by show 2 * 0 + _ ≤ _; exact Nat.le_of_eq rfl) (hb hby d3_14) (fun _ _ => ⟨rfl, e3, (by decide : 0 + 0 ≤ _), (by decide : 0 + 0 ≤ _)⟩)
      dsimp only [Pt.U, Pt.locs, Pt.cells, Pt.slots] at X4 l4 y4 z4 st4 hQ4
      subst l4 y4 z4
      obtain ⟨rfl, N4q, e4⟩ := hQ4
      have N4 := Fr.app N2 N4q
      obtain ⟨fs, hr, hrun, hended, hW, hsame⟩ := X4.leave (v := some (.int (1 : Int32))) (fun h => by rw [Bd.returns] at h; cases h)
      refine ⟨_, _, pre0 _ ?_, hrun, hended, _, _, rfl, ?_, ⟨_, rfl⟩, hW, hsame.mono (by decide) (by decide)⟩
      · show Steps p.tables e below (s₁.setTop (mkF m 0 #[.val (.ref a1)] [])) _
        refine XS.aloadN X0.here hx rfl (hb hby d3_0) rfl rfl ?_
        show Steps p.tables e below (s₁.setTop (mkF m 1 #[.val (.ref a1)] [(.ref a1)])) _
        refine st1 _ ?_
        show Steps p.tables e below (T1.setTop (mkF m 4 #[.val (.ref a1)] [(.int t)])) _
        refine st2 _ ?_
        show Steps p.tables e below (T2.setTop (mkF m 7 #[.val (.ref a1)] [(.int (own_whole t))])) _
        refine XS.ifNo X2.here hx rfl (hb hby d3_7) rfl ((if0 _ _).trans (teq c0).2) ?_
        show Steps p.tables e below (T2.setTop (mkF m 10 #[.val (.ref a1)] [])) _
        refine XS.aloadN X2.here hx rfl (hb hby d3_10) rfl rfl ?_
        show Steps p.tables e below (T2.setTop (mkF m 11 #[.val (.ref a1)] [(.ref a1)])) _
        refine st3 _ ?_
        show Steps p.tables e below (T3.setTop (mkF m 14 #[.val (.ref a1)] [(.int t)])) _
        refine st4 _ ?_
        show Steps p.tables e below (T4.setTop (mkF m 17 #[.val (.ref a1)] [(.int (own_exact t))])) _
        refine XS.ifYes X4.here hx rfl (pc0 := 17) (pc' := 39) rfl (hb hby d3_17) rfl ((if0 _ _).trans (feq c1).2) (by decide) (by decide) ?_
        show Steps p.tables e below (T4.setTop (mkF m 39 #[.val (.ref a1)] [])) _
        refine XS.iconst X4.here hx rfl (hb hby d3_39) ?_
        show Steps p.tables e below (T4.setTop (mkF m 40 #[.val (.ref a1)] [(.int (1 : Int32))])) _
        refine XS.goto X4.here hx rfl (pc0 := 40) (pc' := 44) rfl (hb hby d3_40) (by decide) (by decide) ?_
        show Steps p.tables e below (T4.setTop (mkF m 44 #[.val (.ref a1)] [(.int (1 : Int32))])) _
        exact retN X4 hx (t := .boolean) Bd.returns (by simp) (hb hby d3_44) hr
      · show Q_rm3 Z a1 t sc h0 n0 _ T4.heap _
        rw [e4]
        exact ⟨by simp only [own_tells, if_pos c0, if_neg c1]; try rfl, N4, rfl⟩
  · skip
    obtain ⟨T1, X1, e1, st1⟩ := getF X0 hx hZ hown (host := "") (Or.inl (hw _ (List.mem_of_getElem? (i := 15) rfl))) Via.refl e0 F1 (g := (mkF m 1 #[.val (.ref a1)] [(.ref a1)])) rfl rfl (hb hby d3_1)
    obtain ⟨_, _, ⟨T2, L2, k2, n2⟩, -, X2, ⟨Lc2, hQ2, l2, y2, z2⟩, st2⟩ := Jvm.LawKit.callS X1 hx (y := (⟨"aestiva/ColumnType", "whole", "(I)Z"⟩ : MethodName)) hown (mvT hZ (hw _ (List.mem_of_getElem? (i := 26) rfl))) (mvT hZ (hw _ (List.mem_of_getElem? (i := 27) rfl))) (mvT hZ (hw _ (List.mem_of_getElem? (i := 3) rfl))) (mvT hZ (hw _ (List.mem_of_getElem? (i := 28) rfl))) (by decide) (backOf (W := 0) (rm8 l Z a0 hw [] t h0 n0 Z0) hZ (hw _ (List.mem_of_getElem? (i := 28) rfl)) (hw _ (List.mem_of_getElem? (i := 3) rfl)) (by decide) (by decide)) (g := (mkF m 4 #[.val (.ref a1)] [(.int t)])) rfl (by rw [hml]; rfl) (argsL := [(.int t)]) (rest := []) (lenOf pd_d3__I_Z rfl) rfl (by show 2 * 0 + _ ≤ _; exact Nat.le_of_eq rfl) (hb hby d3_4) (fun _ _ => ⟨rfl, e1, (by decide : 0 + 0 ≤ _), (by decide : 0 + 0 ≤ _)⟩)
    dsimp only [Pt.U, Pt.locs, Pt.cells, Pt.slots] at X2 l2 y2 z2 st2 hQ2
    subst l2 y2 z2
    obtain ⟨rfl, N2q, e2⟩ := hQ2
    have N2 := Fr.app N0 N2q
    obtain ⟨fs, hr, hrun, hended, hW, hsame⟩ := X2.leave (v := some (.int (1 : Int32))) (fun h => by rw [Bd.returns] at h; cases h)
    refine ⟨_, _, pre0 _ ?_, hrun, hended, _, _, rfl, ?_, ⟨_, rfl⟩, hW, hsame.mono (by decide) (by decide)⟩
    · show Steps p.tables e below (s₁.setTop (mkF m 0 #[.val (.ref a1)] [])) _
      refine XS.aloadN X0.here hx rfl (hb hby d3_0) rfl rfl ?_
      show Steps p.tables e below (s₁.setTop (mkF m 1 #[.val (.ref a1)] [(.ref a1)])) _
      refine st1 _ ?_
      show Steps p.tables e below (T1.setTop (mkF m 4 #[.val (.ref a1)] [(.int t)])) _
      refine st2 _ ?_
      show Steps p.tables e below (T2.setTop (mkF m 7 #[.val (.ref a1)] [(.int (own_whole t))])) _
      refine XS.ifYes X2.here hx rfl (pc0 := 7) (pc' := 39) rfl (hb hby d3_7) rfl ((if0 _ _).trans (feq c0).2) (by decide) (by decide) ?_
      show Steps p.tables e below (T2.setTop (mkF m 39 #[.val (.ref a1)] [])) _
      refine XS.iconst X2.here hx rfl (hb hby d3_39) ?_
      show Steps p.tables e below (T2.setTop (mkF m 40 #[.val (.ref a1)] [(.int (1 : Int32))])) _
      refine XS.goto X2.here hx rfl (pc0 := 40) (pc' := 44) rfl (hb hby d3_40) (by decide) (by decide) ?_
      show Steps p.tables e below (T2.setTop (mkF m 44 #[.val (.ref a1)] [(.int (1 : Int32))])) _
      exact retN X2 hx (t := .boolean) Bd.returns (by simp) (hb hby d3_44) hr
    · show Q_rm3 Z a1 t sc h0 n0 _ T2.heap _
      rw [e2]
      exact ⟨by simp only [own_tells, if_neg c0]; try rfl, N2, rfl⟩

theorem pd_at__III_V : parseMethodDescriptor "(III)V" = some ⟨[.int, .int, .int], none⟩ := by decide +kernel
theorem pd_at___Z : parseMethodDescriptor "()Z" = some ⟨[], some .boolean⟩ := by decide +kernel
theorem own_law (t sc fl : Int32) (hfl : fl = (if sc = (-2147483648 : Int32) then (1 : Int32) else (0 : Int32))) : own_tells t sc = (if t < (-6 : Int32) then (if t < (2 : Int32) then (if t < (6 : Int32) then (0 : Int32) else (if (8 : Int32) < t then (0 : Int32) else (if fl = (0 : Int32) then (0 : Int32) else (1 : Int32)))) else (if (5 : Int32) < t then (if t < (6 : Int32) then (0 : Int32) else (if (8 : Int32) < t then (0 : Int32) else (if fl = (0 : Int32) then (0 : Int32) else (1 : Int32)))) else (1 : Int32))) else (if (-5 : Int32) < t then (if t < (2 : Int32) then (if t < (6 : Int32) then (0 : Int32) else (if (8 : Int32) < t then (0 : Int32) else (if fl = (0 : Int32) then (0 : Int32) else (1 : Int32)))) else (if (5 : Int32) < t then (if t < (6 : Int32) then (0 : Int32) else (if (8 : Int32) < t then (0 : Int32) else (if fl = (0 : Int32) then (0 : Int32) else (1 : Int32)))) else (1 : Int32))) else (1 : Int32))) := by
  have e : ∀ a b : Int32, a < b ↔ a.toInt < b.toInt := fun _ _ => Int32.lt_iff_toInt_lt
  have k0 : (-6 : Int32).toInt = -6 := by decide
  have k1 : (-5 : Int32).toInt = -5 := by decide
  have k2 : (0 : Int32).toInt = 0 := by decide
  have k3 : (1 : Int32).toInt = 1 := by decide
  have k4 : (2 : Int32).toInt = 2 := by decide
  have k5 : (3 : Int32).toInt = 3 := by decide
  have k6 : (4 : Int32).toInt = 4 := by decide
  have k7 : (5 : Int32).toInt = 5 := by decide
  have k8 : (6 : Int32).toInt = 6 := by decide
  have k9 : (7 : Int32).toInt = 7 := by decide
  have k10 : (8 : Int32).toInt = 8 := by decide
  by_cases h : -6 ≤ t.toInt ∧ t.toInt ≤ 8
  · have hk : t.toInt = -6 ∨ t.toInt = -5 ∨ t.toInt = -4 ∨ t.toInt = -3 ∨ t.toInt = -2 ∨ t.toInt = -1 ∨ t.toInt = 0 ∨ t.toInt = 1 ∨ t.toInt = 2 ∨ t.toInt = 3 ∨ t.toInt = 4 ∨ t.toInt = 5 ∨ t.toInt = 6 ∨ t.toInt = 7 ∨ t.toInt = 8 := by omega
    have hfl2 : (sc = (-2147483648 : Int32) ∧ fl = 1) ∨ (¬ sc = (-2147483648 : Int32) ∧ fl = 0) := by
      by_cases hs : sc = (-2147483648 : Int32)
      · exact Or.inl ⟨hs, by rw [hfl, if_pos hs]⟩
      · exact Or.inr ⟨hs, by rw [hfl, if_neg hs]⟩
    clear hfl
    rcases hk with h1 | h1 | h1 | h1 | h1 | h1 | h1 | h1 | h1 | h1 | h1 | h1 | h1 | h1 | h1
    · obtain rfl : t = (-6 : Int32) := Int32.toInt_inj.mp (by rw [h1]; decide)
      rcases hfl2 with ⟨hs, rfl⟩ | ⟨hs, rfl⟩
      · unfold own_tells; simp only [if_pos hs]; decide
      · unfold own_tells; simp only [if_neg hs]; decide
    · obtain rfl : t = (-5 : Int32) := Int32.toInt_inj.mp (by rw [h1]; decide)
      rcases hfl2 with ⟨hs, rfl⟩ | ⟨hs, rfl⟩
      · unfold own_tells; simp only [if_pos hs]; decide
      · unfold own_tells; simp only [if_neg hs]; decide
    · obtain rfl : t = (-4 : Int32) := Int32.toInt_inj.mp (by rw [h1]; decide)
      rcases hfl2 with ⟨hs, rfl⟩ | ⟨hs, rfl⟩
      · unfold own_tells; simp only [if_pos hs]; decide
      · unfold own_tells; simp only [if_neg hs]; decide
    · obtain rfl : t = (-3 : Int32) := Int32.toInt_inj.mp (by rw [h1]; decide)
      rcases hfl2 with ⟨hs, rfl⟩ | ⟨hs, rfl⟩
      · unfold own_tells; simp only [if_pos hs]; decide
      · unfold own_tells; simp only [if_neg hs]; decide
    · obtain rfl : t = (-2 : Int32) := Int32.toInt_inj.mp (by rw [h1]; decide)
      rcases hfl2 with ⟨hs, rfl⟩ | ⟨hs, rfl⟩
      · unfold own_tells; simp only [if_pos hs]; decide
      · unfold own_tells; simp only [if_neg hs]; decide
    · obtain rfl : t = (-1 : Int32) := Int32.toInt_inj.mp (by rw [h1]; decide)
      rcases hfl2 with ⟨hs, rfl⟩ | ⟨hs, rfl⟩
      · unfold own_tells; simp only [if_pos hs]; decide
      · unfold own_tells; simp only [if_neg hs]; decide
    · obtain rfl : t = (0 : Int32) := Int32.toInt_inj.mp (by rw [h1]; decide)
      rcases hfl2 with ⟨hs, rfl⟩ | ⟨hs, rfl⟩
      · unfold own_tells; simp only [if_pos hs]; decide
      · unfold own_tells; simp only [if_neg hs]; decide
    · obtain rfl : t = (1 : Int32) := Int32.toInt_inj.mp (by rw [h1]; decide)
      rcases hfl2 with ⟨hs, rfl⟩ | ⟨hs, rfl⟩
      · unfold own_tells; simp only [if_pos hs]; decide
      · unfold own_tells; simp only [if_neg hs]; decide
    · obtain rfl : t = (2 : Int32) := Int32.toInt_inj.mp (by rw [h1]; decide)
      rcases hfl2 with ⟨hs, rfl⟩ | ⟨hs, rfl⟩
      · unfold own_tells; simp only [if_pos hs]; decide
      · unfold own_tells; simp only [if_neg hs]; decide
    · obtain rfl : t = (3 : Int32) := Int32.toInt_inj.mp (by rw [h1]; decide)
      rcases hfl2 with ⟨hs, rfl⟩ | ⟨hs, rfl⟩
      · unfold own_tells; simp only [if_pos hs]; decide
      · unfold own_tells; simp only [if_neg hs]; decide
    · obtain rfl : t = (4 : Int32) := Int32.toInt_inj.mp (by rw [h1]; decide)
      rcases hfl2 with ⟨hs, rfl⟩ | ⟨hs, rfl⟩
      · unfold own_tells; simp only [if_pos hs]; decide
      · unfold own_tells; simp only [if_neg hs]; decide
    · obtain rfl : t = (5 : Int32) := Int32.toInt_inj.mp (by rw [h1]; decide)
      rcases hfl2 with ⟨hs, rfl⟩ | ⟨hs, rfl⟩
      · unfold own_tells; simp only [if_pos hs]; decide
      · unfold own_tells; simp only [if_neg hs]; decide
    · obtain rfl : t = (6 : Int32) := Int32.toInt_inj.mp (by rw [h1]; decide)
      rcases hfl2 with ⟨hs, rfl⟩ | ⟨hs, rfl⟩
      · unfold own_tells; simp only [if_pos hs]; decide
      · unfold own_tells; simp only [if_neg hs]; decide
    · obtain rfl : t = (7 : Int32) := Int32.toInt_inj.mp (by rw [h1]; decide)
      rcases hfl2 with ⟨hs, rfl⟩ | ⟨hs, rfl⟩
      · unfold own_tells; simp only [if_pos hs]; decide
      · unfold own_tells; simp only [if_neg hs]; decide
    · obtain rfl : t = (8 : Int32) := Int32.toInt_inj.mp (by rw [h1]; decide)
      rcases hfl2 with ⟨hs, rfl⟩ | ⟨hs, rfl⟩
      · unfold own_tells; simp only [if_pos hs]; decide
      · unfold own_tells; simp only [if_neg hs]; decide
  · have w0 : own_whole t = 0 := by unfold own_whole; rw [if_neg (by omega)]
    have n2 : ∀ z : Int32, -6 ≤ z.toInt → z.toInt ≤ 8 → ¬ t = z := fun z h1 h2 q => h (by rw [q]; exact ⟨h1, h2⟩)
    have x0 : own_exact t = 0 := by unfold own_exact; rw [if_neg (n2 2 (by decide) (by decide)), if_neg (n2 3 (by decide) (by decide))]
    have a0 : own_appr t = 0 := by unfold own_appr; rw [if_neg (n2 7 (by decide) (by decide)), if_neg (n2 6 (by decide) (by decide)), if_neg (n2 8 (by decide) (by decide))]
    have l0 : own_tells t sc = 0 := by unfold own_tells; rw [if_pos w0, if_pos x0, if_pos a0]
    rw [l0]
    by_cases q : t < (-6 : Int32)
    · have q1 : t < (2 : Int32) := by rw [e] at q ⊢; omega
      have q2 : t < (6 : Int32) := by rw [e] at q ⊢; omega
      rw [if_pos q, if_pos q1, if_pos q2]
    · have q0 : (8 : Int32) < t := by rw [e] at q ⊢; omega
      have q1 : (-5 : Int32) < t := by rw [e] at q ⊢; omega
      have q2 : ¬ t < (2 : Int32) := by rw [e] at q ⊢; omega
      have q3 : (5 : Int32) < t := by rw [e] at q ⊢; omega
      have q4 : ¬ t < (6 : Int32) := by rw [e] at q ⊢; omega
      rw [if_neg q, if_pos q1, if_neg q2, if_pos q3, if_neg q4, if_pos q0]

theorem ef_at_ (m : MethodId) (p1 : Int32) (p2 : Int32) (p3 : Int32) (p4 : Int32) (p5 : Int32) : entryFrame m #[(.int p1), (.int p2), (.int p3), (.int p4), (.int p5)] maxLocals = mkF m 0 #[.val (.int p1), .val (.int p2), .val (.int p3), .val (.int p4), .val (.int p5), .unset, .unset, .unset, .unset, .unset] [] := by first | (simp [entryFrame, mkF, argsToLocals, Value.category, maxLocals]; done) | rfl
def Q_rm0 (Z : State) (p1 : Int32) (p2 : Int32) (p3 : Int32) (p4 : Int32) (p5 : Int32)  (h0 : Heap) (n0 : Nat) (v : Option Value) (h : Heap) (L : List Loc) : Prop := v = some (.int (1 : Int32)) ∧ Fr n0 L
theorem pn_rm0 : plainName "aestiva/ColumnTypeTellsRoundingPinLaw" = true := by first | (simp [plainName, overriddenIn]; done) | decide +kernel
set_option maxRecDepth 65536 in
set_option maxHeartbeats 40000000 in
theorem rm0 (l : Launch) (Z : State) (a0 : Array Value) (hw : ∀ d ∈ tables_1, d.before a0 Z = true) (ws : List Jvm.Cond) (p1 : Int32) (p2 : Int32) (p3 : Int32) (p4 : Int32) (p5 : Int32)  (h0 : Heap) (n0 : Nat) (Z0 : n0 ≤ h0.size)  :
    MetFree l x (head1 (Jvm.Cond.code x code maxLocals ret :: ws) room_1) (fun a U => a = #[(.int p1), (.int p2), (.int p3), (.int p4), (.int p5)] ∧ Z.Warmed39 U.vm ∧ U.heap = h0) (fun _ _ _ _ _ => True) (fun _ U o U' => ∃ v L, o = .returned v ∧ Q_rm0 Z p1 p2 p3 p4 p5  h0 n0 v U'.heap L ∧ FrameEnd U o U' L room_1.cells room_1.slots) := by
  refine MetFree.of_bodySF (plainFor_of_name pn_rm0) hisR ?_
  intro p e s m args below meth c s₁ Bd hml0 hP hK
  obtain ⟨rfl, hZ, hh⟩ := hP
  have hx := Bd.exec
  have hby := Bd.bytes
  have hml : c.maxLocals = 10 := hml0
  have hown : s.vm.findClass "aestiva/ColumnTypeTellsRoundingPinLaw" = some m.cls := findClass_of_methodNamed Bd.named
  have hnm := (name_of_methodNamed Bd.named Bd.method).1
  have X0 : Stand p l e room_1 s m #[(.int p1), (.int p2), (.int p3), (.int p4), (.int p5)] below meth c s₁ [] 0 0 := Stand.of_body Bd
  have e0 : s₁.heap = h0 := by rw [← hh, Bd.state]; rfl
  have N0 := Fr.nil n0
  have pre0 : ∀ tZ, Steps p.tables e below (s₁.setTop (mkF m 0 #[.val (.int p1), .val (.int p2), .val (.int p3), .val (.int p4), .val (.int p5), .unset, .unset, .unset, .unset, .unset] [])) tZ → Steps p.tables e below (s₁.setTop (entryFrame m #[(.int p1), (.int p2), (.int p3), (.int p4), (.int p5)] maxLocals)) tZ := fun tZ kZ => castTop (ef_at_ m p1 p2 p3 p4 p5) kZ
  obtain ⟨t, h_t⟩ : ∃ z : Int32, z = (if (p1 &&& (1 : Int32)) = (0 : Int32) then ((((p1.toUInt32 >>> ((1 : Int32) &&& 31).toUInt32).toInt32) &&& (31 : Int32)) - (10 : Int32)) else p2) := ⟨_, rfl⟩
  obtain ⟨sc, h_sc⟩ : ∃ z : Int32, z = (if (p4 &&& (1 : Int32)) = (0 : Int32) then p5 else (-2147483648 : Int32)) := ⟨_, rfl⟩
  obtain ⟨fl, h_fl⟩ : ∃ z : Int32, z = (if sc = (-2147483648 : Int32) then (1 : Int32) else (0 : Int32)) := ⟨_, rfl⟩
  obtain ⟨ex, h_ex⟩ : ∃ z : Int32, z = (if t < (-6 : Int32) then (if t < (2 : Int32) then (if t < (6 : Int32) then (0 : Int32) else (if (8 : Int32) < t then (0 : Int32) else (if fl = (0 : Int32) then (0 : Int32) else (1 : Int32)))) else (if (5 : Int32) < t then (if t < (6 : Int32) then (0 : Int32) else (if (8 : Int32) < t then (0 : Int32) else (if fl = (0 : Int32) then (0 : Int32) else (1 : Int32)))) else (1 : Int32))) else (if (-5 : Int32) < t then (if t < (2 : Int32) then (if t < (6 : Int32) then (0 : Int32) else (if (8 : Int32) < t then (0 : Int32) else (if fl = (0 : Int32) then (0 : Int32) else (1 : Int32)))) else (if (5 : Int32) < t then (if t < (6 : Int32) then (0 : Int32) else (if (8 : Int32) < t then (0 : Int32) else (if fl = (0 : Int32) then (0 : Int32) else (1 : Int32)))) else (1 : Int32))) else (1 : Int32))) := ⟨_, rfl⟩
  obtain ⟨T1, h1, X1, e1, E1, A1, D1, -, st1⟩ := newO X0 hx hZ hown (hw _ (List.mem_of_getElem? (i := 1) rfl)) (hw _ (List.mem_of_getElem? (i := 2) rfl)) (hw _ (List.mem_of_getElem? (i := 3) rfl)) e0 (g := (mkF m 102 #[.val (.int p1), .val (.int p2), .val (.int p3), .val (.int p4), .val (.int p5), .val (.int t), .val (.int sc), .val (.int fl), .val (.int ex), .unset] [])) rfl (hb hby at_102) (by decide) (by decide)
  obtain ⟨b1, g1⟩ : ∃ z, z = h0.size := ⟨_, rfl⟩
  rw [← g1] at A1 D1 st1
  have F_sqlType_b1 : Fld Z h1 b1 "aestiva/ColumnType" "sqlType" "I" (.int (0 : Int32)) := D1 (Or.inr (hw _ (List.mem_of_getElem? (i := 16) rfl))) (ty := .int) (by decide)
  have F_precision_b1 : Fld Z h1 b1 "aestiva/ColumnType" "precision" "I" (.int (0 : Int32)) := D1 (Or.inr (hw _ (List.mem_of_getElem? (i := 18) rfl))) (ty := .int) (by decide)
  have F_scale_b1 : Fld Z h1 b1 "aestiva/ColumnType" "scale" "I" (.int (0 : Int32)) := D1 (Or.inr (hw _ (List.mem_of_getElem? (i := 20) rfl))) (ty := .int) (by decide)
  have gb : n0 ≤ b1 := Nat.le_trans Z0 (Nat.le_of_eq g1.symm)
  obtain ⟨_, _, ⟨T2, L2, k2, n2⟩, -, X2, ⟨Lc2, hQ2, l2, y2, z2⟩, st2⟩ := X1.specialBack hx (y := (⟨"aestiva/ColumnType", "<init>", "(III)V"⟩ : MethodName)) rfl hown (mvT hZ (hw _ (List.mem_of_getElem? (i := 4) rfl))) (mvT hZ (hw _ (List.mem_of_getElem? (i := 5) rfl))) (mvT hZ (hw _ (List.mem_of_getElem? (i := 6) rfl))) (by decide) (backOf (W := 1) (rm1 l Z a0 hw [] b1 t p3 sc h1 n0 (Nat.le_trans Z0 E1.1) A1 F_sqlType_b1 F_precision_b1 F_scale_b1 gb) hZ (hw _ (List.mem_of_getElem? (i := 6) rfl)) (hw _ (List.mem_of_getElem? (i := 3) rfl)) (by decide) (by decide)) (g := (mkF m 111 #[.val (.int p1), .val (.int p2), .val (.int p3), .val (.int p4), .val (.int p5), .val (.int t), .val (.int sc), .val (.int fl), .val (.int ex), .unset] [(.int sc), (.int p3), (.int t), (.ref b1), (.ref b1)])) rfl (by rw [hml]; rfl) (Steps.refl _) (a := b1) (argsL := [(.int t), (.int p3), (.int sc)]) (rest := [(.ref b1)]) (lenOf pd_at__III_V rfl) rfl (by show 2 * 0 + _ ≤ _; exact Nat.le_of_eq rfl) (hb hby at_111) (fun _ _ => ⟨rfl, e1, (by decide : 1 + 0 ≤ _), (by decide : 3 + 0 ≤ _)⟩)
  dsimp only [Pt.U, Pt.locs, Pt.cells, Pt.slots] at X2 l2 y2 z2 st2 hQ2
  subst l2 y2 z2
  obtain ⟨rfl, N2q, K2, E2, Ft2, Fs2⟩ := hQ2
  have N2 := Fr.app N0 N2q
  obtain ⟨cq3, kq3, q3a, q3b, q3c⟩ := isOf hZ rfl E2
  obtain ⟨_, _, ⟨T3, L3, k3, n3⟩, -, X3, ⟨Lc3, hQ3, l3, y3, z3⟩, st3⟩ := X2.virtualBack hx (y := (⟨"aestiva/ColumnType", "tellsRounding", "()Z"⟩ : MethodName)) (z := (⟨"aestiva/ColumnType", "tellsRounding", "()Z"⟩ : MethodName)) hown (mvT hZ (hw _ (List.mem_of_getElem? (i := 21) rfl))) (mvT hZ (hw _ (List.mem_of_getElem? (i := 22) rfl))) (notFace_of_selects (args := #[]) (mvT hZ (hw _ (List.mem_of_getElem? (i := 24) rfl)))) (mvT hZ (hw _ (List.mem_of_getElem? (i := 24) rfl))) (mvT hZ (hw _ (List.mem_of_getElem? (i := 23) rfl))) (by decide) (backOf (W := 0) (rm3 l Z a0 hw [] b1 t sc T2.heap n0 (Nat.le_trans (Nat.le_trans Z0 E1.1) K2.1) Ft2 Fs2) hZ (hw _ (List.mem_of_getElem? (i := 25) rfl)) (hw _ (List.mem_of_getElem? (i := 3) rfl)) (by decide) (by decide)) q3a q3c (g := (mkF m 118 #[.val (.int p1), .val (.int p2), .val (.int p3), .val (.int p4), .val (.int p5), .val (.int t), .val (.int sc), .val (.int fl), .val (.int ex), .val (.ref b1)] [(.ref b1)])) rfl (by rw [hml]; rfl) (Steps.refl _) (argsL := []) (rest := []) (lenOf pd_at___Z rfl) rfl (by show 2 * 0 + _ ≤ _; exact Nat.le_of_eq rfl) (hb hby at_118) (fun _ _ => ⟨rfl, rfl, (by decide : 1 + 0 ≤ _), (by decide : 3 + 0 ≤ _)⟩)
  dsimp only [Pt.U, Pt.locs, Pt.cells, Pt.slots] at X3 l3 y3 z3 st3 hQ3
  subst l3 y3 z3
  obtain ⟨rfl, N3q, e3⟩ := hQ3
  have N3 := Fr.app N2 N3q
  obtain ⟨fs, hr, hrun, hended, hW, hsame⟩ := X3.leave (v := some (.int (1 : Int32))) (fun h => by rw [Bd.returns] at h; cases h)
  refine ⟨_, _, pre0 _ ?_, hrun, hended, _, _, rfl, ?_, ⟨_, rfl⟩, hW, hsame.mono (by decide) (by decide)⟩
  · show Steps p.tables e below (s₁.setTop (mkF m 0 #[.val (.int p1), .val (.int p2), .val (.int p3), .val (.int p4), .val (.int p5), .unset, .unset, .unset, .unset, .unset] [])) _
    refine XS.iloadN X0.here hx rfl (hb hby at_0) rfl ?_
    show Steps p.tables e below (s₁.setTop (mkF m 1 #[.val (.int p1), .val (.int p2), .val (.int p3), .val (.int p4), .val (.int p5), .unset, .unset, .unset, .unset, .unset] [(.int p1)])) _
    refine XS.iconst X0.here hx rfl (hb hby at_1) ?_
    show Steps p.tables e below (s₁.setTop (mkF m 2 #[.val (.int p1), .val (.int p2), .val (.int p3), .val (.int p4), .val (.int p5), .unset, .unset, .unset, .unset, .unset] [(.int (1 : Int32)), (.int p1)])) _
    refine XS.iand X0.here hx rfl (hb hby at_2) rfl ?_
    show Steps p.tables e below (s₁.setTop (mkF m 3 #[.val (.int p1), .val (.int p2), .val (.int p3), .val (.int p4), .val (.int p5), .unset, .unset, .unset, .unset, .unset] [(.int (p1 &&& (1 : Int32)))])) _
    have sg3 : ∀ target, Steps p.tables e below (s₁.setTop (mkF m 19 #[.val (.int p1), .val (.int p2), .val (.int p3), .val (.int p4), .val (.int p5), .unset, .unset, .unset, .unset, .unset] [(.int (if (p1 &&& (1 : Int32)) = (0 : Int32) then ((((p1.toUInt32 >>> ((1 : Int32) &&& 31).toUInt32).toInt32) &&& (31 : Int32)) - (10 : Int32)) else p2))])) target → Steps p.tables e below (s₁.setTop (mkF m 3 #[.val (.int p1), .val (.int p2), .val (.int p3), .val (.int p4), .val (.int p5), .unset, .unset, .unset, .unset, .unset] [(.int (p1 &&& (1 : Int32)))])) target := by
      intro target kt
      rcases Classical.em ((p1 &&& (1 : Int32)) = (0 : Int32)) with hr3_0 | hr3_0
      · (try simp only [if_pos hr3_0] at kt)
        refine XS.ifYes X0.here hx rfl (pc0 := 3) (pc' := 10) rfl (hb hby at_3) rfl ((if0 _ _).trans (teq hr3_0).1) (by decide) (by decide) ?_
        show Steps p.tables e below (s₁.setTop (mkF m 10 #[.val (.int p1), .val (.int p2), .val (.int p3), .val (.int p4), .val (.int p5), .unset, .unset, .unset, .unset, .unset] [])) _
        refine XS.iloadN X0.here hx rfl (hb hby at_10) rfl ?_
        show Steps p.tables e below (s₁.setTop (mkF m 11 #[.val (.int p1), .val (.int p2), .val (.int p3), .val (.int p4), .val (.int p5), .unset, .unset, .unset, .unset, .unset] [(.int p1)])) _
        refine XS.iconst X0.here hx rfl (hb hby at_11) ?_
        show Steps p.tables e below (s₁.setTop (mkF m 12 #[.val (.int p1), .val (.int p2), .val (.int p3), .val (.int p4), .val (.int p5), .unset, .unset, .unset, .unset, .unset] [(.int (1 : Int32)), (.int p1)])) _
        refine XS.iushr X0.here hx rfl (hb hby at_12) rfl ?_
        show Steps p.tables e below (s₁.setTop (mkF m 13 #[.val (.int p1), .val (.int p2), .val (.int p3), .val (.int p4), .val (.int p5), .unset, .unset, .unset, .unset, .unset] [(.int ((p1.toUInt32 >>> ((1 : Int32) &&& 31).toUInt32).toInt32))])) _
        refine XS.bipush X0.here hx rfl (hb hby at_13) ?_
        show Steps p.tables e below (s₁.setTop (mkF m 15 #[.val (.int p1), .val (.int p2), .val (.int p3), .val (.int p4), .val (.int p5), .unset, .unset, .unset, .unset, .unset] [(.int (31 : Int32)), (.int ((p1.toUInt32 >>> ((1 : Int32) &&& 31).toUInt32).toInt32))])) _
        refine XS.iand X0.here hx rfl (hb hby at_15) rfl ?_
        show Steps p.tables e below (s₁.setTop (mkF m 16 #[.val (.int p1), .val (.int p2), .val (.int p3), .val (.int p4), .val (.int p5), .unset, .unset, .unset, .unset, .unset] [(.int (((p1.toUInt32 >>> ((1 : Int32) &&& 31).toUInt32).toInt32) &&& (31 : Int32)))])) _
        refine XS.bipush X0.here hx rfl (hb hby at_16) ?_
        show Steps p.tables e below (s₁.setTop (mkF m 18 #[.val (.int p1), .val (.int p2), .val (.int p3), .val (.int p4), .val (.int p5), .unset, .unset, .unset, .unset, .unset] [(.int (10 : Int32)), (.int (((p1.toUInt32 >>> ((1 : Int32) &&& 31).toUInt32).toInt32) &&& (31 : Int32)))])) _
        refine XS.isub X0.here hx rfl (hb hby at_18) rfl ?_
        show Steps p.tables e below (s₁.setTop (mkF m 19 #[.val (.int p1), .val (.int p2), .val (.int p3), .val (.int p4), .val (.int p5), .unset, .unset, .unset, .unset, .unset] [(.int ((((p1.toUInt32 >>> ((1 : Int32) &&& 31).toUInt32).toInt32) &&& (31 : Int32)) - (10 : Int32)))])) _
        exact kt
      · (try simp only [if_neg hr3_0] at kt)
        refine XS.ifNo X0.here hx rfl (hb hby at_3) rfl ((if0 _ _).trans (feq hr3_0).1) ?_
        show Steps p.tables e below (s₁.setTop (mkF m 6 #[.val (.int p1), .val (.int p2), .val (.int p3), .val (.int p4), .val (.int p5), .unset, .unset, .unset, .unset, .unset] [])) _
        refine XS.iloadN X0.here hx rfl (hb hby at_6) rfl ?_
        show Steps p.tables e below (s₁.setTop (mkF m 7 #[.val (.int p1), .val (.int p2), .val (.int p3), .val (.int p4), .val (.int p5), .unset, .unset, .unset, .unset, .unset] [(.int p2)])) _
        refine XS.goto X0.here hx rfl (pc0 := 7) (pc' := 19) rfl (hb hby at_7) (by decide) (by decide) ?_
        show Steps p.tables e below (s₁.setTop (mkF m 19 #[.val (.int p1), .val (.int p2), .val (.int p3), .val (.int p4), .val (.int p5), .unset, .unset, .unset, .unset, .unset] [(.int p2)])) _
        exact kt
    refine sg3 _ ?_
    show Steps p.tables e below (s₁.setTop (mkF m 19 #[.val (.int p1), .val (.int p2), .val (.int p3), .val (.int p4), .val (.int p5), .unset, .unset, .unset, .unset, .unset] [(.int (if (p1 &&& (1 : Int32)) = (0 : Int32) then ((((p1.toUInt32 >>> ((1 : Int32) &&& 31).toUInt32).toInt32) &&& (31 : Int32)) - (10 : Int32)) else p2))])) _
    rw [← h_t]
    show Steps p.tables e below (s₁.setTop (mkF m 19 #[.val (.int p1), .val (.int p2), .val (.int p3), .val (.int p4), .val (.int p5), .unset, .unset, .unset, .unset, .unset] [(.int t)])) _
    refine XS.istore X0.here hx rfl (hb hby at_19) rfl (l' := #[.val (.int p1), .val (.int p2), .val (.int p3), .val (.int p4), .val (.int p5), .val (.int t), .unset, .unset, .unset, .unset]) rfl ?_
    show Steps p.tables e below (s₁.setTop (mkF m 21 #[.val (.int p1), .val (.int p2), .val (.int p3), .val (.int p4), .val (.int p5), .val (.int t), .unset, .unset, .unset, .unset] [])) _
    refine XS.iloadN X0.here hx rfl (hb hby at_21) rfl ?_
    show Steps p.tables e below (s₁.setTop (mkF m 22 #[.val (.int p1), .val (.int p2), .val (.int p3), .val (.int p4), .val (.int p5), .val (.int t), .unset, .unset, .unset, .unset] [(.int p4)])) _
    refine XS.iconst X0.here hx rfl (hb hby at_22) ?_
    show Steps p.tables e below (s₁.setTop (mkF m 23 #[.val (.int p1), .val (.int p2), .val (.int p3), .val (.int p4), .val (.int p5), .val (.int t), .unset, .unset, .unset, .unset] [(.int (1 : Int32)), (.int p4)])) _
    refine XS.iand X0.here hx rfl (hb hby at_23) rfl ?_
    show Steps p.tables e below (s₁.setTop (mkF m 24 #[.val (.int p1), .val (.int p2), .val (.int p3), .val (.int p4), .val (.int p5), .val (.int t), .unset, .unset, .unset, .unset] [(.int (p4 &&& (1 : Int32)))])) _
    have sg24 : ∀ target, Steps p.tables e below (s₁.setTop (mkF m 34 #[.val (.int p1), .val (.int p2), .val (.int p3), .val (.int p4), .val (.int p5), .val (.int t), .unset, .unset, .unset, .unset] [(.int (if (p4 &&& (1 : Int32)) = (0 : Int32) then p5 else (-2147483648 : Int32)))])) target → Steps p.tables e below (s₁.setTop (mkF m 24 #[.val (.int p1), .val (.int p2), .val (.int p3), .val (.int p4), .val (.int p5), .val (.int t), .unset, .unset, .unset, .unset] [(.int (p4 &&& (1 : Int32)))])) target := by
      intro target kt
      rcases Classical.em ((p4 &&& (1 : Int32)) = (0 : Int32)) with hr24_0 | hr24_0
      · (try simp only [if_pos hr24_0] at kt)
        refine XS.ifYes X0.here hx rfl (pc0 := 24) (pc' := 32) rfl (hb hby at_24) rfl ((if0 _ _).trans (teq hr24_0).1) (by decide) (by decide) ?_
        show Steps p.tables e below (s₁.setTop (mkF m 32 #[.val (.int p1), .val (.int p2), .val (.int p3), .val (.int p4), .val (.int p5), .val (.int t), .unset, .unset, .unset, .unset] [])) _
        refine XS.iload X0.here hx rfl (hb hby at_32) rfl ?_
        show Steps p.tables e below (s₁.setTop (mkF m 34 #[.val (.int p1), .val (.int p2), .val (.int p3), .val (.int p4), .val (.int p5), .val (.int t), .unset, .unset, .unset, .unset] [(.int p5)])) _
        exact kt
      · (try simp only [if_neg hr24_0] at kt)
        refine XS.ifNo X0.here hx rfl (hb hby at_24) rfl ((if0 _ _).trans (feq hr24_0).1) ?_
        show Steps p.tables e below (s₁.setTop (mkF m 27 #[.val (.int p1), .val (.int p2), .val (.int p3), .val (.int p4), .val (.int p5), .val (.int t), .unset, .unset, .unset, .unset] [])) _
        refine X0.ldcInt hx hown (mvT hZ (hw _ (List.mem_of_getElem? (i := 0) rfl))) (g := (mkF m 27 #[.val (.int p1), .val (.int p2), .val (.int p3), .val (.int p4), .val (.int p5), .val (.int t), .unset, .unset, .unset, .unset] [])) rfl (hb hby at_27) _ ?_
        show Steps p.tables e below (s₁.setTop (mkF m 29 #[.val (.int p1), .val (.int p2), .val (.int p3), .val (.int p4), .val (.int p5), .val (.int t), .unset, .unset, .unset, .unset] [(.int (-2147483648 : Int32))])) _
        refine XS.goto X0.here hx rfl (pc0 := 29) (pc' := 34) rfl (hb hby at_29) (by decide) (by decide) ?_
        show Steps p.tables e below (s₁.setTop (mkF m 34 #[.val (.int p1), .val (.int p2), .val (.int p3), .val (.int p4), .val (.int p5), .val (.int t), .unset, .unset, .unset, .unset] [(.int (-2147483648 : Int32))])) _
        exact kt
    refine sg24 _ ?_
    show Steps p.tables e below (s₁.setTop (mkF m 34 #[.val (.int p1), .val (.int p2), .val (.int p3), .val (.int p4), .val (.int p5), .val (.int t), .unset, .unset, .unset, .unset] [(.int (if (p4 &&& (1 : Int32)) = (0 : Int32) then p5 else (-2147483648 : Int32)))])) _
    rw [← h_sc]
    show Steps p.tables e below (s₁.setTop (mkF m 34 #[.val (.int p1), .val (.int p2), .val (.int p3), .val (.int p4), .val (.int p5), .val (.int t), .unset, .unset, .unset, .unset] [(.int sc)])) _
    refine XS.istore X0.here hx rfl (hb hby at_34) rfl (l' := #[.val (.int p1), .val (.int p2), .val (.int p3), .val (.int p4), .val (.int p5), .val (.int t), .val (.int sc), .unset, .unset, .unset]) rfl ?_
    show Steps p.tables e below (s₁.setTop (mkF m 36 #[.val (.int p1), .val (.int p2), .val (.int p3), .val (.int p4), .val (.int p5), .val (.int t), .val (.int sc), .unset, .unset, .unset] [])) _
    refine XS.iload X0.here hx rfl (hb hby at_36) rfl ?_
    show Steps p.tables e below (s₁.setTop (mkF m 38 #[.val (.int p1), .val (.int p2), .val (.int p3), .val (.int p4), .val (.int p5), .val (.int t), .val (.int sc), .unset, .unset, .unset] [(.int sc)])) _
    refine X0.ldcInt hx hown (mvT hZ (hw _ (List.mem_of_getElem? (i := 0) rfl))) (g := (mkF m 38 #[.val (.int p1), .val (.int p2), .val (.int p3), .val (.int p4), .val (.int p5), .val (.int t), .val (.int sc), .unset, .unset, .unset] [(.int sc)])) rfl (hb hby at_38) _ ?_
    show Steps p.tables e below (s₁.setTop (mkF m 40 #[.val (.int p1), .val (.int p2), .val (.int p3), .val (.int p4), .val (.int p5), .val (.int t), .val (.int sc), .unset, .unset, .unset] [(.int (-2147483648 : Int32)), (.int sc)])) _
    have sg40 : ∀ target, Steps p.tables e below (s₁.setTop (mkF m 48 #[.val (.int p1), .val (.int p2), .val (.int p3), .val (.int p4), .val (.int p5), .val (.int t), .val (.int sc), .unset, .unset, .unset] [(.int (if sc = (-2147483648 : Int32) then (1 : Int32) else (0 : Int32)))])) target → Steps p.tables e below (s₁.setTop (mkF m 40 #[.val (.int p1), .val (.int p2), .val (.int p3), .val (.int p4), .val (.int p5), .val (.int t), .val (.int sc), .unset, .unset, .unset] [(.int (-2147483648 : Int32)), (.int sc)])) target := by
      intro target kt
      rcases Classical.em (sc = (-2147483648 : Int32)) with hr40_0 | hr40_0
      · (try simp only [if_pos hr40_0] at kt)
        refine XS.icmpNo X0.here hx rfl (hb hby at_40) rfl (teq hr40_0).2 ?_
        show Steps p.tables e below (s₁.setTop (mkF m 43 #[.val (.int p1), .val (.int p2), .val (.int p3), .val (.int p4), .val (.int p5), .val (.int t), .val (.int sc), .unset, .unset, .unset] [])) _
        refine XS.iconst X0.here hx rfl (hb hby at_43) ?_
        show Steps p.tables e below (s₁.setTop (mkF m 44 #[.val (.int p1), .val (.int p2), .val (.int p3), .val (.int p4), .val (.int p5), .val (.int t), .val (.int sc), .unset, .unset, .unset] [(.int (1 : Int32))])) _
        refine XS.goto X0.here hx rfl (pc0 := 44) (pc' := 48) rfl (hb hby at_44) (by decide) (by decide) ?_
        show Steps p.tables e below (s₁.setTop (mkF m 48 #[.val (.int p1), .val (.int p2), .val (.int p3), .val (.int p4), .val (.int p5), .val (.int t), .val (.int sc), .unset, .unset, .unset] [(.int (1 : Int32))])) _
        exact kt
      · (try simp only [if_neg hr40_0] at kt)
        refine XS.icmpYes X0.here hx rfl (pc0 := 40) (pc' := 47) rfl (hb hby at_40) rfl (feq hr40_0).2 (by decide) (by decide) ?_
        show Steps p.tables e below (s₁.setTop (mkF m 47 #[.val (.int p1), .val (.int p2), .val (.int p3), .val (.int p4), .val (.int p5), .val (.int t), .val (.int sc), .unset, .unset, .unset] [])) _
        refine XS.iconst X0.here hx rfl (hb hby at_47) ?_
        show Steps p.tables e below (s₁.setTop (mkF m 48 #[.val (.int p1), .val (.int p2), .val (.int p3), .val (.int p4), .val (.int p5), .val (.int t), .val (.int sc), .unset, .unset, .unset] [(.int (0 : Int32))])) _
        exact kt
    refine sg40 _ ?_
    show Steps p.tables e below (s₁.setTop (mkF m 48 #[.val (.int p1), .val (.int p2), .val (.int p3), .val (.int p4), .val (.int p5), .val (.int t), .val (.int sc), .unset, .unset, .unset] [(.int (if sc = (-2147483648 : Int32) then (1 : Int32) else (0 : Int32)))])) _
    rw [← h_fl]
    show Steps p.tables e below (s₁.setTop (mkF m 48 #[.val (.int p1), .val (.int p2), .val (.int p3), .val (.int p4), .val (.int p5), .val (.int t), .val (.int sc), .unset, .unset, .unset] [(.int fl)])) _
    refine XS.istore X0.here hx rfl (hb hby at_48) rfl (l' := #[.val (.int p1), .val (.int p2), .val (.int p3), .val (.int p4), .val (.int p5), .val (.int t), .val (.int sc), .val (.int fl), .unset, .unset]) rfl ?_
    show Steps p.tables e below (s₁.setTop (mkF m 50 #[.val (.int p1), .val (.int p2), .val (.int p3), .val (.int p4), .val (.int p5), .val (.int t), .val (.int sc), .val (.int fl), .unset, .unset] [])) _
    refine XS.iload X0.here hx rfl (hb hby at_50) rfl ?_
    show Steps p.tables e below (s₁.setTop (mkF m 52 #[.val (.int p1), .val (.int p2), .val (.int p3), .val (.int p4), .val (.int p5), .val (.int t), .val (.int sc), .val (.int fl), .unset, .unset] [(.int t)])) _
    refine XS.bipush X0.here hx rfl (hb hby at_52) ?_
    show Steps p.tables e below (s₁.setTop (mkF m 54 #[.val (.int p1), .val (.int p2), .val (.int p3), .val (.int p4), .val (.int p5), .val (.int t), .val (.int sc), .val (.int fl), .unset, .unset] [(.int (-6 : Int32)), (.int t)])) _
    have sg54 : ∀ target, Steps p.tables e below (s₁.setTop (mkF m 100 #[.val (.int p1), .val (.int p2), .val (.int p3), .val (.int p4), .val (.int p5), .val (.int t), .val (.int sc), .val (.int fl), .unset, .unset] [(.int (if t < (-6 : Int32) then (if t < (2 : Int32) then (if t < (6 : Int32) then (0 : Int32) else (if (8 : Int32) < t then (0 : Int32) else (if fl = (0 : Int32) then (0 : Int32) else (1 : Int32)))) else (if (5 : Int32) < t then (if t < (6 : Int32) then (0 : Int32) else (if (8 : Int32) < t then (0 : Int32) else (if fl = (0 : Int32) then (0 : Int32) else (1 : Int32)))) else (1 : Int32))) else (if (-5 : Int32) < t then (if t < (2 : Int32) then (if t < (6 : Int32) then (0 : Int32) else (if (8 : Int32) < t then (0 : Int32) else (if fl = (0 : Int32) then (0 : Int32) else (1 : Int32)))) else (if (5 : Int32) < t then (if t < (6 : Int32) then (0 : Int32) else (if (8 : Int32) < t then (0 : Int32) else (if fl = (0 : Int32) then (0 : Int32) else (1 : Int32)))) else (1 : Int32))) else (1 : Int32))))])) target → Steps p.tables e below (s₁.setTop (mkF m 54 #[.val (.int p1), .val (.int p2), .val (.int p3), .val (.int p4), .val (.int p5), .val (.int t), .val (.int sc), .val (.int fl), .unset, .unset] [(.int (-6 : Int32)), (.int t)])) target := by
      intro target kt
      rcases Classical.em (t < (-6 : Int32)) with hr54_0 | hr54_0
      · (try simp only [if_pos hr54_0] at kt)
        refine XS.icmpYes X0.here hx rfl (pc0 := 54) (pc' := 64) rfl (hb hby at_54) rfl (tlt hr54_0).1 (by decide) (by decide) ?_
        show Steps p.tables e below (s₁.setTop (mkF m 64 #[.val (.int p1), .val (.int p2), .val (.int p3), .val (.int p4), .val (.int p5), .val (.int t), .val (.int sc), .val (.int fl), .unset, .unset] [])) _
        refine XS.iload X0.here hx rfl (hb hby at_64) rfl ?_
        show Steps p.tables e below (s₁.setTop (mkF m 66 #[.val (.int p1), .val (.int p2), .val (.int p3), .val (.int p4), .val (.int p5), .val (.int t), .val (.int sc), .val (.int fl), .unset, .unset] [(.int t)])) _
        refine XS.iconst X0.here hx rfl (hb hby at_66) ?_
        show Steps p.tables e below (s₁.setTop (mkF m 67 #[.val (.int p1), .val (.int p2), .val (.int p3), .val (.int p4), .val (.int p5), .val (.int t), .val (.int sc), .val (.int fl), .unset, .unset] [(.int (2 : Int32)), (.int t)])) _
        rcases Classical.em (t < (2 : Int32)) with hr67_1 | hr67_1
        · (try simp only [if_pos hr67_1] at kt)
          refine XS.icmpYes X0.here hx rfl (pc0 := 67) (pc' := 76) rfl (hb hby at_67) rfl (tlt hr67_1).1 (by decide) (by decide) ?_
          show Steps p.tables e below (s₁.setTop (mkF m 76 #[.val (.int p1), .val (.int p2), .val (.int p3), .val (.int p4), .val (.int p5), .val (.int t), .val (.int sc), .val (.int fl), .unset, .unset] [])) _
          refine XS.iload X0.here hx rfl (hb hby at_76) rfl ?_
          show Steps p.tables e below (s₁.setTop (mkF m 78 #[.val (.int p1), .val (.int p2), .val (.int p3), .val (.int p4), .val (.int p5), .val (.int t), .val (.int sc), .val (.int fl), .unset, .unset] [(.int t)])) _
          refine XS.bipush X0.here hx rfl (hb hby at_78) ?_
          show Steps p.tables e below (s₁.setTop (mkF m 80 #[.val (.int p1), .val (.int p2), .val (.int p3), .val (.int p4), .val (.int p5), .val (.int t), .val (.int sc), .val (.int fl), .unset, .unset] [(.int (6 : Int32)), (.int t)])) _
          rcases Classical.em (t < (6 : Int32)) with hr80_2 | hr80_2
          · (try simp only [if_pos hr80_2] at kt)
            refine XS.icmpYes X0.here hx rfl (pc0 := 80) (pc' := 99) rfl (hb hby at_80) rfl (tlt hr80_2).1 (by decide) (by decide) ?_
            show Steps p.tables e below (s₁.setTop (mkF m 99 #[.val (.int p1), .val (.int p2), .val (.int p3), .val (.int p4), .val (.int p5), .val (.int t), .val (.int sc), .val (.int fl), .unset, .unset] [])) _
            refine XS.iconst X0.here hx rfl (hb hby at_99) ?_
            show Steps p.tables e below (s₁.setTop (mkF m 100 #[.val (.int p1), .val (.int p2), .val (.int p3), .val (.int p4), .val (.int p5), .val (.int t), .val (.int sc), .val (.int fl), .unset, .unset] [(.int (0 : Int32))])) _
            exact kt
          · (try simp only [if_neg hr80_2] at kt)
            refine XS.icmpNo X0.here hx rfl (hb hby at_80) rfl (flt hr80_2).1 ?_
            show Steps p.tables e below (s₁.setTop (mkF m 83 #[.val (.int p1), .val (.int p2), .val (.int p3), .val (.int p4), .val (.int p5), .val (.int t), .val (.int sc), .val (.int fl), .unset, .unset] [])) _
            refine XS.iload X0.here hx rfl (hb hby at_83) rfl ?_
            show Steps p.tables e below (s₁.setTop (mkF m 85 #[.val (.int p1), .val (.int p2), .val (.int p3), .val (.int p4), .val (.int p5), .val (.int t), .val (.int sc), .val (.int fl), .unset, .unset] [(.int t)])) _
            refine XS.bipush X0.here hx rfl (hb hby at_85) ?_
            show Steps p.tables e below (s₁.setTop (mkF m 87 #[.val (.int p1), .val (.int p2), .val (.int p3), .val (.int p4), .val (.int p5), .val (.int t), .val (.int sc), .val (.int fl), .unset, .unset] [(.int (8 : Int32)), (.int t)])) _
            rcases Classical.em ((8 : Int32) < t) with hr87_3 | hr87_3
            · (try simp only [if_pos hr87_3] at kt)
              refine XS.icmpYes X0.here hx rfl (pc0 := 87) (pc' := 99) rfl (hb hby at_87) rfl (tlt hr87_3).2.2.1 (by decide) (by decide) ?_
              show Steps p.tables e below (s₁.setTop (mkF m 99 #[.val (.int p1), .val (.int p2), .val (.int p3), .val (.int p4), .val (.int p5), .val (.int t), .val (.int sc), .val (.int fl), .unset, .unset] [])) _
              refine XS.iconst X0.here hx rfl (hb hby at_99) ?_
              show Steps p.tables e below (s₁.setTop (mkF m 100 #[.val (.int p1), .val (.int p2), .val (.int p3), .val (.int p4), .val (.int p5), .val (.int t), .val (.int sc), .val (.int fl), .unset, .unset] [(.int (0 : Int32))])) _
              exact kt
            · (try simp only [if_neg hr87_3] at kt)
              refine XS.icmpNo X0.here hx rfl (hb hby at_87) rfl (flt hr87_3).2.2.1 ?_
              show Steps p.tables e below (s₁.setTop (mkF m 90 #[.val (.int p1), .val (.int p2), .val (.int p3), .val (.int p4), .val (.int p5), .val (.int t), .val (.int sc), .val (.int fl), .unset, .unset] [])) _
              refine XS.iload X0.here hx rfl (hb hby at_90) rfl ?_
              show Steps p.tables e below (s₁.setTop (mkF m 92 #[.val (.int p1), .val (.int p2), .val (.int p3), .val (.int p4), .val (.int p5), .val (.int t), .val (.int sc), .val (.int fl), .unset, .unset] [(.int fl)])) _
              rcases Classical.em (fl = (0 : Int32)) with hr92_4 | hr92_4
              · (try simp only [if_pos hr92_4] at kt)
                refine XS.ifYes X0.here hx rfl (pc0 := 92) (pc' := 99) rfl (hb hby at_92) rfl ((if0 _ _).trans (teq hr92_4).1) (by decide) (by decide) ?_
                show Steps p.tables e below (s₁.setTop (mkF m 99 #[.val (.int p1), .val (.int p2), .val (.int p3), .val (.int p4), .val (.int p5), .val (.int t), .val (.int sc), .val (.int fl), .unset, .unset] [])) _
                refine XS.iconst X0.here hx rfl (hb hby at_99) ?_
                show Steps p.tables e below (s₁.setTop (mkF m 100 #[.val (.int p1), .val (.int p2), .val (.int p3), .val (.int p4), .val (.int p5), .val (.int t), .val (.int sc), .val (.int fl), .unset, .unset] [(.int (0 : Int32))])) _
                exact kt
              · (try simp only [if_neg hr92_4] at kt)
                refine XS.ifNo X0.here hx rfl (hb hby at_92) rfl ((if0 _ _).trans (feq hr92_4).1) ?_
                show Steps p.tables e below (s₁.setTop (mkF m 95 #[.val (.int p1), .val (.int p2), .val (.int p3), .val (.int p4), .val (.int p5), .val (.int t), .val (.int sc), .val (.int fl), .unset, .unset] [])) _
                refine XS.iconst X0.here hx rfl (hb hby at_95) ?_
                show Steps p.tables e below (s₁.setTop (mkF m 96 #[.val (.int p1), .val (.int p2), .val (.int p3), .val (.int p4), .val (.int p5), .val (.int t), .val (.int sc), .val (.int fl), .unset, .unset] [(.int (1 : Int32))])) _
                refine XS.goto X0.here hx rfl (pc0 := 96) (pc' := 100) rfl (hb hby at_96) (by decide) (by decide) ?_
                show Steps p.tables e below (s₁.setTop (mkF m 100 #[.val (.int p1), .val (.int p2), .val (.int p3), .val (.int p4), .val (.int p5), .val (.int t), .val (.int sc), .val (.int fl), .unset, .unset] [(.int (1 : Int32))])) _
                exact kt
        · (try simp only [if_neg hr67_1] at kt)
          refine XS.icmpNo X0.here hx rfl (hb hby at_67) rfl (flt hr67_1).1 ?_
          show Steps p.tables e below (s₁.setTop (mkF m 70 #[.val (.int p1), .val (.int p2), .val (.int p3), .val (.int p4), .val (.int p5), .val (.int t), .val (.int sc), .val (.int fl), .unset, .unset] [])) _
          refine XS.iload X0.here hx rfl (hb hby at_70) rfl ?_
          show Steps p.tables e below (s₁.setTop (mkF m 72 #[.val (.int p1), .val (.int p2), .val (.int p3), .val (.int p4), .val (.int p5), .val (.int t), .val (.int sc), .val (.int fl), .unset, .unset] [(.int t)])) _
          refine XS.iconst X0.here hx rfl (hb hby at_72) ?_
          show Steps p.tables e below (s₁.setTop (mkF m 73 #[.val (.int p1), .val (.int p2), .val (.int p3), .val (.int p4), .val (.int p5), .val (.int t), .val (.int sc), .val (.int fl), .unset, .unset] [(.int (5 : Int32)), (.int t)])) _
          rcases Classical.em ((5 : Int32) < t) with hr73_2 | hr73_2
          · (try simp only [if_pos hr73_2] at kt)
            refine XS.icmpNo X0.here hx rfl (hb hby at_73) rfl (tlt hr73_2).2.2.2 ?_
            show Steps p.tables e below (s₁.setTop (mkF m 76 #[.val (.int p1), .val (.int p2), .val (.int p3), .val (.int p4), .val (.int p5), .val (.int t), .val (.int sc), .val (.int fl), .unset, .unset] [])) _
            refine XS.iload X0.here hx rfl (hb hby at_76) rfl ?_
            show Steps p.tables e below (s₁.setTop (mkF m 78 #[.val (.int p1), .val (.int p2), .val (.int p3), .val (.int p4), .val (.int p5), .val (.int t), .val (.int sc), .val (.int fl), .unset, .unset] [(.int t)])) _
            refine XS.bipush X0.here hx rfl (hb hby at_78) ?_
            show Steps p.tables e below (s₁.setTop (mkF m 80 #[.val (.int p1), .val (.int p2), .val (.int p3), .val (.int p4), .val (.int p5), .val (.int t), .val (.int sc), .val (.int fl), .unset, .unset] [(.int (6 : Int32)), (.int t)])) _
            rcases Classical.em (t < (6 : Int32)) with hr80_3 | hr80_3
            · (try simp only [if_pos hr80_3] at kt)
              refine XS.icmpYes X0.here hx rfl (pc0 := 80) (pc' := 99) rfl (hb hby at_80) rfl (tlt hr80_3).1 (by decide) (by decide) ?_
              show Steps p.tables e below (s₁.setTop (mkF m 99 #[.val (.int p1), .val (.int p2), .val (.int p3), .val (.int p4), .val (.int p5), .val (.int t), .val (.int sc), .val (.int fl), .unset, .unset] [])) _
              refine XS.iconst X0.here hx rfl (hb hby at_99) ?_
              show Steps p.tables e below (s₁.setTop (mkF m 100 #[.val (.int p1), .val (.int p2), .val (.int p3), .val (.int p4), .val (.int p5), .val (.int t), .val (.int sc), .val (.int fl), .unset, .unset] [(.int (0 : Int32))])) _
              exact kt
            · (try simp only [if_neg hr80_3] at kt)
              refine XS.icmpNo X0.here hx rfl (hb hby at_80) rfl (flt hr80_3).1 ?_
              show Steps p.tables e below (s₁.setTop (mkF m 83 #[.val (.int p1), .val (.int p2), .val (.int p3), .val (.int p4), .val (.int p5), .val (.int t), .val (.int sc), .val (.int fl), .unset, .unset] [])) _
              refine XS.iload X0.here hx rfl (hb hby at_83) rfl ?_
              show Steps p.tables e below (s₁.setTop (mkF m 85 #[.val (.int p1), .val (.int p2), .val (.int p3), .val (.int p4), .val (.int p5), .val (.int t), .val (.int sc), .val (.int fl), .unset, .unset] [(.int t)])) _
              refine XS.bipush X0.here hx rfl (hb hby at_85) ?_
              show Steps p.tables e below (s₁.setTop (mkF m 87 #[.val (.int p1), .val (.int p2), .val (.int p3), .val (.int p4), .val (.int p5), .val (.int t), .val (.int sc), .val (.int fl), .unset, .unset] [(.int (8 : Int32)), (.int t)])) _
              rcases Classical.em ((8 : Int32) < t) with hr87_4 | hr87_4
              · (try simp only [if_pos hr87_4] at kt)
                refine XS.icmpYes X0.here hx rfl (pc0 := 87) (pc' := 99) rfl (hb hby at_87) rfl (tlt hr87_4).2.2.1 (by decide) (by decide) ?_
                show Steps p.tables e below (s₁.setTop (mkF m 99 #[.val (.int p1), .val (.int p2), .val (.int p3), .val (.int p4), .val (.int p5), .val (.int t), .val (.int sc), .val (.int fl), .unset, .unset] [])) _
                refine XS.iconst X0.here hx rfl (hb hby at_99) ?_
                show Steps p.tables e below (s₁.setTop (mkF m 100 #[.val (.int p1), .val (.int p2), .val (.int p3), .val (.int p4), .val (.int p5), .val (.int t), .val (.int sc), .val (.int fl), .unset, .unset] [(.int (0 : Int32))])) _
                exact kt
              · (try simp only [if_neg hr87_4] at kt)
                refine XS.icmpNo X0.here hx rfl (hb hby at_87) rfl (flt hr87_4).2.2.1 ?_
                show Steps p.tables e below (s₁.setTop (mkF m 90 #[.val (.int p1), .val (.int p2), .val (.int p3), .val (.int p4), .val (.int p5), .val (.int t), .val (.int sc), .val (.int fl), .unset, .unset] [])) _
                refine XS.iload X0.here hx rfl (hb hby at_90) rfl ?_
                show Steps p.tables e below (s₁.setTop (mkF m 92 #[.val (.int p1), .val (.int p2), .val (.int p3), .val (.int p4), .val (.int p5), .val (.int t), .val (.int sc), .val (.int fl), .unset, .unset] [(.int fl)])) _
                rcases Classical.em (fl = (0 : Int32)) with hr92_5 | hr92_5
                · (try simp only [if_pos hr92_5] at kt)
                  refine XS.ifYes X0.here hx rfl (pc0 := 92) (pc' := 99) rfl (hb hby at_92) rfl ((if0 _ _).trans (teq hr92_5).1) (by decide) (by decide) ?_
                  show Steps p.tables e below (s₁.setTop (mkF m 99 #[.val (.int p1), .val (.int p2), .val (.int p3), .val (.int p4), .val (.int p5), .val (.int t), .val (.int sc), .val (.int fl), .unset, .unset] [])) _
                  refine XS.iconst X0.here hx rfl (hb hby at_99) ?_
                  show Steps p.tables e below (s₁.setTop (mkF m 100 #[.val (.int p1), .val (.int p2), .val (.int p3), .val (.int p4), .val (.int p5), .val (.int t), .val (.int sc), .val (.int fl), .unset, .unset] [(.int (0 : Int32))])) _
                  exact kt
                · (try simp only [if_neg hr92_5] at kt)
                  refine XS.ifNo X0.here hx rfl (hb hby at_92) rfl ((if0 _ _).trans (feq hr92_5).1) ?_
                  show Steps p.tables e below (s₁.setTop (mkF m 95 #[.val (.int p1), .val (.int p2), .val (.int p3), .val (.int p4), .val (.int p5), .val (.int t), .val (.int sc), .val (.int fl), .unset, .unset] [])) _
                  refine XS.iconst X0.here hx rfl (hb hby at_95) ?_
                  show Steps p.tables e below (s₁.setTop (mkF m 96 #[.val (.int p1), .val (.int p2), .val (.int p3), .val (.int p4), .val (.int p5), .val (.int t), .val (.int sc), .val (.int fl), .unset, .unset] [(.int (1 : Int32))])) _
                  refine XS.goto X0.here hx rfl (pc0 := 96) (pc' := 100) rfl (hb hby at_96) (by decide) (by decide) ?_
                  show Steps p.tables e below (s₁.setTop (mkF m 100 #[.val (.int p1), .val (.int p2), .val (.int p3), .val (.int p4), .val (.int p5), .val (.int t), .val (.int sc), .val (.int fl), .unset, .unset] [(.int (1 : Int32))])) _
                  exact kt
          · (try simp only [if_neg hr73_2] at kt)
            refine XS.icmpYes X0.here hx rfl (pc0 := 73) (pc' := 95) rfl (hb hby at_73) rfl (flt hr73_2).2.2.2 (by decide) (by decide) ?_
            show Steps p.tables e below (s₁.setTop (mkF m 95 #[.val (.int p1), .val (.int p2), .val (.int p3), .val (.int p4), .val (.int p5), .val (.int t), .val (.int sc), .val (.int fl), .unset, .unset] [])) _
            refine XS.iconst X0.here hx rfl (hb hby at_95) ?_
            show Steps p.tables e below (s₁.setTop (mkF m 96 #[.val (.int p1), .val (.int p2), .val (.int p3), .val (.int p4), .val (.int p5), .val (.int t), .val (.int sc), .val (.int fl), .unset, .unset] [(.int (1 : Int32))])) _
            refine XS.goto X0.here hx rfl (pc0 := 96) (pc' := 100) rfl (hb hby at_96) (by decide) (by decide) ?_
            show Steps p.tables e below (s₁.setTop (mkF m 100 #[.val (.int p1), .val (.int p2), .val (.int p3), .val (.int p4), .val (.int p5), .val (.int t), .val (.int sc), .val (.int fl), .unset, .unset] [(.int (1 : Int32))])) _
            exact kt
      · (try simp only [if_neg hr54_0] at kt)
        refine XS.icmpNo X0.here hx rfl (hb hby at_54) rfl (flt hr54_0).1 ?_
        show Steps p.tables e below (s₁.setTop (mkF m 57 #[.val (.int p1), .val (.int p2), .val (.int p3), .val (.int p4), .val (.int p5), .val (.int t), .val (.int sc), .val (.int fl), .unset, .unset] [])) _
        refine XS.iload X0.here hx rfl (hb hby at_57) rfl ?_
        show Steps p.tables e below (s₁.setTop (mkF m 59 #[.val (.int p1), .val (.int p2), .val (.int p3), .val (.int p4), .val (.int p5), .val (.int t), .val (.int sc), .val (.int fl), .unset, .unset] [(.int t)])) _
        refine XS.bipush X0.here hx rfl (hb hby at_59) ?_
        show Steps p.tables e below (s₁.setTop (mkF m 61 #[.val (.int p1), .val (.int p2), .val (.int p3), .val (.int p4), .val (.int p5), .val (.int t), .val (.int sc), .val (.int fl), .unset, .unset] [(.int (-5 : Int32)), (.int t)])) _
        rcases Classical.em ((-5 : Int32) < t) with hr61_1 | hr61_1
        · (try simp only [if_pos hr61_1] at kt)
          refine XS.icmpNo X0.here hx rfl (hb hby at_61) rfl (tlt hr61_1).2.2.2 ?_
          show Steps p.tables e below (s₁.setTop (mkF m 64 #[.val (.int p1), .val (.int p2), .val (.int p3), .val (.int p4), .val (.int p5), .val (.int t), .val (.int sc), .val (.int fl), .unset, .unset] [])) _
          refine XS.iload X0.here hx rfl (hb hby at_64) rfl ?_
          show Steps p.tables e below (s₁.setTop (mkF m 66 #[.val (.int p1), .val (.int p2), .val (.int p3), .val (.int p4), .val (.int p5), .val (.int t), .val (.int sc), .val (.int fl), .unset, .unset] [(.int t)])) _
          refine XS.iconst X0.here hx rfl (hb hby at_66) ?_
          show Steps p.tables e below (s₁.setTop (mkF m 67 #[.val (.int p1), .val (.int p2), .val (.int p3), .val (.int p4), .val (.int p5), .val (.int t), .val (.int sc), .val (.int fl), .unset, .unset] [(.int (2 : Int32)), (.int t)])) _
          rcases Classical.em (t < (2 : Int32)) with hr67_2 | hr67_2
          · (try simp only [if_pos hr67_2] at kt)
            refine XS.icmpYes X0.here hx rfl (pc0 := 67) (pc' := 76) rfl (hb hby at_67) rfl (tlt hr67_2).1 (by decide) (by decide) ?_
            show Steps p.tables e below (s₁.setTop (mkF m 76 #[.val (.int p1), .val (.int p2), .val (.int p3), .val (.int p4), .val (.int p5), .val (.int t), .val (.int sc), .val (.int fl), .unset, .unset] [])) _
            refine XS.iload X0.here hx rfl (hb hby at_76) rfl ?_
            show Steps p.tables e below (s₁.setTop (mkF m 78 #[.val (.int p1), .val (.int p2), .val (.int p3), .val (.int p4), .val (.int p5), .val (.int t), .val (.int sc), .val (.int fl), .unset, .unset] [(.int t)])) _
            refine XS.bipush X0.here hx rfl (hb hby at_78) ?_
            show Steps p.tables e below (s₁.setTop (mkF m 80 #[.val (.int p1), .val (.int p2), .val (.int p3), .val (.int p4), .val (.int p5), .val (.int t), .val (.int sc), .val (.int fl), .unset, .unset] [(.int (6 : Int32)), (.int t)])) _
            rcases Classical.em (t < (6 : Int32)) with hr80_3 | hr80_3
            · (try simp only [if_pos hr80_3] at kt)
              refine XS.icmpYes X0.here hx rfl (pc0 := 80) (pc' := 99) rfl (hb hby at_80) rfl (tlt hr80_3).1 (by decide) (by decide) ?_
              show Steps p.tables e below (s₁.setTop (mkF m 99 #[.val (.int p1), .val (.int p2), .val (.int p3), .val (.int p4), .val (.int p5), .val (.int t), .val (.int sc), .val (.int fl), .unset, .unset] [])) _
              refine XS.iconst X0.here hx rfl (hb hby at_99) ?_
              show Steps p.tables e below (s₁.setTop (mkF m 100 #[.val (.int p1), .val (.int p2), .val (.int p3), .val (.int p4), .val (.int p5), .val (.int t), .val (.int sc), .val (.int fl), .unset, .unset] [(.int (0 : Int32))])) _
              exact kt
            · (try simp only [if_neg hr80_3] at kt)
              refine XS.icmpNo X0.here hx rfl (hb hby at_80) rfl (flt hr80_3).1 ?_
              show Steps p.tables e below (s₁.setTop (mkF m 83 #[.val (.int p1), .val (.int p2), .val (.int p3), .val (.int p4), .val (.int p5), .val (.int t), .val (.int sc), .val (.int fl), .unset, .unset] [])) _
              refine XS.iload X0.here hx rfl (hb hby at_83) rfl ?_
              show Steps p.tables e below (s₁.setTop (mkF m 85 #[.val (.int p1), .val (.int p2), .val (.int p3), .val (.int p4), .val (.int p5), .val (.int t), .val (.int sc), .val (.int fl), .unset, .unset] [(.int t)])) _
              refine XS.bipush X0.here hx rfl (hb hby at_85) ?_
              show Steps p.tables e below (s₁.setTop (mkF m 87 #[.val (.int p1), .val (.int p2), .val (.int p3), .val (.int p4), .val (.int p5), .val (.int t), .val (.int sc), .val (.int fl), .unset, .unset] [(.int (8 : Int32)), (.int t)])) _
              rcases Classical.em ((8 : Int32) < t) with hr87_4 | hr87_4
              · (try simp only [if_pos hr87_4] at kt)
                refine XS.icmpYes X0.here hx rfl (pc0 := 87) (pc' := 99) rfl (hb hby at_87) rfl (tlt hr87_4).2.2.1 (by decide) (by decide) ?_
                show Steps p.tables e below (s₁.setTop (mkF m 99 #[.val (.int p1), .val (.int p2), .val (.int p3), .val (.int p4), .val (.int p5), .val (.int t), .val (.int sc), .val (.int fl), .unset, .unset] [])) _
                refine XS.iconst X0.here hx rfl (hb hby at_99) ?_
                show Steps p.tables e below (s₁.setTop (mkF m 100 #[.val (.int p1), .val (.int p2), .val (.int p3), .val (.int p4), .val (.int p5), .val (.int t), .val (.int sc), .val (.int fl), .unset, .unset] [(.int (0 : Int32))])) _
                exact kt
              · (try simp only [if_neg hr87_4] at kt)
                refine XS.icmpNo X0.here hx rfl (hb hby at_87) rfl (flt hr87_4).2.2.1 ?_
                show Steps p.tables e below (s₁.setTop (mkF m 90 #[.val (.int p1), .val (.int p2), .val (.int p3), .val (.int p4), .val (.int p5), .val (.int t), .val (.int sc), .val (.int fl), .unset, .unset] [])) _
                refine XS.iload X0.here hx rfl (hb hby at_90) rfl ?_
                show Steps p.tables e below (s₁.setTop (mkF m 92 #[.val (.int p1), .val (.int p2), .val (.int p3), .val (.int p4), .val (.int p5), .val (.int t), .val (.int sc), .val (.int fl), .unset, .unset] [(.int fl)])) _
                rcases Classical.em (fl = (0 : Int32)) with hr92_5 | hr92_5
                · (try simp only [if_pos hr92_5] at kt)
                  refine XS.ifYes X0.here hx rfl (pc0 := 92) (pc' := 99) rfl (hb hby at_92) rfl ((if0 _ _).trans (teq hr92_5).1) (by decide) (by decide) ?_
                  show Steps p.tables e below (s₁.setTop (mkF m 99 #[.val (.int p1), .val (.int p2), .val (.int p3), .val (.int p4), .val (.int p5), .val (.int t), .val (.int sc), .val (.int fl), .unset, .unset] [])) _
                  refine XS.iconst X0.here hx rfl (hb hby at_99) ?_
                  show Steps p.tables e below (s₁.setTop (mkF m 100 #[.val (.int p1), .val (.int p2), .val (.int p3), .val (.int p4), .val (.int p5), .val (.int t), .val (.int sc), .val (.int fl), .unset, .unset] [(.int (0 : Int32))])) _
                  exact kt
                · (try simp only [if_neg hr92_5] at kt)
                  refine XS.ifNo X0.here hx rfl (hb hby at_92) rfl ((if0 _ _).trans (feq hr92_5).1) ?_
                  show Steps p.tables e below (s₁.setTop (mkF m 95 #[.val (.int p1), .val (.int p2), .val (.int p3), .val (.int p4), .val (.int p5), .val (.int t), .val (.int sc), .val (.int fl), .unset, .unset] [])) _
                  refine XS.iconst X0.here hx rfl (hb hby at_95) ?_
                  show Steps p.tables e below (s₁.setTop (mkF m 96 #[.val (.int p1), .val (.int p2), .val (.int p3), .val (.int p4), .val (.int p5), .val (.int t), .val (.int sc), .val (.int fl), .unset, .unset] [(.int (1 : Int32))])) _
                  refine XS.goto X0.here hx rfl (pc0 := 96) (pc' := 100) rfl (hb hby at_96) (by decide) (by decide) ?_
                  show Steps p.tables e below (s₁.setTop (mkF m 100 #[.val (.int p1), .val (.int p2), .val (.int p3), .val (.int p4), .val (.int p5), .val (.int t), .val (.int sc), .val (.int fl), .unset, .unset] [(.int (1 : Int32))])) _
                  exact kt
          · (try simp only [if_neg hr67_2] at kt)
            refine XS.icmpNo X0.here hx rfl (hb hby at_67) rfl (flt hr67_2).1 ?_
            show Steps p.tables e below (s₁.setTop (mkF m 70 #[.val (.int p1), .val (.int p2), .val (.int p3), .val (.int p4), .val (.int p5), .val (.int t), .val (.int sc), .val (.int fl), .unset, .unset] [])) _
            refine XS.iload X0.here hx rfl (hb hby at_70) rfl ?_
            show Steps p.tables e below (s₁.setTop (mkF m 72 #[.val (.int p1), .val (.int p2), .val (.int p3), .val (.int p4), .val (.int p5), .val (.int t), .val (.int sc), .val (.int fl), .unset, .unset] [(.int t)])) _
            refine XS.iconst X0.here hx rfl (hb hby at_72) ?_
            show Steps p.tables e below (s₁.setTop (mkF m 73 #[.val (.int p1), .val (.int p2), .val (.int p3), .val (.int p4), .val (.int p5), .val (.int t), .val (.int sc), .val (.int fl), .unset, .unset] [(.int (5 : Int32)), (.int t)])) _
            rcases Classical.em ((5 : Int32) < t) with hr73_3 | hr73_3
            · (try simp only [if_pos hr73_3] at kt)
              refine XS.icmpNo X0.here hx rfl (hb hby at_73) rfl (tlt hr73_3).2.2.2 ?_
              show Steps p.tables e below (s₁.setTop (mkF m 76 #[.val (.int p1), .val (.int p2), .val (.int p3), .val (.int p4), .val (.int p5), .val (.int t), .val (.int sc), .val (.int fl), .unset, .unset] [])) _
              refine XS.iload X0.here hx rfl (hb hby at_76) rfl ?_
              show Steps p.tables e below (s₁.setTop (mkF m 78 #[.val (.int p1), .val (.int p2), .val (.int p3), .val (.int p4), .val (.int p5), .val (.int t), .val (.int sc), .val (.int fl), .unset, .unset] [(.int t)])) _
              refine XS.bipush X0.here hx rfl (hb hby at_78) ?_
              show Steps p.tables e below (s₁.setTop (mkF m 80 #[.val (.int p1), .val (.int p2), .val (.int p3), .val (.int p4), .val (.int p5), .val (.int t), .val (.int sc), .val (.int fl), .unset, .unset] [(.int (6 : Int32)), (.int t)])) _
              rcases Classical.em (t < (6 : Int32)) with hr80_4 | hr80_4
              · (try simp only [if_pos hr80_4] at kt)
                refine XS.icmpYes X0.here hx rfl (pc0 := 80) (pc' := 99) rfl (hb hby at_80) rfl (tlt hr80_4).1 (by decide) (by decide) ?_
                show Steps p.tables e below (s₁.setTop (mkF m 99 #[.val (.int p1), .val (.int p2), .val (.int p3), .val (.int p4), .val (.int p5), .val (.int t), .val (.int sc), .val (.int fl), .unset, .unset] [])) _
                refine XS.iconst X0.here hx rfl (hb hby at_99) ?_
                show Steps p.tables e below (s₁.setTop (mkF m 100 #[.val (.int p1), .val (.int p2), .val (.int p3), .val (.int p4), .val (.int p5), .val (.int t), .val (.int sc), .val (.int fl), .unset, .unset] [(.int (0 : Int32))])) _
                exact kt
              · (try simp only [if_neg hr80_4] at kt)
                refine XS.icmpNo X0.here hx rfl (hb hby at_80) rfl (flt hr80_4).1 ?_
                show Steps p.tables e below (s₁.setTop (mkF m 83 #[.val (.int p1), .val (.int p2), .val (.int p3), .val (.int p4), .val (.int p5), .val (.int t), .val (.int sc), .val (.int fl), .unset, .unset] [])) _
                refine XS.iload X0.here hx rfl (hb hby at_83) rfl ?_
                show Steps p.tables e below (s₁.setTop (mkF m 85 #[.val (.int p1), .val (.int p2), .val (.int p3), .val (.int p4), .val (.int p5), .val (.int t), .val (.int sc), .val (.int fl), .unset, .unset] [(.int t)])) _
                refine XS.bipush X0.here hx rfl (hb hby at_85) ?_
                show Steps p.tables e below (s₁.setTop (mkF m 87 #[.val (.int p1), .val (.int p2), .val (.int p3), .val (.int p4), .val (.int p5), .val (.int t), .val (.int sc), .val (.int fl), .unset, .unset] [(.int (8 : Int32)), (.int t)])) _
                rcases Classical.em ((8 : Int32) < t) with hr87_5 | hr87_5
                · (try simp only [if_pos hr87_5] at kt)
                  refine XS.icmpYes X0.here hx rfl (pc0 := 87) (pc' := 99) rfl (hb hby at_87) rfl (tlt hr87_5).2.2.1 (by decide) (by decide) ?_
                  show Steps p.tables e below (s₁.setTop (mkF m 99 #[.val (.int p1), .val (.int p2), .val (.int p3), .val (.int p4), .val (.int p5), .val (.int t), .val (.int sc), .val (.int fl), .unset, .unset] [])) _
                  refine XS.iconst X0.here hx rfl (hb hby at_99) ?_
                  show Steps p.tables e below (s₁.setTop (mkF m 100 #[.val (.int p1), .val (.int p2), .val (.int p3), .val (.int p4), .val (.int p5), .val (.int t), .val (.int sc), .val (.int fl), .unset, .unset] [(.int (0 : Int32))])) _
                  exact kt
                · (try simp only [if_neg hr87_5] at kt)
                  refine XS.icmpNo X0.here hx rfl (hb hby at_87) rfl (flt hr87_5).2.2.1 ?_
                  show Steps p.tables e below (s₁.setTop (mkF m 90 #[.val (.int p1), .val (.int p2), .val (.int p3), .val (.int p4), .val (.int p5), .val (.int t), .val (.int sc), .val (.int fl), .unset, .unset] [])) _
                  refine XS.iload X0.here hx rfl (hb hby at_90) rfl ?_
                  show Steps p.tables e below (s₁.setTop (mkF m 92 #[.val (.int p1), .val (.int p2), .val (.int p3), .val (.int p4), .val (.int p5), .val (.int t), .val (.int sc), .val (.int fl), .unset, .unset] [(.int fl)])) _
                  rcases Classical.em (fl = (0 : Int32)) with hr92_6 | hr92_6
                  · (try simp only [if_pos hr92_6] at kt)
                    refine XS.ifYes X0.here hx rfl (pc0 := 92) (pc' := 99) rfl (hb hby at_92) rfl ((if0 _ _).trans (teq hr92_6).1) (by decide) (by decide) ?_
                    show Steps p.tables e below (s₁.setTop (mkF m 99 #[.val (.int p1), .val (.int p2), .val (.int p3), .val (.int p4), .val (.int p5), .val (.int t), .val (.int sc), .val (.int fl), .unset, .unset] [])) _
                    refine XS.iconst X0.here hx rfl (hb hby at_99) ?_
                    show Steps p.tables e below (s₁.setTop (mkF m 100 #[.val (.int p1), .val (.int p2), .val (.int p3), .val (.int p4), .val (.int p5), .val (.int t), .val (.int sc), .val (.int fl), .unset, .unset] [(.int (0 : Int32))])) _
                    exact kt
                  · (try simp only [if_neg hr92_6] at kt)
                    refine XS.ifNo X0.here hx rfl (hb hby at_92) rfl ((if0 _ _).trans (feq hr92_6).1) ?_
                    show Steps p.tables e below (s₁.setTop (mkF m 95 #[.val (.int p1), .val (.int p2), .val (.int p3), .val (.int p4), .val (.int p5), .val (.int t), .val (.int sc), .val (.int fl), .unset, .unset] [])) _
                    refine XS.iconst X0.here hx rfl (hb hby at_95) ?_
                    show Steps p.tables e below (s₁.setTop (mkF m 96 #[.val (.int p1), .val (.int p2), .val (.int p3), .val (.int p4), .val (.int p5), .val (.int t), .val (.int sc), .val (.int fl), .unset, .unset] [(.int (1 : Int32))])) _
                    refine XS.goto X0.here hx rfl (pc0 := 96) (pc' := 100) rfl (hb hby at_96) (by decide) (by decide) ?_
                    show Steps p.tables e below (s₁.setTop (mkF m 100 #[.val (.int p1), .val (.int p2), .val (.int p3), .val (.int p4), .val (.int p5), .val (.int t), .val (.int sc), .val (.int fl), .unset, .unset] [(.int (1 : Int32))])) _
                    exact kt
            · (try simp only [if_neg hr73_3] at kt)
              refine XS.icmpYes X0.here hx rfl (pc0 := 73) (pc' := 95) rfl (hb hby at_73) rfl (flt hr73_3).2.2.2 (by decide) (by decide) ?_
              show Steps p.tables e below (s₁.setTop (mkF m 95 #[.val (.int p1), .val (.int p2), .val (.int p3), .val (.int p4), .val (.int p5), .val (.int t), .val (.int sc), .val (.int fl), .unset, .unset] [])) _
              refine XS.iconst X0.here hx rfl (hb hby at_95) ?_
              show Steps p.tables e below (s₁.setTop (mkF m 96 #[.val (.int p1), .val (.int p2), .val (.int p3), .val (.int p4), .val (.int p5), .val (.int t), .val (.int sc), .val (.int fl), .unset, .unset] [(.int (1 : Int32))])) _
              refine XS.goto X0.here hx rfl (pc0 := 96) (pc' := 100) rfl (hb hby at_96) (by decide) (by decide) ?_
              show Steps p.tables e below (s₁.setTop (mkF m 100 #[.val (.int p1), .val (.int p2), .val (.int p3), .val (.int p4), .val (.int p5), .val (.int t), .val (.int sc), .val (.int fl), .unset, .unset] [(.int (1 : Int32))])) _
              exact kt
        · (try simp only [if_neg hr61_1] at kt)
          refine XS.icmpYes X0.here hx rfl (pc0 := 61) (pc' := 95) rfl (hb hby at_61) rfl (flt hr61_1).2.2.2 (by decide) (by decide) ?_
          show Steps p.tables e below (s₁.setTop (mkF m 95 #[.val (.int p1), .val (.int p2), .val (.int p3), .val (.int p4), .val (.int p5), .val (.int t), .val (.int sc), .val (.int fl), .unset, .unset] [])) _
          refine XS.iconst X0.here hx rfl (hb hby at_95) ?_
          show Steps p.tables e below (s₁.setTop (mkF m 96 #[.val (.int p1), .val (.int p2), .val (.int p3), .val (.int p4), .val (.int p5), .val (.int t), .val (.int sc), .val (.int fl), .unset, .unset] [(.int (1 : Int32))])) _
          refine XS.goto X0.here hx rfl (pc0 := 96) (pc' := 100) rfl (hb hby at_96) (by decide) (by decide) ?_
          show Steps p.tables e below (s₁.setTop (mkF m 100 #[.val (.int p1), .val (.int p2), .val (.int p3), .val (.int p4), .val (.int p5), .val (.int t), .val (.int sc), .val (.int fl), .unset, .unset] [(.int (1 : Int32))])) _
          exact kt
    refine sg54 _ ?_
    show Steps p.tables e below (s₁.setTop (mkF m 100 #[.val (.int p1), .val (.int p2), .val (.int p3), .val (.int p4), .val (.int p5), .val (.int t), .val (.int sc), .val (.int fl), .unset, .unset] [(.int (if t < (-6 : Int32) then (if t < (2 : Int32) then (if t < (6 : Int32) then (0 : Int32) else (if (8 : Int32) < t then (0 : Int32) else (if fl = (0 : Int32) then (0 : Int32) else (1 : Int32)))) else (if (5 : Int32) < t then (if t < (6 : Int32) then (0 : Int32) else (if (8 : Int32) < t then (0 : Int32) else (if fl = (0 : Int32) then (0 : Int32) else (1 : Int32)))) else (1 : Int32))) else (if (-5 : Int32) < t then (if t < (2 : Int32) then (if t < (6 : Int32) then (0 : Int32) else (if (8 : Int32) < t then (0 : Int32) else (if fl = (0 : Int32) then (0 : Int32) else (1 : Int32)))) else (if (5 : Int32) < t then (if t < (6 : Int32) then (0 : Int32) else (if (8 : Int32) < t then (0 : Int32) else (if fl = (0 : Int32) then (0 : Int32) else (1 : Int32)))) else (1 : Int32))) else (1 : Int32))))])) _
    rw [← h_ex]
    show Steps p.tables e below (s₁.setTop (mkF m 100 #[.val (.int p1), .val (.int p2), .val (.int p3), .val (.int p4), .val (.int p5), .val (.int t), .val (.int sc), .val (.int fl), .unset, .unset] [(.int ex)])) _
    refine XS.istore X0.here hx rfl (hb hby at_100) rfl (l' := #[.val (.int p1), .val (.int p2), .val (.int p3), .val (.int p4), .val (.int p5), .val (.int t), .val (.int sc), .val (.int fl), .val (.int ex), .unset]) rfl ?_
    show Steps p.tables e below (s₁.setTop (mkF m 102 #[.val (.int p1), .val (.int p2), .val (.int p3), .val (.int p4), .val (.int p5), .val (.int t), .val (.int sc), .val (.int fl), .val (.int ex), .unset] [])) _
    refine st1 _ ?_
    show Steps p.tables e below (T1.setTop (mkF m 105 #[.val (.int p1), .val (.int p2), .val (.int p3), .val (.int p4), .val (.int p5), .val (.int t), .val (.int sc), .val (.int fl), .val (.int ex), .unset] [(.ref b1)])) _
    refine XS.dup X1.here hx rfl (hb hby at_105) rfl rfl ?_
    show Steps p.tables e below (T1.setTop (mkF m 106 #[.val (.int p1), .val (.int p2), .val (.int p3), .val (.int p4), .val (.int p5), .val (.int t), .val (.int sc), .val (.int fl), .val (.int ex), .unset] [(.ref b1), (.ref b1)])) _
    refine XS.iload X1.here hx rfl (hb hby at_106) rfl ?_
    show Steps p.tables e below (T1.setTop (mkF m 108 #[.val (.int p1), .val (.int p2), .val (.int p3), .val (.int p4), .val (.int p5), .val (.int t), .val (.int sc), .val (.int fl), .val (.int ex), .unset] [(.int t), (.ref b1), (.ref b1)])) _
    refine XS.iloadN X1.here hx rfl (hb hby at_108) rfl ?_
    show Steps p.tables e below (T1.setTop (mkF m 109 #[.val (.int p1), .val (.int p2), .val (.int p3), .val (.int p4), .val (.int p5), .val (.int t), .val (.int sc), .val (.int fl), .val (.int ex), .unset] [(.int p3), (.int t), (.ref b1), (.ref b1)])) _
    refine XS.iload X1.here hx rfl (hb hby at_109) rfl ?_
    show Steps p.tables e below (T1.setTop (mkF m 111 #[.val (.int p1), .val (.int p2), .val (.int p3), .val (.int p4), .val (.int p5), .val (.int t), .val (.int sc), .val (.int fl), .val (.int ex), .unset] [(.int sc), (.int p3), (.int t), (.ref b1), (.ref b1)])) _
    refine st2.trans ?_
    show Steps p.tables e below (T2.setTop (mkF m 114 #[.val (.int p1), .val (.int p2), .val (.int p3), .val (.int p4), .val (.int p5), .val (.int t), .val (.int sc), .val (.int fl), .val (.int ex), .unset] [(.ref b1)])) _
    refine XS.astore X2.here hx rfl (hb hby at_114) rfl rfl (l' := #[.val (.int p1), .val (.int p2), .val (.int p3), .val (.int p4), .val (.int p5), .val (.int t), .val (.int sc), .val (.int fl), .val (.int ex), .val (.ref b1)]) rfl ?_
    show Steps p.tables e below (T2.setTop (mkF m 116 #[.val (.int p1), .val (.int p2), .val (.int p3), .val (.int p4), .val (.int p5), .val (.int t), .val (.int sc), .val (.int fl), .val (.int ex), .val (.ref b1)] [])) _
    refine XS.aload X2.here hx rfl (hb hby at_116) rfl rfl ?_
    show Steps p.tables e below (T2.setTop (mkF m 118 #[.val (.int p1), .val (.int p2), .val (.int p3), .val (.int p4), .val (.int p5), .val (.int t), .val (.int sc), .val (.int fl), .val (.int ex), .val (.ref b1)] [(.ref b1)])) _
    refine st3.trans ?_
    show Steps p.tables e below (T3.setTop (mkF m 121 #[.val (.int p1), .val (.int p2), .val (.int p3), .val (.int p4), .val (.int p5), .val (.int t), .val (.int sc), .val (.int fl), .val (.int ex), .val (.ref b1)] [(.int (own_tells t sc))])) _
    refine XS.iload X3.here hx rfl (hb hby at_121) rfl ?_
    show Steps p.tables e below (T3.setTop (mkF m 123 #[.val (.int p1), .val (.int p2), .val (.int p3), .val (.int p4), .val (.int p5), .val (.int t), .val (.int sc), .val (.int fl), .val (.int ex), .val (.ref b1)] [(.int ex), (.int (own_tells t sc))])) _
    refine XS.icmpNo X3.here hx rfl (hb hby at_123) rfl (teq ((own_law t sc fl h_fl).trans h_ex.symm)).2 ?_
    show Steps p.tables e below (T3.setTop (mkF m 126 #[.val (.int p1), .val (.int p2), .val (.int p3), .val (.int p4), .val (.int p5), .val (.int t), .val (.int sc), .val (.int fl), .val (.int ex), .val (.ref b1)] [])) _
    refine XS.iconst X3.here hx rfl (hb hby at_126) ?_
    show Steps p.tables e below (T3.setTop (mkF m 127 #[.val (.int p1), .val (.int p2), .val (.int p3), .val (.int p4), .val (.int p5), .val (.int t), .val (.int sc), .val (.int fl), .val (.int ex), .val (.ref b1)] [(.int (1 : Int32))])) _
    refine XS.goto X3.here hx rfl (pc0 := 127) (pc' := 131) rfl (hb hby at_127) (by decide) (by decide) ?_
    show Steps p.tables e below (T3.setTop (mkF m 131 #[.val (.int p1), .val (.int p2), .val (.int p3), .val (.int p4), .val (.int p5), .val (.int t), .val (.int sc), .val (.int fl), .val (.int ex), .val (.ref b1)] [(.int (1 : Int32))])) _
    exact retN X3 hx (t := .boolean) Bd.returns (by simp) (hb hby at_131) hr
  · show Q_rm0 Z p1 p2 p3 p4 p5 h0 n0 _ T3.heap _
    rw [e3]
    exact ⟨rfl, N3⟩

set_option maxRecDepth 65536 in
set_option maxHeartbeats 40000000 in
theorem comes_1 {Post : Tables → Env → Array Value → State → Outcome → State → Prop} (hpost : ∀ tb e args s v u, (limb_1_1.after args s (.returned v) u = true ∧ limb_1_2.after args s (.returned v) u = true ∧ True) → FrameEnd s (.returned v) u (Jvm.fieldLocs frame_1_writes args s ++ Jvm.arrayLocs frame_1_arrays args s ++ Jvm.staticLocs frame_1_statics s) 16 128 → Post tb e args s (.returned v) u) :
    ArmFor flags0 classFile x code maxLocals ret World_1 tables_1 room_1 Calls_1 rest_1 Pre_1 Post := by
  intro l hfl _ _ p e ha hc hk s m args below hf hA hF happ hP
  obtain ⟨hcalls, hrest, hpre⟩ := hP
  obtain ⟨-, -, -, hnamed, -, -, -, hat⟩ := (Spec.applies_iff hf).mp happ
  obtain ⟨hg, hn⟩ := and_e (Cond.before_iff.mp (show (Jvm.Cond.and given_1 narrow_1).before args s = true from hpre))
  obtain ⟨gc, g0⟩ := and_e hg
  obtain ⟨ga0, g1⟩ := and_e g0
  obtain ⟨ga1, g2⟩ := and_e g1
  obtain ⟨ga2, g3⟩ := and_e g2
  obtain ⟨ga3, g4⟩ := and_e g3
  obtain ⟨w0, w1, w2, w3, w4, rfl⟩ : ∃ w0 w1 w2 w3 w4 : Value, args = #[w0, w1, w2, w3, w4] := by
    have hs : args.size = 5 := by simpa [Cond.value, given_1] using gc
    obtain ⟨L⟩ := args
    match L, hs with
    | [w0, w1, w2, w3, w4], _ => exact ⟨w0, w1, w2, w3, w4, rfl⟩
  have hw := fun d (hd : d ∈ tables_1) => atoms_spec (ws := Jvm.Cond.code x code maxLocals ret :: tables_1) hat d (List.mem_cons_of_mem _ hd)
  have hfit : Fit s := fun {y c} hc i hi => by
    obtain ⟨ha, rfl⟩ := Array.getElem?_eq_some_iff.mp hc
    have q := List.all_eq_true.mp ((Array.all_eq_true_iff_forall_mem.mp hF) _ (Array.getElem_mem ha)) i (List.mem_range.mpr hi)
    simpa [Array.getElem?_eq_getElem hi] using q
  obtain ⟨i0, ei0⟩ := is_v ga0
  obtain rfl : w0 = (.int i0) := Option.some.inj ei0
  obtain ⟨i1, ei1⟩ := is_v ga1
  obtain rfl : w1 = (.int i1) := Option.some.inj ei1
  obtain ⟨i2, ei2⟩ := is_v ga2
  obtain rfl : w2 = (.int i2) := Option.some.inj ei2
  obtain ⟨i3, ei3⟩ := is_v ga3
  obtain rfl : w3 = (.int i3) := Option.some.inj ei3
  obtain ⟨i4, ei4⟩ := is_v g4
  obtain rfl : w4 = (.int i4) := Option.some.inj ei4
  obtain ⟨n, o, h1, h2, h3, _, L, rfl, ⟨rfl, N⟩, hq⟩ := rm0 l s _ hw tables_1 i0 i1 i2 i3 i4 s.heap s.heap.size (Nat.le_refl _)  p e ha hc hk s m _ below hf ((Spec.applies_iff_loose hf).mp happ).1 ⟨rfl, State.Warmed39.refl s, rfl⟩ trivial
  refine ⟨n, _, h1, h2, h3, hpost _ _ _ _ _ _ ⟨Cond.after_iff.mpr rfl, Cond.after_iff.mpr (eq_i res_at (Term.int_eval (1)) rfl), trivial⟩ ⟨hq.1, hq.2.1, (hq.2.2.sift fun y hy => Or.inr (N y hy)).mono (by decide) (by decide)⟩⟩
theorem main_1_1 : Claimed_1_1 := comes_1 fun _ _ _ _ _ _ h hF => ⟨h.1, hF⟩
theorem main_1_2 : Claimed_1_2 := comes_1 fun _ _ _ _ _ _ h hF => ⟨h.2.1, hF⟩

end Jvm.Pilot.@@N@@
namespace Jvm.Pilot.@@N@@
open Jvm Jvm.ClassFile Sem Op Lib Jvm.Free Jvm.Stand Jvm.Pilot.@@N@@.Jvm.D
/-! MADE BY PROGRAM (witnessworld.py) out of the Statement's table words and the real class files: 10 classes; the members and pool entries that the words name. The judged class is class 1, her method 1. -/
namespace start1
open Jvm.ClassFile
def u (s : String) : CpInfo := .utf8 (stringToUtf16 s)
/-- a pool by its gaps: so many unusable entries, then the entry; so many at the end -/
def gap : Nat → List CpInfo → List CpInfo
  | 0, r => r
  | n + 1, r => .unusable :: gap n r
def poolList (es : List (Nat × CpInfo)) (last : Nat) : List CpInfo := es.foldr (fun e r => gap e.1 (e.2 :: r)) (gap last [])
def pool (es : List (Nat × CpInfo)) (last : Nat) : Array CpInfo := ⟨poolList es last⟩
def fileOf (pool : Array CpInfo) (this : Nat) (attrs : Array Attribute := #[]) (ms : Array MethodInfo := #[]) (fl : Nat := 33) (sup : Nat := 0) (ifs : Array Nat := #[]) (fds : Array FieldInfo := #[]) : ClassFile where
  minorVersion := 0
  majorVersion := 65
  constantPool := pool
  accessFlags := fl
  thisClass := this
  superClass := sup
  interfaces := ifs
  fields := fds
  methods := ms
  attributes := attrs
def plain (name : String) (sup : Option ClassId) : Class where
  name := name
  kind := .ordinary
  loader := none
  accessFlags := 33
  super := sup
  interfaces := #[]
  cf := none
  fields := #[]
  methods := #[]
  instanceTypes := #[]
  staticTypes := #[]
  resolved := #[]
  callSites := []
  init := .initialized
  statics := none
  mirror := none

def pool0 : Array CpInfo := pool [(5, u "<init>"), (0, u "()V"), (1, .class_ 10), (1, u "java/lang/Object")] 113

def k0c0 : Code := { maxStack := 0, maxLocals := 1, code := object_method_1_code, exceptionTable := #[], attributes := #[] }
def k0m0 : Method := { name := "<init>", desc := "()V", sig := { parameters := [], returnType := none }, accessFlags := 1, code := some k0c0 }
/-- java/lang/Object -/
def k0 : Class := { plain "java/lang/Object" none with
  accessFlags := 33
  interfaces := #[]
  cf := some (fileOf pool0 8 #[] #[{ accessFlags := 1, nameIndex := 5, descriptorIndex := 6, attributes := #[] }] 33 0 #[] #[])
  fields := #[]
  methods := #[k0m0]
  instanceTypes := #[]
  staticTypes := #[]
  resolved := Array.replicate 124 none
  statics := none }

def pool1 : Array CpInfo := pool [(2, .class_ 4), (1, u "java/lang/Object"), (0, u "<init>"), (0, u "()V"), (0, .integer 2147483648), (0, .class_ 9), (0, u "aestiva/ColumnType"), (0, .methodref 8 11), (0, .nameAndType 5 12), (0, u "(III)V"), (0, .methodref 8 14), (0, .nameAndType 15 16), (0, u "tellsRounding"), (0, u "()Z"), (0, .class_ 18), (0, u "aestiva/ColumnTypeTellsRoundingPinLaw"), (2, u "law"), (0, u "(IIIII)Z")] 3

def k1m0 : Method := { name := "<init>", desc := "()V", sig := { parameters := [], returnType := none }, accessFlags := 1, code := none }
def k1c1 : Code := { maxStack := 5, maxLocals := 10, code := code, exceptionTable := #[], attributes := #[] }
def k1m1 : Method := { name := "law", desc := "(IIIII)Z", sig := { parameters := [.int, .int, .int, .int, .int], returnType := some .boolean }, accessFlags := 9, code := some k1c1 }
/-- aestiva/ColumnTypeTellsRoundingPinLaw -/
def k1 : Class := { plain "aestiva/ColumnTypeTellsRoundingPinLaw" (some 0) with
  accessFlags := 49
  interfaces := #[]
  cf := some (fileOf pool1 17 #[] #[{ accessFlags := 1, nameIndex := 5, descriptorIndex := 6, attributes := #[] }, { accessFlags := 9, nameIndex := 21, descriptorIndex := 22, attributes := #[] }] 49 2 #[] #[])
  fields := #[]
  methods := #[k1m0, k1m1]
  instanceTypes := #[]
  staticTypes := #[]
  resolved := Array.replicate 26 none
  statics := none }

def pool2 : Array CpInfo := pool [(1, .methodref 2 3), (0, .class_ 4), (0, .nameAndType 5 6), (0, u "java/lang/Object"), (0, u "<init>"), (0, u "()V"), (0, .class_ 8), (0, u "java/lang/Record")] 13

def k2c0 : Code := { maxStack := 1, maxLocals := 1, code := jdk_30_method_1_code, exceptionTable := #[], attributes := #[] }
def k2m0 : Method := { name := "<init>", desc := "()V", sig := { parameters := [], returnType := none }, accessFlags := 4, code := some k2c0 }
/-- java/lang/Record -/
def k2 : Class := { plain "java/lang/Record" (some 0) with
  accessFlags := 1057
  interfaces := #[]
  cf := some (fileOf pool2 7 #[] #[{ accessFlags := 4, nameIndex := 5, descriptorIndex := 6, attributes := #[] }] 1057 2 #[] #[])
  fields := #[]
  methods := #[k2m0]
  instanceTypes := #[]
  staticTypes := #[]
  resolved := Array.replicate 22 none
  statics := none }

def pool3 : Array CpInfo := pool [(3, .methodref 4 5), (0, .class_ 6), (0, .nameAndType 7 8), (0, u "java/lang/Record"), (0, u "<init>"), (0, u "()V"), (0, .fieldref 10 11), (0, .class_ 12), (0, .nameAndType 13 14), (0, u "aestiva/ColumnType"), (0, u "sqlType"), (0, u "I"), (0, .fieldref 10 16), (0, .nameAndType 17 14), (0, u "precision"), (0, .fieldref 10 19), (0, .nameAndType 20 14), (0, u "scale"), (9, .methodref 10 31), (0, .nameAndType 32 33), (0, u "exact"), (0, u "(I)Z"), (5, .methodref 10 40), (0, .nameAndType 41 33), (0, u "approximate"), (3, .integer 2147483648), (5, u "(III)V"), (0, .methodref 10 53), (0, .nameAndType 54 33), (0, u "whole"), (176, u "AS_BOUND"), (0, u "Laestiva/ColumnType;"), (0, u "FLOATING"), (1, u "NANO_DIGITS"), (1, u "MICRO_DIGITS"), (1, u "DOUBLE_DIGITS"), (10, u "tellsRounding"), (0, u "()Z")] 30

def k3c0 : Code := { maxStack := 2, maxLocals := 4, code := prog_5_method_1_code, exceptionTable := #[], attributes := #[] }
def k3m0 : Method := { name := "<init>", desc := "(III)V", sig := { parameters := [.int, .int, .int], returnType := none }, accessFlags := 0, code := some k3c0 }
def k3c1 : Code := { maxStack := 2, maxLocals := 1, code := prog_5_method_3_code, exceptionTable := #[], attributes := #[] }
def k3m1 : Method := { name := "tellsRounding", desc := "()Z", sig := { parameters := [], returnType := some .boolean }, accessFlags := 0, code := some k3c1 }
def k3c2 : Code := { maxStack := 1, maxLocals := 1, code := prog_5_method_8_code, exceptionTable := #[], attributes := #[] }
def k3m2 : Method := { name := "whole", desc := "(I)Z", sig := { parameters := [.int], returnType := some .boolean }, accessFlags := 10, code := some k3c2 }
def k3c3 : Code := { maxStack := 2, maxLocals := 1, code := prog_5_method_9_code, exceptionTable := #[], attributes := #[] }
def k3m3 : Method := { name := "exact", desc := "(I)Z", sig := { parameters := [.int], returnType := some .boolean }, accessFlags := 10, code := some k3c3 }
def k3c4 : Code := { maxStack := 2, maxLocals := 1, code := prog_5_method_10_code, exceptionTable := #[], attributes := #[] }
def k3m4 : Method := { name := "approximate", desc := "(I)Z", sig := { parameters := [.int], returnType := some .boolean }, accessFlags := 10, code := some k3c4 }
/-- aestiva/ColumnType -/
def k3 : Class := { plain "aestiva/ColumnType" (some 2) with
  accessFlags := 48
  interfaces := #[]
  cf := some (fileOf pool3 10 #[] #[{ accessFlags := 0, nameIndex := 7, descriptorIndex := 51, attributes := #[] }, { accessFlags := 0, nameIndex := 250, descriptorIndex := 251, attributes := #[] }, { accessFlags := 10, nameIndex := 54, descriptorIndex := 33, attributes := #[] }, { accessFlags := 10, nameIndex := 32, descriptorIndex := 33, attributes := #[] }, { accessFlags := 10, nameIndex := 41, descriptorIndex := 33, attributes := #[] }] 48 4 #[] #[{ accessFlags := 18, nameIndex := 13, descriptorIndex := 14, attributes := #[] }, { accessFlags := 18, nameIndex := 17, descriptorIndex := 14, attributes := #[] }, { accessFlags := 18, nameIndex := 20, descriptorIndex := 14, attributes := #[] }, { accessFlags := 24, nameIndex := 231, descriptorIndex := 232, attributes := #[] }, { accessFlags := 24, nameIndex := 233, descriptorIndex := 14, attributes := #[] }, { accessFlags := 26, nameIndex := 235, descriptorIndex := 14, attributes := #[] }, { accessFlags := 26, nameIndex := 237, descriptorIndex := 14, attributes := #[] }, { accessFlags := 26, nameIndex := 239, descriptorIndex := 14, attributes := #[] }])
  fields := #[{ name := "sqlType", type := .int, accessFlags := 18, slot := 0, constantValue := 0 }, { name := "precision", type := .int, accessFlags := 18, slot := 1, constantValue := 0 }, { name := "scale", type := .int, accessFlags := 18, slot := 2, constantValue := 0 }, { name := "AS_BOUND", type := (.object "aestiva/ColumnType"), accessFlags := 24, slot := 0, constantValue := 0 }, { name := "FLOATING", type := .int, accessFlags := 24, slot := 1, constantValue := 0 }, { name := "NANO_DIGITS", type := .int, accessFlags := 26, slot := 2, constantValue := 0 }, { name := "MICRO_DIGITS", type := .int, accessFlags := 26, slot := 3, constantValue := 0 }, { name := "DOUBLE_DIGITS", type := .int, accessFlags := 26, slot := 4, constantValue := 0 }]
  methods := #[k3m0, k3m1, k3m2, k3m3, k3m4]
  instanceTypes := #[.int, .int, .int]
  staticTypes := #[(.object "aestiva/ColumnType"), .int, .int, .int, .int]
  resolved := Array.replicate 282 none
  statics := none }

def pool4 : Array CpInfo := pool [(1, u "java/lang/Cloneable"), (0, .class_ 1), (0, u "java/lang/Object"), (0, .class_ 3)] 3

/-- java/lang/Cloneable -/
def k4 : Class := { plain "java/lang/Cloneable" (some 0) with
  accessFlags := 1537
  interfaces := #[]
  cf := some (fileOf pool4 2 #[] #[] 1537 4 #[] #[])
  fields := #[]
  methods := #[]
  instanceTypes := #[]
  staticTypes := #[]
  resolved := Array.replicate 8 none
  statics := none }

def pool5 : Array CpInfo := pool [(1, u "java/io/Serializable"), (0, .class_ 1), (0, u "java/lang/Object"), (0, .class_ 3)] 3

/-- java/io/Serializable -/
def k5 : Class := { plain "java/io/Serializable" (some 0) with
  accessFlags := 1537
  interfaces := #[]
  cf := some (fileOf pool5 2 #[] #[] 1537 4 #[] #[])
  fields := #[]
  methods := #[]
  instanceTypes := #[]
  staticTypes := #[]
  resolved := Array.replicate 8 none
  statics := none }

/-- the primitive byte -/
def k6 : Class := { plain "byte" none with kind := .primitive 'B', accessFlags := 0x411 }
/-- [B -/
def k7 : Class := { plain "[B" (some 0) with kind := .array 6 .byte, interfaces := #[4, 5], accessFlags := 1041 }

/-- the primitive int -/
def k8 : Class := { plain "int" none with kind := .primitive 'I', accessFlags := 0x411 }
/-- [I -/
def k9 : Class := { plain "[I" (some 0) with kind := .array 8 .int, interfaces := #[4, 5], accessFlags := 1041 }

def heap : Heap := #[]
def classes : Array Class := #[k0, k1, k2, k3, k4, k5, k6, k7, k8, k9]
def interned : List (Array UInt16 × Addr) := []
def slotsUsed : Nat := 0
def theMethod : MethodId := ⟨1, 1⟩
def args0 : Array Value := #[.int 5, .int 7, .int 9, .int 1, .int 2]
def aboutOver (below : List Frame) : State where
  vm := { classes := classes, interned := interned.toArray }
  heap := heap
  slotsUsed := slotsUsed
  threads := #[{ frames := .invoking theMethod args0 :: below }]
def below0 : List Frame := [.native { method := ⟨0, 0⟩, args := #[] }]
def about1 : State := aboutOver below0
def p0 : Program := .bare "" "" ""
def e0 : Env := launch0.env 0 0 0
theorem w_frames : about1.frames = Frame.invoking theMethod args0 :: below0 := rfl
set_option maxRecDepth 65536 in
theorem w_args : argsFit about1.vm theMethod args0 = true := by decide +kernel
set_option maxRecDepth 65536 in
theorem w_heap : heapFits about1 = true := by decide +kernel
set_option maxRecDepth 65536 in
theorem w_runnable : about1.curStatus? = some .runnable := by decide +kernel
set_option maxRecDepth 65536 in
theorem w_alone : about1.alone = true := by decide +kernel
set_option maxRecDepth 65536 in
theorem w_named : about1.methodNamed? x = some theMethod := by decide +kernel
set_option maxRecDepth 65536 in
theorem w_hears : about1.hears theMethod below0 = true := by decide +kernel
set_option maxRecDepth 65536 in
theorem w_ripe : about1.ripe theMethod args0 below0 = true := by decide +kernel
theorem w_running : about1.status = .running := rfl
set_option maxRecDepth 65536 in
theorem w_room : about1.hasRoom e0.platform room_1 = true :=
  launch0.hasRoom_least _ room_1 (by decide +kernel) (by decide +kernel) (by decide +kernel) (by decide +kernel) (by decide +kernel) (by decide +kernel)
theorem allAtoms_all (ts : List Jvm.Cond) (a : Array Jvm.Value) (st : Jvm.State) : (allAtoms ts).before a st = ts.all (fun c => c.before a st) := by
  induction ts with
  | nil => rfl
  | cons c t ih =>
    show (Jvm.Cond.and c (allAtoms t)).before a st = _
    rw [Jvm.Cond.before_and, ih, List.all_cons]
def words1 : List Jvm.Cond := Jvm.Cond.code x code maxLocals ret :: tables_1
/-- a 'code' word, met by the world's own term for the bytes: nothing is compared byte by byte -/
theorem code_word {y : MethodName} {bytes : ByteArray} {mx : Nat} {rt : Option FieldType} {a : Array Value} {s : State} {m : MethodId} {meth : Method} {c : Code} (h1 : s.methodNamed? y = some m) (h2 : s.vm.method? m = some meth) (h3 : meth.code = some c) (h4 : c.code = bytes)
    (h5 : (c.maxLocals == mx && c.exceptionTable.isEmpty && decide (c.maxStack ≤ mostOperands) && decide (meth.sig.returnType = rt) && !meth.locks && decide (parseMethodDescriptor y.desc = some meth.sig)) = true) : (Jvm.Cond.code y bytes mx rt).before a s = true := by
  simp only [Bool.and_eq_true, beq_iff_eq, Bool.not_eq_true', decide_eq_true_eq] at h5
  obtain ⟨⟨⟨⟨⟨g1, g2⟩, g3⟩, g4⟩, g5⟩, g6⟩ := h5
  simp [Cond.before, Cond.holds, Cond.value, h1, h2, h3, h4, g1, g2, g3, g4, g5, g6]
def isCode : Jvm.Cond → Bool
  | .code _ _ _ _ => true
  | _ => false
theorem all_split {L : List Jvm.Cond} {P : Jvm.Cond → Bool} (h1 : L.all (fun c => isCode c || P c) = true) (h2 : ∀ c ∈ L.filter isCode, P c = true) : L.all P = true := by
  refine List.all_eq_true.mpr fun c hc => ?_
  have h := List.all_eq_true.mp h1 c hc
  rcases Bool.eq_false_or_eq_true (isCode c) with hi | hi
  · exact h2 c (List.mem_filter.mpr ⟨hc, hi⟩)
  · simpa [hi] using h
set_option maxRecDepth 65536 in
theorem w_c0 : (Jvm.Cond.code x code maxLocals ret).before args0 about1 = true := code_word (m := ⟨1, 1⟩) (meth := k1m1) (c := k1c1) (by decide +kernel) rfl rfl rfl (by decide +kernel)
set_option maxRecDepth 65536 in
theorem w_c1 : (Jvm.Cond.code ({ cls := "aestiva/ColumnType", name := "<init>", desc := "(III)V" } : Jvm.MethodName) prog_5_method_1_code (4 : Nat) (Option.none : Option Jvm.ClassFile.FieldType)).before args0 about1 = true := code_word (m := ⟨3, 0⟩) (meth := k3m0) (c := k3c0) (by decide +kernel) rfl rfl rfl (by decide +kernel)
set_option maxRecDepth 65536 in
theorem w_c2 : (Jvm.Cond.code ({ cls := "java/lang/Record", name := "<init>", desc := "()V" } : Jvm.MethodName) jdk_30_method_1_code (1 : Nat) (Option.none : Option Jvm.ClassFile.FieldType)).before args0 about1 = true := code_word (m := ⟨2, 0⟩) (meth := k2m0) (c := k2c0) (by decide +kernel) rfl rfl rfl (by decide +kernel)
set_option maxRecDepth 65536 in
theorem w_c3 : (Jvm.Cond.code ({ cls := "java/lang/Object", name := "<init>", desc := "()V" } : Jvm.MethodName) object_method_1_code (1 : Nat) (Option.none : Option Jvm.ClassFile.FieldType)).before args0 about1 = true := code_word (m := ⟨0, 0⟩) (meth := k0m0) (c := k0c0) (by decide +kernel) rfl rfl rfl (by decide +kernel)
set_option maxRecDepth 65536 in
theorem w_c4 : (Jvm.Cond.code ({ cls := "aestiva/ColumnType", name := "tellsRounding", desc := "()Z" } : Jvm.MethodName) prog_5_method_3_code (1 : Nat) (Option.some Jvm.ClassFile.FieldType.boolean)).before args0 about1 = true := code_word (m := ⟨3, 1⟩) (meth := k3m1) (c := k3c1) (by decide +kernel) rfl rfl rfl (by decide +kernel)
set_option maxRecDepth 65536 in
theorem w_c5 : (Jvm.Cond.code ({ cls := "aestiva/ColumnType", name := "whole", desc := "(I)Z" } : Jvm.MethodName) prog_5_method_8_code (1 : Nat) (Option.some Jvm.ClassFile.FieldType.boolean)).before args0 about1 = true := code_word (m := ⟨3, 2⟩) (meth := k3m2) (c := k3c2) (by decide +kernel) rfl rfl rfl (by decide +kernel)
set_option maxRecDepth 65536 in
theorem w_c6 : (Jvm.Cond.code ({ cls := "aestiva/ColumnType", name := "exact", desc := "(I)Z" } : Jvm.MethodName) prog_5_method_9_code (1 : Nat) (Option.some Jvm.ClassFile.FieldType.boolean)).before args0 about1 = true := code_word (m := ⟨3, 3⟩) (meth := k3m3) (c := k3c3) (by decide +kernel) rfl rfl rfl (by decide +kernel)
set_option maxRecDepth 65536 in
theorem w_c7 : (Jvm.Cond.code ({ cls := "aestiva/ColumnType", name := "approximate", desc := "(I)Z" } : Jvm.MethodName) prog_5_method_10_code (1 : Nat) (Option.some Jvm.ClassFile.FieldType.boolean)).before args0 about1 = true := code_word (m := ⟨3, 4⟩) (meth := k3m4) (c := k3c4) (by decide +kernel) rfl rfl rfl (by decide +kernel)
def codes1 : List Jvm.Cond := [Jvm.Cond.code x code maxLocals ret, Jvm.Cond.code ({ cls := "aestiva/ColumnType", name := "<init>", desc := "(III)V" } : Jvm.MethodName) prog_5_method_1_code (4 : Nat) (Option.none : Option Jvm.ClassFile.FieldType), Jvm.Cond.code ({ cls := "java/lang/Record", name := "<init>", desc := "()V" } : Jvm.MethodName) jdk_30_method_1_code (1 : Nat) (Option.none : Option Jvm.ClassFile.FieldType), Jvm.Cond.code ({ cls := "java/lang/Object", name := "<init>", desc := "()V" } : Jvm.MethodName) object_method_1_code (1 : Nat) (Option.none : Option Jvm.ClassFile.FieldType), Jvm.Cond.code ({ cls := "aestiva/ColumnType", name := "tellsRounding", desc := "()Z" } : Jvm.MethodName) prog_5_method_3_code (1 : Nat) (Option.some Jvm.ClassFile.FieldType.boolean), Jvm.Cond.code ({ cls := "aestiva/ColumnType", name := "whole", desc := "(I)Z" } : Jvm.MethodName) prog_5_method_8_code (1 : Nat) (Option.some Jvm.ClassFile.FieldType.boolean), Jvm.Cond.code ({ cls := "aestiva/ColumnType", name := "exact", desc := "(I)Z" } : Jvm.MethodName) prog_5_method_9_code (1 : Nat) (Option.some Jvm.ClassFile.FieldType.boolean), Jvm.Cond.code ({ cls := "aestiva/ColumnType", name := "approximate", desc := "(I)Z" } : Jvm.MethodName) prog_5_method_10_code (1 : Nat) (Option.some Jvm.ClassFile.FieldType.boolean)]
set_option maxRecDepth 65536 in
theorem codes_eq : words1.filter isCode = codes1 := rfl
theorem w_codes : ∀ c ∈ words1.filter isCode, c.before args0 about1 = true := by
  rw [codes_eq]
  intro c hc
  simp only [codes1, List.mem_cons, List.not_mem_nil, or_false] at hc
  rcases hc with rfl | rfl | rfl | rfl | rfl | rfl | rfl | rfl
  · exact w_c0
  · exact w_c1
  · exact w_c2
  · exact w_c3
  · exact w_c4
  · exact w_c5
  · exact w_c6
  · exact w_c7
set_option maxRecDepth 65536 in
theorem w_t1 : (words1.take 24).all (fun c => isCode c || c.before args0 about1) = true := by decide +kernel
set_option maxRecDepth 65536 in
theorem w_t2 : (words1.drop 24).all (fun c => isCode c || c.before args0 about1) = true := by decide +kernel
theorem w_tables : (allAtoms (Jvm.Cond.code x code maxLocals ret :: tables_1)).before args0 about1 = true := by
  rw [allAtoms_all]
  show words1.all (fun c => c.before args0 about1) = true
  refine all_split ?_ w_codes
  rw [← List.take_append_drop 24 words1, List.all_append, w_t1, w_t2]
  rfl
set_option maxRecDepth 65536 in
theorem w_case : (Jvm.Cond.and given_1 narrow_1).before args0 about1 = true := by decide +kernel
theorem w_applies : (headSpec (Jvm.Cond.code x code maxLocals ret :: tables_1) room_1).applies x e0.platform about1 = true :=
  (Spec.applies_iff w_frames).mpr ⟨w_running, w_runnable, w_alone, w_named, w_hears, w_ripe, w_room, w_tables⟩
theorem atStart : AtStart classFile x code maxLocals ret World_1 tables_1 room_1 Calls_1 rest_1 Pre_1 launch0 p0 e0 about1 theMethod args0 below0 :=
  ⟨lists_1, trivial, launch0.admits_env _ _ _, launch0.least_env, fairChoices_fair.cas, fairChoices_fair.clock, w_frames, w_args, w_heap, w_applies, trivial, trivial, w_case⟩
end start1
theorem witness_1 : WitnessClaimed_1 := ⟨start1.p0, start1.e0, start1.about1, start1.theMethod, start1.args0, start1.below0, start1.atStart⟩
end Jvm.Pilot.@@N@@
