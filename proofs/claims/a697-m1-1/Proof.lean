import JvmDerived
import JvmDerived.Pilot.@@N@@Statement
import JvmDerived.Pilot.@@N@@Code
set_option linter.unusedVariables false
set_option linter.unusedSimpArgs false
namespace Jvm.RoadKit
open Sem ClassFile Op Lib Jvm.Stand Jvm.Free Jvm.LawKit
section New
variable {p : Program} {l : Launch} {e : Env} {R : Room} {s : State} {m : MethodId} {args : Array Value} {below : List Frame} {meth : Method} {c : Code} {T : State} {locs : List Loc} {cells slots : Nat}
theorem retI (X : Stand p l e R s m args below meth c T locs cells slots) (hx : p.tables.exec = Jvm.exec) {pc : Nat} {Ls : Array Slot} {z : Int32} {rest : List Value} (hret : meth.sig.returnType = some .int) (hd : decode c.code pc = .ok (.ireturn, 1)) {fs : List Frame}
    (hl : ∀ (f : JFrame) (acts : List Action), f.method = m → f.locked = none → f.entered = [] → (doReturn e (T.setTop f) acts (some (.int z))).1 = T.setFrames fs) : Steps p.tables e below (T.setTop (mkF m pc Ls (.int z :: rest))) (T.setFrames fs) := by
  have hm' : T.vm.method? m = some meth := X.method'
  have hn : narrow .int (.int z) = .int z := rfl
  show Steps p.tables e below (T.setTop { method := m, pc := pc, locals := Ls, stack := _ :: rest, locked := none }) _
  jvm_step X.here [X.here.top, hx, hd, hm', hret, hn]
  first | (intro acts; rw [hl _ acts rfl rfl rfl]) | rw [hl _ _ rfl rfl rfl]
  exact Steps.refl _
end New
end Jvm.RoadKit
namespace Jvm.Pilot.@@N@@
open Jvm Jvm.ClassFile Sem Op Lib Jvm.Free Jvm.Stand Jvm.LawKit Jvm.RoadKit Bundle Jvm.Pilot.@@N@@.Jvm.D

theorem dC_0 : decode jdk_22_method_1_code 0 = .ok (.aload_n 0, 1) := by decide +kernel
theorem dC_1 : decode jdk_22_method_1_code 1 = .ok (.invokespecial 1, 3) := by decide +kernel
theorem dC_4 : decode jdk_22_method_1_code 4 = .ok (.return_, 1) := by decide +kernel
theorem ef_dC_ (m : MethodId) (a1 : Addr) : entryFrame m #[(.ref a1)] 1 = mkF m 0 #[.val (.ref a1)] [] := by first | (simp [entryFrame, mkF, argsToLocals, Value.category]; done) | rfl
def Q_rmC (Z : State) (a1 : Addr)  (h0 : Heap) (n0 : Nat) (v : Option Value) (h : Heap) (L : List Loc) : Prop := v = none ∧ Fr n0 L ∧ h = h0
theorem pn_rmC : plainName "java/util/AbstractCollection" = true := by first | (simp [plainName, overriddenIn]; done) | decide +kernel
set_option maxRecDepth 65536 in
set_option maxHeartbeats 40000000 in
theorem rmC (l : Launch) (Z : State) (a0 : Array Value) (hw : ∀ d ∈ tables_1, d.before a0 Z = true) (ws : List Jvm.Cond) (a1 : Addr)  (h0 : Heap) (n0 : Nat) (Z0 : n0 ≤ h0.size)  :
    MetFree l (⟨"java/util/AbstractCollection", "<init>", "()V"⟩ : MethodName) (head1 (Jvm.Cond.code (⟨"java/util/AbstractCollection", "<init>", "()V"⟩ : MethodName) jdk_22_method_1_code 1 none :: ws) ({ frames := 1, cells := 0, slots := 0, locals := 12 } : Room)) (fun a U => a = #[(.ref a1)] ∧ Z.Warmed39 U.vm ∧ U.heap = h0) (fun _ _ _ _ _ => True) (fun _ U o U' => ∃ v L, o = .returned v ∧ Q_rmC Z a1  h0 n0 v U'.heap L ∧ FrameEnd U o U' L ({ frames := 1, cells := 0, slots := 0, locals := 12 } : Room).cells ({ frames := 1, cells := 0, slots := 0, locals := 12 } : Room).slots) := by
  refine MetFree.of_bodySF (plainFor_of_name pn_rmC) hisR ?_
  intro p e s m args below meth c s₁ Bd hml0 hP hK
  obtain ⟨rfl, hZ, hh⟩ := hP
  have hx := Bd.exec
  have hby := Bd.bytes
  have hml : c.maxLocals = 1 := hml0
  have hown : s.vm.findClass "java/util/AbstractCollection" = some m.cls := findClass_of_methodNamed Bd.named
  have hnm := (name_of_methodNamed Bd.named Bd.method).1
  have X0 : Stand p l e ({ frames := 1, cells := 0, slots := 0, locals := 12 } : Room) s m #[(.ref a1)] below meth c s₁ [] 0 0 := Stand.of_body Bd
  have e0 : s₁.heap = h0 := by rw [← hh, Bd.state]; rfl
  have N0 := Fr.nil n0
  have pre0 : ∀ tZ, Steps p.tables e below (s₁.setTop (mkF m 0 #[.val (.ref a1)] [])) tZ → Steps p.tables e below (s₁.setTop (entryFrame m #[(.ref a1)] 1)) tZ := fun tZ kZ => castTop (ef_dC_ m a1) kZ
  obtain ⟨T1, X1, e1, st1⟩ := initO X0 hx hZ hown (hw _ (List.mem_of_getElem? (i := 19) rfl)) (hw _ (List.mem_of_getElem? (i := 20) rfl)) (hw _ (List.mem_of_getElem? (i := 21) rfl)) e0 (g := (mkF m 1 #[.val (.ref a1)] [(.ref a1)])) rfl (by rw [hml]; rfl) rfl (hb hby dC_1) (by decide) (W := 0) (by show 2 * 0 + _ ≤ _; exact Nat.le_of_eq rfl) (by decide)
  obtain ⟨fs, hr, hrun, hended, hW, hsame⟩ := X1.leave (v := none) (fun _ => rfl)
  refine ⟨_, _, pre0 _ ?_, hrun, hended, _, _, rfl, ?_, ⟨_, rfl⟩, hW, hsame.mono (by decide) (by decide)⟩
  · show Steps p.tables e below (s₁.setTop (mkF m 0 #[.val (.ref a1)] [])) _
    refine XS.aloadN X0.here hx rfl (hb hby dC_0) rfl rfl ?_
    show Steps p.tables e below (s₁.setTop (mkF m 1 #[.val (.ref a1)] [(.ref a1)])) _
    refine st1 _ ?_
    show Steps p.tables e below (T1.setTop (mkF m 4 #[.val (.ref a1)] [])) _
    exact X1.returnOut hx Bd.returns (hb hby dC_4) hr
  · show Q_rmC Z a1 h0 n0 _ T1.heap _
    rw [e1]
    exact ⟨rfl, N0, rfl⟩

theorem dB_0 : decode jdk_39_method_1_code 0 = .ok (.aload_n 0, 1) := by decide +kernel
theorem dB_1 : decode jdk_39_method_1_code 1 = .ok (.invokespecial 1, 3) := by decide +kernel
theorem dB_4 : decode jdk_39_method_1_code 4 = .ok (.aload_n 0, 1) := by decide +kernel
theorem dB_5 : decode jdk_39_method_1_code 5 = .ok (.iconst 0, 1) := by decide +kernel
theorem dB_6 : decode jdk_39_method_1_code 6 = .ok (.putfield 7, 3) := by decide +kernel
theorem dB_9 : decode jdk_39_method_1_code 9 = .ok (.return_, 1) := by decide +kernel
theorem pd_dB___V : parseMethodDescriptor "()V" = some ⟨[], none⟩ := by decide +kernel
theorem ef_dB_ (m : MethodId) (a1 : Addr) : entryFrame m #[(.ref a1)] 1 = mkF m 0 #[.val (.ref a1)] [] := by first | (simp [entryFrame, mkF, argsToLocals, Value.category]; done) | rfl
def Q_rmB (Z : State) (a1 : Addr)  (h0 : Heap) (n0 : Nat) (v : Option Value) (h : Heap) (L : List Loc) : Prop := v = none ∧ Fr n0 L ∧ Wr h0 h a1 (Jvm.RoadKit.slotOf Z "java/util/AbstractList" "modCount" "I") (.int (0 : Int32))
theorem pn_rmB : plainName "java/util/AbstractList" = true := by first | (simp [plainName, overriddenIn]; done) | decide +kernel
set_option maxRecDepth 65536 in
set_option maxHeartbeats 40000000 in
theorem rmB (l : Launch) (Z : State) (a0 : Array Value) (hw : ∀ d ∈ tables_1, d.before a0 Z = true) (ws : List Jvm.Cond) (a1 : Addr)  (h0 : Heap) (n0 : Nat) (Z0 : n0 ≤ h0.size) (E : Exa Z h0 a1 "java/util/ArrayList") (F : Fld Z h0 a1 "java/util/AbstractList" "modCount" "I" (.int (0 : Int32))) (ga : n0 ≤ a1) :
    MetFree l (⟨"java/util/AbstractList", "<init>", "()V"⟩ : MethodName) (head1 (Jvm.Cond.code (⟨"java/util/AbstractList", "<init>", "()V"⟩ : MethodName) jdk_39_method_1_code 1 none :: ws) ({ frames := 2, cells := 0, slots := 0, locals := 24 } : Room)) (fun a U => a = #[(.ref a1)] ∧ Z.Warmed39 U.vm ∧ U.heap = h0) (fun _ _ _ _ _ => True) (fun _ U o U' => ∃ v L, o = .returned v ∧ Q_rmB Z a1  h0 n0 v U'.heap L ∧ FrameEnd U o U' L ({ frames := 2, cells := 0, slots := 0, locals := 24 } : Room).cells ({ frames := 2, cells := 0, slots := 0, locals := 24 } : Room).slots) := by
  refine MetFree.of_bodySF (plainFor_of_name pn_rmB) hisR ?_
  intro p e s m args below meth c s₁ Bd hml0 hP hK
  obtain ⟨rfl, hZ, hh⟩ := hP
  have hx := Bd.exec
  have hby := Bd.bytes
  have hml : c.maxLocals = 1 := hml0
  have hown : s.vm.findClass "java/util/AbstractList" = some m.cls := findClass_of_methodNamed Bd.named
  have hnm := (name_of_methodNamed Bd.named Bd.method).1
  have X0 : Stand p l e ({ frames := 2, cells := 0, slots := 0, locals := 24 } : Room) s m #[(.ref a1)] below meth c s₁ [] 0 0 := Stand.of_body Bd
  have e0 : s₁.heap = h0 := by rw [← hh, Bd.state]; rfl
  have N0 := Fr.nil n0
  have pre0 : ∀ tZ, Steps p.tables e below (s₁.setTop (mkF m 0 #[.val (.ref a1)] [])) tZ → Steps p.tables e below (s₁.setTop (entryFrame m #[(.ref a1)] 1)) tZ := fun tZ kZ => castTop (ef_dB_ m a1) kZ
  obtain ⟨_, _, ⟨T1, L1, k1, n1⟩, -, X1, ⟨Lc1, hQ1, l1, y1, z1⟩, st1⟩ := X0.specialBack hx (y := (⟨"java/util/AbstractCollection", "<init>", "()V"⟩ : MethodName)) rfl hown (mvT hZ (hw _ (List.mem_of_getElem? (i := 13) rfl))) (mvT hZ (hw _ (List.mem_of_getElem? (i := 14) rfl))) (mvT hZ (hw _ (List.mem_of_getElem? (i := 18) rfl))) (by decide) (backOf (W := 0) (rmC l Z a0 hw [] a1 h0 n0 Z0) hZ (hw _ (List.mem_of_getElem? (i := 18) rfl)) (hw _ (List.mem_of_getElem? (i := 17) rfl)) (by decide) (by decide)) (g := (mkF m 1 #[.val (.ref a1)] [(.ref a1)])) rfl (by rw [hml]; rfl) (Steps.refl _) (a := a1) (argsL := []) (rest := []) (lenOf pd_dB___V rfl) rfl (by show 2 * 0 + _ ≤ _; exact Nat.le_of_eq rfl) (hb hby dB_1) (fun _ _ => ⟨rfl, e0, (by decide : 0 + 0 ≤ _), (by decide : 0 + 0 ≤ _)⟩)
  dsimp only [Pt.U, Pt.locs, Pt.cells, Pt.slots] at X1 l1 y1 z1 st1 hQ1
  subst l1 y1 z1
  obtain ⟨rfl, N1q, e1⟩ := hQ1
  have N1 := Fr.app N0 N1q
  obtain ⟨T2, h2, X2, e2, W2, st2⟩ := putF X1 hx hZ hown (host := "") (Or.inl (hw _ (List.mem_of_getElem? (i := 22) rfl))) Via.refl e1 F E (Or.inl (hw _ (List.mem_of_getElem? (i := 23) rfl))) (hw _ (List.mem_of_getElem? (i := 2) rfl)) (ty := .int) (by decide) rfl rfl (g := (mkF m 6 #[.val (.ref a1)] [(.int (0 : Int32)), (.ref a1)])) rfl rfl (hb hby dB_6)
  have M1 := Fr.snoc X2 N1 ga
  obtain ⟨fs, hr, hrun, hended, hW, hsame⟩ := X2.leave (v := none) (fun _ => rfl)
  refine ⟨_, _, pre0 _ ?_, hrun, hended, _, _, rfl, ?_, ⟨_, rfl⟩, hW, hsame.mono (by decide) (by decide)⟩
  · show Steps p.tables e below (s₁.setTop (mkF m 0 #[.val (.ref a1)] [])) _
    refine XS.aloadN X0.here hx rfl (hb hby dB_0) rfl rfl ?_
    show Steps p.tables e below (s₁.setTop (mkF m 1 #[.val (.ref a1)] [(.ref a1)])) _
    refine st1.trans ?_
    show Steps p.tables e below (T1.setTop (mkF m 4 #[.val (.ref a1)] [])) _
    refine XS.aloadN X1.here hx rfl (hb hby dB_4) rfl rfl ?_
    show Steps p.tables e below (T1.setTop (mkF m 5 #[.val (.ref a1)] [(.ref a1)])) _
    refine XS.iconst X1.here hx rfl (hb hby dB_5) ?_
    show Steps p.tables e below (T1.setTop (mkF m 6 #[.val (.ref a1)] [(.int (0 : Int32)), (.ref a1)])) _
    refine st2 _ ?_
    show Steps p.tables e below (T2.setTop (mkF m 9 #[.val (.ref a1)] [])) _
    exact X2.returnOut hx Bd.returns (hb hby dB_9) hr
  · show Q_rmB Z a1 h0 n0 _ T2.heap _
    rw [e2]
    exact ⟨rfl, M1, W2⟩

theorem dA_0 : decode jdk_38_method_2_code 0 = .ok (.aload_n 0, 1) := by decide +kernel
theorem dA_1 : decode jdk_38_method_2_code 1 = .ok (.invokespecial 1, 3) := by decide +kernel
theorem dA_4 : decode jdk_38_method_2_code 4 = .ok (.aload_n 0, 1) := by decide +kernel
theorem dA_5 : decode jdk_38_method_2_code 5 = .ok (.getstatic 39, 3) := by decide +kernel
theorem dA_8 : decode jdk_38_method_2_code 8 = .ok (.putfield 9, 3) := by decide +kernel
theorem dA_11 : decode jdk_38_method_2_code 11 = .ok (.return_, 1) := by decide +kernel
theorem pd_dA___V : parseMethodDescriptor "()V" = some ⟨[], none⟩ := by decide +kernel
theorem ef_dA_ (m : MethodId) (a1 : Addr) : entryFrame m #[(.ref a1)] 1 = mkF m 0 #[.val (.ref a1)] [] := by first | (simp [entryFrame, mkF, argsToLocals, Value.category]; done) | rfl
def Q_rmA (Z : State) (a1 : Addr) (ds : Addr) (h0 : Heap) (n0 : Nat) (v : Option Value) (h : Heap) (L : List Loc) : Prop := v = none ∧ Fr n0 L ∧ Keep h0 h [a1]
theorem pn_rmA : plainName "java/util/ArrayList" = true := by first | (simp [plainName, overriddenIn]; done) | decide +kernel
set_option maxRecDepth 65536 in
set_option maxHeartbeats 40000000 in
theorem rmA (l : Launch) (Z : State) (a0 : Array Value) (hw : ∀ d ∈ tables_1, d.before a0 Z = true) (ws : List Jvm.Cond) (a1 : Addr) (ds : Addr) (h0 : Heap) (n0 : Nat) (Z0 : n0 ≤ h0.size) (E : Exa Z h0 a1 "java/util/ArrayList") (F : Fld Z h0 a1 "java/util/AbstractList" "modCount" "I" (.int (0 : Int32))) (F2 : Fld Z h0 a1 "java/util/ArrayList" "elementData" "[Ljava/lang/Object;" .null) (S : Sta Z h0 "java/util/ArrayList" "DEFAULTCAPACITY_EMPTY_ELEMENTDATA" "[Ljava/lang/Object;" (.ref ds)) (ga : n0 ≤ a1) :
    MetFree l (⟨"java/util/ArrayList", "<init>", "()V"⟩ : MethodName) (head1 (Jvm.Cond.code (⟨"java/util/ArrayList", "<init>", "()V"⟩ : MethodName) jdk_38_method_2_code 1 none :: ws) ({ frames := 3, cells := 0, slots := 0, locals := 36 } : Room)) (fun a U => a = #[(.ref a1)] ∧ Z.Warmed39 U.vm ∧ U.heap = h0) (fun _ _ _ _ _ => True) (fun _ U o U' => ∃ v L, o = .returned v ∧ Q_rmA Z a1 ds  h0 n0 v U'.heap L ∧ FrameEnd U o U' L ({ frames := 3, cells := 0, slots := 0, locals := 36 } : Room).cells ({ frames := 3, cells := 0, slots := 0, locals := 36 } : Room).slots) := by
  refine MetFree.of_bodySF (plainFor_of_name pn_rmA) hisR ?_
  intro p e s m args below meth c s₁ Bd hml0 hP hK
  obtain ⟨rfl, hZ, hh⟩ := hP
  have hx := Bd.exec
  have hby := Bd.bytes
  have hml : c.maxLocals = 1 := hml0
  have hown : s.vm.findClass "java/util/ArrayList" = some m.cls := findClass_of_methodNamed Bd.named
  have hnm := (name_of_methodNamed Bd.named Bd.method).1
  have X0 : Stand p l e ({ frames := 3, cells := 0, slots := 0, locals := 36 } : Room) s m #[(.ref a1)] below meth c s₁ [] 0 0 := Stand.of_body Bd
  have e0 : s₁.heap = h0 := by rw [← hh, Bd.state]; rfl
  have N0 := Fr.nil n0
  have pre0 : ∀ tZ, Steps p.tables e below (s₁.setTop (mkF m 0 #[.val (.ref a1)] [])) tZ → Steps p.tables e below (s₁.setTop (entryFrame m #[(.ref a1)] 1)) tZ := fun tZ kZ => castTop (ef_dA_ m a1) kZ
  obtain ⟨_, _, ⟨T1, L1, k1, n1⟩, -, X1, ⟨Lc1, hQ1, l1, y1, z1⟩, st1⟩ := X0.specialBack hx (y := (⟨"java/util/AbstractList", "<init>", "()V"⟩ : MethodName)) rfl hown (mvT hZ (hw _ (List.mem_of_getElem? (i := 7) rfl))) (mvT hZ (hw _ (List.mem_of_getElem? (i := 8) rfl))) (mvT hZ (hw _ (List.mem_of_getElem? (i := 12) rfl))) (by decide) (backOf (W := 0) (rmB l Z a0 hw [] a1 h0 n0 Z0 E F ga) hZ (hw _ (List.mem_of_getElem? (i := 12) rfl)) (hw _ (List.mem_of_getElem? (i := 11) rfl)) (by decide) (by decide)) (g := (mkF m 1 #[.val (.ref a1)] [(.ref a1)])) rfl (by rw [hml]; rfl) (Steps.refl _) (a := a1) (argsL := []) (rest := []) (lenOf pd_dA___V rfl) rfl (by show 2 * 0 + _ ≤ _; exact Nat.le_of_eq rfl) (hb hby dA_1) (fun _ _ => ⟨rfl, e0, (by decide : 0 + 0 ≤ _), (by decide : 0 + 0 ≤ _)⟩)
  dsimp only [Pt.U, Pt.locs, Pt.cells, Pt.slots] at X1 l1 y1 z1 st1 hQ1
  subst l1 y1 z1
  obtain ⟨rfl, N1q, Wb⟩ := hQ1
  have N1 := Fr.app N0 N1q
  have E2 := E.wr Wb
  have S2 := S.wr Wb
  have F3 := F2.other Wb (Or.inr (slot_ne (Or.inl (hw _ (List.mem_of_getElem? (i := 26) rfl))) (Or.inl (hw _ (List.mem_of_getElem? (i := 23) rfl))) (by decide) (t := (.array (.object "java/lang/Object"))) (t' := .int) (by decide) (by decide)))
  obtain ⟨T2, X2, e2, st2⟩ := getS2 X1 hx hZ hown (host := "") (Or.inl (hw _ (List.mem_of_getElem? (i := 24) rfl))) Via.refl rfl S2 (g := (mkF m 5 #[.val (.ref a1)] [(.ref a1)])) rfl (hb hby dA_5)
  obtain ⟨T3, h3, X3, e3, W3, st3⟩ := putF X2 hx hZ hown (host := "") (Or.inl (hw _ (List.mem_of_getElem? (i := 25) rfl))) Via.refl e2 F3 E2 (Or.inl (hw _ (List.mem_of_getElem? (i := 26) rfl))) (hw _ (List.mem_of_getElem? (i := 2) rfl)) (ty := (.array (.object "java/lang/Object"))) (by decide) rfl rfl (g := (mkF m 8 #[.val (.ref a1)] [(.ref ds), (.ref a1)])) rfl rfl (hb hby dA_8)
  have K1 : Keep h0 h3 [a1] := ((Keep.refl h0 [a1]).wr Wb (Or.inl (List.mem_of_getElem? (i := 0) rfl))).wr W3 (Or.inl (List.mem_of_getElem? (i := 0) rfl))
  have M1 := Fr.snoc X3 N1 ga
  obtain ⟨fs, hr, hrun, hended, hW, hsame⟩ := X3.leave (v := none) (fun _ => rfl)
  refine ⟨_, _, pre0 _ ?_, hrun, hended, _, _, rfl, ?_, ⟨_, rfl⟩, hW, hsame.mono (by decide) (by decide)⟩
  · show Steps p.tables e below (s₁.setTop (mkF m 0 #[.val (.ref a1)] [])) _
    refine XS.aloadN X0.here hx rfl (hb hby dA_0) rfl rfl ?_
    show Steps p.tables e below (s₁.setTop (mkF m 1 #[.val (.ref a1)] [(.ref a1)])) _
    refine st1.trans ?_
    show Steps p.tables e below (T1.setTop (mkF m 4 #[.val (.ref a1)] [])) _
    refine XS.aloadN X1.here hx rfl (hb hby dA_4) rfl rfl ?_
    show Steps p.tables e below (T1.setTop (mkF m 5 #[.val (.ref a1)] [(.ref a1)])) _
    refine st2 _ ?_
    show Steps p.tables e below (T2.setTop (mkF m 8 #[.val (.ref a1)] [(.ref ds), (.ref a1)])) _
    refine st3 _ ?_
    show Steps p.tables e below (T3.setTop (mkF m 11 #[.val (.ref a1)] [])) _
    exact X3.returnOut hx Bd.returns (hb hby dA_11) hr
  · show Q_rmA Z a1 ds h0 n0 _ T3.heap _
    rw [e3]
    exact ⟨rfl, M1, K1⟩

theorem own_sym (a b : Int64) : lcmpW a b = (0 : Int32) ↔ lcmpW b a = (0 : Int32) := by rw [lw_eq, lw_eq]; exact eq_comm
theorem dF_0 : decode jdk_65_method_101_code 0 = .ok (.iconst 0, 1) := by decide +kernel
theorem dF_1 : decode jdk_65_method_101_code 1 = .ok (.istore_n 3, 1) := by decide +kernel
theorem dF_2 : decode jdk_65_method_101_code 2 = .ok (.aload_n 0, 1) := by decide +kernel
theorem dF_3 : decode jdk_65_method_101_code 3 = .ok (.arraylength, 1) := by decide +kernel
theorem dF_4 : decode jdk_65_method_101_code 4 = .ok (.istore 4, 2) := by decide +kernel
theorem dF_6 : decode jdk_65_method_101_code 6 = .ok (.iload_n 3, 1) := by decide +kernel
theorem dF_7 : decode jdk_65_method_101_code 7 = .ok (.iload 4, 2) := by decide +kernel
theorem dF_9 : decode jdk_65_method_101_code 9 = .ok (.if_icmp .ge 13, 3) := by decide +kernel
theorem dF_12 : decode jdk_65_method_101_code 12 = .ok (.aload_n 0, 1) := by decide +kernel
theorem dF_13 : decode jdk_65_method_101_code 13 = .ok (.iload_n 3, 1) := by decide +kernel
theorem dF_14 : decode jdk_65_method_101_code 14 = .ok (.lload_n 1, 1) := by decide +kernel
theorem dF_15 : decode jdk_65_method_101_code 15 = .ok (.lastore, 1) := by decide +kernel
theorem dF_16 : decode jdk_65_method_101_code 16 = .ok (.iinc 3 1, 3) := by decide +kernel
theorem dF_19 : decode jdk_65_method_101_code 19 = .ok (.goto (-13), 3) := by decide +kernel
theorem dF_22 : decode jdk_65_method_101_code 22 = .ok (.return_, 1) := by decide +kernel
theorem dT_0 : decode prog_13_method_1_code 0 = .ok (.aload_n 0, 1) := by decide +kernel
theorem dT_1 : decode prog_13_method_1_code 1 = .ok (.invokespecial 1, 3) := by decide +kernel
theorem dT_4 : decode prog_13_method_1_code 4 = .ok (.aload_n 0, 1) := by decide +kernel
theorem dT_5 : decode prog_13_method_1_code 5 = .ok (.aload_n 1, 1) := by decide +kernel
theorem dT_6 : decode prog_13_method_1_code 6 = .ok (.putfield 7, 3) := by decide +kernel
theorem dT_9 : decode prog_13_method_1_code 9 = .ok (.aload_n 0, 1) := by decide +kernel
theorem dT_10 : decode prog_13_method_1_code 10 = .ok (.aload_n 2, 1) := by decide +kernel
theorem dT_11 : decode prog_13_method_1_code 11 = .ok (.putfield 13, 3) := by decide +kernel
theorem dT_14 : decode prog_13_method_1_code 14 = .ok (.aload_n 0, 1) := by decide +kernel
theorem dT_15 : decode prog_13_method_1_code 15 = .ok (.aload_n 2, 1) := by decide +kernel
theorem dT_16 : decode prog_13_method_1_code 16 = .ok (.arraylength, 1) := by decide +kernel
theorem dT_17 : decode prog_13_method_1_code 17 = .ok (.newarray .long, 2) := by decide +kernel
theorem dT_19 : decode prog_13_method_1_code 19 = .ok (.putfield 17, 3) := by decide +kernel
theorem dT_22 : decode prog_13_method_1_code 22 = .ok (.aload_n 0, 1) := by decide +kernel
theorem dT_23 : decode prog_13_method_1_code 23 = .ok (.getfield 17, 3) := by decide +kernel
theorem dT_26 : decode prog_13_method_1_code 26 = .ok (.lload_n 3, 1) := by decide +kernel
theorem dT_27 : decode prog_13_method_1_code 27 = .ok (.invokestatic 20, 3) := by decide +kernel
theorem dT_30 : decode prog_13_method_1_code 30 = .ok (.return_, 1) := by decide +kernel
theorem dG_0 : decode prog_13_method_4_code 0 = .ok (.aload_n 0, 1) := by decide +kernel
theorem dG_1 : decode prog_13_method_4_code 1 = .ok (.getfield 13, 3) := by decide +kernel
theorem dG_4 : decode prog_13_method_4_code 4 = .ok (.astore_n 3, 1) := by decide +kernel
theorem dG_5 : decode prog_13_method_4_code 5 = .ok (.aload_n 3, 1) := by decide +kernel
theorem dG_6 : decode prog_13_method_4_code 6 = .ok (.arraylength, 1) := by decide +kernel
theorem dG_7 : decode prog_13_method_4_code 7 = .ok (.istore 4, 2) := by decide +kernel
theorem dG_9 : decode prog_13_method_4_code 9 = .ok (.iconst 0, 1) := by decide +kernel
theorem dG_10 : decode prog_13_method_4_code 10 = .ok (.istore 5, 2) := by decide +kernel
theorem dG_12 : decode prog_13_method_4_code 12 = .ok (.iload 5, 2) := by decide +kernel
theorem dG_14 : decode prog_13_method_4_code 14 = .ok (.iload 4, 2) := by decide +kernel
theorem dG_16 : decode prog_13_method_4_code 16 = .ok (.if_icmp .ge 24, 3) := by decide +kernel
theorem dG_19 : decode prog_13_method_4_code 19 = .ok (.aload_n 3, 1) := by decide +kernel
theorem dG_20 : decode prog_13_method_4_code 20 = .ok (.iload 5, 2) := by decide +kernel
theorem dG_22 : decode prog_13_method_4_code 22 = .ok (.laload, 1) := by decide +kernel
theorem dG_23 : decode prog_13_method_4_code 23 = .ok (.lstore 6, 2) := by decide +kernel
theorem dG_25 : decode prog_13_method_4_code 25 = .ok (.lload 6, 2) := by decide +kernel
theorem dG_27 : decode prog_13_method_4_code 27 = .ok (.lload_n 1, 1) := by decide +kernel
theorem dG_28 : decode prog_13_method_4_code 28 = .ok (.lcmp, 1) := by decide +kernel
theorem dG_29 : decode prog_13_method_4_code 29 = .ok (.ifCond .ne 5, 3) := by decide +kernel
theorem dG_32 : decode prog_13_method_4_code 32 = .ok (.iconst 1, 1) := by decide +kernel
theorem dG_33 : decode prog_13_method_4_code 33 = .ok (.ireturn, 1) := by decide +kernel
theorem dG_34 : decode prog_13_method_4_code 34 = .ok (.iinc 5 1, 3) := by decide +kernel
theorem dG_37 : decode prog_13_method_4_code 37 = .ok (.goto (-25), 3) := by decide +kernel
theorem dG_40 : decode prog_13_method_4_code 40 = .ok (.iconst 0, 1) := by decide +kernel
theorem dG_41 : decode prog_13_method_4_code 41 = .ok (.ireturn, 1) := by decide +kernel
theorem pd_dT___JJ_V : parseMethodDescriptor "([JJ)V" = some ⟨[(.array .long), .long], none⟩ := by decide +kernel
theorem ef_dF_ (m : MethodId) (a1 : Addr) (q2 : Int64) : entryFrame m #[(.ref a1), (.long q2)] 5 = mkF m 0 #[.val (.ref a1), .val (.long q2), .second, .unset, .unset] [] := by first | (simp [entryFrame, mkF, argsToLocals, Value.category]; done) | rfl
def Q_rmF_0 (Z : State) (a1 : Addr) (q2 : Int64) (ca : Cell) (h0 : Heap) (n0 : Nat) (v : Option Value) (h : Heap) (L : List Loc) : Prop := v = none ∧ Fr n0 L ∧ Keep h0 h [a1]
theorem pn_rmF_0 : plainName "java/util/Arrays" = true := by first | (simp [plainName, overriddenIn]; done) | decide +kernel
set_option maxRecDepth 65536 in
set_option maxHeartbeats 40000000 in
theorem rmF_0 (l : Launch) (Z : State) (a0 : Array Value) (hw : ∀ d ∈ tables_1, d.before a0 Z = true) (ws : List Jvm.Cond) (a1 : Addr) (q2 : Int64) (ca : Cell) (h0 : Heap) (n0 : Nat) (Z0 : n0 ≤ h0.size) (A0 : Arr Z h0 a1 ca .long) (S0 : ca.slots.size = (0 : Int32).toNatClampNeg) (ga : n0 ≤ a1) :
    MetFree l (⟨"java/util/Arrays", "fill", "([JJ)V"⟩ : MethodName) (head1 (Jvm.Cond.code (⟨"java/util/Arrays", "fill", "([JJ)V"⟩ : MethodName) jdk_65_method_101_code 5 none :: ws) ({ frames := 0, cells := 0, slots := 0, locals := 0 } : Room)) (fun a U => a = #[(.ref a1), (.long q2)] ∧ Z.Warmed39 U.vm ∧ U.heap = h0) (fun _ _ _ _ _ => True) (fun _ U o U' => ∃ v L, o = .returned v ∧ Q_rmF_0 Z a1 q2 ca  h0 n0 v U'.heap L ∧ FrameEnd U o U' L ({ frames := 0, cells := 0, slots := 0, locals := 0 } : Room).cells ({ frames := 0, cells := 0, slots := 0, locals := 0 } : Room).slots) := by
  refine MetFree.of_bodySF (plainFor_of_name pn_rmF_0) hisR ?_
  intro p e s m args below meth c s₁ Bd hml0 hP hK
  obtain ⟨rfl, hZ, hh⟩ := hP
  have hx := Bd.exec
  have hby := Bd.bytes
  have hml : c.maxLocals = 5 := hml0
  have hown : s.vm.findClass "java/util/Arrays" = some m.cls := findClass_of_methodNamed Bd.named
  have hnm := (name_of_methodNamed Bd.named Bd.method).1
  have X0 : Stand p l e ({ frames := 0, cells := 0, slots := 0, locals := 0 } : Room) s m #[(.ref a1), (.long q2)] below meth c s₁ [] 0 0 := Stand.of_body Bd
  have e0 : s₁.heap = h0 := by rw [← hh, Bd.state]; rfl
  have N0 := Fr.nil n0
  have pre0 : ∀ tZ, Steps p.tables e below (s₁.setTop (mkF m 0 #[.val (.ref a1), .val (.long q2), .second, .unset, .unset] [])) tZ → Steps p.tables e below (s₁.setTop (entryFrame m #[(.ref a1), (.long q2)] 5)) tZ := fun tZ kZ => castTop (ef_dF_ m a1 q2) kZ
  obtain ⟨fs, hr, hrun, hended, hW, hsame⟩ := X0.leave (v := none) (fun _ => rfl)
  refine ⟨_, _, pre0 _ ?_, hrun, hended, _, _, rfl, ?_, ⟨_, rfl⟩, hW, hsame.mono (by decide) (by decide)⟩
  · show Steps p.tables e below (s₁.setTop (mkF m 0 #[.val (.ref a1), .val (.long q2), .second, .unset, .unset] [])) _
    refine XS.iconst X0.here hx rfl (hb hby dF_0) ?_
    show Steps p.tables e below (s₁.setTop (mkF m 1 #[.val (.ref a1), .val (.long q2), .second, .unset, .unset] [(.int (0 : Int32))])) _
    refine XS.istoreN X0.here hx rfl (hb hby dF_1) rfl (l' := #[.val (.ref a1), .val (.long q2), .second, .val (.int (0 : Int32)), .unset]) rfl ?_
    show Steps p.tables e below (s₁.setTop (mkF m 2 #[.val (.ref a1), .val (.long q2), .second, .val (.int (0 : Int32)), .unset] [])) _
    refine XS.aloadN X0.here hx rfl (hb hby dF_2) rfl rfl ?_
    show Steps p.tables e below (s₁.setTop (mkF m 3 #[.val (.ref a1), .val (.long q2), .second, .val (.int (0 : Int32)), .unset] [(.ref a1)])) _
    refine X0.arraylength hx (by rw [e0]; exact A0.1) (State.isArrayOf_alike hZ.alike A0.2.1) (g := (mkF m 3 #[.val (.ref a1), .val (.long q2), .second, .val (.int (0 : Int32)), .unset] [(.ref a1)])) rfl rfl (hb hby dF_3) _ ?_
    rw [len_of S0 (by decide : ¬ (0 : Int32) < 0)]
    show Steps p.tables e below (s₁.setTop (mkF m 4 #[.val (.ref a1), .val (.long q2), .second, .val (.int (0 : Int32)), .unset] [(.int (0 : Int32))])) _
    refine XS.istore X0.here hx rfl (hb hby dF_4) rfl (l' := #[.val (.ref a1), .val (.long q2), .second, .val (.int (0 : Int32)), .val (.int (0 : Int32))]) rfl ?_
    show Steps p.tables e below (s₁.setTop (mkF m 6 #[.val (.ref a1), .val (.long q2), .second, .val (.int (0 : Int32)), .val (.int (0 : Int32))] [])) _
    refine XS.iloadN X0.here hx rfl (hb hby dF_6) rfl ?_
    show Steps p.tables e below (s₁.setTop (mkF m 7 #[.val (.ref a1), .val (.long q2), .second, .val (.int (0 : Int32)), .val (.int (0 : Int32))] [(.int (0 : Int32))])) _
    refine XS.iload X0.here hx rfl (hb hby dF_7) rfl ?_
    show Steps p.tables e below (s₁.setTop (mkF m 9 #[.val (.ref a1), .val (.long q2), .second, .val (.int (0 : Int32)), .val (.int (0 : Int32))] [(.int (0 : Int32)), (.int (0 : Int32))])) _
    refine XS.icmpYes X0.here hx rfl (pc0 := 9) (pc' := 22) rfl (hb hby dF_9) rfl (flt (by decide)).2.1 (by decide) (by decide) ?_
    show Steps p.tables e below (s₁.setTop (mkF m 22 #[.val (.ref a1), .val (.long q2), .second, .val (.int (0 : Int32)), .val (.int (0 : Int32))] [])) _
    exact X0.returnOut hx Bd.returns (hb hby dF_22) hr
  · show Q_rmF_0 Z a1 q2 ca h0 n0 _ s₁.heap _
    rw [e0]
    exact ⟨rfl, N0, (Keep.refl h0 [a1])⟩

theorem ef_dT_ (m : MethodId) (a1 : Addr) (l2 : Addr) (r3 : Addr) (q4 : Int64) : entryFrame m #[(.ref a1), (.ref l2), (.ref r3), (.long q4)] 5 = mkF m 0 #[.val (.ref a1), .val (.ref l2), .val (.ref r3), .val (.long q4), .second] [] := by first | (simp [entryFrame, mkF, argsToLocals, Value.category]; done) | rfl
def Q_rmT_0 (Z : State) (a1 : Addr) (l2 : Addr) (r3 : Addr) (q4 : Int64) (cr : Cell) (h0 : Heap) (n0 : Nat) (v : Option Value) (h : Heap) (L : List Loc) : Prop := v = none ∧ Fr n0 L ∧ Keep h0 h [a1] ∧ Exa Z h a1 "com/example/done_by_xor/donebyxor/runtime/Tuple" ∧ Fld Z h a1 "com/example/done_by_xor/donebyxor/runtime/Tuple" "roots" "[J" (.ref r3)
theorem pn_rmT_0 : plainName "com/example/done_by_xor/donebyxor/runtime/Tuple" = true := by first | (simp [plainName, overriddenIn]; done) | decide +kernel
set_option maxRecDepth 65536 in
set_option maxHeartbeats 40000000 in
theorem rmT_0 (l : Launch) (Z : State) (a0 : Array Value) (hw : ∀ d ∈ tables_1, d.before a0 Z = true) (ws : List Jvm.Cond) (a1 : Addr) (l2 : Addr) (r3 : Addr) (q4 : Int64) (cr : Cell) (h0 : Heap) (n0 : Nat) (Z0 : n0 ≤ h0.size) (E : Exa Z h0 a1 "com/example/done_by_xor/donebyxor/runtime/Tuple") (F1 : Fld Z h0 a1 "com/example/done_by_xor/donebyxor/runtime/Tuple" "values" "Ljava/util/List;" .null) (F2 : Fld Z h0 a1 "com/example/done_by_xor/donebyxor/runtime/Tuple" "roots" "[J" .null) (F3 : Fld Z h0 a1 "com/example/done_by_xor/donebyxor/runtime/Tuple" "ackValues" "[J" .null) (Ar : Arr Z h0 r3 cr .long) (Sr : cr.slots.size = (0 : Int32).toNatClampNeg) (hne : r3 ≠ a1) (ga : n0 ≤ a1) :
    MetFree l (⟨"com/example/done_by_xor/donebyxor/runtime/Tuple", "<init>", "(Ljava/util/List;[JJ)V"⟩ : MethodName) (head1 (Jvm.Cond.code (⟨"com/example/done_by_xor/donebyxor/runtime/Tuple", "<init>", "(Ljava/util/List;[JJ)V"⟩ : MethodName) prog_13_method_1_code 5 none :: ws) ({ frames := 1, cells := 1, slots := 0, locals := 16 } : Room)) (fun a U => a = #[(.ref a1), (.ref l2), (.ref r3), (.long q4)] ∧ Z.Warmed39 U.vm ∧ U.heap = h0) (fun _ _ _ _ _ => True) (fun _ U o U' => ∃ v L, o = .returned v ∧ Q_rmT_0 Z a1 l2 r3 q4 cr  h0 n0 v U'.heap L ∧ FrameEnd U o U' L ({ frames := 1, cells := 1, slots := 0, locals := 16 } : Room).cells ({ frames := 1, cells := 1, slots := 0, locals := 16 } : Room).slots) := by
  refine MetFree.of_bodySF (plainFor_of_name pn_rmT_0) hisR ?_
  intro p e s m args below meth c s₁ Bd hml0 hP hK
  obtain ⟨rfl, hZ, hh⟩ := hP
  have hx := Bd.exec
  have hby := Bd.bytes
  have hml : c.maxLocals = 5 := hml0
  have hown : s.vm.findClass "com/example/done_by_xor/donebyxor/runtime/Tuple" = some m.cls := findClass_of_methodNamed Bd.named
  have hnm := (name_of_methodNamed Bd.named Bd.method).1
  have X0 : Stand p l e ({ frames := 1, cells := 1, slots := 0, locals := 16 } : Room) s m #[(.ref a1), (.ref l2), (.ref r3), (.long q4)] below meth c s₁ [] 0 0 := Stand.of_body Bd
  have e0 : s₁.heap = h0 := by rw [← hh, Bd.state]; rfl
  have N0 := Fr.nil n0
  have pre0 : ∀ tZ, Steps p.tables e below (s₁.setTop (mkF m 0 #[.val (.ref a1), .val (.ref l2), .val (.ref r3), .val (.long q4), .second] [])) tZ → Steps p.tables e below (s₁.setTop (entryFrame m #[(.ref a1), (.ref l2), (.ref r3), (.long q4)] 5)) tZ := fun tZ kZ => castTop (ef_dT_ m a1 l2 r3 q4) kZ
  obtain ⟨T1, X1, e1, st1⟩ := initO X0 hx hZ hown (hw _ (List.mem_of_getElem? (i := 33) rfl)) (hw _ (List.mem_of_getElem? (i := 20) rfl)) (hw _ (List.mem_of_getElem? (i := 21) rfl)) e0 (g := (mkF m 1 #[.val (.ref a1), .val (.ref l2), .val (.ref r3), .val (.long q4), .second] [(.ref a1)])) rfl (by rw [hml]; rfl) rfl (hb hby dT_1) (by decide) (W := 0) (by show 2 * 0 + _ ≤ _; exact Nat.le_of_eq rfl) (by decide)
  obtain ⟨T2, h2, X2, e2, W2, st2⟩ := putF X1 hx hZ hown (host := "") (Or.inl (hw _ (List.mem_of_getElem? (i := 34) rfl))) Via.refl e1 F1 E (Or.inr ⟨(hw _ (List.mem_of_getElem? (i := 35) rfl)), rfl, hnm⟩) (hw _ (List.mem_of_getElem? (i := 28) rfl)) (ty := (.object "java/util/List")) (by decide) rfl rfl (g := (mkF m 6 #[.val (.ref a1), .val (.ref l2), .val (.ref r3), .val (.long q4), .second] [(.ref l2), (.ref a1)])) rfl rfl (hb hby dT_6)
  have Ea := E.wr W2
  have F2a := F2.other W2 (Or.inr (slot_ne (Or.inr (hw _ (List.mem_of_getElem? (i := 37) rfl))) (Or.inr (hw _ (List.mem_of_getElem? (i := 35) rfl))) (by decide) (t := (.array .long)) (t' := (.object "java/util/List")) (by decide) (by decide)))
  have F3a := F3.other W2 (Or.inr (slot_ne (Or.inr (hw _ (List.mem_of_getElem? (i := 39) rfl))) (Or.inr (hw _ (List.mem_of_getElem? (i := 35) rfl))) (by decide) (t := (.array .long)) (t' := (.object "java/util/List")) (by decide) (by decide)))
  have Ara := Ar.other W2 hne
  have Ka : Keep h0 h2 [a1] := (Keep.refl h0 [a1]).wr W2 (Or.inl (List.mem_of_getElem? (i := 0) rfl))
  have Na := Fr.snoc X2 N0 ga
  obtain ⟨T3, h3, X3, e3, W3, st3⟩ := putF X2 hx hZ hown (host := "") (Or.inl (hw _ (List.mem_of_getElem? (i := 36) rfl))) Via.refl e2 F2a Ea (Or.inr ⟨(hw _ (List.mem_of_getElem? (i := 37) rfl)), rfl, hnm⟩) (hw _ (List.mem_of_getElem? (i := 28) rfl)) (ty := (.array .long)) (by decide) rfl rfl (g := (mkF m 11 #[.val (.ref a1), .val (.ref l2), .val (.ref r3), .val (.long q4), .second] [(.ref r3), (.ref a1)])) rfl rfl (hb hby dT_11)
  have Eb := Ea.wr W3
  have F2b := F2a.same W3
  have F3b := F3a.other W3 (Or.inr (slot_ne (Or.inr (hw _ (List.mem_of_getElem? (i := 39) rfl))) (Or.inr (hw _ (List.mem_of_getElem? (i := 37) rfl))) (by decide) (t := (.array .long)) (t' := (.array .long)) (by decide) (by decide)))
  have Arb := Ara.other W3 hne
  have Kb : Keep h0 h3 [a1] := Ka.wr W3 (Or.inl (List.mem_of_getElem? (i := 0) rfl))
  have Nb := Fr.snoc X3 Na ga
  obtain ⟨T4, h4, k4, X4, e4, E4, A4, st4⟩ := newP X3 hx hZ (hw _ (List.mem_of_getElem? (i := 0) rfl)) e3 (g := (mkF m 17 #[.val (.ref a1), .val (.ref l2), .val (.ref r3), .val (.long q4), .second] [(.int (0 : Int32)), (.ref a1)])) rfl (hb hby dT_17) rfl (by decide) (cap := 0) (by decide) (by decide) (by decide) (by decide)
  obtain ⟨b4, g4⟩ : ∃ z, z = h3.size := ⟨_, rfl⟩
  rw [← g4] at A4 st4
  have V4 := Arv.new A4 (by decide)
  have Ec := Eb.ext E4
  have F2c := F2b.ext E4
  have F3c := F3b.ext E4
  have Kc := Kb.ext E4
  obtain ⟨T5, h5, X5, e5, W5, st5⟩ := putF X4 hx hZ hown (host := "") (Or.inl (hw _ (List.mem_of_getElem? (i := 38) rfl))) Via.refl e4 F3c Ec (Or.inr ⟨(hw _ (List.mem_of_getElem? (i := 39) rfl)), rfl, hnm⟩) (hw _ (List.mem_of_getElem? (i := 28) rfl)) (ty := (.array .long)) (by decide) rfl rfl (g := (mkF m 19 #[.val (.ref a1), .val (.ref l2), .val (.ref r3), .val (.long q4), .second] [(.ref b4), (.ref a1)])) rfl rfl (hb hby dT_19)
  have Ed := Ec.wr W5
  have F2d := F2c.other W5 (Or.inr (slot_ne (Or.inr (hw _ (List.mem_of_getElem? (i := 37) rfl))) (Or.inr (hw _ (List.mem_of_getElem? (i := 39) rfl))) (by decide) (t := (.array .long)) (t' := (.array .long)) (by decide) (by decide)))
  have F3d := F3c.same W5
  have Kd : Keep h0 h5 [a1] := Kc.wr W5 (Or.inl (List.mem_of_getElem? (i := 0) rfl))
  have Nd := Fr.snoc X5 Nb ga
  have neb : b4 ≠ a1 := fun q => Nat.lt_irrefl _ (Nat.lt_of_lt_of_le Eb.lt (Nat.le_of_eq (g4.symm.trans q)))
  have A4 := A4.other W5 neb
  obtain ⟨T6, X6, e6, st6⟩ := getF X5 hx hZ hown (host := "") (Or.inl (hw _ (List.mem_of_getElem? (i := 38) rfl))) Via.refl e5 F3d (g := (mkF m 23 #[.val (.ref a1), .val (.ref l2), .val (.ref r3), .val (.long q4), .second] [(.ref a1)])) rfl rfl (hb hby dT_23)
  have Ze : n0 ≤ h5.size := Nat.le_trans Z0 Kd.1
  have gbn : n0 ≤ b4 := Nat.le_trans (Nat.le_trans Z0 Kb.1) (Nat.le_of_eq g4.symm)
  obtain ⟨_, _, ⟨T7, L7, k7, n7⟩, -, X7, ⟨Lc7, hQ7, l7, y7, z7⟩, st7⟩ := Jvm.LawKit.callS X6 hx (y := (⟨"java/util/Arrays", "fill", "([JJ)V"⟩ : MethodName)) hown (mvT hZ (hw _ (List.mem_of_getElem? (i := 40) rfl))) (mvT hZ (hw _ (List.mem_of_getElem? (i := 41) rfl))) (mvT hZ (hw _ (List.mem_of_getElem? (i := 42) rfl))) (mvT hZ (hw _ (List.mem_of_getElem? (i := 43) rfl))) (by decide) (backOf (W := 0) (rmF_0 l Z a0 hw [] b4 q4 _ h5 n0 Ze A4 (sz_new _ _ _) gbn) hZ (hw _ (List.mem_of_getElem? (i := 43) rfl)) (hw _ (List.mem_of_getElem? (i := 42) rfl)) (by decide) (by decide)) (g := (mkF m 27 #[.val (.ref a1), .val (.ref l2), .val (.ref r3), .val (.long q4), .second] [(.long q4), (.ref b4)])) rfl (by rw [hml]; rfl) (argsL := [(.ref b4), (.long q4)]) (rest := []) (lenOf pd_dT___JJ_V rfl) rfl (by show 2 * 0 + _ ≤ _; exact Nat.le_of_eq rfl) (hb hby dT_27) (fun _ _ => ⟨rfl, e6, (by decide : 1 + 0 ≤ _), (by decide : 0 + 0 ≤ _)⟩)
  dsimp only [Pt.U, Pt.locs, Pt.cells, Pt.slots] at X7 l7 y7 z7 st7 hQ7
  subst l7 y7 z7
  obtain ⟨rfl, N7q, K7⟩ := hQ7
  have N7 := Fr.app Nd N7q
  have Kf : Keep h0 T7.heap [a1] := Kd.trans K7 (allS (Or.inr (Nat.le_trans Kb.1 (Nat.le_of_eq g4.symm))) all0)
  have nfa : a1 ∉ [b4] := ninS (Ne.symm neb) nin0
  obtain ⟨fs, hr, hrun, hended, hW, hsame⟩ := X7.leave (v := none) (fun _ => rfl)
  refine ⟨_, _, pre0 _ ?_, hrun, hended, _, _, rfl, ?_, ⟨_, rfl⟩, hW, hsame.mono (by decide) (by decide)⟩
  · show Steps p.tables e below (s₁.setTop (mkF m 0 #[.val (.ref a1), .val (.ref l2), .val (.ref r3), .val (.long q4), .second] [])) _
    refine XS.aloadN X0.here hx rfl (hb hby dT_0) rfl rfl ?_
    show Steps p.tables e below (s₁.setTop (mkF m 1 #[.val (.ref a1), .val (.ref l2), .val (.ref r3), .val (.long q4), .second] [(.ref a1)])) _
    refine st1 _ ?_
    show Steps p.tables e below (T1.setTop (mkF m 4 #[.val (.ref a1), .val (.ref l2), .val (.ref r3), .val (.long q4), .second] [])) _
    refine XS.aloadN X1.here hx rfl (hb hby dT_4) rfl rfl ?_
    show Steps p.tables e below (T1.setTop (mkF m 5 #[.val (.ref a1), .val (.ref l2), .val (.ref r3), .val (.long q4), .second] [(.ref a1)])) _
    refine XS.aloadN X1.here hx rfl (hb hby dT_5) rfl rfl ?_
    show Steps p.tables e below (T1.setTop (mkF m 6 #[.val (.ref a1), .val (.ref l2), .val (.ref r3), .val (.long q4), .second] [(.ref l2), (.ref a1)])) _
    refine st2 _ ?_
    show Steps p.tables e below (T2.setTop (mkF m 9 #[.val (.ref a1), .val (.ref l2), .val (.ref r3), .val (.long q4), .second] [])) _
    refine XS.aloadN X2.here hx rfl (hb hby dT_9) rfl rfl ?_
    show Steps p.tables e below (T2.setTop (mkF m 10 #[.val (.ref a1), .val (.ref l2), .val (.ref r3), .val (.long q4), .second] [(.ref a1)])) _
    refine XS.aloadN X2.here hx rfl (hb hby dT_10) rfl rfl ?_
    show Steps p.tables e below (T2.setTop (mkF m 11 #[.val (.ref a1), .val (.ref l2), .val (.ref r3), .val (.long q4), .second] [(.ref r3), (.ref a1)])) _
    refine st3 _ ?_
    show Steps p.tables e below (T3.setTop (mkF m 14 #[.val (.ref a1), .val (.ref l2), .val (.ref r3), .val (.long q4), .second] [])) _
    refine XS.aloadN X3.here hx rfl (hb hby dT_14) rfl rfl ?_
    show Steps p.tables e below (T3.setTop (mkF m 15 #[.val (.ref a1), .val (.ref l2), .val (.ref r3), .val (.long q4), .second] [(.ref a1)])) _
    refine XS.aloadN X3.here hx rfl (hb hby dT_15) rfl rfl ?_
    show Steps p.tables e below (T3.setTop (mkF m 16 #[.val (.ref a1), .val (.ref l2), .val (.ref r3), .val (.long q4), .second] [(.ref r3), (.ref a1)])) _
    refine X3.arraylength hx (by rw [e3]; exact Arb.1) (State.isArrayOf_alike hZ.alike Arb.2.1) (g := (mkF m 16 #[.val (.ref a1), .val (.ref l2), .val (.ref r3), .val (.long q4), .second] [(.ref r3), (.ref a1)])) rfl rfl (hb hby dT_16) _ ?_
    rw [len_of Sr (by decide : ¬ (0 : Int32) < 0)]
    show Steps p.tables e below (T3.setTop (mkF m 17 #[.val (.ref a1), .val (.ref l2), .val (.ref r3), .val (.long q4), .second] [(.int (0 : Int32)), (.ref a1)])) _
    refine st4 _ ?_
    show Steps p.tables e below (T4.setTop (mkF m 19 #[.val (.ref a1), .val (.ref l2), .val (.ref r3), .val (.long q4), .second] [(.ref b4), (.ref a1)])) _
    refine st5 _ ?_
    show Steps p.tables e below (T5.setTop (mkF m 22 #[.val (.ref a1), .val (.ref l2), .val (.ref r3), .val (.long q4), .second] [])) _
    refine XS.aloadN X5.here hx rfl (hb hby dT_22) rfl rfl ?_
    show Steps p.tables e below (T5.setTop (mkF m 23 #[.val (.ref a1), .val (.ref l2), .val (.ref r3), .val (.long q4), .second] [(.ref a1)])) _
    refine st6 _ ?_
    show Steps p.tables e below (T6.setTop (mkF m 26 #[.val (.ref a1), .val (.ref l2), .val (.ref r3), .val (.long q4), .second] [(.ref b4)])) _
    refine XS.lloadN X6.here hx rfl (hb hby dT_26) rfl ?_
    show Steps p.tables e below (T6.setTop (mkF m 27 #[.val (.ref a1), .val (.ref l2), .val (.ref r3), .val (.long q4), .second] [(.long q4), (.ref b4)])) _
    refine st7 _ ?_
    show Steps p.tables e below (T7.setTop (mkF m 30 #[.val (.ref a1), .val (.ref l2), .val (.ref r3), .val (.long q4), .second] [])) _
    exact X7.returnOut hx Bd.returns (hb hby dT_30) hr
  · show Q_rmT_0 Z a1 l2 r3 q4 cr h0 n0 _ T7.heap _
    exact ⟨rfl, N7, Kf, Ed.keep K7, F2d.keep K7 nfa⟩

theorem ef_dG_ (m : MethodId) (a1 : Addr) (q2 : Int64) : entryFrame m #[(.ref a1), (.long q2)] 8 = mkF m 0 #[.val (.ref a1), .val (.long q2), .second, .unset, .unset, .unset, .unset, .unset] [] := by first | (simp [entryFrame, mkF, argsToLocals, Value.category]; done) | rfl
def Q_rmG_0 (Z : State) (a1 : Addr) (q2 : Int64) (r3 : Addr) (k3 : ClassId) (d3 : Value)  (h0 : Heap) (n0 : Nat) (v : Option Value) (h : Heap) (L : List Loc) : Prop := v = some (.int (0 : Int32)) ∧ Fr n0 L ∧ h = h0
theorem pn_rmG_0 : plainName "com/example/done_by_xor/donebyxor/runtime/Tuple" = true := by first | (simp [plainName, overriddenIn]; done) | decide +kernel
set_option maxRecDepth 65536 in
set_option maxHeartbeats 40000000 in
theorem rmG_0 (l : Launch) (Z : State) (a0 : Array Value) (hw : ∀ d ∈ tables_1, d.before a0 Z = true) (ws : List Jvm.Cond) (a1 : Addr) (q2 : Int64) (r3 : Addr) (k3 : ClassId) (d3 : Value)  (h0 : Heap) (n0 : Nat) (Z0 : n0 ≤ h0.size) (F : Fld Z h0 a1 "com/example/done_by_xor/donebyxor/runtime/Tuple" "roots" "[J" (.ref r3)) (V : Arv Z h0 r3 k3 .long (0 : Int32) [] d3) :
    MetFree l (⟨"com/example/done_by_xor/donebyxor/runtime/Tuple", "belongsTo", "(J)Z"⟩ : MethodName) (head1 (Jvm.Cond.code (⟨"com/example/done_by_xor/donebyxor/runtime/Tuple", "belongsTo", "(J)Z"⟩ : MethodName) prog_13_method_4_code 8 (some .boolean) :: ws) ({ frames := 0, cells := 0, slots := 0, locals := 0 } : Room)) (fun a U => a = #[(.ref a1), (.long q2)] ∧ Z.Warmed39 U.vm ∧ U.heap = h0) (fun _ _ _ _ _ => True) (fun _ U o U' => ∃ v L, o = .returned v ∧ Q_rmG_0 Z a1 q2 r3  k3  d3  h0 n0 v U'.heap L ∧ FrameEnd U o U' L ({ frames := 0, cells := 0, slots := 0, locals := 0 } : Room).cells ({ frames := 0, cells := 0, slots := 0, locals := 0 } : Room).slots) := by
  refine MetFree.of_bodySF (plainFor_of_name pn_rmG_0) hisR ?_
  intro p e s m args below meth c s₁ Bd hml0 hP hK
  obtain ⟨rfl, hZ, hh⟩ := hP
  have hx := Bd.exec
  have hby := Bd.bytes
  have hml : c.maxLocals = 8 := hml0
  have hown : s.vm.findClass "com/example/done_by_xor/donebyxor/runtime/Tuple" = some m.cls := findClass_of_methodNamed Bd.named
  have hnm := (name_of_methodNamed Bd.named Bd.method).1
  have X0 : Stand p l e ({ frames := 0, cells := 0, slots := 0, locals := 0 } : Room) s m #[(.ref a1), (.long q2)] below meth c s₁ [] 0 0 := Stand.of_body Bd
  have e0 : s₁.heap = h0 := by rw [← hh, Bd.state]; rfl
  have N0 := Fr.nil n0
  have pre0 : ∀ tZ, Steps p.tables e below (s₁.setTop (mkF m 0 #[.val (.ref a1), .val (.long q2), .second, .unset, .unset, .unset, .unset, .unset] [])) tZ → Steps p.tables e below (s₁.setTop (entryFrame m #[(.ref a1), (.long q2)] 8)) tZ := fun tZ kZ => castTop (ef_dG_ m a1 q2) kZ
  obtain ⟨cv, Av, qv, Sv, Nv, Hv, Gv⟩ := V
  obtain ⟨T1, X1, e1, st1⟩ := getF X0 hx hZ hown (host := "") (Or.inl (hw _ (List.mem_of_getElem? (i := 36) rfl))) Via.refl e0 F (g := (mkF m 1 #[.val (.ref a1), .val (.long q2), .second, .unset, .unset, .unset, .unset, .unset] [(.ref a1)])) rfl rfl (hb hby dG_1)
  obtain ⟨fs, hr, hrun, hended, hW, hsame⟩ := X1.leave (v := some (.int (0 : Int32))) (fun h => by rw [Bd.returns] at h; cases h)
  refine ⟨_, _, pre0 _ ?_, hrun, hended, _, _, rfl, ?_, ⟨_, rfl⟩, hW, hsame.mono (by decide) (by decide)⟩
  · show Steps p.tables e below (s₁.setTop (mkF m 0 #[.val (.ref a1), .val (.long q2), .second, .unset, .unset, .unset, .unset, .unset] [])) _
    refine XS.aloadN X0.here hx rfl (hb hby dG_0) rfl rfl ?_
    show Steps p.tables e below (s₁.setTop (mkF m 1 #[.val (.ref a1), .val (.long q2), .second, .unset, .unset, .unset, .unset, .unset] [(.ref a1)])) _
    refine st1 _ ?_
    show Steps p.tables e below (T1.setTop (mkF m 4 #[.val (.ref a1), .val (.long q2), .second, .unset, .unset, .unset, .unset, .unset] [(.ref r3)])) _
    refine XS.astoreN X1.here hx rfl (hb hby dG_4) rfl rfl (l' := #[.val (.ref a1), .val (.long q2), .second, .val (.ref r3), .unset, .unset, .unset, .unset]) rfl ?_
    show Steps p.tables e below (T1.setTop (mkF m 5 #[.val (.ref a1), .val (.long q2), .second, .val (.ref r3), .unset, .unset, .unset, .unset] [])) _
    refine XS.aloadN X1.here hx rfl (hb hby dG_5) rfl rfl ?_
    show Steps p.tables e below (T1.setTop (mkF m 6 #[.val (.ref a1), .val (.long q2), .second, .val (.ref r3), .unset, .unset, .unset, .unset] [(.ref r3)])) _
    refine X1.arraylength hx (by rw [e1]; exact Av.1) (State.isArrayOf_alike hZ.alike Av.2.1) (g := (mkF m 6 #[.val (.ref a1), .val (.long q2), .second, .val (.ref r3), .unset, .unset, .unset, .unset] [(.ref r3)])) rfl rfl (hb hby dG_6) _ ?_
    rw [len_of Sv Nv]
    show Steps p.tables e below (T1.setTop (mkF m 7 #[.val (.ref a1), .val (.long q2), .second, .val (.ref r3), .unset, .unset, .unset, .unset] [(.int (0 : Int32))])) _
    refine XS.istore X1.here hx rfl (hb hby dG_7) rfl (l' := #[.val (.ref a1), .val (.long q2), .second, .val (.ref r3), .val (.int (0 : Int32)), .unset, .unset, .unset]) rfl ?_
    show Steps p.tables e below (T1.setTop (mkF m 9 #[.val (.ref a1), .val (.long q2), .second, .val (.ref r3), .val (.int (0 : Int32)), .unset, .unset, .unset] [])) _
    refine XS.iconst X1.here hx rfl (hb hby dG_9) ?_
    show Steps p.tables e below (T1.setTop (mkF m 10 #[.val (.ref a1), .val (.long q2), .second, .val (.ref r3), .val (.int (0 : Int32)), .unset, .unset, .unset] [(.int (0 : Int32))])) _
    refine XS.istore X1.here hx rfl (hb hby dG_10) rfl (l' := #[.val (.ref a1), .val (.long q2), .second, .val (.ref r3), .val (.int (0 : Int32)), .val (.int (0 : Int32)), .unset, .unset]) rfl ?_
    show Steps p.tables e below (T1.setTop (mkF m 12 #[.val (.ref a1), .val (.long q2), .second, .val (.ref r3), .val (.int (0 : Int32)), .val (.int (0 : Int32)), .unset, .unset] [])) _
    refine XS.iload X1.here hx rfl (hb hby dG_12) rfl ?_
    show Steps p.tables e below (T1.setTop (mkF m 14 #[.val (.ref a1), .val (.long q2), .second, .val (.ref r3), .val (.int (0 : Int32)), .val (.int (0 : Int32)), .unset, .unset] [(.int (0 : Int32))])) _
    refine XS.iload X1.here hx rfl (hb hby dG_14) rfl ?_
    show Steps p.tables e below (T1.setTop (mkF m 16 #[.val (.ref a1), .val (.long q2), .second, .val (.ref r3), .val (.int (0 : Int32)), .val (.int (0 : Int32)), .unset, .unset] [(.int (0 : Int32)), (.int (0 : Int32))])) _
    refine XS.icmpYes X1.here hx rfl (pc0 := 16) (pc' := 40) rfl (hb hby dG_16) rfl (flt (by decide)).2.1 (by decide) (by decide) ?_
    show Steps p.tables e below (T1.setTop (mkF m 40 #[.val (.ref a1), .val (.long q2), .second, .val (.ref r3), .val (.int (0 : Int32)), .val (.int (0 : Int32)), .unset, .unset] [])) _
    refine XS.iconst X1.here hx rfl (hb hby dG_40) ?_
    show Steps p.tables e below (T1.setTop (mkF m 41 #[.val (.ref a1), .val (.long q2), .second, .val (.ref r3), .val (.int (0 : Int32)), .val (.int (0 : Int32)), .unset, .unset] [(.int (0 : Int32))])) _
    exact retN X1 hx (t := .boolean) Bd.returns (by simp) (hb hby dG_41) hr
  · show Q_rmG_0 Z a1 q2 r3 k3 d3  h0 n0 _ T1.heap _
    rw [e1]
    exact ⟨by rfl, N0, rfl⟩

theorem ef_dF1_ (m : MethodId) (a1 : Addr) (q2 : Int64) : entryFrame m #[(.ref a1), (.long q2)] 5 = mkF m 0 #[.val (.ref a1), .val (.long q2), .second, .unset, .unset] [] := by first | (simp [entryFrame, mkF, argsToLocals, Value.category]; done) | rfl
def Q_rmF_1 (Z : State) (a1 : Addr) (q2 : Int64) (ca : Cell) (h0 : Heap) (n0 : Nat) (v : Option Value) (h : Heap) (L : List Loc) : Prop := v = none ∧ Fr n0 L ∧ Keep h0 h [a1]
theorem pn_rmF_1 : plainName "java/util/Arrays" = true := by first | (simp [plainName, overriddenIn]; done) | decide +kernel
set_option maxRecDepth 65536 in
set_option maxHeartbeats 40000000 in
theorem rmF_1 (l : Launch) (Z : State) (a0 : Array Value) (hw : ∀ d ∈ tables_1, d.before a0 Z = true) (ws : List Jvm.Cond) (a1 : Addr) (q2 : Int64) (ca : Cell) (h0 : Heap) (n0 : Nat) (Z0 : n0 ≤ h0.size) (A0 : Arr Z h0 a1 ca .long) (S0 : ca.slots.size = (1 : Int32).toNatClampNeg) (ga : n0 ≤ a1) :
    MetFree l (⟨"java/util/Arrays", "fill", "([JJ)V"⟩ : MethodName) (head1 (Jvm.Cond.code (⟨"java/util/Arrays", "fill", "([JJ)V"⟩ : MethodName) jdk_65_method_101_code 5 none :: ws) ({ frames := 0, cells := 0, slots := 0, locals := 0 } : Room)) (fun a U => a = #[(.ref a1), (.long q2)] ∧ Z.Warmed39 U.vm ∧ U.heap = h0) (fun _ _ _ _ _ => True) (fun _ U o U' => ∃ v L, o = .returned v ∧ Q_rmF_1 Z a1 q2 ca  h0 n0 v U'.heap L ∧ FrameEnd U o U' L ({ frames := 0, cells := 0, slots := 0, locals := 0 } : Room).cells ({ frames := 0, cells := 0, slots := 0, locals := 0 } : Room).slots) := by
  refine MetFree.of_bodySF (plainFor_of_name pn_rmF_1) hisR ?_
  intro p e s m args below meth c s₁ Bd hml0 hP hK
  obtain ⟨rfl, hZ, hh⟩ := hP
  have hx := Bd.exec
  have hby := Bd.bytes
  have hml : c.maxLocals = 5 := hml0
  have hown : s.vm.findClass "java/util/Arrays" = some m.cls := findClass_of_methodNamed Bd.named
  have hnm := (name_of_methodNamed Bd.named Bd.method).1
  have X0 : Stand p l e ({ frames := 0, cells := 0, slots := 0, locals := 0 } : Room) s m #[(.ref a1), (.long q2)] below meth c s₁ [] 0 0 := Stand.of_body Bd
  have e0 : s₁.heap = h0 := by rw [← hh, Bd.state]; rfl
  have N0 := Fr.nil n0
  have pre0 : ∀ tZ, Steps p.tables e below (s₁.setTop (mkF m 0 #[.val (.ref a1), .val (.long q2), .second, .unset, .unset] [])) tZ → Steps p.tables e below (s₁.setTop (entryFrame m #[(.ref a1), (.long q2)] 5)) tZ := fun tZ kZ => castTop (ef_dF1_ m a1 q2) kZ
  have hin0 := inb_of (j := (0 : Int32)) S0 ⟨by decide, by decide⟩
  obtain ⟨T1, h1, X1, e1, W1, st1⟩ := stJ X0 hx hZ e0 A0 (j := (0 : Int32)) hin0 (g := (mkF m 15 #[.val (.ref a1), .val (.long q2), .second, .val (.int (0 : Int32)), .val (.int (1 : Int32))] [(.long q2), (.int (0 : Int32)), (.ref a1)])) rfl rfl (hb hby dF_15)
  have A1' := Arr.same W1 A0
  have S1' := (sz_set _ ((0 : Int32)).toNatClampNeg (.long q2)).trans S0
  have K1' : Keep h0 h1 [a1] := (Keep.refl h0 [a1]).wr W1 (Or.inl (List.mem_of_getElem? (i := 0) rfl))
  have N1' := Fr.snoc X1 N0 ga
  obtain ⟨fs, hr, hrun, hended, hW, hsame⟩ := X1.leave (v := none) (fun _ => rfl)
  refine ⟨_, _, pre0 _ ?_, hrun, hended, _, _, rfl, ?_, ⟨_, rfl⟩, hW, hsame.mono (by decide) (by decide)⟩
  · show Steps p.tables e below (s₁.setTop (mkF m 0 #[.val (.ref a1), .val (.long q2), .second, .unset, .unset] [])) _
    refine XS.iconst X0.here hx rfl (hb hby dF_0) ?_
    show Steps p.tables e below (s₁.setTop (mkF m 1 #[.val (.ref a1), .val (.long q2), .second, .unset, .unset] [(.int (0 : Int32))])) _
    refine XS.istoreN X0.here hx rfl (hb hby dF_1) rfl (l' := #[.val (.ref a1), .val (.long q2), .second, .val (.int (0 : Int32)), .unset]) rfl ?_
    show Steps p.tables e below (s₁.setTop (mkF m 2 #[.val (.ref a1), .val (.long q2), .second, .val (.int (0 : Int32)), .unset] [])) _
    refine XS.aloadN X0.here hx rfl (hb hby dF_2) rfl rfl ?_
    show Steps p.tables e below (s₁.setTop (mkF m 3 #[.val (.ref a1), .val (.long q2), .second, .val (.int (0 : Int32)), .unset] [(.ref a1)])) _
    refine X0.arraylength hx (by rw [e0]; exact A0.1) (State.isArrayOf_alike hZ.alike A0.2.1) (g := (mkF m 3 #[.val (.ref a1), .val (.long q2), .second, .val (.int (0 : Int32)), .unset] [(.ref a1)])) rfl rfl (hb hby dF_3) _ ?_
    rw [len_of S0 (by decide : ¬ (1 : Int32) < 0)]
    show Steps p.tables e below (s₁.setTop (mkF m 4 #[.val (.ref a1), .val (.long q2), .second, .val (.int (0 : Int32)), .unset] [(.int (1 : Int32))])) _
    refine XS.istore X0.here hx rfl (hb hby dF_4) rfl (l' := #[.val (.ref a1), .val (.long q2), .second, .val (.int (0 : Int32)), .val (.int (1 : Int32))]) rfl ?_
    show Steps p.tables e below (s₁.setTop (mkF m 6 #[.val (.ref a1), .val (.long q2), .second, .val (.int (0 : Int32)), .val (.int (1 : Int32))] [])) _
    refine XS.iloadN X0.here hx rfl (hb hby dF_6) rfl ?_
    show Steps p.tables e below (s₁.setTop (mkF m 7 #[.val (.ref a1), .val (.long q2), .second, .val (.int (0 : Int32)), .val (.int (1 : Int32))] [(.int (0 : Int32))])) _
    refine XS.iload X0.here hx rfl (hb hby dF_7) rfl ?_
    show Steps p.tables e below (s₁.setTop (mkF m 9 #[.val (.ref a1), .val (.long q2), .second, .val (.int (0 : Int32)), .val (.int (1 : Int32))] [(.int (1 : Int32)), (.int (0 : Int32))])) _
    refine XS.icmpNo X0.here hx rfl (hb hby dF_9) rfl (tlt (by decide)).2.1 ?_
    show Steps p.tables e below (s₁.setTop (mkF m 12 #[.val (.ref a1), .val (.long q2), .second, .val (.int (0 : Int32)), .val (.int (1 : Int32))] [])) _
    refine XS.aloadN X0.here hx rfl (hb hby dF_12) rfl rfl ?_
    show Steps p.tables e below (s₁.setTop (mkF m 13 #[.val (.ref a1), .val (.long q2), .second, .val (.int (0 : Int32)), .val (.int (1 : Int32))] [(.ref a1)])) _
    refine XS.iloadN X0.here hx rfl (hb hby dF_13) rfl ?_
    show Steps p.tables e below (s₁.setTop (mkF m 14 #[.val (.ref a1), .val (.long q2), .second, .val (.int (0 : Int32)), .val (.int (1 : Int32))] [(.int (0 : Int32)), (.ref a1)])) _
    refine XS.lloadN X0.here hx rfl (hb hby dF_14) rfl ?_
    show Steps p.tables e below (s₁.setTop (mkF m 15 #[.val (.ref a1), .val (.long q2), .second, .val (.int (0 : Int32)), .val (.int (1 : Int32))] [(.long q2), (.int (0 : Int32)), (.ref a1)])) _
    refine st1 _ ?_
    show Steps p.tables e below (T1.setTop (mkF m 16 #[.val (.ref a1), .val (.long q2), .second, .val (.int (0 : Int32)), .val (.int (1 : Int32))] [])) _
    refine XS.iinc X1.here hx rfl (hb hby dF_16) rfl (l' := #[.val (.ref a1), .val (.long q2), .second, .val (.int ((0 : Int32) + (1 : Int32))), .val (.int (1 : Int32))]) rfl ?_
    show Steps p.tables e below (T1.setTop (mkF m 19 #[.val (.ref a1), .val (.long q2), .second, .val (.int ((0 : Int32) + (1 : Int32))), .val (.int (1 : Int32))] [])) _
    refine XS.goto X1.here hx rfl (pc0 := 19) (pc' := 6) rfl (hb hby dF_19) (by decide) (by decide) ?_
    show Steps p.tables e below (T1.setTop (mkF m 6 #[.val (.ref a1), .val (.long q2), .second, .val (.int ((0 : Int32) + (1 : Int32))), .val (.int (1 : Int32))] [])) _
    refine XS.iloadN X1.here hx rfl (hb hby dF_6) rfl ?_
    show Steps p.tables e below (T1.setTop (mkF m 7 #[.val (.ref a1), .val (.long q2), .second, .val (.int ((0 : Int32) + (1 : Int32))), .val (.int (1 : Int32))] [(.int ((0 : Int32) + (1 : Int32)))])) _
    refine XS.iload X1.here hx rfl (hb hby dF_7) rfl ?_
    show Steps p.tables e below (T1.setTop (mkF m 9 #[.val (.ref a1), .val (.long q2), .second, .val (.int ((0 : Int32) + (1 : Int32))), .val (.int (1 : Int32))] [(.int (1 : Int32)), (.int ((0 : Int32) + (1 : Int32)))])) _
    refine XS.icmpYes X1.here hx rfl (pc0 := 9) (pc' := 22) rfl (hb hby dF_9) rfl (flt (by decide)).2.1 (by decide) (by decide) ?_
    show Steps p.tables e below (T1.setTop (mkF m 22 #[.val (.ref a1), .val (.long q2), .second, .val (.int ((0 : Int32) + (1 : Int32))), .val (.int (1 : Int32))] [])) _
    exact X1.returnOut hx Bd.returns (hb hby dF_22) hr
  · show Q_rmF_1 Z a1 q2 ca h0 n0 _ T1.heap _
    rw [e1]
    exact ⟨rfl, N1', K1'⟩

theorem ef_dT1_ (m : MethodId) (a1 : Addr) (l2 : Addr) (r3 : Addr) (q4 : Int64) : entryFrame m #[(.ref a1), (.ref l2), (.ref r3), (.long q4)] 5 = mkF m 0 #[.val (.ref a1), .val (.ref l2), .val (.ref r3), .val (.long q4), .second] [] := by first | (simp [entryFrame, mkF, argsToLocals, Value.category]; done) | rfl
def Q_rmT_1 (Z : State) (a1 : Addr) (l2 : Addr) (r3 : Addr) (q4 : Int64) (cr : Cell) (h0 : Heap) (n0 : Nat) (v : Option Value) (h : Heap) (L : List Loc) : Prop := v = none ∧ Fr n0 L ∧ Keep h0 h [a1] ∧ Exa Z h a1 "com/example/done_by_xor/donebyxor/runtime/Tuple" ∧ Fld Z h a1 "com/example/done_by_xor/donebyxor/runtime/Tuple" "roots" "[J" (.ref r3)
theorem pn_rmT_1 : plainName "com/example/done_by_xor/donebyxor/runtime/Tuple" = true := by first | (simp [plainName, overriddenIn]; done) | decide +kernel
set_option maxRecDepth 65536 in
set_option maxHeartbeats 40000000 in
theorem rmT_1 (l : Launch) (Z : State) (a0 : Array Value) (hw : ∀ d ∈ tables_1, d.before a0 Z = true) (ws : List Jvm.Cond) (a1 : Addr) (l2 : Addr) (r3 : Addr) (q4 : Int64) (cr : Cell) (h0 : Heap) (n0 : Nat) (Z0 : n0 ≤ h0.size) (E : Exa Z h0 a1 "com/example/done_by_xor/donebyxor/runtime/Tuple") (F1 : Fld Z h0 a1 "com/example/done_by_xor/donebyxor/runtime/Tuple" "values" "Ljava/util/List;" .null) (F2 : Fld Z h0 a1 "com/example/done_by_xor/donebyxor/runtime/Tuple" "roots" "[J" .null) (F3 : Fld Z h0 a1 "com/example/done_by_xor/donebyxor/runtime/Tuple" "ackValues" "[J" .null) (Ar : Arr Z h0 r3 cr .long) (Sr : cr.slots.size = (1 : Int32).toNatClampNeg) (hne : r3 ≠ a1) (ga : n0 ≤ a1) :
    MetFree l (⟨"com/example/done_by_xor/donebyxor/runtime/Tuple", "<init>", "(Ljava/util/List;[JJ)V"⟩ : MethodName) (head1 (Jvm.Cond.code (⟨"com/example/done_by_xor/donebyxor/runtime/Tuple", "<init>", "(Ljava/util/List;[JJ)V"⟩ : MethodName) prog_13_method_1_code 5 none :: ws) ({ frames := 1, cells := 1, slots := 1, locals := 16 } : Room)) (fun a U => a = #[(.ref a1), (.ref l2), (.ref r3), (.long q4)] ∧ Z.Warmed39 U.vm ∧ U.heap = h0) (fun _ _ _ _ _ => True) (fun _ U o U' => ∃ v L, o = .returned v ∧ Q_rmT_1 Z a1 l2 r3 q4 cr  h0 n0 v U'.heap L ∧ FrameEnd U o U' L ({ frames := 1, cells := 1, slots := 1, locals := 16 } : Room).cells ({ frames := 1, cells := 1, slots := 1, locals := 16 } : Room).slots) := by
  refine MetFree.of_bodySF (plainFor_of_name pn_rmT_1) hisR ?_
  intro p e s m args below meth c s₁ Bd hml0 hP hK
  obtain ⟨rfl, hZ, hh⟩ := hP
  have hx := Bd.exec
  have hby := Bd.bytes
  have hml : c.maxLocals = 5 := hml0
  have hown : s.vm.findClass "com/example/done_by_xor/donebyxor/runtime/Tuple" = some m.cls := findClass_of_methodNamed Bd.named
  have hnm := (name_of_methodNamed Bd.named Bd.method).1
  have X0 : Stand p l e ({ frames := 1, cells := 1, slots := 1, locals := 16 } : Room) s m #[(.ref a1), (.ref l2), (.ref r3), (.long q4)] below meth c s₁ [] 0 0 := Stand.of_body Bd
  have e0 : s₁.heap = h0 := by rw [← hh, Bd.state]; rfl
  have N0 := Fr.nil n0
  have pre0 : ∀ tZ, Steps p.tables e below (s₁.setTop (mkF m 0 #[.val (.ref a1), .val (.ref l2), .val (.ref r3), .val (.long q4), .second] [])) tZ → Steps p.tables e below (s₁.setTop (entryFrame m #[(.ref a1), (.ref l2), (.ref r3), (.long q4)] 5)) tZ := fun tZ kZ => castTop (ef_dT1_ m a1 l2 r3 q4) kZ
  obtain ⟨T1, X1, e1, st1⟩ := initO X0 hx hZ hown (hw _ (List.mem_of_getElem? (i := 33) rfl)) (hw _ (List.mem_of_getElem? (i := 20) rfl)) (hw _ (List.mem_of_getElem? (i := 21) rfl)) e0 (g := (mkF m 1 #[.val (.ref a1), .val (.ref l2), .val (.ref r3), .val (.long q4), .second] [(.ref a1)])) rfl (by rw [hml]; rfl) rfl (hb hby dT_1) (by decide) (W := 0) (by show 2 * 0 + _ ≤ _; exact Nat.le_of_eq rfl) (by decide)
  obtain ⟨T2, h2, X2, e2, W2, st2⟩ := putF X1 hx hZ hown (host := "") (Or.inl (hw _ (List.mem_of_getElem? (i := 34) rfl))) Via.refl e1 F1 E (Or.inr ⟨(hw _ (List.mem_of_getElem? (i := 35) rfl)), rfl, hnm⟩) (hw _ (List.mem_of_getElem? (i := 28) rfl)) (ty := (.object "java/util/List")) (by decide) rfl rfl (g := (mkF m 6 #[.val (.ref a1), .val (.ref l2), .val (.ref r3), .val (.long q4), .second] [(.ref l2), (.ref a1)])) rfl rfl (hb hby dT_6)
  have Ea := E.wr W2
  have F2a := F2.other W2 (Or.inr (slot_ne (Or.inr (hw _ (List.mem_of_getElem? (i := 37) rfl))) (Or.inr (hw _ (List.mem_of_getElem? (i := 35) rfl))) (by decide) (t := (.array .long)) (t' := (.object "java/util/List")) (by decide) (by decide)))
  have F3a := F3.other W2 (Or.inr (slot_ne (Or.inr (hw _ (List.mem_of_getElem? (i := 39) rfl))) (Or.inr (hw _ (List.mem_of_getElem? (i := 35) rfl))) (by decide) (t := (.array .long)) (t' := (.object "java/util/List")) (by decide) (by decide)))
  have Ara := Ar.other W2 hne
  have Ka : Keep h0 h2 [a1] := (Keep.refl h0 [a1]).wr W2 (Or.inl (List.mem_of_getElem? (i := 0) rfl))
  have Na := Fr.snoc X2 N0 ga
  obtain ⟨T3, h3, X3, e3, W3, st3⟩ := putF X2 hx hZ hown (host := "") (Or.inl (hw _ (List.mem_of_getElem? (i := 36) rfl))) Via.refl e2 F2a Ea (Or.inr ⟨(hw _ (List.mem_of_getElem? (i := 37) rfl)), rfl, hnm⟩) (hw _ (List.mem_of_getElem? (i := 28) rfl)) (ty := (.array .long)) (by decide) rfl rfl (g := (mkF m 11 #[.val (.ref a1), .val (.ref l2), .val (.ref r3), .val (.long q4), .second] [(.ref r3), (.ref a1)])) rfl rfl (hb hby dT_11)
  have Eb := Ea.wr W3
  have F2b := F2a.same W3
  have F3b := F3a.other W3 (Or.inr (slot_ne (Or.inr (hw _ (List.mem_of_getElem? (i := 39) rfl))) (Or.inr (hw _ (List.mem_of_getElem? (i := 37) rfl))) (by decide) (t := (.array .long)) (t' := (.array .long)) (by decide) (by decide)))
  have Arb := Ara.other W3 hne
  have Kb : Keep h0 h3 [a1] := Ka.wr W3 (Or.inl (List.mem_of_getElem? (i := 0) rfl))
  have Nb := Fr.snoc X3 Na ga
  obtain ⟨T4, h4, k4, X4, e4, E4, A4, st4⟩ := newP X3 hx hZ (hw _ (List.mem_of_getElem? (i := 0) rfl)) e3 (g := (mkF m 17 #[.val (.ref a1), .val (.ref l2), .val (.ref r3), .val (.long q4), .second] [(.int (1 : Int32)), (.ref a1)])) rfl (hb hby dT_17) rfl (by decide) (cap := 1) (by decide) (by decide) (by decide) (by decide)
  obtain ⟨b4, g4⟩ : ∃ z, z = h3.size := ⟨_, rfl⟩
  rw [← g4] at A4 st4
  have V4 := Arv.new A4 (by decide)
  have Ec := Eb.ext E4
  have F2c := F2b.ext E4
  have F3c := F3b.ext E4
  have Kc := Kb.ext E4
  obtain ⟨T5, h5, X5, e5, W5, st5⟩ := putF X4 hx hZ hown (host := "") (Or.inl (hw _ (List.mem_of_getElem? (i := 38) rfl))) Via.refl e4 F3c Ec (Or.inr ⟨(hw _ (List.mem_of_getElem? (i := 39) rfl)), rfl, hnm⟩) (hw _ (List.mem_of_getElem? (i := 28) rfl)) (ty := (.array .long)) (by decide) rfl rfl (g := (mkF m 19 #[.val (.ref a1), .val (.ref l2), .val (.ref r3), .val (.long q4), .second] [(.ref b4), (.ref a1)])) rfl rfl (hb hby dT_19)
  have Ed := Ec.wr W5
  have F2d := F2c.other W5 (Or.inr (slot_ne (Or.inr (hw _ (List.mem_of_getElem? (i := 37) rfl))) (Or.inr (hw _ (List.mem_of_getElem? (i := 39) rfl))) (by decide) (t := (.array .long)) (t' := (.array .long)) (by decide) (by decide)))
  have F3d := F3c.same W5
  have Kd : Keep h0 h5 [a1] := Kc.wr W5 (Or.inl (List.mem_of_getElem? (i := 0) rfl))
  have Nd := Fr.snoc X5 Nb ga
  have neb : b4 ≠ a1 := fun q => Nat.lt_irrefl _ (Nat.lt_of_lt_of_le Eb.lt (Nat.le_of_eq (g4.symm.trans q)))
  have A4 := A4.other W5 neb
  obtain ⟨T6, X6, e6, st6⟩ := getF X5 hx hZ hown (host := "") (Or.inl (hw _ (List.mem_of_getElem? (i := 38) rfl))) Via.refl e5 F3d (g := (mkF m 23 #[.val (.ref a1), .val (.ref l2), .val (.ref r3), .val (.long q4), .second] [(.ref a1)])) rfl rfl (hb hby dT_23)
  have Ze : n0 ≤ h5.size := Nat.le_trans Z0 Kd.1
  have gbn : n0 ≤ b4 := Nat.le_trans (Nat.le_trans Z0 Kb.1) (Nat.le_of_eq g4.symm)
  obtain ⟨_, _, ⟨T7, L7, k7, n7⟩, -, X7, ⟨Lc7, hQ7, l7, y7, z7⟩, st7⟩ := Jvm.LawKit.callS X6 hx (y := (⟨"java/util/Arrays", "fill", "([JJ)V"⟩ : MethodName)) hown (mvT hZ (hw _ (List.mem_of_getElem? (i := 40) rfl))) (mvT hZ (hw _ (List.mem_of_getElem? (i := 41) rfl))) (mvT hZ (hw _ (List.mem_of_getElem? (i := 42) rfl))) (mvT hZ (hw _ (List.mem_of_getElem? (i := 43) rfl))) (by decide) (backOf (W := 0) (rmF_1 l Z a0 hw [] b4 q4 _ h5 n0 Ze A4 (sz_new _ _ _) gbn) hZ (hw _ (List.mem_of_getElem? (i := 43) rfl)) (hw _ (List.mem_of_getElem? (i := 42) rfl)) (by decide) (by decide)) (g := (mkF m 27 #[.val (.ref a1), .val (.ref l2), .val (.ref r3), .val (.long q4), .second] [(.long q4), (.ref b4)])) rfl (by rw [hml]; rfl) (argsL := [(.ref b4), (.long q4)]) (rest := []) (lenOf pd_dT___JJ_V rfl) rfl (by show 2 * 0 + _ ≤ _; exact Nat.le_of_eq rfl) (hb hby dT_27) (fun _ _ => ⟨rfl, e6, (by decide : 1 + 0 ≤ _), (by decide : 1 + 0 ≤ _)⟩)
  dsimp only [Pt.U, Pt.locs, Pt.cells, Pt.slots] at X7 l7 y7 z7 st7 hQ7
  subst l7 y7 z7
  obtain ⟨rfl, N7q, K7⟩ := hQ7
  have N7 := Fr.app Nd N7q
  have Kf : Keep h0 T7.heap [a1] := Kd.trans K7 (allS (Or.inr (Nat.le_trans Kb.1 (Nat.le_of_eq g4.symm))) all0)
  have nfa : a1 ∉ [b4] := ninS (Ne.symm neb) nin0
  obtain ⟨fs, hr, hrun, hended, hW, hsame⟩ := X7.leave (v := none) (fun _ => rfl)
  refine ⟨_, _, pre0 _ ?_, hrun, hended, _, _, rfl, ?_, ⟨_, rfl⟩, hW, hsame.mono (by decide) (by decide)⟩
  · show Steps p.tables e below (s₁.setTop (mkF m 0 #[.val (.ref a1), .val (.ref l2), .val (.ref r3), .val (.long q4), .second] [])) _
    refine XS.aloadN X0.here hx rfl (hb hby dT_0) rfl rfl ?_
    show Steps p.tables e below (s₁.setTop (mkF m 1 #[.val (.ref a1), .val (.ref l2), .val (.ref r3), .val (.long q4), .second] [(.ref a1)])) _
    refine st1 _ ?_
    show Steps p.tables e below (T1.setTop (mkF m 4 #[.val (.ref a1), .val (.ref l2), .val (.ref r3), .val (.long q4), .second] [])) _
    refine XS.aloadN X1.here hx rfl (hb hby dT_4) rfl rfl ?_
    show Steps p.tables e below (T1.setTop (mkF m 5 #[.val (.ref a1), .val (.ref l2), .val (.ref r3), .val (.long q4), .second] [(.ref a1)])) _
    refine XS.aloadN X1.here hx rfl (hb hby dT_5) rfl rfl ?_
    show Steps p.tables e below (T1.setTop (mkF m 6 #[.val (.ref a1), .val (.ref l2), .val (.ref r3), .val (.long q4), .second] [(.ref l2), (.ref a1)])) _
    refine st2 _ ?_
    show Steps p.tables e below (T2.setTop (mkF m 9 #[.val (.ref a1), .val (.ref l2), .val (.ref r3), .val (.long q4), .second] [])) _
    refine XS.aloadN X2.here hx rfl (hb hby dT_9) rfl rfl ?_
    show Steps p.tables e below (T2.setTop (mkF m 10 #[.val (.ref a1), .val (.ref l2), .val (.ref r3), .val (.long q4), .second] [(.ref a1)])) _
    refine XS.aloadN X2.here hx rfl (hb hby dT_10) rfl rfl ?_
    show Steps p.tables e below (T2.setTop (mkF m 11 #[.val (.ref a1), .val (.ref l2), .val (.ref r3), .val (.long q4), .second] [(.ref r3), (.ref a1)])) _
    refine st3 _ ?_
    show Steps p.tables e below (T3.setTop (mkF m 14 #[.val (.ref a1), .val (.ref l2), .val (.ref r3), .val (.long q4), .second] [])) _
    refine XS.aloadN X3.here hx rfl (hb hby dT_14) rfl rfl ?_
    show Steps p.tables e below (T3.setTop (mkF m 15 #[.val (.ref a1), .val (.ref l2), .val (.ref r3), .val (.long q4), .second] [(.ref a1)])) _
    refine XS.aloadN X3.here hx rfl (hb hby dT_15) rfl rfl ?_
    show Steps p.tables e below (T3.setTop (mkF m 16 #[.val (.ref a1), .val (.ref l2), .val (.ref r3), .val (.long q4), .second] [(.ref r3), (.ref a1)])) _
    refine X3.arraylength hx (by rw [e3]; exact Arb.1) (State.isArrayOf_alike hZ.alike Arb.2.1) (g := (mkF m 16 #[.val (.ref a1), .val (.ref l2), .val (.ref r3), .val (.long q4), .second] [(.ref r3), (.ref a1)])) rfl rfl (hb hby dT_16) _ ?_
    rw [len_of Sr (by decide : ¬ (1 : Int32) < 0)]
    show Steps p.tables e below (T3.setTop (mkF m 17 #[.val (.ref a1), .val (.ref l2), .val (.ref r3), .val (.long q4), .second] [(.int (1 : Int32)), (.ref a1)])) _
    refine st4 _ ?_
    show Steps p.tables e below (T4.setTop (mkF m 19 #[.val (.ref a1), .val (.ref l2), .val (.ref r3), .val (.long q4), .second] [(.ref b4), (.ref a1)])) _
    refine st5 _ ?_
    show Steps p.tables e below (T5.setTop (mkF m 22 #[.val (.ref a1), .val (.ref l2), .val (.ref r3), .val (.long q4), .second] [])) _
    refine XS.aloadN X5.here hx rfl (hb hby dT_22) rfl rfl ?_
    show Steps p.tables e below (T5.setTop (mkF m 23 #[.val (.ref a1), .val (.ref l2), .val (.ref r3), .val (.long q4), .second] [(.ref a1)])) _
    refine st6 _ ?_
    show Steps p.tables e below (T6.setTop (mkF m 26 #[.val (.ref a1), .val (.ref l2), .val (.ref r3), .val (.long q4), .second] [(.ref b4)])) _
    refine XS.lloadN X6.here hx rfl (hb hby dT_26) rfl ?_
    show Steps p.tables e below (T6.setTop (mkF m 27 #[.val (.ref a1), .val (.ref l2), .val (.ref r3), .val (.long q4), .second] [(.long q4), (.ref b4)])) _
    refine st7 _ ?_
    show Steps p.tables e below (T7.setTop (mkF m 30 #[.val (.ref a1), .val (.ref l2), .val (.ref r3), .val (.long q4), .second] [])) _
    exact X7.returnOut hx Bd.returns (hb hby dT_30) hr
  · show Q_rmT_1 Z a1 l2 r3 q4 cr h0 n0 _ T7.heap _
    exact ⟨rfl, N7, Kf, Ed.keep K7, F2d.keep K7 nfa⟩

theorem ef_dG1_ (m : MethodId) (a1 : Addr) (q2 : Int64) : entryFrame m #[(.ref a1), (.long q2)] 8 = mkF m 0 #[.val (.ref a1), .val (.long q2), .second, .unset, .unset, .unset, .unset, .unset] [] := by first | (simp [entryFrame, mkF, argsToLocals, Value.category]; done) | rfl
def Q_rmG_1 (Z : State) (a1 : Addr) (q2 : Int64) (r3 : Addr) (k3 : ClassId) (d3 : Value) (u0 : Int64) (h0 : Heap) (n0 : Nat) (v : Option Value) (h : Heap) (L : List Loc) : Prop := v = some (.int (if (lcmpW u0 q2) = (0 : Int32) then (1 : Int32) else (0 : Int32))) ∧ Fr n0 L ∧ h = h0
theorem pn_rmG_1 : plainName "com/example/done_by_xor/donebyxor/runtime/Tuple" = true := by first | (simp [plainName, overriddenIn]; done) | decide +kernel
set_option maxRecDepth 65536 in
set_option maxHeartbeats 40000000 in
theorem rmG_1 (l : Launch) (Z : State) (a0 : Array Value) (hw : ∀ d ∈ tables_1, d.before a0 Z = true) (ws : List Jvm.Cond) (a1 : Addr) (q2 : Int64) (r3 : Addr) (k3 : ClassId) (d3 : Value) (u0 : Int64) (h0 : Heap) (n0 : Nat) (Z0 : n0 ≤ h0.size) (F : Fld Z h0 a1 "com/example/done_by_xor/donebyxor/runtime/Tuple" "roots" "[J" (.ref r3)) (V : Arv Z h0 r3 k3 .long (1 : Int32) [(.long u0)] d3) :
    MetFree l (⟨"com/example/done_by_xor/donebyxor/runtime/Tuple", "belongsTo", "(J)Z"⟩ : MethodName) (head1 (Jvm.Cond.code (⟨"com/example/done_by_xor/donebyxor/runtime/Tuple", "belongsTo", "(J)Z"⟩ : MethodName) prog_13_method_4_code 8 (some .boolean) :: ws) ({ frames := 0, cells := 0, slots := 0, locals := 0 } : Room)) (fun a U => a = #[(.ref a1), (.long q2)] ∧ Z.Warmed39 U.vm ∧ U.heap = h0) (fun _ _ _ _ _ => True) (fun _ U o U' => ∃ v L, o = .returned v ∧ Q_rmG_1 Z a1 q2 r3  k3  d3  u0  h0 n0 v U'.heap L ∧ FrameEnd U o U' L ({ frames := 0, cells := 0, slots := 0, locals := 0 } : Room).cells ({ frames := 0, cells := 0, slots := 0, locals := 0 } : Room).slots) := by
  refine MetFree.of_bodySF (plainFor_of_name pn_rmG_1) hisR ?_
  intro p e s m args below meth c s₁ Bd hml0 hP hK
  obtain ⟨rfl, hZ, hh⟩ := hP
  have hx := Bd.exec
  have hby := Bd.bytes
  have hml : c.maxLocals = 8 := hml0
  have hown : s.vm.findClass "com/example/done_by_xor/donebyxor/runtime/Tuple" = some m.cls := findClass_of_methodNamed Bd.named
  have hnm := (name_of_methodNamed Bd.named Bd.method).1
  have X0 : Stand p l e ({ frames := 0, cells := 0, slots := 0, locals := 0 } : Room) s m #[(.ref a1), (.long q2)] below meth c s₁ [] 0 0 := Stand.of_body Bd
  have e0 : s₁.heap = h0 := by rw [← hh, Bd.state]; rfl
  have N0 := Fr.nil n0
  have pre0 : ∀ tZ, Steps p.tables e below (s₁.setTop (mkF m 0 #[.val (.ref a1), .val (.long q2), .second, .unset, .unset, .unset, .unset, .unset] [])) tZ → Steps p.tables e below (s₁.setTop (entryFrame m #[(.ref a1), (.long q2)] 8)) tZ := fun tZ kZ => castTop (ef_dG1_ m a1 q2) kZ
  obtain ⟨cv, Av, qv, Sv, Nv, Hv, Gv⟩ := V
  rcases Classical.em ((lcmpW u0 q2) = (0 : Int32)) with c0 | c0
  · skip
    obtain ⟨T1, X1, e1, st1⟩ := getF X0 hx hZ hown (host := "") (Or.inl (hw _ (List.mem_of_getElem? (i := 36) rfl))) Via.refl e0 F (g := (mkF m 1 #[.val (.ref a1), .val (.long q2), .second, .unset, .unset, .unset, .unset, .unset] [(.ref a1)])) rfl rfl (hb hby dG_1)
    have hin0 := inb_of (j := (0 : Int32)) Sv ⟨by decide, by decide⟩
    obtain ⟨fs, hr, hrun, hended, hW, hsame⟩ := X1.leave (v := some (.int (1 : Int32))) (fun h => by rw [Bd.returns] at h; cases h)
    refine ⟨_, _, pre0 _ ?_, hrun, hended, _, _, rfl, ?_, ⟨_, rfl⟩, hW, hsame.mono (by decide) (by decide)⟩
    · show Steps p.tables e below (s₁.setTop (mkF m 0 #[.val (.ref a1), .val (.long q2), .second, .unset, .unset, .unset, .unset, .unset] [])) _
      refine XS.aloadN X0.here hx rfl (hb hby dG_0) rfl rfl ?_
      show Steps p.tables e below (s₁.setTop (mkF m 1 #[.val (.ref a1), .val (.long q2), .second, .unset, .unset, .unset, .unset, .unset] [(.ref a1)])) _
      refine st1 _ ?_
      show Steps p.tables e below (T1.setTop (mkF m 4 #[.val (.ref a1), .val (.long q2), .second, .unset, .unset, .unset, .unset, .unset] [(.ref r3)])) _
      refine XS.astoreN X1.here hx rfl (hb hby dG_4) rfl rfl (l' := #[.val (.ref a1), .val (.long q2), .second, .val (.ref r3), .unset, .unset, .unset, .unset]) rfl ?_
      show Steps p.tables e below (T1.setTop (mkF m 5 #[.val (.ref a1), .val (.long q2), .second, .val (.ref r3), .unset, .unset, .unset, .unset] [])) _
      refine XS.aloadN X1.here hx rfl (hb hby dG_5) rfl rfl ?_
      show Steps p.tables e below (T1.setTop (mkF m 6 #[.val (.ref a1), .val (.long q2), .second, .val (.ref r3), .unset, .unset, .unset, .unset] [(.ref r3)])) _
      refine X1.arraylength hx (by rw [e1]; exact Av.1) (State.isArrayOf_alike hZ.alike Av.2.1) (g := (mkF m 6 #[.val (.ref a1), .val (.long q2), .second, .val (.ref r3), .unset, .unset, .unset, .unset] [(.ref r3)])) rfl rfl (hb hby dG_6) _ ?_
      rw [len_of Sv Nv]
      show Steps p.tables e below (T1.setTop (mkF m 7 #[.val (.ref a1), .val (.long q2), .second, .val (.ref r3), .unset, .unset, .unset, .unset] [(.int (1 : Int32))])) _
      refine XS.istore X1.here hx rfl (hb hby dG_7) rfl (l' := #[.val (.ref a1), .val (.long q2), .second, .val (.ref r3), .val (.int (1 : Int32)), .unset, .unset, .unset]) rfl ?_
      show Steps p.tables e below (T1.setTop (mkF m 9 #[.val (.ref a1), .val (.long q2), .second, .val (.ref r3), .val (.int (1 : Int32)), .unset, .unset, .unset] [])) _
      refine XS.iconst X1.here hx rfl (hb hby dG_9) ?_
      show Steps p.tables e below (T1.setTop (mkF m 10 #[.val (.ref a1), .val (.long q2), .second, .val (.ref r3), .val (.int (1 : Int32)), .unset, .unset, .unset] [(.int (0 : Int32))])) _
      refine XS.istore X1.here hx rfl (hb hby dG_10) rfl (l' := #[.val (.ref a1), .val (.long q2), .second, .val (.ref r3), .val (.int (1 : Int32)), .val (.int (0 : Int32)), .unset, .unset]) rfl ?_
      show Steps p.tables e below (T1.setTop (mkF m 12 #[.val (.ref a1), .val (.long q2), .second, .val (.ref r3), .val (.int (1 : Int32)), .val (.int (0 : Int32)), .unset, .unset] [])) _
      refine XS.iload X1.here hx rfl (hb hby dG_12) rfl ?_
      show Steps p.tables e below (T1.setTop (mkF m 14 #[.val (.ref a1), .val (.long q2), .second, .val (.ref r3), .val (.int (1 : Int32)), .val (.int (0 : Int32)), .unset, .unset] [(.int (0 : Int32))])) _
      refine XS.iload X1.here hx rfl (hb hby dG_14) rfl ?_
      show Steps p.tables e below (T1.setTop (mkF m 16 #[.val (.ref a1), .val (.long q2), .second, .val (.ref r3), .val (.int (1 : Int32)), .val (.int (0 : Int32)), .unset, .unset] [(.int (1 : Int32)), (.int (0 : Int32))])) _
      refine XS.icmpNo X1.here hx rfl (hb hby dG_16) rfl (tlt (by decide)).2.1 ?_
      show Steps p.tables e below (T1.setTop (mkF m 19 #[.val (.ref a1), .val (.long q2), .second, .val (.ref r3), .val (.int (1 : Int32)), .val (.int (0 : Int32)), .unset, .unset] [])) _
      refine XS.aloadN X1.here hx rfl (hb hby dG_19) rfl rfl ?_
      show Steps p.tables e below (T1.setTop (mkF m 20 #[.val (.ref a1), .val (.long q2), .second, .val (.ref r3), .val (.int (1 : Int32)), .val (.int (0 : Int32)), .unset, .unset] [(.ref r3)])) _
      refine XS.iload X1.here hx rfl (hb hby dG_20) rfl ?_
      show Steps p.tables e below (T1.setTop (mkF m 22 #[.val (.ref a1), .val (.long q2), .second, .val (.ref r3), .val (.int (1 : Int32)), .val (.int (0 : Int32)), .unset, .unset] [(.int (0 : Int32)), (.ref r3)])) _
      refine X1.laload hx (j := (0 : Int32)) (v := (.long u0)) (by rw [e1]; exact Av.1) (State.isArrayOf_alike hZ.alike Av.2.1) Av.2.2 hin0 (Has.at Hv hin0 rfl) (g := (mkF m 22 #[.val (.ref a1), .val (.long q2), .second, .val (.ref r3), .val (.int (1 : Int32)), .val (.int (0 : Int32)), .unset, .unset] [(.int (0 : Int32)), (.ref r3)])) rfl rfl (hb hby dG_22) _ ?_
      show Steps p.tables e below (T1.setTop (mkF m 23 #[.val (.ref a1), .val (.long q2), .second, .val (.ref r3), .val (.int (1 : Int32)), .val (.int (0 : Int32)), .unset, .unset] [(.long u0)])) _
      refine XS.lstore X1.here hx rfl (hb hby dG_23) rfl (l' := #[.val (.ref a1), .val (.long q2), .second, .val (.ref r3), .val (.int (1 : Int32)), .val (.int (0 : Int32)), .val (.long u0), .second]) rfl ?_
      show Steps p.tables e below (T1.setTop (mkF m 25 #[.val (.ref a1), .val (.long q2), .second, .val (.ref r3), .val (.int (1 : Int32)), .val (.int (0 : Int32)), .val (.long u0), .second] [])) _
      refine XS.lload X1.here hx rfl (hb hby dG_25) rfl ?_
      show Steps p.tables e below (T1.setTop (mkF m 27 #[.val (.ref a1), .val (.long q2), .second, .val (.ref r3), .val (.int (1 : Int32)), .val (.int (0 : Int32)), .val (.long u0), .second] [(.long u0)])) _
      refine XS.lloadN X1.here hx rfl (hb hby dG_27) rfl ?_
      show Steps p.tables e below (T1.setTop (mkF m 28 #[.val (.ref a1), .val (.long q2), .second, .val (.ref r3), .val (.int (1 : Int32)), .val (.int (0 : Int32)), .val (.long u0), .second] [(.long q2), (.long u0)])) _
      refine XS.lcmp X1.here hx rfl (hb hby dG_28) rfl ?_
      show Steps p.tables e below (T1.setTop (mkF m 29 #[.val (.ref a1), .val (.long q2), .second, .val (.ref r3), .val (.int (1 : Int32)), .val (.int (0 : Int32)), .val (.long u0), .second] [(.int (lcmpW u0 q2))])) _
      refine XS.ifNo X1.here hx rfl (hb hby dG_29) rfl ((if0 _ _).trans (teq c0).2) ?_
      show Steps p.tables e below (T1.setTop (mkF m 32 #[.val (.ref a1), .val (.long q2), .second, .val (.ref r3), .val (.int (1 : Int32)), .val (.int (0 : Int32)), .val (.long u0), .second] [])) _
      refine XS.iconst X1.here hx rfl (hb hby dG_32) ?_
      show Steps p.tables e below (T1.setTop (mkF m 33 #[.val (.ref a1), .val (.long q2), .second, .val (.ref r3), .val (.int (1 : Int32)), .val (.int (0 : Int32)), .val (.long u0), .second] [(.int (1 : Int32))])) _
      exact retN X1 hx (t := .boolean) Bd.returns (by simp) (hb hby dG_33) hr
    · show Q_rmG_1 Z a1 q2 r3 k3 d3 u0 h0 n0 _ T1.heap _
      rw [e1]
      exact ⟨by simp only [if_pos c0], N0, rfl⟩
  · skip
    obtain ⟨T1, X1, e1, st1⟩ := getF X0 hx hZ hown (host := "") (Or.inl (hw _ (List.mem_of_getElem? (i := 36) rfl))) Via.refl e0 F (g := (mkF m 1 #[.val (.ref a1), .val (.long q2), .second, .unset, .unset, .unset, .unset, .unset] [(.ref a1)])) rfl rfl (hb hby dG_1)
    have hin0 := inb_of (j := (0 : Int32)) Sv ⟨by decide, by decide⟩
    obtain ⟨fs, hr, hrun, hended, hW, hsame⟩ := X1.leave (v := some (.int (0 : Int32))) (fun h => by rw [Bd.returns] at h; cases h)
    refine ⟨_, _, pre0 _ ?_, hrun, hended, _, _, rfl, ?_, ⟨_, rfl⟩, hW, hsame.mono (by decide) (by decide)⟩
    · show Steps p.tables e below (s₁.setTop (mkF m 0 #[.val (.ref a1), .val (.long q2), .second, .unset, .unset, .unset, .unset, .unset] [])) _
      refine XS.aloadN X0.here hx rfl (hb hby dG_0) rfl rfl ?_
      show Steps p.tables e below (s₁.setTop (mkF m 1 #[.val (.ref a1), .val (.long q2), .second, .unset, .unset, .unset, .unset, .unset] [(.ref a1)])) _
      refine st1 _ ?_
      show Steps p.tables e below (T1.setTop (mkF m 4 #[.val (.ref a1), .val (.long q2), .second, .unset, .unset, .unset, .unset, .unset] [(.ref r3)])) _
      refine XS.astoreN X1.here hx rfl (hb hby dG_4) rfl rfl (l' := #[.val (.ref a1), .val (.long q2), .second, .val (.ref r3), .unset, .unset, .unset, .unset]) rfl ?_
      show Steps p.tables e below (T1.setTop (mkF m 5 #[.val (.ref a1), .val (.long q2), .second, .val (.ref r3), .unset, .unset, .unset, .unset] [])) _
      refine XS.aloadN X1.here hx rfl (hb hby dG_5) rfl rfl ?_
      show Steps p.tables e below (T1.setTop (mkF m 6 #[.val (.ref a1), .val (.long q2), .second, .val (.ref r3), .unset, .unset, .unset, .unset] [(.ref r3)])) _
      refine X1.arraylength hx (by rw [e1]; exact Av.1) (State.isArrayOf_alike hZ.alike Av.2.1) (g := (mkF m 6 #[.val (.ref a1), .val (.long q2), .second, .val (.ref r3), .unset, .unset, .unset, .unset] [(.ref r3)])) rfl rfl (hb hby dG_6) _ ?_
      rw [len_of Sv Nv]
      show Steps p.tables e below (T1.setTop (mkF m 7 #[.val (.ref a1), .val (.long q2), .second, .val (.ref r3), .unset, .unset, .unset, .unset] [(.int (1 : Int32))])) _
      refine XS.istore X1.here hx rfl (hb hby dG_7) rfl (l' := #[.val (.ref a1), .val (.long q2), .second, .val (.ref r3), .val (.int (1 : Int32)), .unset, .unset, .unset]) rfl ?_
      show Steps p.tables e below (T1.setTop (mkF m 9 #[.val (.ref a1), .val (.long q2), .second, .val (.ref r3), .val (.int (1 : Int32)), .unset, .unset, .unset] [])) _
      refine XS.iconst X1.here hx rfl (hb hby dG_9) ?_
      show Steps p.tables e below (T1.setTop (mkF m 10 #[.val (.ref a1), .val (.long q2), .second, .val (.ref r3), .val (.int (1 : Int32)), .unset, .unset, .unset] [(.int (0 : Int32))])) _
      refine XS.istore X1.here hx rfl (hb hby dG_10) rfl (l' := #[.val (.ref a1), .val (.long q2), .second, .val (.ref r3), .val (.int (1 : Int32)), .val (.int (0 : Int32)), .unset, .unset]) rfl ?_
      show Steps p.tables e below (T1.setTop (mkF m 12 #[.val (.ref a1), .val (.long q2), .second, .val (.ref r3), .val (.int (1 : Int32)), .val (.int (0 : Int32)), .unset, .unset] [])) _
      refine XS.iload X1.here hx rfl (hb hby dG_12) rfl ?_
      show Steps p.tables e below (T1.setTop (mkF m 14 #[.val (.ref a1), .val (.long q2), .second, .val (.ref r3), .val (.int (1 : Int32)), .val (.int (0 : Int32)), .unset, .unset] [(.int (0 : Int32))])) _
      refine XS.iload X1.here hx rfl (hb hby dG_14) rfl ?_
      show Steps p.tables e below (T1.setTop (mkF m 16 #[.val (.ref a1), .val (.long q2), .second, .val (.ref r3), .val (.int (1 : Int32)), .val (.int (0 : Int32)), .unset, .unset] [(.int (1 : Int32)), (.int (0 : Int32))])) _
      refine XS.icmpNo X1.here hx rfl (hb hby dG_16) rfl (tlt (by decide)).2.1 ?_
      show Steps p.tables e below (T1.setTop (mkF m 19 #[.val (.ref a1), .val (.long q2), .second, .val (.ref r3), .val (.int (1 : Int32)), .val (.int (0 : Int32)), .unset, .unset] [])) _
      refine XS.aloadN X1.here hx rfl (hb hby dG_19) rfl rfl ?_
      show Steps p.tables e below (T1.setTop (mkF m 20 #[.val (.ref a1), .val (.long q2), .second, .val (.ref r3), .val (.int (1 : Int32)), .val (.int (0 : Int32)), .unset, .unset] [(.ref r3)])) _
      refine XS.iload X1.here hx rfl (hb hby dG_20) rfl ?_
      show Steps p.tables e below (T1.setTop (mkF m 22 #[.val (.ref a1), .val (.long q2), .second, .val (.ref r3), .val (.int (1 : Int32)), .val (.int (0 : Int32)), .unset, .unset] [(.int (0 : Int32)), (.ref r3)])) _
      refine X1.laload hx (j := (0 : Int32)) (v := (.long u0)) (by rw [e1]; exact Av.1) (State.isArrayOf_alike hZ.alike Av.2.1) Av.2.2 hin0 (Has.at Hv hin0 rfl) (g := (mkF m 22 #[.val (.ref a1), .val (.long q2), .second, .val (.ref r3), .val (.int (1 : Int32)), .val (.int (0 : Int32)), .unset, .unset] [(.int (0 : Int32)), (.ref r3)])) rfl rfl (hb hby dG_22) _ ?_
      show Steps p.tables e below (T1.setTop (mkF m 23 #[.val (.ref a1), .val (.long q2), .second, .val (.ref r3), .val (.int (1 : Int32)), .val (.int (0 : Int32)), .unset, .unset] [(.long u0)])) _
      refine XS.lstore X1.here hx rfl (hb hby dG_23) rfl (l' := #[.val (.ref a1), .val (.long q2), .second, .val (.ref r3), .val (.int (1 : Int32)), .val (.int (0 : Int32)), .val (.long u0), .second]) rfl ?_
      show Steps p.tables e below (T1.setTop (mkF m 25 #[.val (.ref a1), .val (.long q2), .second, .val (.ref r3), .val (.int (1 : Int32)), .val (.int (0 : Int32)), .val (.long u0), .second] [])) _
      refine XS.lload X1.here hx rfl (hb hby dG_25) rfl ?_
      show Steps p.tables e below (T1.setTop (mkF m 27 #[.val (.ref a1), .val (.long q2), .second, .val (.ref r3), .val (.int (1 : Int32)), .val (.int (0 : Int32)), .val (.long u0), .second] [(.long u0)])) _
      refine XS.lloadN X1.here hx rfl (hb hby dG_27) rfl ?_
      show Steps p.tables e below (T1.setTop (mkF m 28 #[.val (.ref a1), .val (.long q2), .second, .val (.ref r3), .val (.int (1 : Int32)), .val (.int (0 : Int32)), .val (.long u0), .second] [(.long q2), (.long u0)])) _
      refine XS.lcmp X1.here hx rfl (hb hby dG_28) rfl ?_
      show Steps p.tables e below (T1.setTop (mkF m 29 #[.val (.ref a1), .val (.long q2), .second, .val (.ref r3), .val (.int (1 : Int32)), .val (.int (0 : Int32)), .val (.long u0), .second] [(.int (lcmpW u0 q2))])) _
      refine XS.ifYes X1.here hx rfl (pc0 := 29) (pc' := 34) rfl (hb hby dG_29) rfl ((if0 _ _).trans (feq c0).2) (by decide) (by decide) ?_
      show Steps p.tables e below (T1.setTop (mkF m 34 #[.val (.ref a1), .val (.long q2), .second, .val (.ref r3), .val (.int (1 : Int32)), .val (.int (0 : Int32)), .val (.long u0), .second] [])) _
      refine XS.iinc X1.here hx rfl (hb hby dG_34) rfl (l' := #[.val (.ref a1), .val (.long q2), .second, .val (.ref r3), .val (.int (1 : Int32)), .val (.int ((0 : Int32) + (1 : Int32))), .val (.long u0), .second]) rfl ?_
      show Steps p.tables e below (T1.setTop (mkF m 37 #[.val (.ref a1), .val (.long q2), .second, .val (.ref r3), .val (.int (1 : Int32)), .val (.int ((0 : Int32) + (1 : Int32))), .val (.long u0), .second] [])) _
      refine XS.goto X1.here hx rfl (pc0 := 37) (pc' := 12) rfl (hb hby dG_37) (by decide) (by decide) ?_
      show Steps p.tables e below (T1.setTop (mkF m 12 #[.val (.ref a1), .val (.long q2), .second, .val (.ref r3), .val (.int (1 : Int32)), .val (.int ((0 : Int32) + (1 : Int32))), .val (.long u0), .second] [])) _
      refine XS.iload X1.here hx rfl (hb hby dG_12) rfl ?_
      show Steps p.tables e below (T1.setTop (mkF m 14 #[.val (.ref a1), .val (.long q2), .second, .val (.ref r3), .val (.int (1 : Int32)), .val (.int ((0 : Int32) + (1 : Int32))), .val (.long u0), .second] [(.int ((0 : Int32) + (1 : Int32)))])) _
      refine XS.iload X1.here hx rfl (hb hby dG_14) rfl ?_
      show Steps p.tables e below (T1.setTop (mkF m 16 #[.val (.ref a1), .val (.long q2), .second, .val (.ref r3), .val (.int (1 : Int32)), .val (.int ((0 : Int32) + (1 : Int32))), .val (.long u0), .second] [(.int (1 : Int32)), (.int ((0 : Int32) + (1 : Int32)))])) _
      refine XS.icmpYes X1.here hx rfl (pc0 := 16) (pc' := 40) rfl (hb hby dG_16) rfl (flt (by decide)).2.1 (by decide) (by decide) ?_
      show Steps p.tables e below (T1.setTop (mkF m 40 #[.val (.ref a1), .val (.long q2), .second, .val (.ref r3), .val (.int (1 : Int32)), .val (.int ((0 : Int32) + (1 : Int32))), .val (.long u0), .second] [])) _
      refine XS.iconst X1.here hx rfl (hb hby dG_40) ?_
      show Steps p.tables e below (T1.setTop (mkF m 41 #[.val (.ref a1), .val (.long q2), .second, .val (.ref r3), .val (.int (1 : Int32)), .val (.int ((0 : Int32) + (1 : Int32))), .val (.long u0), .second] [(.int (0 : Int32))])) _
      exact retN X1 hx (t := .boolean) Bd.returns (by simp) (hb hby dG_41) hr
    · show Q_rmG_1 Z a1 q2 r3 k3 d3 u0 h0 n0 _ T1.heap _
      rw [e1]
      exact ⟨by simp only [if_neg c0], N0, rfl⟩

theorem ef_dF2_ (m : MethodId) (a1 : Addr) (q2 : Int64) : entryFrame m #[(.ref a1), (.long q2)] 5 = mkF m 0 #[.val (.ref a1), .val (.long q2), .second, .unset, .unset] [] := by first | (simp [entryFrame, mkF, argsToLocals, Value.category]; done) | rfl
def Q_rmF_2 (Z : State) (a1 : Addr) (q2 : Int64) (ca : Cell) (h0 : Heap) (n0 : Nat) (v : Option Value) (h : Heap) (L : List Loc) : Prop := v = none ∧ Fr n0 L ∧ Keep h0 h [a1]
theorem pn_rmF_2 : plainName "java/util/Arrays" = true := by first | (simp [plainName, overriddenIn]; done) | decide +kernel
set_option maxRecDepth 65536 in
set_option maxHeartbeats 40000000 in
theorem rmF_2 (l : Launch) (Z : State) (a0 : Array Value) (hw : ∀ d ∈ tables_1, d.before a0 Z = true) (ws : List Jvm.Cond) (a1 : Addr) (q2 : Int64) (ca : Cell) (h0 : Heap) (n0 : Nat) (Z0 : n0 ≤ h0.size) (A0 : Arr Z h0 a1 ca .long) (S0 : ca.slots.size = (2 : Int32).toNatClampNeg) (ga : n0 ≤ a1) :
    MetFree l (⟨"java/util/Arrays", "fill", "([JJ)V"⟩ : MethodName) (head1 (Jvm.Cond.code (⟨"java/util/Arrays", "fill", "([JJ)V"⟩ : MethodName) jdk_65_method_101_code 5 none :: ws) ({ frames := 0, cells := 0, slots := 0, locals := 0 } : Room)) (fun a U => a = #[(.ref a1), (.long q2)] ∧ Z.Warmed39 U.vm ∧ U.heap = h0) (fun _ _ _ _ _ => True) (fun _ U o U' => ∃ v L, o = .returned v ∧ Q_rmF_2 Z a1 q2 ca  h0 n0 v U'.heap L ∧ FrameEnd U o U' L ({ frames := 0, cells := 0, slots := 0, locals := 0 } : Room).cells ({ frames := 0, cells := 0, slots := 0, locals := 0 } : Room).slots) := by
  refine MetFree.of_bodySF (plainFor_of_name pn_rmF_2) hisR ?_
  intro p e s m args below meth c s₁ Bd hml0 hP hK
  obtain ⟨rfl, hZ, hh⟩ := hP
  have hx := Bd.exec
  have hby := Bd.bytes
  have hml : c.maxLocals = 5 := hml0
  have hown : s.vm.findClass "java/util/Arrays" = some m.cls := findClass_of_methodNamed Bd.named
  have hnm := (name_of_methodNamed Bd.named Bd.method).1
  have X0 : Stand p l e ({ frames := 0, cells := 0, slots := 0, locals := 0 } : Room) s m #[(.ref a1), (.long q2)] below meth c s₁ [] 0 0 := Stand.of_body Bd
  have e0 : s₁.heap = h0 := by rw [← hh, Bd.state]; rfl
  have N0 := Fr.nil n0
  have pre0 : ∀ tZ, Steps p.tables e below (s₁.setTop (mkF m 0 #[.val (.ref a1), .val (.long q2), .second, .unset, .unset] [])) tZ → Steps p.tables e below (s₁.setTop (entryFrame m #[(.ref a1), (.long q2)] 5)) tZ := fun tZ kZ => castTop (ef_dF2_ m a1 q2) kZ
  have hin0 := inb_of (j := (0 : Int32)) S0 ⟨by decide, by decide⟩
  obtain ⟨T1, h1, X1, e1, W1, st1⟩ := stJ X0 hx hZ e0 A0 (j := (0 : Int32)) hin0 (g := (mkF m 15 #[.val (.ref a1), .val (.long q2), .second, .val (.int (0 : Int32)), .val (.int (2 : Int32))] [(.long q2), (.int (0 : Int32)), (.ref a1)])) rfl rfl (hb hby dF_15)
  have A1' := Arr.same W1 A0
  have S1' := (sz_set _ ((0 : Int32)).toNatClampNeg (.long q2)).trans S0
  have K1' : Keep h0 h1 [a1] := (Keep.refl h0 [a1]).wr W1 (Or.inl (List.mem_of_getElem? (i := 0) rfl))
  have N1' := Fr.snoc X1 N0 ga
  have hin1 := inb_of (j := ((0 : Int32) + (1 : Int32))) S1' ⟨by decide, by decide⟩
  obtain ⟨T2, h2, X2, e2, W2, st2⟩ := stJ X1 hx hZ e1 A1' (j := ((0 : Int32) + (1 : Int32))) hin1 (g := (mkF m 15 #[.val (.ref a1), .val (.long q2), .second, .val (.int ((0 : Int32) + (1 : Int32))), .val (.int (2 : Int32))] [(.long q2), (.int ((0 : Int32) + (1 : Int32))), (.ref a1)])) rfl rfl (hb hby dF_15)
  have A2' := Arr.same W2 A1'
  have S2' := (sz_set _ (((0 : Int32) + (1 : Int32))).toNatClampNeg (.long q2)).trans S1'
  have K2' : Keep h0 h2 [a1] := K1'.wr W2 (Or.inl (List.mem_of_getElem? (i := 0) rfl))
  have N2' := Fr.snoc X2 N1' ga
  obtain ⟨fs, hr, hrun, hended, hW, hsame⟩ := X2.leave (v := none) (fun _ => rfl)
  refine ⟨_, _, pre0 _ ?_, hrun, hended, _, _, rfl, ?_, ⟨_, rfl⟩, hW, hsame.mono (by decide) (by decide)⟩
  · show Steps p.tables e below (s₁.setTop (mkF m 0 #[.val (.ref a1), .val (.long q2), .second, .unset, .unset] [])) _
    refine XS.iconst X0.here hx rfl (hb hby dF_0) ?_
    show Steps p.tables e below (s₁.setTop (mkF m 1 #[.val (.ref a1), .val (.long q2), .second, .unset, .unset] [(.int (0 : Int32))])) _
    refine XS.istoreN X0.here hx rfl (hb hby dF_1) rfl (l' := #[.val (.ref a1), .val (.long q2), .second, .val (.int (0 : Int32)), .unset]) rfl ?_
    show Steps p.tables e below (s₁.setTop (mkF m 2 #[.val (.ref a1), .val (.long q2), .second, .val (.int (0 : Int32)), .unset] [])) _
    refine XS.aloadN X0.here hx rfl (hb hby dF_2) rfl rfl ?_
    show Steps p.tables e below (s₁.setTop (mkF m 3 #[.val (.ref a1), .val (.long q2), .second, .val (.int (0 : Int32)), .unset] [(.ref a1)])) _
    refine X0.arraylength hx (by rw [e0]; exact A0.1) (State.isArrayOf_alike hZ.alike A0.2.1) (g := (mkF m 3 #[.val (.ref a1), .val (.long q2), .second, .val (.int (0 : Int32)), .unset] [(.ref a1)])) rfl rfl (hb hby dF_3) _ ?_
    rw [len_of S0 (by decide : ¬ (2 : Int32) < 0)]
    show Steps p.tables e below (s₁.setTop (mkF m 4 #[.val (.ref a1), .val (.long q2), .second, .val (.int (0 : Int32)), .unset] [(.int (2 : Int32))])) _
    refine XS.istore X0.here hx rfl (hb hby dF_4) rfl (l' := #[.val (.ref a1), .val (.long q2), .second, .val (.int (0 : Int32)), .val (.int (2 : Int32))]) rfl ?_
    show Steps p.tables e below (s₁.setTop (mkF m 6 #[.val (.ref a1), .val (.long q2), .second, .val (.int (0 : Int32)), .val (.int (2 : Int32))] [])) _
    refine XS.iloadN X0.here hx rfl (hb hby dF_6) rfl ?_
    show Steps p.tables e below (s₁.setTop (mkF m 7 #[.val (.ref a1), .val (.long q2), .second, .val (.int (0 : Int32)), .val (.int (2 : Int32))] [(.int (0 : Int32))])) _
    refine XS.iload X0.here hx rfl (hb hby dF_7) rfl ?_
    show Steps p.tables e below (s₁.setTop (mkF m 9 #[.val (.ref a1), .val (.long q2), .second, .val (.int (0 : Int32)), .val (.int (2 : Int32))] [(.int (2 : Int32)), (.int (0 : Int32))])) _
    refine XS.icmpNo X0.here hx rfl (hb hby dF_9) rfl (tlt (by decide)).2.1 ?_
    show Steps p.tables e below (s₁.setTop (mkF m 12 #[.val (.ref a1), .val (.long q2), .second, .val (.int (0 : Int32)), .val (.int (2 : Int32))] [])) _
    refine XS.aloadN X0.here hx rfl (hb hby dF_12) rfl rfl ?_
    show Steps p.tables e below (s₁.setTop (mkF m 13 #[.val (.ref a1), .val (.long q2), .second, .val (.int (0 : Int32)), .val (.int (2 : Int32))] [(.ref a1)])) _
    refine XS.iloadN X0.here hx rfl (hb hby dF_13) rfl ?_
    show Steps p.tables e below (s₁.setTop (mkF m 14 #[.val (.ref a1), .val (.long q2), .second, .val (.int (0 : Int32)), .val (.int (2 : Int32))] [(.int (0 : Int32)), (.ref a1)])) _
    refine XS.lloadN X0.here hx rfl (hb hby dF_14) rfl ?_
    show Steps p.tables e below (s₁.setTop (mkF m 15 #[.val (.ref a1), .val (.long q2), .second, .val (.int (0 : Int32)), .val (.int (2 : Int32))] [(.long q2), (.int (0 : Int32)), (.ref a1)])) _
    refine st1 _ ?_
    show Steps p.tables e below (T1.setTop (mkF m 16 #[.val (.ref a1), .val (.long q2), .second, .val (.int (0 : Int32)), .val (.int (2 : Int32))] [])) _
    refine XS.iinc X1.here hx rfl (hb hby dF_16) rfl (l' := #[.val (.ref a1), .val (.long q2), .second, .val (.int ((0 : Int32) + (1 : Int32))), .val (.int (2 : Int32))]) rfl ?_
    show Steps p.tables e below (T1.setTop (mkF m 19 #[.val (.ref a1), .val (.long q2), .second, .val (.int ((0 : Int32) + (1 : Int32))), .val (.int (2 : Int32))] [])) _
    refine XS.goto X1.here hx rfl (pc0 := 19) (pc' := 6) rfl (hb hby dF_19) (by decide) (by decide) ?_
    show Steps p.tables e below (T1.setTop (mkF m 6 #[.val (.ref a1), .val (.long q2), .second, .val (.int ((0 : Int32) + (1 : Int32))), .val (.int (2 : Int32))] [])) _
    refine XS.iloadN X1.here hx rfl (hb hby dF_6) rfl ?_
    show Steps p.tables e below (T1.setTop (mkF m 7 #[.val (.ref a1), .val (.long q2), .second, .val (.int ((0 : Int32) + (1 : Int32))), .val (.int (2 : Int32))] [(.int ((0 : Int32) + (1 : Int32)))])) _
    refine XS.iload X1.here hx rfl (hb hby dF_7) rfl ?_
    show Steps p.tables e below (T1.setTop (mkF m 9 #[.val (.ref a1), .val (.long q2), .second, .val (.int ((0 : Int32) + (1 : Int32))), .val (.int (2 : Int32))] [(.int (2 : Int32)), (.int ((0 : Int32) + (1 : Int32)))])) _
    refine XS.icmpNo X1.here hx rfl (hb hby dF_9) rfl (tlt (by decide)).2.1 ?_
    show Steps p.tables e below (T1.setTop (mkF m 12 #[.val (.ref a1), .val (.long q2), .second, .val (.int ((0 : Int32) + (1 : Int32))), .val (.int (2 : Int32))] [])) _
    refine XS.aloadN X1.here hx rfl (hb hby dF_12) rfl rfl ?_
    show Steps p.tables e below (T1.setTop (mkF m 13 #[.val (.ref a1), .val (.long q2), .second, .val (.int ((0 : Int32) + (1 : Int32))), .val (.int (2 : Int32))] [(.ref a1)])) _
    refine XS.iloadN X1.here hx rfl (hb hby dF_13) rfl ?_
    show Steps p.tables e below (T1.setTop (mkF m 14 #[.val (.ref a1), .val (.long q2), .second, .val (.int ((0 : Int32) + (1 : Int32))), .val (.int (2 : Int32))] [(.int ((0 : Int32) + (1 : Int32))), (.ref a1)])) _
    refine XS.lloadN X1.here hx rfl (hb hby dF_14) rfl ?_
    show Steps p.tables e below (T1.setTop (mkF m 15 #[.val (.ref a1), .val (.long q2), .second, .val (.int ((0 : Int32) + (1 : Int32))), .val (.int (2 : Int32))] [(.long q2), (.int ((0 : Int32) + (1 : Int32))), (.ref a1)])) _
    refine st2 _ ?_
    show Steps p.tables e below (T2.setTop (mkF m 16 #[.val (.ref a1), .val (.long q2), .second, .val (.int ((0 : Int32) + (1 : Int32))), .val (.int (2 : Int32))] [])) _
    refine XS.iinc X2.here hx rfl (hb hby dF_16) rfl (l' := #[.val (.ref a1), .val (.long q2), .second, .val (.int (((0 : Int32) + (1 : Int32)) + (1 : Int32))), .val (.int (2 : Int32))]) rfl ?_
    show Steps p.tables e below (T2.setTop (mkF m 19 #[.val (.ref a1), .val (.long q2), .second, .val (.int (((0 : Int32) + (1 : Int32)) + (1 : Int32))), .val (.int (2 : Int32))] [])) _
    refine XS.goto X2.here hx rfl (pc0 := 19) (pc' := 6) rfl (hb hby dF_19) (by decide) (by decide) ?_
    show Steps p.tables e below (T2.setTop (mkF m 6 #[.val (.ref a1), .val (.long q2), .second, .val (.int (((0 : Int32) + (1 : Int32)) + (1 : Int32))), .val (.int (2 : Int32))] [])) _
    refine XS.iloadN X2.here hx rfl (hb hby dF_6) rfl ?_
    show Steps p.tables e below (T2.setTop (mkF m 7 #[.val (.ref a1), .val (.long q2), .second, .val (.int (((0 : Int32) + (1 : Int32)) + (1 : Int32))), .val (.int (2 : Int32))] [(.int (((0 : Int32) + (1 : Int32)) + (1 : Int32)))])) _
    refine XS.iload X2.here hx rfl (hb hby dF_7) rfl ?_
    show Steps p.tables e below (T2.setTop (mkF m 9 #[.val (.ref a1), .val (.long q2), .second, .val (.int (((0 : Int32) + (1 : Int32)) + (1 : Int32))), .val (.int (2 : Int32))] [(.int (2 : Int32)), (.int (((0 : Int32) + (1 : Int32)) + (1 : Int32)))])) _
    refine XS.icmpYes X2.here hx rfl (pc0 := 9) (pc' := 22) rfl (hb hby dF_9) rfl (flt (by decide)).2.1 (by decide) (by decide) ?_
    show Steps p.tables e below (T2.setTop (mkF m 22 #[.val (.ref a1), .val (.long q2), .second, .val (.int (((0 : Int32) + (1 : Int32)) + (1 : Int32))), .val (.int (2 : Int32))] [])) _
    exact X2.returnOut hx Bd.returns (hb hby dF_22) hr
  · show Q_rmF_2 Z a1 q2 ca h0 n0 _ T2.heap _
    rw [e2]
    exact ⟨rfl, N2', K2'⟩

theorem ef_dT2_ (m : MethodId) (a1 : Addr) (l2 : Addr) (r3 : Addr) (q4 : Int64) : entryFrame m #[(.ref a1), (.ref l2), (.ref r3), (.long q4)] 5 = mkF m 0 #[.val (.ref a1), .val (.ref l2), .val (.ref r3), .val (.long q4), .second] [] := by first | (simp [entryFrame, mkF, argsToLocals, Value.category]; done) | rfl
def Q_rmT_2 (Z : State) (a1 : Addr) (l2 : Addr) (r3 : Addr) (q4 : Int64) (cr : Cell) (h0 : Heap) (n0 : Nat) (v : Option Value) (h : Heap) (L : List Loc) : Prop := v = none ∧ Fr n0 L ∧ Keep h0 h [a1] ∧ Exa Z h a1 "com/example/done_by_xor/donebyxor/runtime/Tuple" ∧ Fld Z h a1 "com/example/done_by_xor/donebyxor/runtime/Tuple" "roots" "[J" (.ref r3)
theorem pn_rmT_2 : plainName "com/example/done_by_xor/donebyxor/runtime/Tuple" = true := by first | (simp [plainName, overriddenIn]; done) | decide +kernel
set_option maxRecDepth 65536 in
set_option maxHeartbeats 40000000 in
theorem rmT_2 (l : Launch) (Z : State) (a0 : Array Value) (hw : ∀ d ∈ tables_1, d.before a0 Z = true) (ws : List Jvm.Cond) (a1 : Addr) (l2 : Addr) (r3 : Addr) (q4 : Int64) (cr : Cell) (h0 : Heap) (n0 : Nat) (Z0 : n0 ≤ h0.size) (E : Exa Z h0 a1 "com/example/done_by_xor/donebyxor/runtime/Tuple") (F1 : Fld Z h0 a1 "com/example/done_by_xor/donebyxor/runtime/Tuple" "values" "Ljava/util/List;" .null) (F2 : Fld Z h0 a1 "com/example/done_by_xor/donebyxor/runtime/Tuple" "roots" "[J" .null) (F3 : Fld Z h0 a1 "com/example/done_by_xor/donebyxor/runtime/Tuple" "ackValues" "[J" .null) (Ar : Arr Z h0 r3 cr .long) (Sr : cr.slots.size = (2 : Int32).toNatClampNeg) (hne : r3 ≠ a1) (ga : n0 ≤ a1) :
    MetFree l (⟨"com/example/done_by_xor/donebyxor/runtime/Tuple", "<init>", "(Ljava/util/List;[JJ)V"⟩ : MethodName) (head1 (Jvm.Cond.code (⟨"com/example/done_by_xor/donebyxor/runtime/Tuple", "<init>", "(Ljava/util/List;[JJ)V"⟩ : MethodName) prog_13_method_1_code 5 none :: ws) ({ frames := 1, cells := 1, slots := 2, locals := 16 } : Room)) (fun a U => a = #[(.ref a1), (.ref l2), (.ref r3), (.long q4)] ∧ Z.Warmed39 U.vm ∧ U.heap = h0) (fun _ _ _ _ _ => True) (fun _ U o U' => ∃ v L, o = .returned v ∧ Q_rmT_2 Z a1 l2 r3 q4 cr  h0 n0 v U'.heap L ∧ FrameEnd U o U' L ({ frames := 1, cells := 1, slots := 2, locals := 16 } : Room).cells ({ frames := 1, cells := 1, slots := 2, locals := 16 } : Room).slots) := by
  refine MetFree.of_bodySF (plainFor_of_name pn_rmT_2) hisR ?_
  intro p e s m args below meth c s₁ Bd hml0 hP hK
  obtain ⟨rfl, hZ, hh⟩ := hP
  have hx := Bd.exec
  have hby := Bd.bytes
  have hml : c.maxLocals = 5 := hml0
  have hown : s.vm.findClass "com/example/done_by_xor/donebyxor/runtime/Tuple" = some m.cls := findClass_of_methodNamed Bd.named
  have hnm := (name_of_methodNamed Bd.named Bd.method).1
  have X0 : Stand p l e ({ frames := 1, cells := 1, slots := 2, locals := 16 } : Room) s m #[(.ref a1), (.ref l2), (.ref r3), (.long q4)] below meth c s₁ [] 0 0 := Stand.of_body Bd
  have e0 : s₁.heap = h0 := by rw [← hh, Bd.state]; rfl
  have N0 := Fr.nil n0
  have pre0 : ∀ tZ, Steps p.tables e below (s₁.setTop (mkF m 0 #[.val (.ref a1), .val (.ref l2), .val (.ref r3), .val (.long q4), .second] [])) tZ → Steps p.tables e below (s₁.setTop (entryFrame m #[(.ref a1), (.ref l2), (.ref r3), (.long q4)] 5)) tZ := fun tZ kZ => castTop (ef_dT2_ m a1 l2 r3 q4) kZ
  obtain ⟨T1, X1, e1, st1⟩ := initO X0 hx hZ hown (hw _ (List.mem_of_getElem? (i := 33) rfl)) (hw _ (List.mem_of_getElem? (i := 20) rfl)) (hw _ (List.mem_of_getElem? (i := 21) rfl)) e0 (g := (mkF m 1 #[.val (.ref a1), .val (.ref l2), .val (.ref r3), .val (.long q4), .second] [(.ref a1)])) rfl (by rw [hml]; rfl) rfl (hb hby dT_1) (by decide) (W := 0) (by show 2 * 0 + _ ≤ _; exact Nat.le_of_eq rfl) (by decide)
  obtain ⟨T2, h2, X2, e2, W2, st2⟩ := putF X1 hx hZ hown (host := "") (Or.inl (hw _ (List.mem_of_getElem? (i := 34) rfl))) Via.refl e1 F1 E (Or.inr ⟨(hw _ (List.mem_of_getElem? (i := 35) rfl)), rfl, hnm⟩) (hw _ (List.mem_of_getElem? (i := 28) rfl)) (ty := (.object "java/util/List")) (by decide) rfl rfl (g := (mkF m 6 #[.val (.ref a1), .val (.ref l2), .val (.ref r3), .val (.long q4), .second] [(.ref l2), (.ref a1)])) rfl rfl (hb hby dT_6)
  have Ea := E.wr W2
  have F2a := F2.other W2 (Or.inr (slot_ne (Or.inr (hw _ (List.mem_of_getElem? (i := 37) rfl))) (Or.inr (hw _ (List.mem_of_getElem? (i := 35) rfl))) (by decide) (t := (.array .long)) (t' := (.object "java/util/List")) (by decide) (by decide)))
  have F3a := F3.other W2 (Or.inr (slot_ne (Or.inr (hw _ (List.mem_of_getElem? (i := 39) rfl))) (Or.inr (hw _ (List.mem_of_getElem? (i := 35) rfl))) (by decide) (t := (.array .long)) (t' := (.object "java/util/List")) (by decide) (by decide)))
  have Ara := Ar.other W2 hne
  have Ka : Keep h0 h2 [a1] := (Keep.refl h0 [a1]).wr W2 (Or.inl (List.mem_of_getElem? (i := 0) rfl))
  have Na := Fr.snoc X2 N0 ga
  obtain ⟨T3, h3, X3, e3, W3, st3⟩ := putF X2 hx hZ hown (host := "") (Or.inl (hw _ (List.mem_of_getElem? (i := 36) rfl))) Via.refl e2 F2a Ea (Or.inr ⟨(hw _ (List.mem_of_getElem? (i := 37) rfl)), rfl, hnm⟩) (hw _ (List.mem_of_getElem? (i := 28) rfl)) (ty := (.array .long)) (by decide) rfl rfl (g := (mkF m 11 #[.val (.ref a1), .val (.ref l2), .val (.ref r3), .val (.long q4), .second] [(.ref r3), (.ref a1)])) rfl rfl (hb hby dT_11)
  have Eb := Ea.wr W3
  have F2b := F2a.same W3
  have F3b := F3a.other W3 (Or.inr (slot_ne (Or.inr (hw _ (List.mem_of_getElem? (i := 39) rfl))) (Or.inr (hw _ (List.mem_of_getElem? (i := 37) rfl))) (by decide) (t := (.array .long)) (t' := (.array .long)) (by decide) (by decide)))
  have Arb := Ara.other W3 hne
  have Kb : Keep h0 h3 [a1] := Ka.wr W3 (Or.inl (List.mem_of_getElem? (i := 0) rfl))
  have Nb := Fr.snoc X3 Na ga
  obtain ⟨T4, h4, k4, X4, e4, E4, A4, st4⟩ := newP X3 hx hZ (hw _ (List.mem_of_getElem? (i := 0) rfl)) e3 (g := (mkF m 17 #[.val (.ref a1), .val (.ref l2), .val (.ref r3), .val (.long q4), .second] [(.int (2 : Int32)), (.ref a1)])) rfl (hb hby dT_17) rfl (by decide) (cap := 2) (by decide) (by decide) (by decide) (by decide)
  obtain ⟨b4, g4⟩ : ∃ z, z = h3.size := ⟨_, rfl⟩
  rw [← g4] at A4 st4
  have V4 := Arv.new A4 (by decide)
  have Ec := Eb.ext E4
  have F2c := F2b.ext E4
  have F3c := F3b.ext E4
  have Kc := Kb.ext E4
  obtain ⟨T5, h5, X5, e5, W5, st5⟩ := putF X4 hx hZ hown (host := "") (Or.inl (hw _ (List.mem_of_getElem? (i := 38) rfl))) Via.refl e4 F3c Ec (Or.inr ⟨(hw _ (List.mem_of_getElem? (i := 39) rfl)), rfl, hnm⟩) (hw _ (List.mem_of_getElem? (i := 28) rfl)) (ty := (.array .long)) (by decide) rfl rfl (g := (mkF m 19 #[.val (.ref a1), .val (.ref l2), .val (.ref r3), .val (.long q4), .second] [(.ref b4), (.ref a1)])) rfl rfl (hb hby dT_19)
  have Ed := Ec.wr W5
  have F2d := F2c.other W5 (Or.inr (slot_ne (Or.inr (hw _ (List.mem_of_getElem? (i := 37) rfl))) (Or.inr (hw _ (List.mem_of_getElem? (i := 39) rfl))) (by decide) (t := (.array .long)) (t' := (.array .long)) (by decide) (by decide)))
  have F3d := F3c.same W5
  have Kd : Keep h0 h5 [a1] := Kc.wr W5 (Or.inl (List.mem_of_getElem? (i := 0) rfl))
  have Nd := Fr.snoc X5 Nb ga
  have neb : b4 ≠ a1 := fun q => Nat.lt_irrefl _ (Nat.lt_of_lt_of_le Eb.lt (Nat.le_of_eq (g4.symm.trans q)))
  have A4 := A4.other W5 neb
  obtain ⟨T6, X6, e6, st6⟩ := getF X5 hx hZ hown (host := "") (Or.inl (hw _ (List.mem_of_getElem? (i := 38) rfl))) Via.refl e5 F3d (g := (mkF m 23 #[.val (.ref a1), .val (.ref l2), .val (.ref r3), .val (.long q4), .second] [(.ref a1)])) rfl rfl (hb hby dT_23)
  have Ze : n0 ≤ h5.size := Nat.le_trans Z0 Kd.1
  have gbn : n0 ≤ b4 := Nat.le_trans (Nat.le_trans Z0 Kb.1) (Nat.le_of_eq g4.symm)
  obtain ⟨_, _, ⟨T7, L7, k7, n7⟩, -, X7, ⟨Lc7, hQ7, l7, y7, z7⟩, st7⟩ := Jvm.LawKit.callS X6 hx (y := (⟨"java/util/Arrays", "fill", "([JJ)V"⟩ : MethodName)) hown (mvT hZ (hw _ (List.mem_of_getElem? (i := 40) rfl))) (mvT hZ (hw _ (List.mem_of_getElem? (i := 41) rfl))) (mvT hZ (hw _ (List.mem_of_getElem? (i := 42) rfl))) (mvT hZ (hw _ (List.mem_of_getElem? (i := 43) rfl))) (by decide) (backOf (W := 0) (rmF_2 l Z a0 hw [] b4 q4 _ h5 n0 Ze A4 (sz_new _ _ _) gbn) hZ (hw _ (List.mem_of_getElem? (i := 43) rfl)) (hw _ (List.mem_of_getElem? (i := 42) rfl)) (by decide) (by decide)) (g := (mkF m 27 #[.val (.ref a1), .val (.ref l2), .val (.ref r3), .val (.long q4), .second] [(.long q4), (.ref b4)])) rfl (by rw [hml]; rfl) (argsL := [(.ref b4), (.long q4)]) (rest := []) (lenOf pd_dT___JJ_V rfl) rfl (by show 2 * 0 + _ ≤ _; exact Nat.le_of_eq rfl) (hb hby dT_27) (fun _ _ => ⟨rfl, e6, (by decide : 1 + 0 ≤ _), (by decide : 2 + 0 ≤ _)⟩)
  dsimp only [Pt.U, Pt.locs, Pt.cells, Pt.slots] at X7 l7 y7 z7 st7 hQ7
  subst l7 y7 z7
  obtain ⟨rfl, N7q, K7⟩ := hQ7
  have N7 := Fr.app Nd N7q
  have Kf : Keep h0 T7.heap [a1] := Kd.trans K7 (allS (Or.inr (Nat.le_trans Kb.1 (Nat.le_of_eq g4.symm))) all0)
  have nfa : a1 ∉ [b4] := ninS (Ne.symm neb) nin0
  obtain ⟨fs, hr, hrun, hended, hW, hsame⟩ := X7.leave (v := none) (fun _ => rfl)
  refine ⟨_, _, pre0 _ ?_, hrun, hended, _, _, rfl, ?_, ⟨_, rfl⟩, hW, hsame.mono (by decide) (by decide)⟩
  · show Steps p.tables e below (s₁.setTop (mkF m 0 #[.val (.ref a1), .val (.ref l2), .val (.ref r3), .val (.long q4), .second] [])) _
    refine XS.aloadN X0.here hx rfl (hb hby dT_0) rfl rfl ?_
    show Steps p.tables e below (s₁.setTop (mkF m 1 #[.val (.ref a1), .val (.ref l2), .val (.ref r3), .val (.long q4), .second] [(.ref a1)])) _
    refine st1 _ ?_
    show Steps p.tables e below (T1.setTop (mkF m 4 #[.val (.ref a1), .val (.ref l2), .val (.ref r3), .val (.long q4), .second] [])) _
    refine XS.aloadN X1.here hx rfl (hb hby dT_4) rfl rfl ?_
    show Steps p.tables e below (T1.setTop (mkF m 5 #[.val (.ref a1), .val (.ref l2), .val (.ref r3), .val (.long q4), .second] [(.ref a1)])) _
    refine XS.aloadN X1.here hx rfl (hb hby dT_5) rfl rfl ?_
    show Steps p.tables e below (T1.setTop (mkF m 6 #[.val (.ref a1), .val (.ref l2), .val (.ref r3), .val (.long q4), .second] [(.ref l2), (.ref a1)])) _
    refine st2 _ ?_
    show Steps p.tables e below (T2.setTop (mkF m 9 #[.val (.ref a1), .val (.ref l2), .val (.ref r3), .val (.long q4), .second] [])) _
    refine XS.aloadN X2.here hx rfl (hb hby dT_9) rfl rfl ?_
    show Steps p.tables e below (T2.setTop (mkF m 10 #[.val (.ref a1), .val (.ref l2), .val (.ref r3), .val (.long q4), .second] [(.ref a1)])) _
    refine XS.aloadN X2.here hx rfl (hb hby dT_10) rfl rfl ?_
    show Steps p.tables e below (T2.setTop (mkF m 11 #[.val (.ref a1), .val (.ref l2), .val (.ref r3), .val (.long q4), .second] [(.ref r3), (.ref a1)])) _
    refine st3 _ ?_
    show Steps p.tables e below (T3.setTop (mkF m 14 #[.val (.ref a1), .val (.ref l2), .val (.ref r3), .val (.long q4), .second] [])) _
    refine XS.aloadN X3.here hx rfl (hb hby dT_14) rfl rfl ?_
    show Steps p.tables e below (T3.setTop (mkF m 15 #[.val (.ref a1), .val (.ref l2), .val (.ref r3), .val (.long q4), .second] [(.ref a1)])) _
    refine XS.aloadN X3.here hx rfl (hb hby dT_15) rfl rfl ?_
    show Steps p.tables e below (T3.setTop (mkF m 16 #[.val (.ref a1), .val (.ref l2), .val (.ref r3), .val (.long q4), .second] [(.ref r3), (.ref a1)])) _
    refine X3.arraylength hx (by rw [e3]; exact Arb.1) (State.isArrayOf_alike hZ.alike Arb.2.1) (g := (mkF m 16 #[.val (.ref a1), .val (.ref l2), .val (.ref r3), .val (.long q4), .second] [(.ref r3), (.ref a1)])) rfl rfl (hb hby dT_16) _ ?_
    rw [len_of Sr (by decide : ¬ (2 : Int32) < 0)]
    show Steps p.tables e below (T3.setTop (mkF m 17 #[.val (.ref a1), .val (.ref l2), .val (.ref r3), .val (.long q4), .second] [(.int (2 : Int32)), (.ref a1)])) _
    refine st4 _ ?_
    show Steps p.tables e below (T4.setTop (mkF m 19 #[.val (.ref a1), .val (.ref l2), .val (.ref r3), .val (.long q4), .second] [(.ref b4), (.ref a1)])) _
    refine st5 _ ?_
    show Steps p.tables e below (T5.setTop (mkF m 22 #[.val (.ref a1), .val (.ref l2), .val (.ref r3), .val (.long q4), .second] [])) _
    refine XS.aloadN X5.here hx rfl (hb hby dT_22) rfl rfl ?_
    show Steps p.tables e below (T5.setTop (mkF m 23 #[.val (.ref a1), .val (.ref l2), .val (.ref r3), .val (.long q4), .second] [(.ref a1)])) _
    refine st6 _ ?_
    show Steps p.tables e below (T6.setTop (mkF m 26 #[.val (.ref a1), .val (.ref l2), .val (.ref r3), .val (.long q4), .second] [(.ref b4)])) _
    refine XS.lloadN X6.here hx rfl (hb hby dT_26) rfl ?_
    show Steps p.tables e below (T6.setTop (mkF m 27 #[.val (.ref a1), .val (.ref l2), .val (.ref r3), .val (.long q4), .second] [(.long q4), (.ref b4)])) _
    refine st7 _ ?_
    show Steps p.tables e below (T7.setTop (mkF m 30 #[.val (.ref a1), .val (.ref l2), .val (.ref r3), .val (.long q4), .second] [])) _
    exact X7.returnOut hx Bd.returns (hb hby dT_30) hr
  · show Q_rmT_2 Z a1 l2 r3 q4 cr h0 n0 _ T7.heap _
    exact ⟨rfl, N7, Kf, Ed.keep K7, F2d.keep K7 nfa⟩

theorem ef_dG2_ (m : MethodId) (a1 : Addr) (q2 : Int64) : entryFrame m #[(.ref a1), (.long q2)] 8 = mkF m 0 #[.val (.ref a1), .val (.long q2), .second, .unset, .unset, .unset, .unset, .unset] [] := by first | (simp [entryFrame, mkF, argsToLocals, Value.category]; done) | rfl
def Q_rmG_2 (Z : State) (a1 : Addr) (q2 : Int64) (r3 : Addr) (k3 : ClassId) (d3 : Value) (u0 : Int64) (u1 : Int64) (h0 : Heap) (n0 : Nat) (v : Option Value) (h : Heap) (L : List Loc) : Prop := v = some (.int (if (lcmpW u0 q2) = (0 : Int32) then (1 : Int32) else (if (lcmpW u1 q2) = (0 : Int32) then (1 : Int32) else (0 : Int32)))) ∧ Fr n0 L ∧ h = h0
theorem pn_rmG_2 : plainName "com/example/done_by_xor/donebyxor/runtime/Tuple" = true := by first | (simp [plainName, overriddenIn]; done) | decide +kernel
set_option maxRecDepth 65536 in
set_option maxHeartbeats 40000000 in
theorem rmG_2 (l : Launch) (Z : State) (a0 : Array Value) (hw : ∀ d ∈ tables_1, d.before a0 Z = true) (ws : List Jvm.Cond) (a1 : Addr) (q2 : Int64) (r3 : Addr) (k3 : ClassId) (d3 : Value) (u0 : Int64) (u1 : Int64) (h0 : Heap) (n0 : Nat) (Z0 : n0 ≤ h0.size) (F : Fld Z h0 a1 "com/example/done_by_xor/donebyxor/runtime/Tuple" "roots" "[J" (.ref r3)) (V : Arv Z h0 r3 k3 .long (2 : Int32) [(.long u0), (.long u1)] d3) :
    MetFree l (⟨"com/example/done_by_xor/donebyxor/runtime/Tuple", "belongsTo", "(J)Z"⟩ : MethodName) (head1 (Jvm.Cond.code (⟨"com/example/done_by_xor/donebyxor/runtime/Tuple", "belongsTo", "(J)Z"⟩ : MethodName) prog_13_method_4_code 8 (some .boolean) :: ws) ({ frames := 0, cells := 0, slots := 0, locals := 0 } : Room)) (fun a U => a = #[(.ref a1), (.long q2)] ∧ Z.Warmed39 U.vm ∧ U.heap = h0) (fun _ _ _ _ _ => True) (fun _ U o U' => ∃ v L, o = .returned v ∧ Q_rmG_2 Z a1 q2 r3  k3  d3  u0  u1  h0 n0 v U'.heap L ∧ FrameEnd U o U' L ({ frames := 0, cells := 0, slots := 0, locals := 0 } : Room).cells ({ frames := 0, cells := 0, slots := 0, locals := 0 } : Room).slots) := by
  refine MetFree.of_bodySF (plainFor_of_name pn_rmG_2) hisR ?_
  intro p e s m args below meth c s₁ Bd hml0 hP hK
  obtain ⟨rfl, hZ, hh⟩ := hP
  have hx := Bd.exec
  have hby := Bd.bytes
  have hml : c.maxLocals = 8 := hml0
  have hown : s.vm.findClass "com/example/done_by_xor/donebyxor/runtime/Tuple" = some m.cls := findClass_of_methodNamed Bd.named
  have hnm := (name_of_methodNamed Bd.named Bd.method).1
  have X0 : Stand p l e ({ frames := 0, cells := 0, slots := 0, locals := 0 } : Room) s m #[(.ref a1), (.long q2)] below meth c s₁ [] 0 0 := Stand.of_body Bd
  have e0 : s₁.heap = h0 := by rw [← hh, Bd.state]; rfl
  have N0 := Fr.nil n0
  have pre0 : ∀ tZ, Steps p.tables e below (s₁.setTop (mkF m 0 #[.val (.ref a1), .val (.long q2), .second, .unset, .unset, .unset, .unset, .unset] [])) tZ → Steps p.tables e below (s₁.setTop (entryFrame m #[(.ref a1), (.long q2)] 8)) tZ := fun tZ kZ => castTop (ef_dG2_ m a1 q2) kZ
  obtain ⟨cv, Av, qv, Sv, Nv, Hv, Gv⟩ := V
  rcases Classical.em ((lcmpW u0 q2) = (0 : Int32)) with c0 | c0
  · skip
    obtain ⟨T1, X1, e1, st1⟩ := getF X0 hx hZ hown (host := "") (Or.inl (hw _ (List.mem_of_getElem? (i := 36) rfl))) Via.refl e0 F (g := (mkF m 1 #[.val (.ref a1), .val (.long q2), .second, .unset, .unset, .unset, .unset, .unset] [(.ref a1)])) rfl rfl (hb hby dG_1)
    have hin0 := inb_of (j := (0 : Int32)) Sv ⟨by decide, by decide⟩
    obtain ⟨fs, hr, hrun, hended, hW, hsame⟩ := X1.leave (v := some (.int (1 : Int32))) (fun h => by rw [Bd.returns] at h; cases h)
    refine ⟨_, _, pre0 _ ?_, hrun, hended, _, _, rfl, ?_, ⟨_, rfl⟩, hW, hsame.mono (by decide) (by decide)⟩
    · show Steps p.tables e below (s₁.setTop (mkF m 0 #[.val (.ref a1), .val (.long q2), .second, .unset, .unset, .unset, .unset, .unset] [])) _
      refine XS.aloadN X0.here hx rfl (hb hby dG_0) rfl rfl ?_
      show Steps p.tables e below (s₁.setTop (mkF m 1 #[.val (.ref a1), .val (.long q2), .second, .unset, .unset, .unset, .unset, .unset] [(.ref a1)])) _
      refine st1 _ ?_
      show Steps p.tables e below (T1.setTop (mkF m 4 #[.val (.ref a1), .val (.long q2), .second, .unset, .unset, .unset, .unset, .unset] [(.ref r3)])) _
      refine XS.astoreN X1.here hx rfl (hb hby dG_4) rfl rfl (l' := #[.val (.ref a1), .val (.long q2), .second, .val (.ref r3), .unset, .unset, .unset, .unset]) rfl ?_
      show Steps p.tables e below (T1.setTop (mkF m 5 #[.val (.ref a1), .val (.long q2), .second, .val (.ref r3), .unset, .unset, .unset, .unset] [])) _
      refine XS.aloadN X1.here hx rfl (hb hby dG_5) rfl rfl ?_
      show Steps p.tables e below (T1.setTop (mkF m 6 #[.val (.ref a1), .val (.long q2), .second, .val (.ref r3), .unset, .unset, .unset, .unset] [(.ref r3)])) _
      refine X1.arraylength hx (by rw [e1]; exact Av.1) (State.isArrayOf_alike hZ.alike Av.2.1) (g := (mkF m 6 #[.val (.ref a1), .val (.long q2), .second, .val (.ref r3), .unset, .unset, .unset, .unset] [(.ref r3)])) rfl rfl (hb hby dG_6) _ ?_
      rw [len_of Sv Nv]
      show Steps p.tables e below (T1.setTop (mkF m 7 #[.val (.ref a1), .val (.long q2), .second, .val (.ref r3), .unset, .unset, .unset, .unset] [(.int (2 : Int32))])) _
      refine XS.istore X1.here hx rfl (hb hby dG_7) rfl (l' := #[.val (.ref a1), .val (.long q2), .second, .val (.ref r3), .val (.int (2 : Int32)), .unset, .unset, .unset]) rfl ?_
      show Steps p.tables e below (T1.setTop (mkF m 9 #[.val (.ref a1), .val (.long q2), .second, .val (.ref r3), .val (.int (2 : Int32)), .unset, .unset, .unset] [])) _
      refine XS.iconst X1.here hx rfl (hb hby dG_9) ?_
      show Steps p.tables e below (T1.setTop (mkF m 10 #[.val (.ref a1), .val (.long q2), .second, .val (.ref r3), .val (.int (2 : Int32)), .unset, .unset, .unset] [(.int (0 : Int32))])) _
      refine XS.istore X1.here hx rfl (hb hby dG_10) rfl (l' := #[.val (.ref a1), .val (.long q2), .second, .val (.ref r3), .val (.int (2 : Int32)), .val (.int (0 : Int32)), .unset, .unset]) rfl ?_
      show Steps p.tables e below (T1.setTop (mkF m 12 #[.val (.ref a1), .val (.long q2), .second, .val (.ref r3), .val (.int (2 : Int32)), .val (.int (0 : Int32)), .unset, .unset] [])) _
      refine XS.iload X1.here hx rfl (hb hby dG_12) rfl ?_
      show Steps p.tables e below (T1.setTop (mkF m 14 #[.val (.ref a1), .val (.long q2), .second, .val (.ref r3), .val (.int (2 : Int32)), .val (.int (0 : Int32)), .unset, .unset] [(.int (0 : Int32))])) _
      refine XS.iload X1.here hx rfl (hb hby dG_14) rfl ?_
      show Steps p.tables e below (T1.setTop (mkF m 16 #[.val (.ref a1), .val (.long q2), .second, .val (.ref r3), .val (.int (2 : Int32)), .val (.int (0 : Int32)), .unset, .unset] [(.int (2 : Int32)), (.int (0 : Int32))])) _
      refine XS.icmpNo X1.here hx rfl (hb hby dG_16) rfl (tlt (by decide)).2.1 ?_
      show Steps p.tables e below (T1.setTop (mkF m 19 #[.val (.ref a1), .val (.long q2), .second, .val (.ref r3), .val (.int (2 : Int32)), .val (.int (0 : Int32)), .unset, .unset] [])) _
      refine XS.aloadN X1.here hx rfl (hb hby dG_19) rfl rfl ?_
      show Steps p.tables e below (T1.setTop (mkF m 20 #[.val (.ref a1), .val (.long q2), .second, .val (.ref r3), .val (.int (2 : Int32)), .val (.int (0 : Int32)), .unset, .unset] [(.ref r3)])) _
      refine XS.iload X1.here hx rfl (hb hby dG_20) rfl ?_
      show Steps p.tables e below (T1.setTop (mkF m 22 #[.val (.ref a1), .val (.long q2), .second, .val (.ref r3), .val (.int (2 : Int32)), .val (.int (0 : Int32)), .unset, .unset] [(.int (0 : Int32)), (.ref r3)])) _
      refine X1.laload hx (j := (0 : Int32)) (v := (.long u0)) (by rw [e1]; exact Av.1) (State.isArrayOf_alike hZ.alike Av.2.1) Av.2.2 hin0 (Has.at Hv hin0 rfl) (g := (mkF m 22 #[.val (.ref a1), .val (.long q2), .second, .val (.ref r3), .val (.int (2 : Int32)), .val (.int (0 : Int32)), .unset, .unset] [(.int (0 : Int32)), (.ref r3)])) rfl rfl (hb hby dG_22) _ ?_
      show Steps p.tables e below (T1.setTop (mkF m 23 #[.val (.ref a1), .val (.long q2), .second, .val (.ref r3), .val (.int (2 : Int32)), .val (.int (0 : Int32)), .unset, .unset] [(.long u0)])) _
      refine XS.lstore X1.here hx rfl (hb hby dG_23) rfl (l' := #[.val (.ref a1), .val (.long q2), .second, .val (.ref r3), .val (.int (2 : Int32)), .val (.int (0 : Int32)), .val (.long u0), .second]) rfl ?_
      show Steps p.tables e below (T1.setTop (mkF m 25 #[.val (.ref a1), .val (.long q2), .second, .val (.ref r3), .val (.int (2 : Int32)), .val (.int (0 : Int32)), .val (.long u0), .second] [])) _
      refine XS.lload X1.here hx rfl (hb hby dG_25) rfl ?_
      show Steps p.tables e below (T1.setTop (mkF m 27 #[.val (.ref a1), .val (.long q2), .second, .val (.ref r3), .val (.int (2 : Int32)), .val (.int (0 : Int32)), .val (.long u0), .second] [(.long u0)])) _
      refine XS.lloadN X1.here hx rfl (hb hby dG_27) rfl ?_
      show Steps p.tables e below (T1.setTop (mkF m 28 #[.val (.ref a1), .val (.long q2), .second, .val (.ref r3), .val (.int (2 : Int32)), .val (.int (0 : Int32)), .val (.long u0), .second] [(.long q2), (.long u0)])) _
      refine XS.lcmp X1.here hx rfl (hb hby dG_28) rfl ?_
      show Steps p.tables e below (T1.setTop (mkF m 29 #[.val (.ref a1), .val (.long q2), .second, .val (.ref r3), .val (.int (2 : Int32)), .val (.int (0 : Int32)), .val (.long u0), .second] [(.int (lcmpW u0 q2))])) _
      refine XS.ifNo X1.here hx rfl (hb hby dG_29) rfl ((if0 _ _).trans (teq c0).2) ?_
      show Steps p.tables e below (T1.setTop (mkF m 32 #[.val (.ref a1), .val (.long q2), .second, .val (.ref r3), .val (.int (2 : Int32)), .val (.int (0 : Int32)), .val (.long u0), .second] [])) _
      refine XS.iconst X1.here hx rfl (hb hby dG_32) ?_
      show Steps p.tables e below (T1.setTop (mkF m 33 #[.val (.ref a1), .val (.long q2), .second, .val (.ref r3), .val (.int (2 : Int32)), .val (.int (0 : Int32)), .val (.long u0), .second] [(.int (1 : Int32))])) _
      exact retN X1 hx (t := .boolean) Bd.returns (by simp) (hb hby dG_33) hr
    · show Q_rmG_2 Z a1 q2 r3 k3 d3 u0 u1 h0 n0 _ T1.heap _
      rw [e1]
      exact ⟨by simp only [if_pos c0], N0, rfl⟩
  · skip
    rcases Classical.em ((lcmpW u1 q2) = (0 : Int32)) with c1 | c1
    · skip
      obtain ⟨T1, X1, e1, st1⟩ := getF X0 hx hZ hown (host := "") (Or.inl (hw _ (List.mem_of_getElem? (i := 36) rfl))) Via.refl e0 F (g := (mkF m 1 #[.val (.ref a1), .val (.long q2), .second, .unset, .unset, .unset, .unset, .unset] [(.ref a1)])) rfl rfl (hb hby dG_1)
      have hin0 := inb_of (j := (0 : Int32)) Sv ⟨by decide, by decide⟩
      have hin1 := inb_of (j := ((0 : Int32) + (1 : Int32))) Sv ⟨by decide, by decide⟩
      obtain ⟨fs, hr, hrun, hended, hW, hsame⟩ := X1.leave (v := some (.int (1 : Int32))) (fun h => by rw [Bd.returns] at h; cases h)
      refine ⟨_, _, pre0 _ ?_, hrun, hended, _, _, rfl, ?_, ⟨_, rfl⟩, hW, hsame.mono (by decide) (by decide)⟩
      · show Steps p.tables e below (s₁.setTop (mkF m 0 #[.val (.ref a1), .val (.long q2), .second, .unset, .unset, .unset, .unset, .unset] [])) _
        refine XS.aloadN X0.here hx rfl (hb hby dG_0) rfl rfl ?_
        show Steps p.tables e below (s₁.setTop (mkF m 1 #[.val (.ref a1), .val (.long q2), .second, .unset, .unset, .unset, .unset, .unset] [(.ref a1)])) _
        refine st1 _ ?_
        show Steps p.tables e below (T1.setTop (mkF m 4 #[.val (.ref a1), .val (.long q2), .second, .unset, .unset, .unset, .unset, .unset] [(.ref r3)])) _
        refine XS.astoreN X1.here hx rfl (hb hby dG_4) rfl rfl (l' := #[.val (.ref a1), .val (.long q2), .second, .val (.ref r3), .unset, .unset, .unset, .unset]) rfl ?_
        show Steps p.tables e below (T1.setTop (mkF m 5 #[.val (.ref a1), .val (.long q2), .second, .val (.ref r3), .unset, .unset, .unset, .unset] [])) _
        refine XS.aloadN X1.here hx rfl (hb hby dG_5) rfl rfl ?_
        show Steps p.tables e below (T1.setTop (mkF m 6 #[.val (.ref a1), .val (.long q2), .second, .val (.ref r3), .unset, .unset, .unset, .unset] [(.ref r3)])) _
        refine X1.arraylength hx (by rw [e1]; exact Av.1) (State.isArrayOf_alike hZ.alike Av.2.1) (g := (mkF m 6 #[.val (.ref a1), .val (.long q2), .second, .val (.ref r3), .unset, .unset, .unset, .unset] [(.ref r3)])) rfl rfl (hb hby dG_6) _ ?_
        rw [len_of Sv Nv]
        show Steps p.tables e below (T1.setTop (mkF m 7 #[.val (.ref a1), .val (.long q2), .second, .val (.ref r3), .unset, .unset, .unset, .unset] [(.int (2 : Int32))])) _
        refine XS.istore X1.here hx rfl (hb hby dG_7) rfl (l' := #[.val (.ref a1), .val (.long q2), .second, .val (.ref r3), .val (.int (2 : Int32)), .unset, .unset, .unset]) rfl ?_
        show Steps p.tables e below (T1.setTop (mkF m 9 #[.val (.ref a1), .val (.long q2), .second, .val (.ref r3), .val (.int (2 : Int32)), .unset, .unset, .unset] [])) _
        refine XS.iconst X1.here hx rfl (hb hby dG_9) ?_
        show Steps p.tables e below (T1.setTop (mkF m 10 #[.val (.ref a1), .val (.long q2), .second, .val (.ref r3), .val (.int (2 : Int32)), .unset, .unset, .unset] [(.int (0 : Int32))])) _
        refine XS.istore X1.here hx rfl (hb hby dG_10) rfl (l' := #[.val (.ref a1), .val (.long q2), .second, .val (.ref r3), .val (.int (2 : Int32)), .val (.int (0 : Int32)), .unset, .unset]) rfl ?_
        show Steps p.tables e below (T1.setTop (mkF m 12 #[.val (.ref a1), .val (.long q2), .second, .val (.ref r3), .val (.int (2 : Int32)), .val (.int (0 : Int32)), .unset, .unset] [])) _
        refine XS.iload X1.here hx rfl (hb hby dG_12) rfl ?_
        show Steps p.tables e below (T1.setTop (mkF m 14 #[.val (.ref a1), .val (.long q2), .second, .val (.ref r3), .val (.int (2 : Int32)), .val (.int (0 : Int32)), .unset, .unset] [(.int (0 : Int32))])) _
        refine XS.iload X1.here hx rfl (hb hby dG_14) rfl ?_
        show Steps p.tables e below (T1.setTop (mkF m 16 #[.val (.ref a1), .val (.long q2), .second, .val (.ref r3), .val (.int (2 : Int32)), .val (.int (0 : Int32)), .unset, .unset] [(.int (2 : Int32)), (.int (0 : Int32))])) _
        refine XS.icmpNo X1.here hx rfl (hb hby dG_16) rfl (tlt (by decide)).2.1 ?_
        show Steps p.tables e below (T1.setTop (mkF m 19 #[.val (.ref a1), .val (.long q2), .second, .val (.ref r3), .val (.int (2 : Int32)), .val (.int (0 : Int32)), .unset, .unset] [])) _
        refine XS.aloadN X1.here hx rfl (hb hby dG_19) rfl rfl ?_
        show Steps p.tables e below (T1.setTop (mkF m 20 #[.val (.ref a1), .val (.long q2), .second, .val (.ref r3), .val (.int (2 : Int32)), .val (.int (0 : Int32)), .unset, .unset] [(.ref r3)])) _
        refine XS.iload X1.here hx rfl (hb hby dG_20) rfl ?_
        show Steps p.tables e below (T1.setTop (mkF m 22 #[.val (.ref a1), .val (.long q2), .second, .val (.ref r3), .val (.int (2 : Int32)), .val (.int (0 : Int32)), .unset, .unset] [(.int (0 : Int32)), (.ref r3)])) _
        refine X1.laload hx (j := (0 : Int32)) (v := (.long u0)) (by rw [e1]; exact Av.1) (State.isArrayOf_alike hZ.alike Av.2.1) Av.2.2 hin0 (Has.at Hv hin0 rfl) (g := (mkF m 22 #[.val (.ref a1), .val (.long q2), .second, .val (.ref r3), .val (.int (2 : Int32)), .val (.int (0 : Int32)), .unset, .unset] [(.int (0 : Int32)), (.ref r3)])) rfl rfl (hb hby dG_22) _ ?_
        show Steps p.tables e below (T1.setTop (mkF m 23 #[.val (.ref a1), .val (.long q2), .second, .val (.ref r3), .val (.int (2 : Int32)), .val (.int (0 : Int32)), .unset, .unset] [(.long u0)])) _
        refine XS.lstore X1.here hx rfl (hb hby dG_23) rfl (l' := #[.val (.ref a1), .val (.long q2), .second, .val (.ref r3), .val (.int (2 : Int32)), .val (.int (0 : Int32)), .val (.long u0), .second]) rfl ?_
        show Steps p.tables e below (T1.setTop (mkF m 25 #[.val (.ref a1), .val (.long q2), .second, .val (.ref r3), .val (.int (2 : Int32)), .val (.int (0 : Int32)), .val (.long u0), .second] [])) _
        refine XS.lload X1.here hx rfl (hb hby dG_25) rfl ?_
        show Steps p.tables e below (T1.setTop (mkF m 27 #[.val (.ref a1), .val (.long q2), .second, .val (.ref r3), .val (.int (2 : Int32)), .val (.int (0 : Int32)), .val (.long u0), .second] [(.long u0)])) _
        refine XS.lloadN X1.here hx rfl (hb hby dG_27) rfl ?_
        show Steps p.tables e below (T1.setTop (mkF m 28 #[.val (.ref a1), .val (.long q2), .second, .val (.ref r3), .val (.int (2 : Int32)), .val (.int (0 : Int32)), .val (.long u0), .second] [(.long q2), (.long u0)])) _
        refine XS.lcmp X1.here hx rfl (hb hby dG_28) rfl ?_
        show Steps p.tables e below (T1.setTop (mkF m 29 #[.val (.ref a1), .val (.long q2), .second, .val (.ref r3), .val (.int (2 : Int32)), .val (.int (0 : Int32)), .val (.long u0), .second] [(.int (lcmpW u0 q2))])) _
        refine XS.ifYes X1.here hx rfl (pc0 := 29) (pc' := 34) rfl (hb hby dG_29) rfl ((if0 _ _).trans (feq c0).2) (by decide) (by decide) ?_
        show Steps p.tables e below (T1.setTop (mkF m 34 #[.val (.ref a1), .val (.long q2), .second, .val (.ref r3), .val (.int (2 : Int32)), .val (.int (0 : Int32)), .val (.long u0), .second] [])) _
        refine XS.iinc X1.here hx rfl (hb hby dG_34) rfl (l' := #[.val (.ref a1), .val (.long q2), .second, .val (.ref r3), .val (.int (2 : Int32)), .val (.int ((0 : Int32) + (1 : Int32))), .val (.long u0), .second]) rfl ?_
        show Steps p.tables e below (T1.setTop (mkF m 37 #[.val (.ref a1), .val (.long q2), .second, .val (.ref r3), .val (.int (2 : Int32)), .val (.int ((0 : Int32) + (1 : Int32))), .val (.long u0), .second] [])) _
        refine XS.goto X1.here hx rfl (pc0 := 37) (pc' := 12) rfl (hb hby dG_37) (by decide) (by decide) ?_
        show Steps p.tables e below (T1.setTop (mkF m 12 #[.val (.ref a1), .val (.long q2), .second, .val (.ref r3), .val (.int (2 : Int32)), .val (.int ((0 : Int32) + (1 : Int32))), .val (.long u0), .second] [])) _
        refine XS.iload X1.here hx rfl (hb hby dG_12) rfl ?_
        show Steps p.tables e below (T1.setTop (mkF m 14 #[.val (.ref a1), .val (.long q2), .second, .val (.ref r3), .val (.int (2 : Int32)), .val (.int ((0 : Int32) + (1 : Int32))), .val (.long u0), .second] [(.int ((0 : Int32) + (1 : Int32)))])) _
        refine XS.iload X1.here hx rfl (hb hby dG_14) rfl ?_
        show Steps p.tables e below (T1.setTop (mkF m 16 #[.val (.ref a1), .val (.long q2), .second, .val (.ref r3), .val (.int (2 : Int32)), .val (.int ((0 : Int32) + (1 : Int32))), .val (.long u0), .second] [(.int (2 : Int32)), (.int ((0 : Int32) + (1 : Int32)))])) _
        refine XS.icmpNo X1.here hx rfl (hb hby dG_16) rfl (tlt (by decide)).2.1 ?_
        show Steps p.tables e below (T1.setTop (mkF m 19 #[.val (.ref a1), .val (.long q2), .second, .val (.ref r3), .val (.int (2 : Int32)), .val (.int ((0 : Int32) + (1 : Int32))), .val (.long u0), .second] [])) _
        refine XS.aloadN X1.here hx rfl (hb hby dG_19) rfl rfl ?_
        show Steps p.tables e below (T1.setTop (mkF m 20 #[.val (.ref a1), .val (.long q2), .second, .val (.ref r3), .val (.int (2 : Int32)), .val (.int ((0 : Int32) + (1 : Int32))), .val (.long u0), .second] [(.ref r3)])) _
        refine XS.iload X1.here hx rfl (hb hby dG_20) rfl ?_
        show Steps p.tables e below (T1.setTop (mkF m 22 #[.val (.ref a1), .val (.long q2), .second, .val (.ref r3), .val (.int (2 : Int32)), .val (.int ((0 : Int32) + (1 : Int32))), .val (.long u0), .second] [(.int ((0 : Int32) + (1 : Int32))), (.ref r3)])) _
        refine X1.laload hx (j := ((0 : Int32) + (1 : Int32))) (v := (.long u1)) (by rw [e1]; exact Av.1) (State.isArrayOf_alike hZ.alike Av.2.1) Av.2.2 hin1 (Has.at Hv hin1 rfl) (g := (mkF m 22 #[.val (.ref a1), .val (.long q2), .second, .val (.ref r3), .val (.int (2 : Int32)), .val (.int ((0 : Int32) + (1 : Int32))), .val (.long u0), .second] [(.int ((0 : Int32) + (1 : Int32))), (.ref r3)])) rfl rfl (hb hby dG_22) _ ?_
        show Steps p.tables e below (T1.setTop (mkF m 23 #[.val (.ref a1), .val (.long q2), .second, .val (.ref r3), .val (.int (2 : Int32)), .val (.int ((0 : Int32) + (1 : Int32))), .val (.long u0), .second] [(.long u1)])) _
        refine XS.lstore X1.here hx rfl (hb hby dG_23) rfl (l' := #[.val (.ref a1), .val (.long q2), .second, .val (.ref r3), .val (.int (2 : Int32)), .val (.int ((0 : Int32) + (1 : Int32))), .val (.long u1), .second]) rfl ?_
        show Steps p.tables e below (T1.setTop (mkF m 25 #[.val (.ref a1), .val (.long q2), .second, .val (.ref r3), .val (.int (2 : Int32)), .val (.int ((0 : Int32) + (1 : Int32))), .val (.long u1), .second] [])) _
        refine XS.lload X1.here hx rfl (hb hby dG_25) rfl ?_
        show Steps p.tables e below (T1.setTop (mkF m 27 #[.val (.ref a1), .val (.long q2), .second, .val (.ref r3), .val (.int (2 : Int32)), .val (.int ((0 : Int32) + (1 : Int32))), .val (.long u1), .second] [(.long u1)])) _
        refine XS.lloadN X1.here hx rfl (hb hby dG_27) rfl ?_
        show Steps p.tables e below (T1.setTop (mkF m 28 #[.val (.ref a1), .val (.long q2), .second, .val (.ref r3), .val (.int (2 : Int32)), .val (.int ((0 : Int32) + (1 : Int32))), .val (.long u1), .second] [(.long q2), (.long u1)])) _
        refine XS.lcmp X1.here hx rfl (hb hby dG_28) rfl ?_
        show Steps p.tables e below (T1.setTop (mkF m 29 #[.val (.ref a1), .val (.long q2), .second, .val (.ref r3), .val (.int (2 : Int32)), .val (.int ((0 : Int32) + (1 : Int32))), .val (.long u1), .second] [(.int (lcmpW u1 q2))])) _
        refine XS.ifNo X1.here hx rfl (hb hby dG_29) rfl ((if0 _ _).trans (teq c1).2) ?_
        show Steps p.tables e below (T1.setTop (mkF m 32 #[.val (.ref a1), .val (.long q2), .second, .val (.ref r3), .val (.int (2 : Int32)), .val (.int ((0 : Int32) + (1 : Int32))), .val (.long u1), .second] [])) _
        refine XS.iconst X1.here hx rfl (hb hby dG_32) ?_
        show Steps p.tables e below (T1.setTop (mkF m 33 #[.val (.ref a1), .val (.long q2), .second, .val (.ref r3), .val (.int (2 : Int32)), .val (.int ((0 : Int32) + (1 : Int32))), .val (.long u1), .second] [(.int (1 : Int32))])) _
        exact retN X1 hx (t := .boolean) Bd.returns (by simp) (hb hby dG_33) hr
      · show Q_rmG_2 Z a1 q2 r3 k3 d3 u0 u1 h0 n0 _ T1.heap _
        rw [e1]
        exact ⟨by simp only [if_neg c0, if_pos c1], N0, rfl⟩
    · skip
      obtain ⟨T1, X1, e1, st1⟩ := getF X0 hx hZ hown (host := "") (Or.inl (hw _ (List.mem_of_getElem? (i := 36) rfl))) Via.refl e0 F (g := (mkF m 1 #[.val (.ref a1), .val (.long q2), .second, .unset, .unset, .unset, .unset, .unset] [(.ref a1)])) rfl rfl (hb hby dG_1)
      have hin0 := inb_of (j := (0 : Int32)) Sv ⟨by decide, by decide⟩
      have hin1 := inb_of (j := ((0 : Int32) + (1 : Int32))) Sv ⟨by decide, by decide⟩
      obtain ⟨fs, hr, hrun, hended, hW, hsame⟩ := X1.leave (v := some (.int (0 : Int32))) (fun h => by rw [Bd.returns] at h; cases h)
      refine ⟨_, _, pre0 _ ?_, hrun, hended, _, _, rfl, ?_, ⟨_, rfl⟩, hW, hsame.mono (by decide) (by decide)⟩
      · show Steps p.tables e below (s₁.setTop (mkF m 0 #[.val (.ref a1), .val (.long q2), .second, .unset, .unset, .unset, .unset, .unset] [])) _
        refine XS.aloadN X0.here hx rfl (hb hby dG_0) rfl rfl ?_
        show Steps p.tables e below (s₁.setTop (mkF m 1 #[.val (.ref a1), .val (.long q2), .second, .unset, .unset, .unset, .unset, .unset] [(.ref a1)])) _
        refine st1 _ ?_
        show Steps p.tables e below (T1.setTop (mkF m 4 #[.val (.ref a1), .val (.long q2), .second, .unset, .unset, .unset, .unset, .unset] [(.ref r3)])) _
        refine XS.astoreN X1.here hx rfl (hb hby dG_4) rfl rfl (l' := #[.val (.ref a1), .val (.long q2), .second, .val (.ref r3), .unset, .unset, .unset, .unset]) rfl ?_
        show Steps p.tables e below (T1.setTop (mkF m 5 #[.val (.ref a1), .val (.long q2), .second, .val (.ref r3), .unset, .unset, .unset, .unset] [])) _
        refine XS.aloadN X1.here hx rfl (hb hby dG_5) rfl rfl ?_
        show Steps p.tables e below (T1.setTop (mkF m 6 #[.val (.ref a1), .val (.long q2), .second, .val (.ref r3), .unset, .unset, .unset, .unset] [(.ref r3)])) _
        refine X1.arraylength hx (by rw [e1]; exact Av.1) (State.isArrayOf_alike hZ.alike Av.2.1) (g := (mkF m 6 #[.val (.ref a1), .val (.long q2), .second, .val (.ref r3), .unset, .unset, .unset, .unset] [(.ref r3)])) rfl rfl (hb hby dG_6) _ ?_
        rw [len_of Sv Nv]
        show Steps p.tables e below (T1.setTop (mkF m 7 #[.val (.ref a1), .val (.long q2), .second, .val (.ref r3), .unset, .unset, .unset, .unset] [(.int (2 : Int32))])) _
        refine XS.istore X1.here hx rfl (hb hby dG_7) rfl (l' := #[.val (.ref a1), .val (.long q2), .second, .val (.ref r3), .val (.int (2 : Int32)), .unset, .unset, .unset]) rfl ?_
        show Steps p.tables e below (T1.setTop (mkF m 9 #[.val (.ref a1), .val (.long q2), .second, .val (.ref r3), .val (.int (2 : Int32)), .unset, .unset, .unset] [])) _
        refine XS.iconst X1.here hx rfl (hb hby dG_9) ?_
        show Steps p.tables e below (T1.setTop (mkF m 10 #[.val (.ref a1), .val (.long q2), .second, .val (.ref r3), .val (.int (2 : Int32)), .unset, .unset, .unset] [(.int (0 : Int32))])) _
        refine XS.istore X1.here hx rfl (hb hby dG_10) rfl (l' := #[.val (.ref a1), .val (.long q2), .second, .val (.ref r3), .val (.int (2 : Int32)), .val (.int (0 : Int32)), .unset, .unset]) rfl ?_
        show Steps p.tables e below (T1.setTop (mkF m 12 #[.val (.ref a1), .val (.long q2), .second, .val (.ref r3), .val (.int (2 : Int32)), .val (.int (0 : Int32)), .unset, .unset] [])) _
        refine XS.iload X1.here hx rfl (hb hby dG_12) rfl ?_
        show Steps p.tables e below (T1.setTop (mkF m 14 #[.val (.ref a1), .val (.long q2), .second, .val (.ref r3), .val (.int (2 : Int32)), .val (.int (0 : Int32)), .unset, .unset] [(.int (0 : Int32))])) _
        refine XS.iload X1.here hx rfl (hb hby dG_14) rfl ?_
        show Steps p.tables e below (T1.setTop (mkF m 16 #[.val (.ref a1), .val (.long q2), .second, .val (.ref r3), .val (.int (2 : Int32)), .val (.int (0 : Int32)), .unset, .unset] [(.int (2 : Int32)), (.int (0 : Int32))])) _
        refine XS.icmpNo X1.here hx rfl (hb hby dG_16) rfl (tlt (by decide)).2.1 ?_
        show Steps p.tables e below (T1.setTop (mkF m 19 #[.val (.ref a1), .val (.long q2), .second, .val (.ref r3), .val (.int (2 : Int32)), .val (.int (0 : Int32)), .unset, .unset] [])) _
        refine XS.aloadN X1.here hx rfl (hb hby dG_19) rfl rfl ?_
        show Steps p.tables e below (T1.setTop (mkF m 20 #[.val (.ref a1), .val (.long q2), .second, .val (.ref r3), .val (.int (2 : Int32)), .val (.int (0 : Int32)), .unset, .unset] [(.ref r3)])) _
        refine XS.iload X1.here hx rfl (hb hby dG_20) rfl ?_
        show Steps p.tables e below (T1.setTop (mkF m 22 #[.val (.ref a1), .val (.long q2), .second, .val (.ref r3), .val (.int (2 : Int32)), .val (.int (0 : Int32)), .unset, .unset] [(.int (0 : Int32)), (.ref r3)])) _
        refine X1.laload hx (j := (0 : Int32)) (v := (.long u0)) (by rw [e1]; exact Av.1) (State.isArrayOf_alike hZ.alike Av.2.1) Av.2.2 hin0 (Has.at Hv hin0 rfl) (g := (mkF m 22 #[.val (.ref a1), .val (.long q2), .second, .val (.ref r3), .val (.int (2 : Int32)), .val (.int (0 : Int32)), .unset, .unset] [(.int (0 : Int32)), (.ref r3)])) rfl rfl (hb hby dG_22) _ ?_
        show Steps p.tables e below (T1.setTop (mkF m 23 #[.val (.ref a1), .val (.long q2), .second, .val (.ref r3), .val (.int (2 : Int32)), .val (.int (0 : Int32)), .unset, .unset] [(.long u0)])) _
        refine XS.lstore X1.here hx rfl (hb hby dG_23) rfl (l' := #[.val (.ref a1), .val (.long q2), .second, .val (.ref r3), .val (.int (2 : Int32)), .val (.int (0 : Int32)), .val (.long u0), .second]) rfl ?_
        show Steps p.tables e below (T1.setTop (mkF m 25 #[.val (.ref a1), .val (.long q2), .second, .val (.ref r3), .val (.int (2 : Int32)), .val (.int (0 : Int32)), .val (.long u0), .second] [])) _
        refine XS.lload X1.here hx rfl (hb hby dG_25) rfl ?_
        show Steps p.tables e below (T1.setTop (mkF m 27 #[.val (.ref a1), .val (.long q2), .second, .val (.ref r3), .val (.int (2 : Int32)), .val (.int (0 : Int32)), .val (.long u0), .second] [(.long u0)])) _
        refine XS.lloadN X1.here hx rfl (hb hby dG_27) rfl ?_
        show Steps p.tables e below (T1.setTop (mkF m 28 #[.val (.ref a1), .val (.long q2), .second, .val (.ref r3), .val (.int (2 : Int32)), .val (.int (0 : Int32)), .val (.long u0), .second] [(.long q2), (.long u0)])) _
        refine XS.lcmp X1.here hx rfl (hb hby dG_28) rfl ?_
        show Steps p.tables e below (T1.setTop (mkF m 29 #[.val (.ref a1), .val (.long q2), .second, .val (.ref r3), .val (.int (2 : Int32)), .val (.int (0 : Int32)), .val (.long u0), .second] [(.int (lcmpW u0 q2))])) _
        refine XS.ifYes X1.here hx rfl (pc0 := 29) (pc' := 34) rfl (hb hby dG_29) rfl ((if0 _ _).trans (feq c0).2) (by decide) (by decide) ?_
        show Steps p.tables e below (T1.setTop (mkF m 34 #[.val (.ref a1), .val (.long q2), .second, .val (.ref r3), .val (.int (2 : Int32)), .val (.int (0 : Int32)), .val (.long u0), .second] [])) _
        refine XS.iinc X1.here hx rfl (hb hby dG_34) rfl (l' := #[.val (.ref a1), .val (.long q2), .second, .val (.ref r3), .val (.int (2 : Int32)), .val (.int ((0 : Int32) + (1 : Int32))), .val (.long u0), .second]) rfl ?_
        show Steps p.tables e below (T1.setTop (mkF m 37 #[.val (.ref a1), .val (.long q2), .second, .val (.ref r3), .val (.int (2 : Int32)), .val (.int ((0 : Int32) + (1 : Int32))), .val (.long u0), .second] [])) _
        refine XS.goto X1.here hx rfl (pc0 := 37) (pc' := 12) rfl (hb hby dG_37) (by decide) (by decide) ?_
        show Steps p.tables e below (T1.setTop (mkF m 12 #[.val (.ref a1), .val (.long q2), .second, .val (.ref r3), .val (.int (2 : Int32)), .val (.int ((0 : Int32) + (1 : Int32))), .val (.long u0), .second] [])) _
        refine XS.iload X1.here hx rfl (hb hby dG_12) rfl ?_
        show Steps p.tables e below (T1.setTop (mkF m 14 #[.val (.ref a1), .val (.long q2), .second, .val (.ref r3), .val (.int (2 : Int32)), .val (.int ((0 : Int32) + (1 : Int32))), .val (.long u0), .second] [(.int ((0 : Int32) + (1 : Int32)))])) _
        refine XS.iload X1.here hx rfl (hb hby dG_14) rfl ?_
        show Steps p.tables e below (T1.setTop (mkF m 16 #[.val (.ref a1), .val (.long q2), .second, .val (.ref r3), .val (.int (2 : Int32)), .val (.int ((0 : Int32) + (1 : Int32))), .val (.long u0), .second] [(.int (2 : Int32)), (.int ((0 : Int32) + (1 : Int32)))])) _
        refine XS.icmpNo X1.here hx rfl (hb hby dG_16) rfl (tlt (by decide)).2.1 ?_
        show Steps p.tables e below (T1.setTop (mkF m 19 #[.val (.ref a1), .val (.long q2), .second, .val (.ref r3), .val (.int (2 : Int32)), .val (.int ((0 : Int32) + (1 : Int32))), .val (.long u0), .second] [])) _
        refine XS.aloadN X1.here hx rfl (hb hby dG_19) rfl rfl ?_
        show Steps p.tables e below (T1.setTop (mkF m 20 #[.val (.ref a1), .val (.long q2), .second, .val (.ref r3), .val (.int (2 : Int32)), .val (.int ((0 : Int32) + (1 : Int32))), .val (.long u0), .second] [(.ref r3)])) _
        refine XS.iload X1.here hx rfl (hb hby dG_20) rfl ?_
        show Steps p.tables e below (T1.setTop (mkF m 22 #[.val (.ref a1), .val (.long q2), .second, .val (.ref r3), .val (.int (2 : Int32)), .val (.int ((0 : Int32) + (1 : Int32))), .val (.long u0), .second] [(.int ((0 : Int32) + (1 : Int32))), (.ref r3)])) _
        refine X1.laload hx (j := ((0 : Int32) + (1 : Int32))) (v := (.long u1)) (by rw [e1]; exact Av.1) (State.isArrayOf_alike hZ.alike Av.2.1) Av.2.2 hin1 (Has.at Hv hin1 rfl) (g := (mkF m 22 #[.val (.ref a1), .val (.long q2), .second, .val (.ref r3), .val (.int (2 : Int32)), .val (.int ((0 : Int32) + (1 : Int32))), .val (.long u0), .second] [(.int ((0 : Int32) + (1 : Int32))), (.ref r3)])) rfl rfl (hb hby dG_22) _ ?_
        show Steps p.tables e below (T1.setTop (mkF m 23 #[.val (.ref a1), .val (.long q2), .second, .val (.ref r3), .val (.int (2 : Int32)), .val (.int ((0 : Int32) + (1 : Int32))), .val (.long u0), .second] [(.long u1)])) _
        refine XS.lstore X1.here hx rfl (hb hby dG_23) rfl (l' := #[.val (.ref a1), .val (.long q2), .second, .val (.ref r3), .val (.int (2 : Int32)), .val (.int ((0 : Int32) + (1 : Int32))), .val (.long u1), .second]) rfl ?_
        show Steps p.tables e below (T1.setTop (mkF m 25 #[.val (.ref a1), .val (.long q2), .second, .val (.ref r3), .val (.int (2 : Int32)), .val (.int ((0 : Int32) + (1 : Int32))), .val (.long u1), .second] [])) _
        refine XS.lload X1.here hx rfl (hb hby dG_25) rfl ?_
        show Steps p.tables e below (T1.setTop (mkF m 27 #[.val (.ref a1), .val (.long q2), .second, .val (.ref r3), .val (.int (2 : Int32)), .val (.int ((0 : Int32) + (1 : Int32))), .val (.long u1), .second] [(.long u1)])) _
        refine XS.lloadN X1.here hx rfl (hb hby dG_27) rfl ?_
        show Steps p.tables e below (T1.setTop (mkF m 28 #[.val (.ref a1), .val (.long q2), .second, .val (.ref r3), .val (.int (2 : Int32)), .val (.int ((0 : Int32) + (1 : Int32))), .val (.long u1), .second] [(.long q2), (.long u1)])) _
        refine XS.lcmp X1.here hx rfl (hb hby dG_28) rfl ?_
        show Steps p.tables e below (T1.setTop (mkF m 29 #[.val (.ref a1), .val (.long q2), .second, .val (.ref r3), .val (.int (2 : Int32)), .val (.int ((0 : Int32) + (1 : Int32))), .val (.long u1), .second] [(.int (lcmpW u1 q2))])) _
        refine XS.ifYes X1.here hx rfl (pc0 := 29) (pc' := 34) rfl (hb hby dG_29) rfl ((if0 _ _).trans (feq c1).2) (by decide) (by decide) ?_
        show Steps p.tables e below (T1.setTop (mkF m 34 #[.val (.ref a1), .val (.long q2), .second, .val (.ref r3), .val (.int (2 : Int32)), .val (.int ((0 : Int32) + (1 : Int32))), .val (.long u1), .second] [])) _
        refine XS.iinc X1.here hx rfl (hb hby dG_34) rfl (l' := #[.val (.ref a1), .val (.long q2), .second, .val (.ref r3), .val (.int (2 : Int32)), .val (.int (((0 : Int32) + (1 : Int32)) + (1 : Int32))), .val (.long u1), .second]) rfl ?_
        show Steps p.tables e below (T1.setTop (mkF m 37 #[.val (.ref a1), .val (.long q2), .second, .val (.ref r3), .val (.int (2 : Int32)), .val (.int (((0 : Int32) + (1 : Int32)) + (1 : Int32))), .val (.long u1), .second] [])) _
        refine XS.goto X1.here hx rfl (pc0 := 37) (pc' := 12) rfl (hb hby dG_37) (by decide) (by decide) ?_
        show Steps p.tables e below (T1.setTop (mkF m 12 #[.val (.ref a1), .val (.long q2), .second, .val (.ref r3), .val (.int (2 : Int32)), .val (.int (((0 : Int32) + (1 : Int32)) + (1 : Int32))), .val (.long u1), .second] [])) _
        refine XS.iload X1.here hx rfl (hb hby dG_12) rfl ?_
        show Steps p.tables e below (T1.setTop (mkF m 14 #[.val (.ref a1), .val (.long q2), .second, .val (.ref r3), .val (.int (2 : Int32)), .val (.int (((0 : Int32) + (1 : Int32)) + (1 : Int32))), .val (.long u1), .second] [(.int (((0 : Int32) + (1 : Int32)) + (1 : Int32)))])) _
        refine XS.iload X1.here hx rfl (hb hby dG_14) rfl ?_
        show Steps p.tables e below (T1.setTop (mkF m 16 #[.val (.ref a1), .val (.long q2), .second, .val (.ref r3), .val (.int (2 : Int32)), .val (.int (((0 : Int32) + (1 : Int32)) + (1 : Int32))), .val (.long u1), .second] [(.int (2 : Int32)), (.int (((0 : Int32) + (1 : Int32)) + (1 : Int32)))])) _
        refine XS.icmpYes X1.here hx rfl (pc0 := 16) (pc' := 40) rfl (hb hby dG_16) rfl (flt (by decide)).2.1 (by decide) (by decide) ?_
        show Steps p.tables e below (T1.setTop (mkF m 40 #[.val (.ref a1), .val (.long q2), .second, .val (.ref r3), .val (.int (2 : Int32)), .val (.int (((0 : Int32) + (1 : Int32)) + (1 : Int32))), .val (.long u1), .second] [])) _
        refine XS.iconst X1.here hx rfl (hb hby dG_40) ?_
        show Steps p.tables e below (T1.setTop (mkF m 41 #[.val (.ref a1), .val (.long q2), .second, .val (.ref r3), .val (.int (2 : Int32)), .val (.int (((0 : Int32) + (1 : Int32)) + (1 : Int32))), .val (.long u1), .second] [(.int (0 : Int32))])) _
        exact retN X1 hx (t := .boolean) Bd.returns (by simp) (hb hby dG_41) hr
      · show Q_rmG_2 Z a1 q2 r3 k3 d3 u0 u1 h0 n0 _ T1.heap _
        rw [e1]
        exact ⟨by simp only [if_neg c0, if_neg c1], N0, rfl⟩

theorem ef_dF3_ (m : MethodId) (a1 : Addr) (q2 : Int64) : entryFrame m #[(.ref a1), (.long q2)] 5 = mkF m 0 #[.val (.ref a1), .val (.long q2), .second, .unset, .unset] [] := by first | (simp [entryFrame, mkF, argsToLocals, Value.category]; done) | rfl
def Q_rmF_3 (Z : State) (a1 : Addr) (q2 : Int64) (ca : Cell) (h0 : Heap) (n0 : Nat) (v : Option Value) (h : Heap) (L : List Loc) : Prop := v = none ∧ Fr n0 L ∧ Keep h0 h [a1]
theorem pn_rmF_3 : plainName "java/util/Arrays" = true := by first | (simp [plainName, overriddenIn]; done) | decide +kernel
set_option maxRecDepth 65536 in
set_option maxHeartbeats 40000000 in
theorem rmF_3 (l : Launch) (Z : State) (a0 : Array Value) (hw : ∀ d ∈ tables_1, d.before a0 Z = true) (ws : List Jvm.Cond) (a1 : Addr) (q2 : Int64) (ca : Cell) (h0 : Heap) (n0 : Nat) (Z0 : n0 ≤ h0.size) (A0 : Arr Z h0 a1 ca .long) (S0 : ca.slots.size = (3 : Int32).toNatClampNeg) (ga : n0 ≤ a1) :
    MetFree l (⟨"java/util/Arrays", "fill", "([JJ)V"⟩ : MethodName) (head1 (Jvm.Cond.code (⟨"java/util/Arrays", "fill", "([JJ)V"⟩ : MethodName) jdk_65_method_101_code 5 none :: ws) ({ frames := 0, cells := 0, slots := 0, locals := 0 } : Room)) (fun a U => a = #[(.ref a1), (.long q2)] ∧ Z.Warmed39 U.vm ∧ U.heap = h0) (fun _ _ _ _ _ => True) (fun _ U o U' => ∃ v L, o = .returned v ∧ Q_rmF_3 Z a1 q2 ca  h0 n0 v U'.heap L ∧ FrameEnd U o U' L ({ frames := 0, cells := 0, slots := 0, locals := 0 } : Room).cells ({ frames := 0, cells := 0, slots := 0, locals := 0 } : Room).slots) := by
  refine MetFree.of_bodySF (plainFor_of_name pn_rmF_3) hisR ?_
  intro p e s m args below meth c s₁ Bd hml0 hP hK
  obtain ⟨rfl, hZ, hh⟩ := hP
  have hx := Bd.exec
  have hby := Bd.bytes
  have hml : c.maxLocals = 5 := hml0
  have hown : s.vm.findClass "java/util/Arrays" = some m.cls := findClass_of_methodNamed Bd.named
  have hnm := (name_of_methodNamed Bd.named Bd.method).1
  have X0 : Stand p l e ({ frames := 0, cells := 0, slots := 0, locals := 0 } : Room) s m #[(.ref a1), (.long q2)] below meth c s₁ [] 0 0 := Stand.of_body Bd
  have e0 : s₁.heap = h0 := by rw [← hh, Bd.state]; rfl
  have N0 := Fr.nil n0
  have pre0 : ∀ tZ, Steps p.tables e below (s₁.setTop (mkF m 0 #[.val (.ref a1), .val (.long q2), .second, .unset, .unset] [])) tZ → Steps p.tables e below (s₁.setTop (entryFrame m #[(.ref a1), (.long q2)] 5)) tZ := fun tZ kZ => castTop (ef_dF3_ m a1 q2) kZ
  have hin0 := inb_of (j := (0 : Int32)) S0 ⟨by decide, by decide⟩
  obtain ⟨T1, h1, X1, e1, W1, st1⟩ := stJ X0 hx hZ e0 A0 (j := (0 : Int32)) hin0 (g := (mkF m 15 #[.val (.ref a1), .val (.long q2), .second, .val (.int (0 : Int32)), .val (.int (3 : Int32))] [(.long q2), (.int (0 : Int32)), (.ref a1)])) rfl rfl (hb hby dF_15)
  have A1' := Arr.same W1 A0
  have S1' := (sz_set _ ((0 : Int32)).toNatClampNeg (.long q2)).trans S0
  have K1' : Keep h0 h1 [a1] := (Keep.refl h0 [a1]).wr W1 (Or.inl (List.mem_of_getElem? (i := 0) rfl))
  have N1' := Fr.snoc X1 N0 ga
  have hin1 := inb_of (j := ((0 : Int32) + (1 : Int32))) S1' ⟨by decide, by decide⟩
  obtain ⟨T2, h2, X2, e2, W2, st2⟩ := stJ X1 hx hZ e1 A1' (j := ((0 : Int32) + (1 : Int32))) hin1 (g := (mkF m 15 #[.val (.ref a1), .val (.long q2), .second, .val (.int ((0 : Int32) + (1 : Int32))), .val (.int (3 : Int32))] [(.long q2), (.int ((0 : Int32) + (1 : Int32))), (.ref a1)])) rfl rfl (hb hby dF_15)
  have A2' := Arr.same W2 A1'
  have S2' := (sz_set _ (((0 : Int32) + (1 : Int32))).toNatClampNeg (.long q2)).trans S1'
  have K2' : Keep h0 h2 [a1] := K1'.wr W2 (Or.inl (List.mem_of_getElem? (i := 0) rfl))
  have N2' := Fr.snoc X2 N1' ga
  have hin2 := inb_of (j := (((0 : Int32) + (1 : Int32)) + (1 : Int32))) S2' ⟨by decide, by decide⟩
  obtain ⟨T3, h3, X3, e3, W3, st3⟩ := stJ X2 hx hZ e2 A2' (j := (((0 : Int32) + (1 : Int32)) + (1 : Int32))) hin2 (g := (mkF m 15 #[.val (.ref a1), .val (.long q2), .second, .val (.int (((0 : Int32) + (1 : Int32)) + (1 : Int32))), .val (.int (3 : Int32))] [(.long q2), (.int (((0 : Int32) + (1 : Int32)) + (1 : Int32))), (.ref a1)])) rfl rfl (hb hby dF_15)
  have A3' := Arr.same W3 A2'
  have S3' := (sz_set _ ((((0 : Int32) + (1 : Int32)) + (1 : Int32))).toNatClampNeg (.long q2)).trans S2'
  have K3' : Keep h0 h3 [a1] := K2'.wr W3 (Or.inl (List.mem_of_getElem? (i := 0) rfl))
  have N3' := Fr.snoc X3 N2' ga
  obtain ⟨fs, hr, hrun, hended, hW, hsame⟩ := X3.leave (v := none) (fun _ => rfl)
  refine ⟨_, _, pre0 _ ?_, hrun, hended, _, _, rfl, ?_, ⟨_, rfl⟩, hW, hsame.mono (by decide) (by decide)⟩
  · show Steps p.tables e below (s₁.setTop (mkF m 0 #[.val (.ref a1), .val (.long q2), .second, .unset, .unset] [])) _
    refine XS.iconst X0.here hx rfl (hb hby dF_0) ?_
    show Steps p.tables e below (s₁.setTop (mkF m 1 #[.val (.ref a1), .val (.long q2), .second, .unset, .unset] [(.int (0 : Int32))])) _
    refine XS.istoreN X0.here hx rfl (hb hby dF_1) rfl (l' := #[.val (.ref a1), .val (.long q2), .second, .val (.int (0 : Int32)), .unset]) rfl ?_
    show Steps p.tables e below (s₁.setTop (mkF m 2 #[.val (.ref a1), .val (.long q2), .second, .val (.int (0 : Int32)), .unset] [])) _
    refine XS.aloadN X0.here hx rfl (hb hby dF_2) rfl rfl ?_
    show Steps p.tables e below (s₁.setTop (mkF m 3 #[.val (.ref a1), .val (.long q2), .second, .val (.int (0 : Int32)), .unset] [(.ref a1)])) _
    refine X0.arraylength hx (by rw [e0]; exact A0.1) (State.isArrayOf_alike hZ.alike A0.2.1) (g := (mkF m 3 #[.val (.ref a1), .val (.long q2), .second, .val (.int (0 : Int32)), .unset] [(.ref a1)])) rfl rfl (hb hby dF_3) _ ?_
    rw [len_of S0 (by decide : ¬ (3 : Int32) < 0)]
    show Steps p.tables e below (s₁.setTop (mkF m 4 #[.val (.ref a1), .val (.long q2), .second, .val (.int (0 : Int32)), .unset] [(.int (3 : Int32))])) _
    refine XS.istore X0.here hx rfl (hb hby dF_4) rfl (l' := #[.val (.ref a1), .val (.long q2), .second, .val (.int (0 : Int32)), .val (.int (3 : Int32))]) rfl ?_
    show Steps p.tables e below (s₁.setTop (mkF m 6 #[.val (.ref a1), .val (.long q2), .second, .val (.int (0 : Int32)), .val (.int (3 : Int32))] [])) _
    refine XS.iloadN X0.here hx rfl (hb hby dF_6) rfl ?_
    show Steps p.tables e below (s₁.setTop (mkF m 7 #[.val (.ref a1), .val (.long q2), .second, .val (.int (0 : Int32)), .val (.int (3 : Int32))] [(.int (0 : Int32))])) _
    refine XS.iload X0.here hx rfl (hb hby dF_7) rfl ?_
    show Steps p.tables e below (s₁.setTop (mkF m 9 #[.val (.ref a1), .val (.long q2), .second, .val (.int (0 : Int32)), .val (.int (3 : Int32))] [(.int (3 : Int32)), (.int (0 : Int32))])) _
    refine XS.icmpNo X0.here hx rfl (hb hby dF_9) rfl (tlt (by decide)).2.1 ?_
    show Steps p.tables e below (s₁.setTop (mkF m 12 #[.val (.ref a1), .val (.long q2), .second, .val (.int (0 : Int32)), .val (.int (3 : Int32))] [])) _
    refine XS.aloadN X0.here hx rfl (hb hby dF_12) rfl rfl ?_
    show Steps p.tables e below (s₁.setTop (mkF m 13 #[.val (.ref a1), .val (.long q2), .second, .val (.int (0 : Int32)), .val (.int (3 : Int32))] [(.ref a1)])) _
    refine XS.iloadN X0.here hx rfl (hb hby dF_13) rfl ?_
    show Steps p.tables e below (s₁.setTop (mkF m 14 #[.val (.ref a1), .val (.long q2), .second, .val (.int (0 : Int32)), .val (.int (3 : Int32))] [(.int (0 : Int32)), (.ref a1)])) _
    refine XS.lloadN X0.here hx rfl (hb hby dF_14) rfl ?_
    show Steps p.tables e below (s₁.setTop (mkF m 15 #[.val (.ref a1), .val (.long q2), .second, .val (.int (0 : Int32)), .val (.int (3 : Int32))] [(.long q2), (.int (0 : Int32)), (.ref a1)])) _
    refine st1 _ ?_
    show Steps p.tables e below (T1.setTop (mkF m 16 #[.val (.ref a1), .val (.long q2), .second, .val (.int (0 : Int32)), .val (.int (3 : Int32))] [])) _
    refine XS.iinc X1.here hx rfl (hb hby dF_16) rfl (l' := #[.val (.ref a1), .val (.long q2), .second, .val (.int ((0 : Int32) + (1 : Int32))), .val (.int (3 : Int32))]) rfl ?_
    show Steps p.tables e below (T1.setTop (mkF m 19 #[.val (.ref a1), .val (.long q2), .second, .val (.int ((0 : Int32) + (1 : Int32))), .val (.int (3 : Int32))] [])) _
    refine XS.goto X1.here hx rfl (pc0 := 19) (pc' := 6) rfl (hb hby dF_19) (by decide) (by decide) ?_
    show Steps p.tables e below (T1.setTop (mkF m 6 #[.val (.ref a1), .val (.long q2), .second, .val (.int ((0 : Int32) + (1 : Int32))), .val (.int (3 : Int32))] [])) _
    refine XS.iloadN X1.here hx rfl (hb hby dF_6) rfl ?_
    show Steps p.tables e below (T1.setTop (mkF m 7 #[.val (.ref a1), .val (.long q2), .second, .val (.int ((0 : Int32) + (1 : Int32))), .val (.int (3 : Int32))] [(.int ((0 : Int32) + (1 : Int32)))])) _
    refine XS.iload X1.here hx rfl (hb hby dF_7) rfl ?_
    show Steps p.tables e below (T1.setTop (mkF m 9 #[.val (.ref a1), .val (.long q2), .second, .val (.int ((0 : Int32) + (1 : Int32))), .val (.int (3 : Int32))] [(.int (3 : Int32)), (.int ((0 : Int32) + (1 : Int32)))])) _
    refine XS.icmpNo X1.here hx rfl (hb hby dF_9) rfl (tlt (by decide)).2.1 ?_
    show Steps p.tables e below (T1.setTop (mkF m 12 #[.val (.ref a1), .val (.long q2), .second, .val (.int ((0 : Int32) + (1 : Int32))), .val (.int (3 : Int32))] [])) _
    refine XS.aloadN X1.here hx rfl (hb hby dF_12) rfl rfl ?_
    show Steps p.tables e below (T1.setTop (mkF m 13 #[.val (.ref a1), .val (.long q2), .second, .val (.int ((0 : Int32) + (1 : Int32))), .val (.int (3 : Int32))] [(.ref a1)])) _
    refine XS.iloadN X1.here hx rfl (hb hby dF_13) rfl ?_
    show Steps p.tables e below (T1.setTop (mkF m 14 #[.val (.ref a1), .val (.long q2), .second, .val (.int ((0 : Int32) + (1 : Int32))), .val (.int (3 : Int32))] [(.int ((0 : Int32) + (1 : Int32))), (.ref a1)])) _
    refine XS.lloadN X1.here hx rfl (hb hby dF_14) rfl ?_
    show Steps p.tables e below (T1.setTop (mkF m 15 #[.val (.ref a1), .val (.long q2), .second, .val (.int ((0 : Int32) + (1 : Int32))), .val (.int (3 : Int32))] [(.long q2), (.int ((0 : Int32) + (1 : Int32))), (.ref a1)])) _
    refine st2 _ ?_
    show Steps p.tables e below (T2.setTop (mkF m 16 #[.val (.ref a1), .val (.long q2), .second, .val (.int ((0 : Int32) + (1 : Int32))), .val (.int (3 : Int32))] [])) _
    refine XS.iinc X2.here hx rfl (hb hby dF_16) rfl (l' := #[.val (.ref a1), .val (.long q2), .second, .val (.int (((0 : Int32) + (1 : Int32)) + (1 : Int32))), .val (.int (3 : Int32))]) rfl ?_
    show Steps p.tables e below (T2.setTop (mkF m 19 #[.val (.ref a1), .val (.long q2), .second, .val (.int (((0 : Int32) + (1 : Int32)) + (1 : Int32))), .val (.int (3 : Int32))] [])) _
    refine XS.goto X2.here hx rfl (pc0 := 19) (pc' := 6) rfl (hb hby dF_19) (by decide) (by decide) ?_
    show Steps p.tables e below (T2.setTop (mkF m 6 #[.val (.ref a1), .val (.long q2), .second, .val (.int (((0 : Int32) + (1 : Int32)) + (1 : Int32))), .val (.int (3 : Int32))] [])) _
    refine XS.iloadN X2.here hx rfl (hb hby dF_6) rfl ?_
    show Steps p.tables e below (T2.setTop (mkF m 7 #[.val (.ref a1), .val (.long q2), .second, .val (.int (((0 : Int32) + (1 : Int32)) + (1 : Int32))), .val (.int (3 : Int32))] [(.int (((0 : Int32) + (1 : Int32)) + (1 : Int32)))])) _
    refine XS.iload X2.here hx rfl (hb hby dF_7) rfl ?_
    show Steps p.tables e below (T2.setTop (mkF m 9 #[.val (.ref a1), .val (.long q2), .second, .val (.int (((0 : Int32) + (1 : Int32)) + (1 : Int32))), .val (.int (3 : Int32))] [(.int (3 : Int32)), (.int (((0 : Int32) + (1 : Int32)) + (1 : Int32)))])) _
    refine XS.icmpNo X2.here hx rfl (hb hby dF_9) rfl (tlt (by decide)).2.1 ?_
    show Steps p.tables e below (T2.setTop (mkF m 12 #[.val (.ref a1), .val (.long q2), .second, .val (.int (((0 : Int32) + (1 : Int32)) + (1 : Int32))), .val (.int (3 : Int32))] [])) _
    refine XS.aloadN X2.here hx rfl (hb hby dF_12) rfl rfl ?_
    show Steps p.tables e below (T2.setTop (mkF m 13 #[.val (.ref a1), .val (.long q2), .second, .val (.int (((0 : Int32) + (1 : Int32)) + (1 : Int32))), .val (.int (3 : Int32))] [(.ref a1)])) _
    refine XS.iloadN X2.here hx rfl (hb hby dF_13) rfl ?_
    show Steps p.tables e below (T2.setTop (mkF m 14 #[.val (.ref a1), .val (.long q2), .second, .val (.int (((0 : Int32) + (1 : Int32)) + (1 : Int32))), .val (.int (3 : Int32))] [(.int (((0 : Int32) + (1 : Int32)) + (1 : Int32))), (.ref a1)])) _
    refine XS.lloadN X2.here hx rfl (hb hby dF_14) rfl ?_
    show Steps p.tables e below (T2.setTop (mkF m 15 #[.val (.ref a1), .val (.long q2), .second, .val (.int (((0 : Int32) + (1 : Int32)) + (1 : Int32))), .val (.int (3 : Int32))] [(.long q2), (.int (((0 : Int32) + (1 : Int32)) + (1 : Int32))), (.ref a1)])) _
    refine st3 _ ?_
    show Steps p.tables e below (T3.setTop (mkF m 16 #[.val (.ref a1), .val (.long q2), .second, .val (.int (((0 : Int32) + (1 : Int32)) + (1 : Int32))), .val (.int (3 : Int32))] [])) _
    refine XS.iinc X3.here hx rfl (hb hby dF_16) rfl (l' := #[.val (.ref a1), .val (.long q2), .second, .val (.int ((((0 : Int32) + (1 : Int32)) + (1 : Int32)) + (1 : Int32))), .val (.int (3 : Int32))]) rfl ?_
    show Steps p.tables e below (T3.setTop (mkF m 19 #[.val (.ref a1), .val (.long q2), .second, .val (.int ((((0 : Int32) + (1 : Int32)) + (1 : Int32)) + (1 : Int32))), .val (.int (3 : Int32))] [])) _
    refine XS.goto X3.here hx rfl (pc0 := 19) (pc' := 6) rfl (hb hby dF_19) (by decide) (by decide) ?_
    show Steps p.tables e below (T3.setTop (mkF m 6 #[.val (.ref a1), .val (.long q2), .second, .val (.int ((((0 : Int32) + (1 : Int32)) + (1 : Int32)) + (1 : Int32))), .val (.int (3 : Int32))] [])) _
    refine XS.iloadN X3.here hx rfl (hb hby dF_6) rfl ?_
    show Steps p.tables e below (T3.setTop (mkF m 7 #[.val (.ref a1), .val (.long q2), .second, .val (.int ((((0 : Int32) + (1 : Int32)) + (1 : Int32)) + (1 : Int32))), .val (.int (3 : Int32))] [(.int ((((0 : Int32) + (1 : Int32)) + (1 : Int32)) + (1 : Int32)))])) _
    refine XS.iload X3.here hx rfl (hb hby dF_7) rfl ?_
    show Steps p.tables e below (T3.setTop (mkF m 9 #[.val (.ref a1), .val (.long q2), .second, .val (.int ((((0 : Int32) + (1 : Int32)) + (1 : Int32)) + (1 : Int32))), .val (.int (3 : Int32))] [(.int (3 : Int32)), (.int ((((0 : Int32) + (1 : Int32)) + (1 : Int32)) + (1 : Int32)))])) _
    refine XS.icmpYes X3.here hx rfl (pc0 := 9) (pc' := 22) rfl (hb hby dF_9) rfl (flt (by decide)).2.1 (by decide) (by decide) ?_
    show Steps p.tables e below (T3.setTop (mkF m 22 #[.val (.ref a1), .val (.long q2), .second, .val (.int ((((0 : Int32) + (1 : Int32)) + (1 : Int32)) + (1 : Int32))), .val (.int (3 : Int32))] [])) _
    exact X3.returnOut hx Bd.returns (hb hby dF_22) hr
  · show Q_rmF_3 Z a1 q2 ca h0 n0 _ T3.heap _
    rw [e3]
    exact ⟨rfl, N3', K3'⟩

theorem ef_dT3_ (m : MethodId) (a1 : Addr) (l2 : Addr) (r3 : Addr) (q4 : Int64) : entryFrame m #[(.ref a1), (.ref l2), (.ref r3), (.long q4)] 5 = mkF m 0 #[.val (.ref a1), .val (.ref l2), .val (.ref r3), .val (.long q4), .second] [] := by first | (simp [entryFrame, mkF, argsToLocals, Value.category]; done) | rfl
def Q_rmT_3 (Z : State) (a1 : Addr) (l2 : Addr) (r3 : Addr) (q4 : Int64) (cr : Cell) (h0 : Heap) (n0 : Nat) (v : Option Value) (h : Heap) (L : List Loc) : Prop := v = none ∧ Fr n0 L ∧ Keep h0 h [a1] ∧ Exa Z h a1 "com/example/done_by_xor/donebyxor/runtime/Tuple" ∧ Fld Z h a1 "com/example/done_by_xor/donebyxor/runtime/Tuple" "roots" "[J" (.ref r3)
theorem pn_rmT_3 : plainName "com/example/done_by_xor/donebyxor/runtime/Tuple" = true := by first | (simp [plainName, overriddenIn]; done) | decide +kernel
set_option maxRecDepth 65536 in
set_option maxHeartbeats 40000000 in
theorem rmT_3 (l : Launch) (Z : State) (a0 : Array Value) (hw : ∀ d ∈ tables_1, d.before a0 Z = true) (ws : List Jvm.Cond) (a1 : Addr) (l2 : Addr) (r3 : Addr) (q4 : Int64) (cr : Cell) (h0 : Heap) (n0 : Nat) (Z0 : n0 ≤ h0.size) (E : Exa Z h0 a1 "com/example/done_by_xor/donebyxor/runtime/Tuple") (F1 : Fld Z h0 a1 "com/example/done_by_xor/donebyxor/runtime/Tuple" "values" "Ljava/util/List;" .null) (F2 : Fld Z h0 a1 "com/example/done_by_xor/donebyxor/runtime/Tuple" "roots" "[J" .null) (F3 : Fld Z h0 a1 "com/example/done_by_xor/donebyxor/runtime/Tuple" "ackValues" "[J" .null) (Ar : Arr Z h0 r3 cr .long) (Sr : cr.slots.size = (3 : Int32).toNatClampNeg) (hne : r3 ≠ a1) (ga : n0 ≤ a1) :
    MetFree l (⟨"com/example/done_by_xor/donebyxor/runtime/Tuple", "<init>", "(Ljava/util/List;[JJ)V"⟩ : MethodName) (head1 (Jvm.Cond.code (⟨"com/example/done_by_xor/donebyxor/runtime/Tuple", "<init>", "(Ljava/util/List;[JJ)V"⟩ : MethodName) prog_13_method_1_code 5 none :: ws) ({ frames := 1, cells := 1, slots := 3, locals := 16 } : Room)) (fun a U => a = #[(.ref a1), (.ref l2), (.ref r3), (.long q4)] ∧ Z.Warmed39 U.vm ∧ U.heap = h0) (fun _ _ _ _ _ => True) (fun _ U o U' => ∃ v L, o = .returned v ∧ Q_rmT_3 Z a1 l2 r3 q4 cr  h0 n0 v U'.heap L ∧ FrameEnd U o U' L ({ frames := 1, cells := 1, slots := 3, locals := 16 } : Room).cells ({ frames := 1, cells := 1, slots := 3, locals := 16 } : Room).slots) := by
  refine MetFree.of_bodySF (plainFor_of_name pn_rmT_3) hisR ?_
  intro p e s m args below meth c s₁ Bd hml0 hP hK
  obtain ⟨rfl, hZ, hh⟩ := hP
  have hx := Bd.exec
  have hby := Bd.bytes
  have hml : c.maxLocals = 5 := hml0
  have hown : s.vm.findClass "com/example/done_by_xor/donebyxor/runtime/Tuple" = some m.cls := findClass_of_methodNamed Bd.named
  have hnm := (name_of_methodNamed Bd.named Bd.method).1
  have X0 : Stand p l e ({ frames := 1, cells := 1, slots := 3, locals := 16 } : Room) s m #[(.ref a1), (.ref l2), (.ref r3), (.long q4)] below meth c s₁ [] 0 0 := Stand.of_body Bd
  have e0 : s₁.heap = h0 := by rw [← hh, Bd.state]; rfl
  have N0 := Fr.nil n0
  have pre0 : ∀ tZ, Steps p.tables e below (s₁.setTop (mkF m 0 #[.val (.ref a1), .val (.ref l2), .val (.ref r3), .val (.long q4), .second] [])) tZ → Steps p.tables e below (s₁.setTop (entryFrame m #[(.ref a1), (.ref l2), (.ref r3), (.long q4)] 5)) tZ := fun tZ kZ => castTop (ef_dT3_ m a1 l2 r3 q4) kZ
  obtain ⟨T1, X1, e1, st1⟩ := initO X0 hx hZ hown (hw _ (List.mem_of_getElem? (i := 33) rfl)) (hw _ (List.mem_of_getElem? (i := 20) rfl)) (hw _ (List.mem_of_getElem? (i := 21) rfl)) e0 (g := (mkF m 1 #[.val (.ref a1), .val (.ref l2), .val (.ref r3), .val (.long q4), .second] [(.ref a1)])) rfl (by rw [hml]; rfl) rfl (hb hby dT_1) (by decide) (W := 0) (by show 2 * 0 + _ ≤ _; exact Nat.le_of_eq rfl) (by decide)
  obtain ⟨T2, h2, X2, e2, W2, st2⟩ := putF X1 hx hZ hown (host := "") (Or.inl (hw _ (List.mem_of_getElem? (i := 34) rfl))) Via.refl e1 F1 E (Or.inr ⟨(hw _ (List.mem_of_getElem? (i := 35) rfl)), rfl, hnm⟩) (hw _ (List.mem_of_getElem? (i := 28) rfl)) (ty := (.object "java/util/List")) (by decide) rfl rfl (g := (mkF m 6 #[.val (.ref a1), .val (.ref l2), .val (.ref r3), .val (.long q4), .second] [(.ref l2), (.ref a1)])) rfl rfl (hb hby dT_6)
  have Ea := E.wr W2
  have F2a := F2.other W2 (Or.inr (slot_ne (Or.inr (hw _ (List.mem_of_getElem? (i := 37) rfl))) (Or.inr (hw _ (List.mem_of_getElem? (i := 35) rfl))) (by decide) (t := (.array .long)) (t' := (.object "java/util/List")) (by decide) (by decide)))
  have F3a := F3.other W2 (Or.inr (slot_ne (Or.inr (hw _ (List.mem_of_getElem? (i := 39) rfl))) (Or.inr (hw _ (List.mem_of_getElem? (i := 35) rfl))) (by decide) (t := (.array .long)) (t' := (.object "java/util/List")) (by decide) (by decide)))
  have Ara := Ar.other W2 hne
  have Ka : Keep h0 h2 [a1] := (Keep.refl h0 [a1]).wr W2 (Or.inl (List.mem_of_getElem? (i := 0) rfl))
  have Na := Fr.snoc X2 N0 ga
  obtain ⟨T3, h3, X3, e3, W3, st3⟩ := putF X2 hx hZ hown (host := "") (Or.inl (hw _ (List.mem_of_getElem? (i := 36) rfl))) Via.refl e2 F2a Ea (Or.inr ⟨(hw _ (List.mem_of_getElem? (i := 37) rfl)), rfl, hnm⟩) (hw _ (List.mem_of_getElem? (i := 28) rfl)) (ty := (.array .long)) (by decide) rfl rfl (g := (mkF m 11 #[.val (.ref a1), .val (.ref l2), .val (.ref r3), .val (.long q4), .second] [(.ref r3), (.ref a1)])) rfl rfl (hb hby dT_11)
  have Eb := Ea.wr W3
  have F2b := F2a.same W3
  have F3b := F3a.other W3 (Or.inr (slot_ne (Or.inr (hw _ (List.mem_of_getElem? (i := 39) rfl))) (Or.inr (hw _ (List.mem_of_getElem? (i := 37) rfl))) (by decide) (t := (.array .long)) (t' := (.array .long)) (by decide) (by decide)))
  have Arb := Ara.other W3 hne
  have Kb : Keep h0 h3 [a1] := Ka.wr W3 (Or.inl (List.mem_of_getElem? (i := 0) rfl))
  have Nb := Fr.snoc X3 Na ga
  obtain ⟨T4, h4, k4, X4, e4, E4, A4, st4⟩ := newP X3 hx hZ (hw _ (List.mem_of_getElem? (i := 0) rfl)) e3 (g := (mkF m 17 #[.val (.ref a1), .val (.ref l2), .val (.ref r3), .val (.long q4), .second] [(.int (3 : Int32)), (.ref a1)])) rfl (hb hby dT_17) rfl (by decide) (cap := 3) (by decide) (by decide) (by decide) (by decide)
  obtain ⟨b4, g4⟩ : ∃ z, z = h3.size := ⟨_, rfl⟩
  rw [← g4] at A4 st4
  have V4 := Arv.new A4 (by decide)
  have Ec := Eb.ext E4
  have F2c := F2b.ext E4
  have F3c := F3b.ext E4
  have Kc := Kb.ext E4
  obtain ⟨T5, h5, X5, e5, W5, st5⟩ := putF X4 hx hZ hown (host := "") (Or.inl (hw _ (List.mem_of_getElem? (i := 38) rfl))) Via.refl e4 F3c Ec (Or.inr ⟨(hw _ (List.mem_of_getElem? (i := 39) rfl)), rfl, hnm⟩) (hw _ (List.mem_of_getElem? (i := 28) rfl)) (ty := (.array .long)) (by decide) rfl rfl (g := (mkF m 19 #[.val (.ref a1), .val (.ref l2), .val (.ref r3), .val (.long q4), .second] [(.ref b4), (.ref a1)])) rfl rfl (hb hby dT_19)
  have Ed := Ec.wr W5
  have F2d := F2c.other W5 (Or.inr (slot_ne (Or.inr (hw _ (List.mem_of_getElem? (i := 37) rfl))) (Or.inr (hw _ (List.mem_of_getElem? (i := 39) rfl))) (by decide) (t := (.array .long)) (t' := (.array .long)) (by decide) (by decide)))
  have F3d := F3c.same W5
  have Kd : Keep h0 h5 [a1] := Kc.wr W5 (Or.inl (List.mem_of_getElem? (i := 0) rfl))
  have Nd := Fr.snoc X5 Nb ga
  have neb : b4 ≠ a1 := fun q => Nat.lt_irrefl _ (Nat.lt_of_lt_of_le Eb.lt (Nat.le_of_eq (g4.symm.trans q)))
  have A4 := A4.other W5 neb
  obtain ⟨T6, X6, e6, st6⟩ := getF X5 hx hZ hown (host := "") (Or.inl (hw _ (List.mem_of_getElem? (i := 38) rfl))) Via.refl e5 F3d (g := (mkF m 23 #[.val (.ref a1), .val (.ref l2), .val (.ref r3), .val (.long q4), .second] [(.ref a1)])) rfl rfl (hb hby dT_23)
  have Ze : n0 ≤ h5.size := Nat.le_trans Z0 Kd.1
  have gbn : n0 ≤ b4 := Nat.le_trans (Nat.le_trans Z0 Kb.1) (Nat.le_of_eq g4.symm)
  obtain ⟨_, _, ⟨T7, L7, k7, n7⟩, -, X7, ⟨Lc7, hQ7, l7, y7, z7⟩, st7⟩ := Jvm.LawKit.callS X6 hx (y := (⟨"java/util/Arrays", "fill", "([JJ)V"⟩ : MethodName)) hown (mvT hZ (hw _ (List.mem_of_getElem? (i := 40) rfl))) (mvT hZ (hw _ (List.mem_of_getElem? (i := 41) rfl))) (mvT hZ (hw _ (List.mem_of_getElem? (i := 42) rfl))) (mvT hZ (hw _ (List.mem_of_getElem? (i := 43) rfl))) (by decide) (backOf (W := 0) (rmF_3 l Z a0 hw [] b4 q4 _ h5 n0 Ze A4 (sz_new _ _ _) gbn) hZ (hw _ (List.mem_of_getElem? (i := 43) rfl)) (hw _ (List.mem_of_getElem? (i := 42) rfl)) (by decide) (by decide)) (g := (mkF m 27 #[.val (.ref a1), .val (.ref l2), .val (.ref r3), .val (.long q4), .second] [(.long q4), (.ref b4)])) rfl (by rw [hml]; rfl) (argsL := [(.ref b4), (.long q4)]) (rest := []) (lenOf pd_dT___JJ_V rfl) rfl (by show 2 * 0 + _ ≤ _; exact Nat.le_of_eq rfl) (hb hby dT_27) (fun _ _ => ⟨rfl, e6, (by decide : 1 + 0 ≤ _), (by decide : 3 + 0 ≤ _)⟩)
  dsimp only [Pt.U, Pt.locs, Pt.cells, Pt.slots] at X7 l7 y7 z7 st7 hQ7
  subst l7 y7 z7
  obtain ⟨rfl, N7q, K7⟩ := hQ7
  have N7 := Fr.app Nd N7q
  have Kf : Keep h0 T7.heap [a1] := Kd.trans K7 (allS (Or.inr (Nat.le_trans Kb.1 (Nat.le_of_eq g4.symm))) all0)
  have nfa : a1 ∉ [b4] := ninS (Ne.symm neb) nin0
  obtain ⟨fs, hr, hrun, hended, hW, hsame⟩ := X7.leave (v := none) (fun _ => rfl)
  refine ⟨_, _, pre0 _ ?_, hrun, hended, _, _, rfl, ?_, ⟨_, rfl⟩, hW, hsame.mono (by decide) (by decide)⟩
  · show Steps p.tables e below (s₁.setTop (mkF m 0 #[.val (.ref a1), .val (.ref l2), .val (.ref r3), .val (.long q4), .second] [])) _
    refine XS.aloadN X0.here hx rfl (hb hby dT_0) rfl rfl ?_
    show Steps p.tables e below (s₁.setTop (mkF m 1 #[.val (.ref a1), .val (.ref l2), .val (.ref r3), .val (.long q4), .second] [(.ref a1)])) _
    refine st1 _ ?_
    show Steps p.tables e below (T1.setTop (mkF m 4 #[.val (.ref a1), .val (.ref l2), .val (.ref r3), .val (.long q4), .second] [])) _
    refine XS.aloadN X1.here hx rfl (hb hby dT_4) rfl rfl ?_
    show Steps p.tables e below (T1.setTop (mkF m 5 #[.val (.ref a1), .val (.ref l2), .val (.ref r3), .val (.long q4), .second] [(.ref a1)])) _
    refine XS.aloadN X1.here hx rfl (hb hby dT_5) rfl rfl ?_
    show Steps p.tables e below (T1.setTop (mkF m 6 #[.val (.ref a1), .val (.ref l2), .val (.ref r3), .val (.long q4), .second] [(.ref l2), (.ref a1)])) _
    refine st2 _ ?_
    show Steps p.tables e below (T2.setTop (mkF m 9 #[.val (.ref a1), .val (.ref l2), .val (.ref r3), .val (.long q4), .second] [])) _
    refine XS.aloadN X2.here hx rfl (hb hby dT_9) rfl rfl ?_
    show Steps p.tables e below (T2.setTop (mkF m 10 #[.val (.ref a1), .val (.ref l2), .val (.ref r3), .val (.long q4), .second] [(.ref a1)])) _
    refine XS.aloadN X2.here hx rfl (hb hby dT_10) rfl rfl ?_
    show Steps p.tables e below (T2.setTop (mkF m 11 #[.val (.ref a1), .val (.ref l2), .val (.ref r3), .val (.long q4), .second] [(.ref r3), (.ref a1)])) _
    refine st3 _ ?_
    show Steps p.tables e below (T3.setTop (mkF m 14 #[.val (.ref a1), .val (.ref l2), .val (.ref r3), .val (.long q4), .second] [])) _
    refine XS.aloadN X3.here hx rfl (hb hby dT_14) rfl rfl ?_
    show Steps p.tables e below (T3.setTop (mkF m 15 #[.val (.ref a1), .val (.ref l2), .val (.ref r3), .val (.long q4), .second] [(.ref a1)])) _
    refine XS.aloadN X3.here hx rfl (hb hby dT_15) rfl rfl ?_
    show Steps p.tables e below (T3.setTop (mkF m 16 #[.val (.ref a1), .val (.ref l2), .val (.ref r3), .val (.long q4), .second] [(.ref r3), (.ref a1)])) _
    refine X3.arraylength hx (by rw [e3]; exact Arb.1) (State.isArrayOf_alike hZ.alike Arb.2.1) (g := (mkF m 16 #[.val (.ref a1), .val (.ref l2), .val (.ref r3), .val (.long q4), .second] [(.ref r3), (.ref a1)])) rfl rfl (hb hby dT_16) _ ?_
    rw [len_of Sr (by decide : ¬ (3 : Int32) < 0)]
    show Steps p.tables e below (T3.setTop (mkF m 17 #[.val (.ref a1), .val (.ref l2), .val (.ref r3), .val (.long q4), .second] [(.int (3 : Int32)), (.ref a1)])) _
    refine st4 _ ?_
    show Steps p.tables e below (T4.setTop (mkF m 19 #[.val (.ref a1), .val (.ref l2), .val (.ref r3), .val (.long q4), .second] [(.ref b4), (.ref a1)])) _
    refine st5 _ ?_
    show Steps p.tables e below (T5.setTop (mkF m 22 #[.val (.ref a1), .val (.ref l2), .val (.ref r3), .val (.long q4), .second] [])) _
    refine XS.aloadN X5.here hx rfl (hb hby dT_22) rfl rfl ?_
    show Steps p.tables e below (T5.setTop (mkF m 23 #[.val (.ref a1), .val (.ref l2), .val (.ref r3), .val (.long q4), .second] [(.ref a1)])) _
    refine st6 _ ?_
    show Steps p.tables e below (T6.setTop (mkF m 26 #[.val (.ref a1), .val (.ref l2), .val (.ref r3), .val (.long q4), .second] [(.ref b4)])) _
    refine XS.lloadN X6.here hx rfl (hb hby dT_26) rfl ?_
    show Steps p.tables e below (T6.setTop (mkF m 27 #[.val (.ref a1), .val (.ref l2), .val (.ref r3), .val (.long q4), .second] [(.long q4), (.ref b4)])) _
    refine st7 _ ?_
    show Steps p.tables e below (T7.setTop (mkF m 30 #[.val (.ref a1), .val (.ref l2), .val (.ref r3), .val (.long q4), .second] [])) _
    exact X7.returnOut hx Bd.returns (hb hby dT_30) hr
  · show Q_rmT_3 Z a1 l2 r3 q4 cr h0 n0 _ T7.heap _
    exact ⟨rfl, N7, Kf, Ed.keep K7, F2d.keep K7 nfa⟩

theorem ef_dG3_ (m : MethodId) (a1 : Addr) (q2 : Int64) : entryFrame m #[(.ref a1), (.long q2)] 8 = mkF m 0 #[.val (.ref a1), .val (.long q2), .second, .unset, .unset, .unset, .unset, .unset] [] := by first | (simp [entryFrame, mkF, argsToLocals, Value.category]; done) | rfl
def Q_rmG_3 (Z : State) (a1 : Addr) (q2 : Int64) (r3 : Addr) (k3 : ClassId) (d3 : Value) (u0 : Int64) (u1 : Int64) (u2 : Int64) (h0 : Heap) (n0 : Nat) (v : Option Value) (h : Heap) (L : List Loc) : Prop := v = some (.int (if (lcmpW u0 q2) = (0 : Int32) then (1 : Int32) else (if (lcmpW u1 q2) = (0 : Int32) then (1 : Int32) else (if (lcmpW u2 q2) = (0 : Int32) then (1 : Int32) else (0 : Int32))))) ∧ Fr n0 L ∧ h = h0
theorem pn_rmG_3 : plainName "com/example/done_by_xor/donebyxor/runtime/Tuple" = true := by first | (simp [plainName, overriddenIn]; done) | decide +kernel
set_option maxRecDepth 65536 in
set_option maxHeartbeats 40000000 in
theorem rmG_3 (l : Launch) (Z : State) (a0 : Array Value) (hw : ∀ d ∈ tables_1, d.before a0 Z = true) (ws : List Jvm.Cond) (a1 : Addr) (q2 : Int64) (r3 : Addr) (k3 : ClassId) (d3 : Value) (u0 : Int64) (u1 : Int64) (u2 : Int64) (h0 : Heap) (n0 : Nat) (Z0 : n0 ≤ h0.size) (F : Fld Z h0 a1 "com/example/done_by_xor/donebyxor/runtime/Tuple" "roots" "[J" (.ref r3)) (V : Arv Z h0 r3 k3 .long (3 : Int32) [(.long u0), (.long u1), (.long u2)] d3) :
    MetFree l (⟨"com/example/done_by_xor/donebyxor/runtime/Tuple", "belongsTo", "(J)Z"⟩ : MethodName) (head1 (Jvm.Cond.code (⟨"com/example/done_by_xor/donebyxor/runtime/Tuple", "belongsTo", "(J)Z"⟩ : MethodName) prog_13_method_4_code 8 (some .boolean) :: ws) ({ frames := 0, cells := 0, slots := 0, locals := 0 } : Room)) (fun a U => a = #[(.ref a1), (.long q2)] ∧ Z.Warmed39 U.vm ∧ U.heap = h0) (fun _ _ _ _ _ => True) (fun _ U o U' => ∃ v L, o = .returned v ∧ Q_rmG_3 Z a1 q2 r3  k3  d3  u0  u1  u2  h0 n0 v U'.heap L ∧ FrameEnd U o U' L ({ frames := 0, cells := 0, slots := 0, locals := 0 } : Room).cells ({ frames := 0, cells := 0, slots := 0, locals := 0 } : Room).slots) := by
  refine MetFree.of_bodySF (plainFor_of_name pn_rmG_3) hisR ?_
  intro p e s m args below meth c s₁ Bd hml0 hP hK
  obtain ⟨rfl, hZ, hh⟩ := hP
  have hx := Bd.exec
  have hby := Bd.bytes
  have hml : c.maxLocals = 8 := hml0
  have hown : s.vm.findClass "com/example/done_by_xor/donebyxor/runtime/Tuple" = some m.cls := findClass_of_methodNamed Bd.named
  have hnm := (name_of_methodNamed Bd.named Bd.method).1
  have X0 : Stand p l e ({ frames := 0, cells := 0, slots := 0, locals := 0 } : Room) s m #[(.ref a1), (.long q2)] below meth c s₁ [] 0 0 := Stand.of_body Bd
  have e0 : s₁.heap = h0 := by rw [← hh, Bd.state]; rfl
  have N0 := Fr.nil n0
  have pre0 : ∀ tZ, Steps p.tables e below (s₁.setTop (mkF m 0 #[.val (.ref a1), .val (.long q2), .second, .unset, .unset, .unset, .unset, .unset] [])) tZ → Steps p.tables e below (s₁.setTop (entryFrame m #[(.ref a1), (.long q2)] 8)) tZ := fun tZ kZ => castTop (ef_dG3_ m a1 q2) kZ
  obtain ⟨cv, Av, qv, Sv, Nv, Hv, Gv⟩ := V
  rcases Classical.em ((lcmpW u0 q2) = (0 : Int32)) with c0 | c0
  · skip
    obtain ⟨T1, X1, e1, st1⟩ := getF X0 hx hZ hown (host := "") (Or.inl (hw _ (List.mem_of_getElem? (i := 36) rfl))) Via.refl e0 F (g := (mkF m 1 #[.val (.ref a1), .val (.long q2), .second, .unset, .unset, .unset, .unset, .unset] [(.ref a1)])) rfl rfl (hb hby dG_1)
    have hin0 := inb_of (j := (0 : Int32)) Sv ⟨by decide, by decide⟩
    obtain ⟨fs, hr, hrun, hended, hW, hsame⟩ := X1.leave (v := some (.int (1 : Int32))) (fun h => by rw [Bd.returns] at h; cases h)
    refine ⟨_, _, pre0 _ ?_, hrun, hended, _, _, rfl, ?_, ⟨_, rfl⟩, hW, hsame.mono (by decide) (by decide)⟩
    · show Steps p.tables e below (s₁.setTop (mkF m 0 #[.val (.ref a1), .val (.long q2), .second, .unset, .unset, .unset, .unset, .unset] [])) _
      refine XS.aloadN X0.here hx rfl (hb hby dG_0) rfl rfl ?_
      show Steps p.tables e below (s₁.setTop (mkF m 1 #[.val (.ref a1), .val (.long q2), .second, .unset, .unset, .unset, .unset, .unset] [(.ref a1)])) _
      refine st1 _ ?_
      show Steps p.tables e below (T1.setTop (mkF m 4 #[.val (.ref a1), .val (.long q2), .second, .unset, .unset, .unset, .unset, .unset] [(.ref r3)])) _
      refine XS.astoreN X1.here hx rfl (hb hby dG_4) rfl rfl (l' := #[.val (.ref a1), .val (.long q2), .second, .val (.ref r3), .unset, .unset, .unset, .unset]) rfl ?_
      show Steps p.tables e below (T1.setTop (mkF m 5 #[.val (.ref a1), .val (.long q2), .second, .val (.ref r3), .unset, .unset, .unset, .unset] [])) _
      refine XS.aloadN X1.here hx rfl (hb hby dG_5) rfl rfl ?_
      show Steps p.tables e below (T1.setTop (mkF m 6 #[.val (.ref a1), .val (.long q2), .second, .val (.ref r3), .unset, .unset, .unset, .unset] [(.ref r3)])) _
      refine X1.arraylength hx (by rw [e1]; exact Av.1) (State.isArrayOf_alike hZ.alike Av.2.1) (g := (mkF m 6 #[.val (.ref a1), .val (.long q2), .second, .val (.ref r3), .unset, .unset, .unset, .unset] [(.ref r3)])) rfl rfl (hb hby dG_6) _ ?_
      rw [len_of Sv Nv]
      show Steps p.tables e below (T1.setTop (mkF m 7 #[.val (.ref a1), .val (.long q2), .second, .val (.ref r3), .unset, .unset, .unset, .unset] [(.int (3 : Int32))])) _
      refine XS.istore X1.here hx rfl (hb hby dG_7) rfl (l' := #[.val (.ref a1), .val (.long q2), .second, .val (.ref r3), .val (.int (3 : Int32)), .unset, .unset, .unset]) rfl ?_
      show Steps p.tables e below (T1.setTop (mkF m 9 #[.val (.ref a1), .val (.long q2), .second, .val (.ref r3), .val (.int (3 : Int32)), .unset, .unset, .unset] [])) _
      refine XS.iconst X1.here hx rfl (hb hby dG_9) ?_
      show Steps p.tables e below (T1.setTop (mkF m 10 #[.val (.ref a1), .val (.long q2), .second, .val (.ref r3), .val (.int (3 : Int32)), .unset, .unset, .unset] [(.int (0 : Int32))])) _
      refine XS.istore X1.here hx rfl (hb hby dG_10) rfl (l' := #[.val (.ref a1), .val (.long q2), .second, .val (.ref r3), .val (.int (3 : Int32)), .val (.int (0 : Int32)), .unset, .unset]) rfl ?_
      show Steps p.tables e below (T1.setTop (mkF m 12 #[.val (.ref a1), .val (.long q2), .second, .val (.ref r3), .val (.int (3 : Int32)), .val (.int (0 : Int32)), .unset, .unset] [])) _
      refine XS.iload X1.here hx rfl (hb hby dG_12) rfl ?_
      show Steps p.tables e below (T1.setTop (mkF m 14 #[.val (.ref a1), .val (.long q2), .second, .val (.ref r3), .val (.int (3 : Int32)), .val (.int (0 : Int32)), .unset, .unset] [(.int (0 : Int32))])) _
      refine XS.iload X1.here hx rfl (hb hby dG_14) rfl ?_
      show Steps p.tables e below (T1.setTop (mkF m 16 #[.val (.ref a1), .val (.long q2), .second, .val (.ref r3), .val (.int (3 : Int32)), .val (.int (0 : Int32)), .unset, .unset] [(.int (3 : Int32)), (.int (0 : Int32))])) _
      refine XS.icmpNo X1.here hx rfl (hb hby dG_16) rfl (tlt (by decide)).2.1 ?_
      show Steps p.tables e below (T1.setTop (mkF m 19 #[.val (.ref a1), .val (.long q2), .second, .val (.ref r3), .val (.int (3 : Int32)), .val (.int (0 : Int32)), .unset, .unset] [])) _
      refine XS.aloadN X1.here hx rfl (hb hby dG_19) rfl rfl ?_
      show Steps p.tables e below (T1.setTop (mkF m 20 #[.val (.ref a1), .val (.long q2), .second, .val (.ref r3), .val (.int (3 : Int32)), .val (.int (0 : Int32)), .unset, .unset] [(.ref r3)])) _
      refine XS.iload X1.here hx rfl (hb hby dG_20) rfl ?_
      show Steps p.tables e below (T1.setTop (mkF m 22 #[.val (.ref a1), .val (.long q2), .second, .val (.ref r3), .val (.int (3 : Int32)), .val (.int (0 : Int32)), .unset, .unset] [(.int (0 : Int32)), (.ref r3)])) _
      refine X1.laload hx (j := (0 : Int32)) (v := (.long u0)) (by rw [e1]; exact Av.1) (State.isArrayOf_alike hZ.alike Av.2.1) Av.2.2 hin0 (Has.at Hv hin0 rfl) (g := (mkF m 22 #[.val (.ref a1), .val (.long q2), .second, .val (.ref r3), .val (.int (3 : Int32)), .val (.int (0 : Int32)), .unset, .unset] [(.int (0 : Int32)), (.ref r3)])) rfl rfl (hb hby dG_22) _ ?_
      show Steps p.tables e below (T1.setTop (mkF m 23 #[.val (.ref a1), .val (.long q2), .second, .val (.ref r3), .val (.int (3 : Int32)), .val (.int (0 : Int32)), .unset, .unset] [(.long u0)])) _
      refine XS.lstore X1.here hx rfl (hb hby dG_23) rfl (l' := #[.val (.ref a1), .val (.long q2), .second, .val (.ref r3), .val (.int (3 : Int32)), .val (.int (0 : Int32)), .val (.long u0), .second]) rfl ?_
      show Steps p.tables e below (T1.setTop (mkF m 25 #[.val (.ref a1), .val (.long q2), .second, .val (.ref r3), .val (.int (3 : Int32)), .val (.int (0 : Int32)), .val (.long u0), .second] [])) _
      refine XS.lload X1.here hx rfl (hb hby dG_25) rfl ?_
      show Steps p.tables e below (T1.setTop (mkF m 27 #[.val (.ref a1), .val (.long q2), .second, .val (.ref r3), .val (.int (3 : Int32)), .val (.int (0 : Int32)), .val (.long u0), .second] [(.long u0)])) _
      refine XS.lloadN X1.here hx rfl (hb hby dG_27) rfl ?_
      show Steps p.tables e below (T1.setTop (mkF m 28 #[.val (.ref a1), .val (.long q2), .second, .val (.ref r3), .val (.int (3 : Int32)), .val (.int (0 : Int32)), .val (.long u0), .second] [(.long q2), (.long u0)])) _
      refine XS.lcmp X1.here hx rfl (hb hby dG_28) rfl ?_
      show Steps p.tables e below (T1.setTop (mkF m 29 #[.val (.ref a1), .val (.long q2), .second, .val (.ref r3), .val (.int (3 : Int32)), .val (.int (0 : Int32)), .val (.long u0), .second] [(.int (lcmpW u0 q2))])) _
      refine XS.ifNo X1.here hx rfl (hb hby dG_29) rfl ((if0 _ _).trans (teq c0).2) ?_
      show Steps p.tables e below (T1.setTop (mkF m 32 #[.val (.ref a1), .val (.long q2), .second, .val (.ref r3), .val (.int (3 : Int32)), .val (.int (0 : Int32)), .val (.long u0), .second] [])) _
      refine XS.iconst X1.here hx rfl (hb hby dG_32) ?_
      show Steps p.tables e below (T1.setTop (mkF m 33 #[.val (.ref a1), .val (.long q2), .second, .val (.ref r3), .val (.int (3 : Int32)), .val (.int (0 : Int32)), .val (.long u0), .second] [(.int (1 : Int32))])) _
      exact retN X1 hx (t := .boolean) Bd.returns (by simp) (hb hby dG_33) hr
    · show Q_rmG_3 Z a1 q2 r3 k3 d3 u0 u1 u2 h0 n0 _ T1.heap _
      rw [e1]
      exact ⟨by simp only [if_pos c0], N0, rfl⟩
  · skip
    rcases Classical.em ((lcmpW u1 q2) = (0 : Int32)) with c1 | c1
    · skip
      obtain ⟨T1, X1, e1, st1⟩ := getF X0 hx hZ hown (host := "") (Or.inl (hw _ (List.mem_of_getElem? (i := 36) rfl))) Via.refl e0 F (g := (mkF m 1 #[.val (.ref a1), .val (.long q2), .second, .unset, .unset, .unset, .unset, .unset] [(.ref a1)])) rfl rfl (hb hby dG_1)
      have hin0 := inb_of (j := (0 : Int32)) Sv ⟨by decide, by decide⟩
      have hin1 := inb_of (j := ((0 : Int32) + (1 : Int32))) Sv ⟨by decide, by decide⟩
      obtain ⟨fs, hr, hrun, hended, hW, hsame⟩ := X1.leave (v := some (.int (1 : Int32))) (fun h => by rw [Bd.returns] at h; cases h)
      refine ⟨_, _, pre0 _ ?_, hrun, hended, _, _, rfl, ?_, ⟨_, rfl⟩, hW, hsame.mono (by decide) (by decide)⟩
      · show Steps p.tables e below (s₁.setTop (mkF m 0 #[.val (.ref a1), .val (.long q2), .second, .unset, .unset, .unset, .unset, .unset] [])) _
        refine XS.aloadN X0.here hx rfl (hb hby dG_0) rfl rfl ?_
        show Steps p.tables e below (s₁.setTop (mkF m 1 #[.val (.ref a1), .val (.long q2), .second, .unset, .unset, .unset, .unset, .unset] [(.ref a1)])) _
        refine st1 _ ?_
        show Steps p.tables e below (T1.setTop (mkF m 4 #[.val (.ref a1), .val (.long q2), .second, .unset, .unset, .unset, .unset, .unset] [(.ref r3)])) _
        refine XS.astoreN X1.here hx rfl (hb hby dG_4) rfl rfl (l' := #[.val (.ref a1), .val (.long q2), .second, .val (.ref r3), .unset, .unset, .unset, .unset]) rfl ?_
        show Steps p.tables e below (T1.setTop (mkF m 5 #[.val (.ref a1), .val (.long q2), .second, .val (.ref r3), .unset, .unset, .unset, .unset] [])) _
        refine XS.aloadN X1.here hx rfl (hb hby dG_5) rfl rfl ?_
        show Steps p.tables e below (T1.setTop (mkF m 6 #[.val (.ref a1), .val (.long q2), .second, .val (.ref r3), .unset, .unset, .unset, .unset] [(.ref r3)])) _
        refine X1.arraylength hx (by rw [e1]; exact Av.1) (State.isArrayOf_alike hZ.alike Av.2.1) (g := (mkF m 6 #[.val (.ref a1), .val (.long q2), .second, .val (.ref r3), .unset, .unset, .unset, .unset] [(.ref r3)])) rfl rfl (hb hby dG_6) _ ?_
        rw [len_of Sv Nv]
        show Steps p.tables e below (T1.setTop (mkF m 7 #[.val (.ref a1), .val (.long q2), .second, .val (.ref r3), .unset, .unset, .unset, .unset] [(.int (3 : Int32))])) _
        refine XS.istore X1.here hx rfl (hb hby dG_7) rfl (l' := #[.val (.ref a1), .val (.long q2), .second, .val (.ref r3), .val (.int (3 : Int32)), .unset, .unset, .unset]) rfl ?_
        show Steps p.tables e below (T1.setTop (mkF m 9 #[.val (.ref a1), .val (.long q2), .second, .val (.ref r3), .val (.int (3 : Int32)), .unset, .unset, .unset] [])) _
        refine XS.iconst X1.here hx rfl (hb hby dG_9) ?_
        show Steps p.tables e below (T1.setTop (mkF m 10 #[.val (.ref a1), .val (.long q2), .second, .val (.ref r3), .val (.int (3 : Int32)), .unset, .unset, .unset] [(.int (0 : Int32))])) _
        refine XS.istore X1.here hx rfl (hb hby dG_10) rfl (l' := #[.val (.ref a1), .val (.long q2), .second, .val (.ref r3), .val (.int (3 : Int32)), .val (.int (0 : Int32)), .unset, .unset]) rfl ?_
        show Steps p.tables e below (T1.setTop (mkF m 12 #[.val (.ref a1), .val (.long q2), .second, .val (.ref r3), .val (.int (3 : Int32)), .val (.int (0 : Int32)), .unset, .unset] [])) _
        refine XS.iload X1.here hx rfl (hb hby dG_12) rfl ?_
        show Steps p.tables e below (T1.setTop (mkF m 14 #[.val (.ref a1), .val (.long q2), .second, .val (.ref r3), .val (.int (3 : Int32)), .val (.int (0 : Int32)), .unset, .unset] [(.int (0 : Int32))])) _
        refine XS.iload X1.here hx rfl (hb hby dG_14) rfl ?_
        show Steps p.tables e below (T1.setTop (mkF m 16 #[.val (.ref a1), .val (.long q2), .second, .val (.ref r3), .val (.int (3 : Int32)), .val (.int (0 : Int32)), .unset, .unset] [(.int (3 : Int32)), (.int (0 : Int32))])) _
        refine XS.icmpNo X1.here hx rfl (hb hby dG_16) rfl (tlt (by decide)).2.1 ?_
        show Steps p.tables e below (T1.setTop (mkF m 19 #[.val (.ref a1), .val (.long q2), .second, .val (.ref r3), .val (.int (3 : Int32)), .val (.int (0 : Int32)), .unset, .unset] [])) _
        refine XS.aloadN X1.here hx rfl (hb hby dG_19) rfl rfl ?_
        show Steps p.tables e below (T1.setTop (mkF m 20 #[.val (.ref a1), .val (.long q2), .second, .val (.ref r3), .val (.int (3 : Int32)), .val (.int (0 : Int32)), .unset, .unset] [(.ref r3)])) _
        refine XS.iload X1.here hx rfl (hb hby dG_20) rfl ?_
        show Steps p.tables e below (T1.setTop (mkF m 22 #[.val (.ref a1), .val (.long q2), .second, .val (.ref r3), .val (.int (3 : Int32)), .val (.int (0 : Int32)), .unset, .unset] [(.int (0 : Int32)), (.ref r3)])) _
        refine X1.laload hx (j := (0 : Int32)) (v := (.long u0)) (by rw [e1]; exact Av.1) (State.isArrayOf_alike hZ.alike Av.2.1) Av.2.2 hin0 (Has.at Hv hin0 rfl) (g := (mkF m 22 #[.val (.ref a1), .val (.long q2), .second, .val (.ref r3), .val (.int (3 : Int32)), .val (.int (0 : Int32)), .unset, .unset] [(.int (0 : Int32)), (.ref r3)])) rfl rfl (hb hby dG_22) _ ?_
        show Steps p.tables e below (T1.setTop (mkF m 23 #[.val (.ref a1), .val (.long q2), .second, .val (.ref r3), .val (.int (3 : Int32)), .val (.int (0 : Int32)), .unset, .unset] [(.long u0)])) _
        refine XS.lstore X1.here hx rfl (hb hby dG_23) rfl (l' := #[.val (.ref a1), .val (.long q2), .second, .val (.ref r3), .val (.int (3 : Int32)), .val (.int (0 : Int32)), .val (.long u0), .second]) rfl ?_
        show Steps p.tables e below (T1.setTop (mkF m 25 #[.val (.ref a1), .val (.long q2), .second, .val (.ref r3), .val (.int (3 : Int32)), .val (.int (0 : Int32)), .val (.long u0), .second] [])) _
        refine XS.lload X1.here hx rfl (hb hby dG_25) rfl ?_
        show Steps p.tables e below (T1.setTop (mkF m 27 #[.val (.ref a1), .val (.long q2), .second, .val (.ref r3), .val (.int (3 : Int32)), .val (.int (0 : Int32)), .val (.long u0), .second] [(.long u0)])) _
        refine XS.lloadN X1.here hx rfl (hb hby dG_27) rfl ?_
        show Steps p.tables e below (T1.setTop (mkF m 28 #[.val (.ref a1), .val (.long q2), .second, .val (.ref r3), .val (.int (3 : Int32)), .val (.int (0 : Int32)), .val (.long u0), .second] [(.long q2), (.long u0)])) _
        refine XS.lcmp X1.here hx rfl (hb hby dG_28) rfl ?_
        show Steps p.tables e below (T1.setTop (mkF m 29 #[.val (.ref a1), .val (.long q2), .second, .val (.ref r3), .val (.int (3 : Int32)), .val (.int (0 : Int32)), .val (.long u0), .second] [(.int (lcmpW u0 q2))])) _
        refine XS.ifYes X1.here hx rfl (pc0 := 29) (pc' := 34) rfl (hb hby dG_29) rfl ((if0 _ _).trans (feq c0).2) (by decide) (by decide) ?_
        show Steps p.tables e below (T1.setTop (mkF m 34 #[.val (.ref a1), .val (.long q2), .second, .val (.ref r3), .val (.int (3 : Int32)), .val (.int (0 : Int32)), .val (.long u0), .second] [])) _
        refine XS.iinc X1.here hx rfl (hb hby dG_34) rfl (l' := #[.val (.ref a1), .val (.long q2), .second, .val (.ref r3), .val (.int (3 : Int32)), .val (.int ((0 : Int32) + (1 : Int32))), .val (.long u0), .second]) rfl ?_
        show Steps p.tables e below (T1.setTop (mkF m 37 #[.val (.ref a1), .val (.long q2), .second, .val (.ref r3), .val (.int (3 : Int32)), .val (.int ((0 : Int32) + (1 : Int32))), .val (.long u0), .second] [])) _
        refine XS.goto X1.here hx rfl (pc0 := 37) (pc' := 12) rfl (hb hby dG_37) (by decide) (by decide) ?_
        show Steps p.tables e below (T1.setTop (mkF m 12 #[.val (.ref a1), .val (.long q2), .second, .val (.ref r3), .val (.int (3 : Int32)), .val (.int ((0 : Int32) + (1 : Int32))), .val (.long u0), .second] [])) _
        refine XS.iload X1.here hx rfl (hb hby dG_12) rfl ?_
        show Steps p.tables e below (T1.setTop (mkF m 14 #[.val (.ref a1), .val (.long q2), .second, .val (.ref r3), .val (.int (3 : Int32)), .val (.int ((0 : Int32) + (1 : Int32))), .val (.long u0), .second] [(.int ((0 : Int32) + (1 : Int32)))])) _
        refine XS.iload X1.here hx rfl (hb hby dG_14) rfl ?_
        show Steps p.tables e below (T1.setTop (mkF m 16 #[.val (.ref a1), .val (.long q2), .second, .val (.ref r3), .val (.int (3 : Int32)), .val (.int ((0 : Int32) + (1 : Int32))), .val (.long u0), .second] [(.int (3 : Int32)), (.int ((0 : Int32) + (1 : Int32)))])) _
        refine XS.icmpNo X1.here hx rfl (hb hby dG_16) rfl (tlt (by decide)).2.1 ?_
        show Steps p.tables e below (T1.setTop (mkF m 19 #[.val (.ref a1), .val (.long q2), .second, .val (.ref r3), .val (.int (3 : Int32)), .val (.int ((0 : Int32) + (1 : Int32))), .val (.long u0), .second] [])) _
        refine XS.aloadN X1.here hx rfl (hb hby dG_19) rfl rfl ?_
        show Steps p.tables e below (T1.setTop (mkF m 20 #[.val (.ref a1), .val (.long q2), .second, .val (.ref r3), .val (.int (3 : Int32)), .val (.int ((0 : Int32) + (1 : Int32))), .val (.long u0), .second] [(.ref r3)])) _
        refine XS.iload X1.here hx rfl (hb hby dG_20) rfl ?_
        show Steps p.tables e below (T1.setTop (mkF m 22 #[.val (.ref a1), .val (.long q2), .second, .val (.ref r3), .val (.int (3 : Int32)), .val (.int ((0 : Int32) + (1 : Int32))), .val (.long u0), .second] [(.int ((0 : Int32) + (1 : Int32))), (.ref r3)])) _
        refine X1.laload hx (j := ((0 : Int32) + (1 : Int32))) (v := (.long u1)) (by rw [e1]; exact Av.1) (State.isArrayOf_alike hZ.alike Av.2.1) Av.2.2 hin1 (Has.at Hv hin1 rfl) (g := (mkF m 22 #[.val (.ref a1), .val (.long q2), .second, .val (.ref r3), .val (.int (3 : Int32)), .val (.int ((0 : Int32) + (1 : Int32))), .val (.long u0), .second] [(.int ((0 : Int32) + (1 : Int32))), (.ref r3)])) rfl rfl (hb hby dG_22) _ ?_
        show Steps p.tables e below (T1.setTop (mkF m 23 #[.val (.ref a1), .val (.long q2), .second, .val (.ref r3), .val (.int (3 : Int32)), .val (.int ((0 : Int32) + (1 : Int32))), .val (.long u0), .second] [(.long u1)])) _
        refine XS.lstore X1.here hx rfl (hb hby dG_23) rfl (l' := #[.val (.ref a1), .val (.long q2), .second, .val (.ref r3), .val (.int (3 : Int32)), .val (.int ((0 : Int32) + (1 : Int32))), .val (.long u1), .second]) rfl ?_
        show Steps p.tables e below (T1.setTop (mkF m 25 #[.val (.ref a1), .val (.long q2), .second, .val (.ref r3), .val (.int (3 : Int32)), .val (.int ((0 : Int32) + (1 : Int32))), .val (.long u1), .second] [])) _
        refine XS.lload X1.here hx rfl (hb hby dG_25) rfl ?_
        show Steps p.tables e below (T1.setTop (mkF m 27 #[.val (.ref a1), .val (.long q2), .second, .val (.ref r3), .val (.int (3 : Int32)), .val (.int ((0 : Int32) + (1 : Int32))), .val (.long u1), .second] [(.long u1)])) _
        refine XS.lloadN X1.here hx rfl (hb hby dG_27) rfl ?_
        show Steps p.tables e below (T1.setTop (mkF m 28 #[.val (.ref a1), .val (.long q2), .second, .val (.ref r3), .val (.int (3 : Int32)), .val (.int ((0 : Int32) + (1 : Int32))), .val (.long u1), .second] [(.long q2), (.long u1)])) _
        refine XS.lcmp X1.here hx rfl (hb hby dG_28) rfl ?_
        show Steps p.tables e below (T1.setTop (mkF m 29 #[.val (.ref a1), .val (.long q2), .second, .val (.ref r3), .val (.int (3 : Int32)), .val (.int ((0 : Int32) + (1 : Int32))), .val (.long u1), .second] [(.int (lcmpW u1 q2))])) _
        refine XS.ifNo X1.here hx rfl (hb hby dG_29) rfl ((if0 _ _).trans (teq c1).2) ?_
        show Steps p.tables e below (T1.setTop (mkF m 32 #[.val (.ref a1), .val (.long q2), .second, .val (.ref r3), .val (.int (3 : Int32)), .val (.int ((0 : Int32) + (1 : Int32))), .val (.long u1), .second] [])) _
        refine XS.iconst X1.here hx rfl (hb hby dG_32) ?_
        show Steps p.tables e below (T1.setTop (mkF m 33 #[.val (.ref a1), .val (.long q2), .second, .val (.ref r3), .val (.int (3 : Int32)), .val (.int ((0 : Int32) + (1 : Int32))), .val (.long u1), .second] [(.int (1 : Int32))])) _
        exact retN X1 hx (t := .boolean) Bd.returns (by simp) (hb hby dG_33) hr
      · show Q_rmG_3 Z a1 q2 r3 k3 d3 u0 u1 u2 h0 n0 _ T1.heap _
        rw [e1]
        exact ⟨by simp only [if_neg c0, if_pos c1], N0, rfl⟩
    · skip
      rcases Classical.em ((lcmpW u2 q2) = (0 : Int32)) with c2 | c2
      · skip
        obtain ⟨T1, X1, e1, st1⟩ := getF X0 hx hZ hown (host := "") (Or.inl (hw _ (List.mem_of_getElem? (i := 36) rfl))) Via.refl e0 F (g := (mkF m 1 #[.val (.ref a1), .val (.long q2), .second, .unset, .unset, .unset, .unset, .unset] [(.ref a1)])) rfl rfl (hb hby dG_1)
        have hin0 := inb_of (j := (0 : Int32)) Sv ⟨by decide, by decide⟩
        have hin1 := inb_of (j := ((0 : Int32) + (1 : Int32))) Sv ⟨by decide, by decide⟩
        have hin2 := inb_of (j := (((0 : Int32) + (1 : Int32)) + (1 : Int32))) Sv ⟨by decide, by decide⟩
        obtain ⟨fs, hr, hrun, hended, hW, hsame⟩ := X1.leave (v := some (.int (1 : Int32))) (fun h => by rw [Bd.returns] at h; cases h)
        refine ⟨_, _, pre0 _ ?_, hrun, hended, _, _, rfl, ?_, ⟨_, rfl⟩, hW, hsame.mono (by decide) (by decide)⟩
        · show Steps p.tables e below (s₁.setTop (mkF m 0 #[.val (.ref a1), .val (.long q2), .second, .unset, .unset, .unset, .unset, .unset] [])) _
          refine XS.aloadN X0.here hx rfl (hb hby dG_0) rfl rfl ?_
          show Steps p.tables e below (s₁.setTop (mkF m 1 #[.val (.ref a1), .val (.long q2), .second, .unset, .unset, .unset, .unset, .unset] [(.ref a1)])) _
          refine st1 _ ?_
          show Steps p.tables e below (T1.setTop (mkF m 4 #[.val (.ref a1), .val (.long q2), .second, .unset, .unset, .unset, .unset, .unset] [(.ref r3)])) _
          refine XS.astoreN X1.here hx rfl (hb hby dG_4) rfl rfl (l' := #[.val (.ref a1), .val (.long q2), .second, .val (.ref r3), .unset, .unset, .unset, .unset]) rfl ?_
          show Steps p.tables e below (T1.setTop (mkF m 5 #[.val (.ref a1), .val (.long q2), .second, .val (.ref r3), .unset, .unset, .unset, .unset] [])) _
          refine XS.aloadN X1.here hx rfl (hb hby dG_5) rfl rfl ?_
          show Steps p.tables e below (T1.setTop (mkF m 6 #[.val (.ref a1), .val (.long q2), .second, .val (.ref r3), .unset, .unset, .unset, .unset] [(.ref r3)])) _
          refine X1.arraylength hx (by rw [e1]; exact Av.1) (State.isArrayOf_alike hZ.alike Av.2.1) (g := (mkF m 6 #[.val (.ref a1), .val (.long q2), .second, .val (.ref r3), .unset, .unset, .unset, .unset] [(.ref r3)])) rfl rfl (hb hby dG_6) _ ?_
          rw [len_of Sv Nv]
          show Steps p.tables e below (T1.setTop (mkF m 7 #[.val (.ref a1), .val (.long q2), .second, .val (.ref r3), .unset, .unset, .unset, .unset] [(.int (3 : Int32))])) _
          refine XS.istore X1.here hx rfl (hb hby dG_7) rfl (l' := #[.val (.ref a1), .val (.long q2), .second, .val (.ref r3), .val (.int (3 : Int32)), .unset, .unset, .unset]) rfl ?_
          show Steps p.tables e below (T1.setTop (mkF m 9 #[.val (.ref a1), .val (.long q2), .second, .val (.ref r3), .val (.int (3 : Int32)), .unset, .unset, .unset] [])) _
          refine XS.iconst X1.here hx rfl (hb hby dG_9) ?_
          show Steps p.tables e below (T1.setTop (mkF m 10 #[.val (.ref a1), .val (.long q2), .second, .val (.ref r3), .val (.int (3 : Int32)), .unset, .unset, .unset] [(.int (0 : Int32))])) _
          refine XS.istore X1.here hx rfl (hb hby dG_10) rfl (l' := #[.val (.ref a1), .val (.long q2), .second, .val (.ref r3), .val (.int (3 : Int32)), .val (.int (0 : Int32)), .unset, .unset]) rfl ?_
          show Steps p.tables e below (T1.setTop (mkF m 12 #[.val (.ref a1), .val (.long q2), .second, .val (.ref r3), .val (.int (3 : Int32)), .val (.int (0 : Int32)), .unset, .unset] [])) _
          refine XS.iload X1.here hx rfl (hb hby dG_12) rfl ?_
          show Steps p.tables e below (T1.setTop (mkF m 14 #[.val (.ref a1), .val (.long q2), .second, .val (.ref r3), .val (.int (3 : Int32)), .val (.int (0 : Int32)), .unset, .unset] [(.int (0 : Int32))])) _
          refine XS.iload X1.here hx rfl (hb hby dG_14) rfl ?_
          show Steps p.tables e below (T1.setTop (mkF m 16 #[.val (.ref a1), .val (.long q2), .second, .val (.ref r3), .val (.int (3 : Int32)), .val (.int (0 : Int32)), .unset, .unset] [(.int (3 : Int32)), (.int (0 : Int32))])) _
          refine XS.icmpNo X1.here hx rfl (hb hby dG_16) rfl (tlt (by decide)).2.1 ?_
          show Steps p.tables e below (T1.setTop (mkF m 19 #[.val (.ref a1), .val (.long q2), .second, .val (.ref r3), .val (.int (3 : Int32)), .val (.int (0 : Int32)), .unset, .unset] [])) _
          refine XS.aloadN X1.here hx rfl (hb hby dG_19) rfl rfl ?_
          show Steps p.tables e below (T1.setTop (mkF m 20 #[.val (.ref a1), .val (.long q2), .second, .val (.ref r3), .val (.int (3 : Int32)), .val (.int (0 : Int32)), .unset, .unset] [(.ref r3)])) _
          refine XS.iload X1.here hx rfl (hb hby dG_20) rfl ?_
          show Steps p.tables e below (T1.setTop (mkF m 22 #[.val (.ref a1), .val (.long q2), .second, .val (.ref r3), .val (.int (3 : Int32)), .val (.int (0 : Int32)), .unset, .unset] [(.int (0 : Int32)), (.ref r3)])) _
          refine X1.laload hx (j := (0 : Int32)) (v := (.long u0)) (by rw [e1]; exact Av.1) (State.isArrayOf_alike hZ.alike Av.2.1) Av.2.2 hin0 (Has.at Hv hin0 rfl) (g := (mkF m 22 #[.val (.ref a1), .val (.long q2), .second, .val (.ref r3), .val (.int (3 : Int32)), .val (.int (0 : Int32)), .unset, .unset] [(.int (0 : Int32)), (.ref r3)])) rfl rfl (hb hby dG_22) _ ?_
          show Steps p.tables e below (T1.setTop (mkF m 23 #[.val (.ref a1), .val (.long q2), .second, .val (.ref r3), .val (.int (3 : Int32)), .val (.int (0 : Int32)), .unset, .unset] [(.long u0)])) _
          refine XS.lstore X1.here hx rfl (hb hby dG_23) rfl (l' := #[.val (.ref a1), .val (.long q2), .second, .val (.ref r3), .val (.int (3 : Int32)), .val (.int (0 : Int32)), .val (.long u0), .second]) rfl ?_
          show Steps p.tables e below (T1.setTop (mkF m 25 #[.val (.ref a1), .val (.long q2), .second, .val (.ref r3), .val (.int (3 : Int32)), .val (.int (0 : Int32)), .val (.long u0), .second] [])) _
          refine XS.lload X1.here hx rfl (hb hby dG_25) rfl ?_
          show Steps p.tables e below (T1.setTop (mkF m 27 #[.val (.ref a1), .val (.long q2), .second, .val (.ref r3), .val (.int (3 : Int32)), .val (.int (0 : Int32)), .val (.long u0), .second] [(.long u0)])) _
          refine XS.lloadN X1.here hx rfl (hb hby dG_27) rfl ?_
          show Steps p.tables e below (T1.setTop (mkF m 28 #[.val (.ref a1), .val (.long q2), .second, .val (.ref r3), .val (.int (3 : Int32)), .val (.int (0 : Int32)), .val (.long u0), .second] [(.long q2), (.long u0)])) _
          refine XS.lcmp X1.here hx rfl (hb hby dG_28) rfl ?_
          show Steps p.tables e below (T1.setTop (mkF m 29 #[.val (.ref a1), .val (.long q2), .second, .val (.ref r3), .val (.int (3 : Int32)), .val (.int (0 : Int32)), .val (.long u0), .second] [(.int (lcmpW u0 q2))])) _
          refine XS.ifYes X1.here hx rfl (pc0 := 29) (pc' := 34) rfl (hb hby dG_29) rfl ((if0 _ _).trans (feq c0).2) (by decide) (by decide) ?_
          show Steps p.tables e below (T1.setTop (mkF m 34 #[.val (.ref a1), .val (.long q2), .second, .val (.ref r3), .val (.int (3 : Int32)), .val (.int (0 : Int32)), .val (.long u0), .second] [])) _
          refine XS.iinc X1.here hx rfl (hb hby dG_34) rfl (l' := #[.val (.ref a1), .val (.long q2), .second, .val (.ref r3), .val (.int (3 : Int32)), .val (.int ((0 : Int32) + (1 : Int32))), .val (.long u0), .second]) rfl ?_
          show Steps p.tables e below (T1.setTop (mkF m 37 #[.val (.ref a1), .val (.long q2), .second, .val (.ref r3), .val (.int (3 : Int32)), .val (.int ((0 : Int32) + (1 : Int32))), .val (.long u0), .second] [])) _
          refine XS.goto X1.here hx rfl (pc0 := 37) (pc' := 12) rfl (hb hby dG_37) (by decide) (by decide) ?_
          show Steps p.tables e below (T1.setTop (mkF m 12 #[.val (.ref a1), .val (.long q2), .second, .val (.ref r3), .val (.int (3 : Int32)), .val (.int ((0 : Int32) + (1 : Int32))), .val (.long u0), .second] [])) _
          refine XS.iload X1.here hx rfl (hb hby dG_12) rfl ?_
          show Steps p.tables e below (T1.setTop (mkF m 14 #[.val (.ref a1), .val (.long q2), .second, .val (.ref r3), .val (.int (3 : Int32)), .val (.int ((0 : Int32) + (1 : Int32))), .val (.long u0), .second] [(.int ((0 : Int32) + (1 : Int32)))])) _
          refine XS.iload X1.here hx rfl (hb hby dG_14) rfl ?_
          show Steps p.tables e below (T1.setTop (mkF m 16 #[.val (.ref a1), .val (.long q2), .second, .val (.ref r3), .val (.int (3 : Int32)), .val (.int ((0 : Int32) + (1 : Int32))), .val (.long u0), .second] [(.int (3 : Int32)), (.int ((0 : Int32) + (1 : Int32)))])) _
          refine XS.icmpNo X1.here hx rfl (hb hby dG_16) rfl (tlt (by decide)).2.1 ?_
          show Steps p.tables e below (T1.setTop (mkF m 19 #[.val (.ref a1), .val (.long q2), .second, .val (.ref r3), .val (.int (3 : Int32)), .val (.int ((0 : Int32) + (1 : Int32))), .val (.long u0), .second] [])) _
          refine XS.aloadN X1.here hx rfl (hb hby dG_19) rfl rfl ?_
          show Steps p.tables e below (T1.setTop (mkF m 20 #[.val (.ref a1), .val (.long q2), .second, .val (.ref r3), .val (.int (3 : Int32)), .val (.int ((0 : Int32) + (1 : Int32))), .val (.long u0), .second] [(.ref r3)])) _
          refine XS.iload X1.here hx rfl (hb hby dG_20) rfl ?_
          show Steps p.tables e below (T1.setTop (mkF m 22 #[.val (.ref a1), .val (.long q2), .second, .val (.ref r3), .val (.int (3 : Int32)), .val (.int ((0 : Int32) + (1 : Int32))), .val (.long u0), .second] [(.int ((0 : Int32) + (1 : Int32))), (.ref r3)])) _
          refine X1.laload hx (j := ((0 : Int32) + (1 : Int32))) (v := (.long u1)) (by rw [e1]; exact Av.1) (State.isArrayOf_alike hZ.alike Av.2.1) Av.2.2 hin1 (Has.at Hv hin1 rfl) (g := (mkF m 22 #[.val (.ref a1), .val (.long q2), .second, .val (.ref r3), .val (.int (3 : Int32)), .val (.int ((0 : Int32) + (1 : Int32))), .val (.long u0), .second] [(.int ((0 : Int32) + (1 : Int32))), (.ref r3)])) rfl rfl (hb hby dG_22) _ ?_
          show Steps p.tables e below (T1.setTop (mkF m 23 #[.val (.ref a1), .val (.long q2), .second, .val (.ref r3), .val (.int (3 : Int32)), .val (.int ((0 : Int32) + (1 : Int32))), .val (.long u0), .second] [(.long u1)])) _
          refine XS.lstore X1.here hx rfl (hb hby dG_23) rfl (l' := #[.val (.ref a1), .val (.long q2), .second, .val (.ref r3), .val (.int (3 : Int32)), .val (.int ((0 : Int32) + (1 : Int32))), .val (.long u1), .second]) rfl ?_
          show Steps p.tables e below (T1.setTop (mkF m 25 #[.val (.ref a1), .val (.long q2), .second, .val (.ref r3), .val (.int (3 : Int32)), .val (.int ((0 : Int32) + (1 : Int32))), .val (.long u1), .second] [])) _
          refine XS.lload X1.here hx rfl (hb hby dG_25) rfl ?_
          show Steps p.tables e below (T1.setTop (mkF m 27 #[.val (.ref a1), .val (.long q2), .second, .val (.ref r3), .val (.int (3 : Int32)), .val (.int ((0 : Int32) + (1 : Int32))), .val (.long u1), .second] [(.long u1)])) _
          refine XS.lloadN X1.here hx rfl (hb hby dG_27) rfl ?_
          show Steps p.tables e below (T1.setTop (mkF m 28 #[.val (.ref a1), .val (.long q2), .second, .val (.ref r3), .val (.int (3 : Int32)), .val (.int ((0 : Int32) + (1 : Int32))), .val (.long u1), .second] [(.long q2), (.long u1)])) _
          refine XS.lcmp X1.here hx rfl (hb hby dG_28) rfl ?_
          show Steps p.tables e below (T1.setTop (mkF m 29 #[.val (.ref a1), .val (.long q2), .second, .val (.ref r3), .val (.int (3 : Int32)), .val (.int ((0 : Int32) + (1 : Int32))), .val (.long u1), .second] [(.int (lcmpW u1 q2))])) _
          refine XS.ifYes X1.here hx rfl (pc0 := 29) (pc' := 34) rfl (hb hby dG_29) rfl ((if0 _ _).trans (feq c1).2) (by decide) (by decide) ?_
          show Steps p.tables e below (T1.setTop (mkF m 34 #[.val (.ref a1), .val (.long q2), .second, .val (.ref r3), .val (.int (3 : Int32)), .val (.int ((0 : Int32) + (1 : Int32))), .val (.long u1), .second] [])) _
          refine XS.iinc X1.here hx rfl (hb hby dG_34) rfl (l' := #[.val (.ref a1), .val (.long q2), .second, .val (.ref r3), .val (.int (3 : Int32)), .val (.int (((0 : Int32) + (1 : Int32)) + (1 : Int32))), .val (.long u1), .second]) rfl ?_
          show Steps p.tables e below (T1.setTop (mkF m 37 #[.val (.ref a1), .val (.long q2), .second, .val (.ref r3), .val (.int (3 : Int32)), .val (.int (((0 : Int32) + (1 : Int32)) + (1 : Int32))), .val (.long u1), .second] [])) _
          refine XS.goto X1.here hx rfl (pc0 := 37) (pc' := 12) rfl (hb hby dG_37) (by decide) (by decide) ?_
          show Steps p.tables e below (T1.setTop (mkF m 12 #[.val (.ref a1), .val (.long q2), .second, .val (.ref r3), .val (.int (3 : Int32)), .val (.int (((0 : Int32) + (1 : Int32)) + (1 : Int32))), .val (.long u1), .second] [])) _
          refine XS.iload X1.here hx rfl (hb hby dG_12) rfl ?_
          show Steps p.tables e below (T1.setTop (mkF m 14 #[.val (.ref a1), .val (.long q2), .second, .val (.ref r3), .val (.int (3 : Int32)), .val (.int (((0 : Int32) + (1 : Int32)) + (1 : Int32))), .val (.long u1), .second] [(.int (((0 : Int32) + (1 : Int32)) + (1 : Int32)))])) _
          refine XS.iload X1.here hx rfl (hb hby dG_14) rfl ?_
          show Steps p.tables e below (T1.setTop (mkF m 16 #[.val (.ref a1), .val (.long q2), .second, .val (.ref r3), .val (.int (3 : Int32)), .val (.int (((0 : Int32) + (1 : Int32)) + (1 : Int32))), .val (.long u1), .second] [(.int (3 : Int32)), (.int (((0 : Int32) + (1 : Int32)) + (1 : Int32)))])) _
          refine XS.icmpNo X1.here hx rfl (hb hby dG_16) rfl (tlt (by decide)).2.1 ?_
          show Steps p.tables e below (T1.setTop (mkF m 19 #[.val (.ref a1), .val (.long q2), .second, .val (.ref r3), .val (.int (3 : Int32)), .val (.int (((0 : Int32) + (1 : Int32)) + (1 : Int32))), .val (.long u1), .second] [])) _
          refine XS.aloadN X1.here hx rfl (hb hby dG_19) rfl rfl ?_
          show Steps p.tables e below (T1.setTop (mkF m 20 #[.val (.ref a1), .val (.long q2), .second, .val (.ref r3), .val (.int (3 : Int32)), .val (.int (((0 : Int32) + (1 : Int32)) + (1 : Int32))), .val (.long u1), .second] [(.ref r3)])) _
          refine XS.iload X1.here hx rfl (hb hby dG_20) rfl ?_
          show Steps p.tables e below (T1.setTop (mkF m 22 #[.val (.ref a1), .val (.long q2), .second, .val (.ref r3), .val (.int (3 : Int32)), .val (.int (((0 : Int32) + (1 : Int32)) + (1 : Int32))), .val (.long u1), .second] [(.int (((0 : Int32) + (1 : Int32)) + (1 : Int32))), (.ref r3)])) _
          refine X1.laload hx (j := (((0 : Int32) + (1 : Int32)) + (1 : Int32))) (v := (.long u2)) (by rw [e1]; exact Av.1) (State.isArrayOf_alike hZ.alike Av.2.1) Av.2.2 hin2 (Has.at Hv hin2 rfl) (g := (mkF m 22 #[.val (.ref a1), .val (.long q2), .second, .val (.ref r3), .val (.int (3 : Int32)), .val (.int (((0 : Int32) + (1 : Int32)) + (1 : Int32))), .val (.long u1), .second] [(.int (((0 : Int32) + (1 : Int32)) + (1 : Int32))), (.ref r3)])) rfl rfl (hb hby dG_22) _ ?_
          show Steps p.tables e below (T1.setTop (mkF m 23 #[.val (.ref a1), .val (.long q2), .second, .val (.ref r3), .val (.int (3 : Int32)), .val (.int (((0 : Int32) + (1 : Int32)) + (1 : Int32))), .val (.long u1), .second] [(.long u2)])) _
          refine XS.lstore X1.here hx rfl (hb hby dG_23) rfl (l' := #[.val (.ref a1), .val (.long q2), .second, .val (.ref r3), .val (.int (3 : Int32)), .val (.int (((0 : Int32) + (1 : Int32)) + (1 : Int32))), .val (.long u2), .second]) rfl ?_
          show Steps p.tables e below (T1.setTop (mkF m 25 #[.val (.ref a1), .val (.long q2), .second, .val (.ref r3), .val (.int (3 : Int32)), .val (.int (((0 : Int32) + (1 : Int32)) + (1 : Int32))), .val (.long u2), .second] [])) _
          refine XS.lload X1.here hx rfl (hb hby dG_25) rfl ?_
          show Steps p.tables e below (T1.setTop (mkF m 27 #[.val (.ref a1), .val (.long q2), .second, .val (.ref r3), .val (.int (3 : Int32)), .val (.int (((0 : Int32) + (1 : Int32)) + (1 : Int32))), .val (.long u2), .second] [(.long u2)])) _
          refine XS.lloadN X1.here hx rfl (hb hby dG_27) rfl ?_
          show Steps p.tables e below (T1.setTop (mkF m 28 #[.val (.ref a1), .val (.long q2), .second, .val (.ref r3), .val (.int (3 : Int32)), .val (.int (((0 : Int32) + (1 : Int32)) + (1 : Int32))), .val (.long u2), .second] [(.long q2), (.long u2)])) _
          refine XS.lcmp X1.here hx rfl (hb hby dG_28) rfl ?_
          show Steps p.tables e below (T1.setTop (mkF m 29 #[.val (.ref a1), .val (.long q2), .second, .val (.ref r3), .val (.int (3 : Int32)), .val (.int (((0 : Int32) + (1 : Int32)) + (1 : Int32))), .val (.long u2), .second] [(.int (lcmpW u2 q2))])) _
          refine XS.ifNo X1.here hx rfl (hb hby dG_29) rfl ((if0 _ _).trans (teq c2).2) ?_
          show Steps p.tables e below (T1.setTop (mkF m 32 #[.val (.ref a1), .val (.long q2), .second, .val (.ref r3), .val (.int (3 : Int32)), .val (.int (((0 : Int32) + (1 : Int32)) + (1 : Int32))), .val (.long u2), .second] [])) _
          refine XS.iconst X1.here hx rfl (hb hby dG_32) ?_
          show Steps p.tables e below (T1.setTop (mkF m 33 #[.val (.ref a1), .val (.long q2), .second, .val (.ref r3), .val (.int (3 : Int32)), .val (.int (((0 : Int32) + (1 : Int32)) + (1 : Int32))), .val (.long u2), .second] [(.int (1 : Int32))])) _
          exact retN X1 hx (t := .boolean) Bd.returns (by simp) (hb hby dG_33) hr
        · show Q_rmG_3 Z a1 q2 r3 k3 d3 u0 u1 u2 h0 n0 _ T1.heap _
          rw [e1]
          exact ⟨by simp only [if_neg c0, if_neg c1, if_pos c2], N0, rfl⟩
      · skip
        obtain ⟨T1, X1, e1, st1⟩ := getF X0 hx hZ hown (host := "") (Or.inl (hw _ (List.mem_of_getElem? (i := 36) rfl))) Via.refl e0 F (g := (mkF m 1 #[.val (.ref a1), .val (.long q2), .second, .unset, .unset, .unset, .unset, .unset] [(.ref a1)])) rfl rfl (hb hby dG_1)
        have hin0 := inb_of (j := (0 : Int32)) Sv ⟨by decide, by decide⟩
        have hin1 := inb_of (j := ((0 : Int32) + (1 : Int32))) Sv ⟨by decide, by decide⟩
        have hin2 := inb_of (j := (((0 : Int32) + (1 : Int32)) + (1 : Int32))) Sv ⟨by decide, by decide⟩
        obtain ⟨fs, hr, hrun, hended, hW, hsame⟩ := X1.leave (v := some (.int (0 : Int32))) (fun h => by rw [Bd.returns] at h; cases h)
        refine ⟨_, _, pre0 _ ?_, hrun, hended, _, _, rfl, ?_, ⟨_, rfl⟩, hW, hsame.mono (by decide) (by decide)⟩
        · show Steps p.tables e below (s₁.setTop (mkF m 0 #[.val (.ref a1), .val (.long q2), .second, .unset, .unset, .unset, .unset, .unset] [])) _
          refine XS.aloadN X0.here hx rfl (hb hby dG_0) rfl rfl ?_
          show Steps p.tables e below (s₁.setTop (mkF m 1 #[.val (.ref a1), .val (.long q2), .second, .unset, .unset, .unset, .unset, .unset] [(.ref a1)])) _
          refine st1 _ ?_
          show Steps p.tables e below (T1.setTop (mkF m 4 #[.val (.ref a1), .val (.long q2), .second, .unset, .unset, .unset, .unset, .unset] [(.ref r3)])) _
          refine XS.astoreN X1.here hx rfl (hb hby dG_4) rfl rfl (l' := #[.val (.ref a1), .val (.long q2), .second, .val (.ref r3), .unset, .unset, .unset, .unset]) rfl ?_
          show Steps p.tables e below (T1.setTop (mkF m 5 #[.val (.ref a1), .val (.long q2), .second, .val (.ref r3), .unset, .unset, .unset, .unset] [])) _
          refine XS.aloadN X1.here hx rfl (hb hby dG_5) rfl rfl ?_
          show Steps p.tables e below (T1.setTop (mkF m 6 #[.val (.ref a1), .val (.long q2), .second, .val (.ref r3), .unset, .unset, .unset, .unset] [(.ref r3)])) _
          refine X1.arraylength hx (by rw [e1]; exact Av.1) (State.isArrayOf_alike hZ.alike Av.2.1) (g := (mkF m 6 #[.val (.ref a1), .val (.long q2), .second, .val (.ref r3), .unset, .unset, .unset, .unset] [(.ref r3)])) rfl rfl (hb hby dG_6) _ ?_
          rw [len_of Sv Nv]
          show Steps p.tables e below (T1.setTop (mkF m 7 #[.val (.ref a1), .val (.long q2), .second, .val (.ref r3), .unset, .unset, .unset, .unset] [(.int (3 : Int32))])) _
          refine XS.istore X1.here hx rfl (hb hby dG_7) rfl (l' := #[.val (.ref a1), .val (.long q2), .second, .val (.ref r3), .val (.int (3 : Int32)), .unset, .unset, .unset]) rfl ?_
          show Steps p.tables e below (T1.setTop (mkF m 9 #[.val (.ref a1), .val (.long q2), .second, .val (.ref r3), .val (.int (3 : Int32)), .unset, .unset, .unset] [])) _
          refine XS.iconst X1.here hx rfl (hb hby dG_9) ?_
          show Steps p.tables e below (T1.setTop (mkF m 10 #[.val (.ref a1), .val (.long q2), .second, .val (.ref r3), .val (.int (3 : Int32)), .unset, .unset, .unset] [(.int (0 : Int32))])) _
          refine XS.istore X1.here hx rfl (hb hby dG_10) rfl (l' := #[.val (.ref a1), .val (.long q2), .second, .val (.ref r3), .val (.int (3 : Int32)), .val (.int (0 : Int32)), .unset, .unset]) rfl ?_
          show Steps p.tables e below (T1.setTop (mkF m 12 #[.val (.ref a1), .val (.long q2), .second, .val (.ref r3), .val (.int (3 : Int32)), .val (.int (0 : Int32)), .unset, .unset] [])) _
          refine XS.iload X1.here hx rfl (hb hby dG_12) rfl ?_
          show Steps p.tables e below (T1.setTop (mkF m 14 #[.val (.ref a1), .val (.long q2), .second, .val (.ref r3), .val (.int (3 : Int32)), .val (.int (0 : Int32)), .unset, .unset] [(.int (0 : Int32))])) _
          refine XS.iload X1.here hx rfl (hb hby dG_14) rfl ?_
          show Steps p.tables e below (T1.setTop (mkF m 16 #[.val (.ref a1), .val (.long q2), .second, .val (.ref r3), .val (.int (3 : Int32)), .val (.int (0 : Int32)), .unset, .unset] [(.int (3 : Int32)), (.int (0 : Int32))])) _
          refine XS.icmpNo X1.here hx rfl (hb hby dG_16) rfl (tlt (by decide)).2.1 ?_
          show Steps p.tables e below (T1.setTop (mkF m 19 #[.val (.ref a1), .val (.long q2), .second, .val (.ref r3), .val (.int (3 : Int32)), .val (.int (0 : Int32)), .unset, .unset] [])) _
          refine XS.aloadN X1.here hx rfl (hb hby dG_19) rfl rfl ?_
          show Steps p.tables e below (T1.setTop (mkF m 20 #[.val (.ref a1), .val (.long q2), .second, .val (.ref r3), .val (.int (3 : Int32)), .val (.int (0 : Int32)), .unset, .unset] [(.ref r3)])) _
          refine XS.iload X1.here hx rfl (hb hby dG_20) rfl ?_
          show Steps p.tables e below (T1.setTop (mkF m 22 #[.val (.ref a1), .val (.long q2), .second, .val (.ref r3), .val (.int (3 : Int32)), .val (.int (0 : Int32)), .unset, .unset] [(.int (0 : Int32)), (.ref r3)])) _
          refine X1.laload hx (j := (0 : Int32)) (v := (.long u0)) (by rw [e1]; exact Av.1) (State.isArrayOf_alike hZ.alike Av.2.1) Av.2.2 hin0 (Has.at Hv hin0 rfl) (g := (mkF m 22 #[.val (.ref a1), .val (.long q2), .second, .val (.ref r3), .val (.int (3 : Int32)), .val (.int (0 : Int32)), .unset, .unset] [(.int (0 : Int32)), (.ref r3)])) rfl rfl (hb hby dG_22) _ ?_
          show Steps p.tables e below (T1.setTop (mkF m 23 #[.val (.ref a1), .val (.long q2), .second, .val (.ref r3), .val (.int (3 : Int32)), .val (.int (0 : Int32)), .unset, .unset] [(.long u0)])) _
          refine XS.lstore X1.here hx rfl (hb hby dG_23) rfl (l' := #[.val (.ref a1), .val (.long q2), .second, .val (.ref r3), .val (.int (3 : Int32)), .val (.int (0 : Int32)), .val (.long u0), .second]) rfl ?_
          show Steps p.tables e below (T1.setTop (mkF m 25 #[.val (.ref a1), .val (.long q2), .second, .val (.ref r3), .val (.int (3 : Int32)), .val (.int (0 : Int32)), .val (.long u0), .second] [])) _
          refine XS.lload X1.here hx rfl (hb hby dG_25) rfl ?_
          show Steps p.tables e below (T1.setTop (mkF m 27 #[.val (.ref a1), .val (.long q2), .second, .val (.ref r3), .val (.int (3 : Int32)), .val (.int (0 : Int32)), .val (.long u0), .second] [(.long u0)])) _
          refine XS.lloadN X1.here hx rfl (hb hby dG_27) rfl ?_
          show Steps p.tables e below (T1.setTop (mkF m 28 #[.val (.ref a1), .val (.long q2), .second, .val (.ref r3), .val (.int (3 : Int32)), .val (.int (0 : Int32)), .val (.long u0), .second] [(.long q2), (.long u0)])) _
          refine XS.lcmp X1.here hx rfl (hb hby dG_28) rfl ?_
          show Steps p.tables e below (T1.setTop (mkF m 29 #[.val (.ref a1), .val (.long q2), .second, .val (.ref r3), .val (.int (3 : Int32)), .val (.int (0 : Int32)), .val (.long u0), .second] [(.int (lcmpW u0 q2))])) _
          refine XS.ifYes X1.here hx rfl (pc0 := 29) (pc' := 34) rfl (hb hby dG_29) rfl ((if0 _ _).trans (feq c0).2) (by decide) (by decide) ?_
          show Steps p.tables e below (T1.setTop (mkF m 34 #[.val (.ref a1), .val (.long q2), .second, .val (.ref r3), .val (.int (3 : Int32)), .val (.int (0 : Int32)), .val (.long u0), .second] [])) _
          refine XS.iinc X1.here hx rfl (hb hby dG_34) rfl (l' := #[.val (.ref a1), .val (.long q2), .second, .val (.ref r3), .val (.int (3 : Int32)), .val (.int ((0 : Int32) + (1 : Int32))), .val (.long u0), .second]) rfl ?_
          show Steps p.tables e below (T1.setTop (mkF m 37 #[.val (.ref a1), .val (.long q2), .second, .val (.ref r3), .val (.int (3 : Int32)), .val (.int ((0 : Int32) + (1 : Int32))), .val (.long u0), .second] [])) _
          refine XS.goto X1.here hx rfl (pc0 := 37) (pc' := 12) rfl (hb hby dG_37) (by decide) (by decide) ?_
          show Steps p.tables e below (T1.setTop (mkF m 12 #[.val (.ref a1), .val (.long q2), .second, .val (.ref r3), .val (.int (3 : Int32)), .val (.int ((0 : Int32) + (1 : Int32))), .val (.long u0), .second] [])) _
          refine XS.iload X1.here hx rfl (hb hby dG_12) rfl ?_
          show Steps p.tables e below (T1.setTop (mkF m 14 #[.val (.ref a1), .val (.long q2), .second, .val (.ref r3), .val (.int (3 : Int32)), .val (.int ((0 : Int32) + (1 : Int32))), .val (.long u0), .second] [(.int ((0 : Int32) + (1 : Int32)))])) _
          refine XS.iload X1.here hx rfl (hb hby dG_14) rfl ?_
          show Steps p.tables e below (T1.setTop (mkF m 16 #[.val (.ref a1), .val (.long q2), .second, .val (.ref r3), .val (.int (3 : Int32)), .val (.int ((0 : Int32) + (1 : Int32))), .val (.long u0), .second] [(.int (3 : Int32)), (.int ((0 : Int32) + (1 : Int32)))])) _
          refine XS.icmpNo X1.here hx rfl (hb hby dG_16) rfl (tlt (by decide)).2.1 ?_
          show Steps p.tables e below (T1.setTop (mkF m 19 #[.val (.ref a1), .val (.long q2), .second, .val (.ref r3), .val (.int (3 : Int32)), .val (.int ((0 : Int32) + (1 : Int32))), .val (.long u0), .second] [])) _
          refine XS.aloadN X1.here hx rfl (hb hby dG_19) rfl rfl ?_
          show Steps p.tables e below (T1.setTop (mkF m 20 #[.val (.ref a1), .val (.long q2), .second, .val (.ref r3), .val (.int (3 : Int32)), .val (.int ((0 : Int32) + (1 : Int32))), .val (.long u0), .second] [(.ref r3)])) _
          refine XS.iload X1.here hx rfl (hb hby dG_20) rfl ?_
          show Steps p.tables e below (T1.setTop (mkF m 22 #[.val (.ref a1), .val (.long q2), .second, .val (.ref r3), .val (.int (3 : Int32)), .val (.int ((0 : Int32) + (1 : Int32))), .val (.long u0), .second] [(.int ((0 : Int32) + (1 : Int32))), (.ref r3)])) _
          refine X1.laload hx (j := ((0 : Int32) + (1 : Int32))) (v := (.long u1)) (by rw [e1]; exact Av.1) (State.isArrayOf_alike hZ.alike Av.2.1) Av.2.2 hin1 (Has.at Hv hin1 rfl) (g := (mkF m 22 #[.val (.ref a1), .val (.long q2), .second, .val (.ref r3), .val (.int (3 : Int32)), .val (.int ((0 : Int32) + (1 : Int32))), .val (.long u0), .second] [(.int ((0 : Int32) + (1 : Int32))), (.ref r3)])) rfl rfl (hb hby dG_22) _ ?_
          show Steps p.tables e below (T1.setTop (mkF m 23 #[.val (.ref a1), .val (.long q2), .second, .val (.ref r3), .val (.int (3 : Int32)), .val (.int ((0 : Int32) + (1 : Int32))), .val (.long u0), .second] [(.long u1)])) _
          refine XS.lstore X1.here hx rfl (hb hby dG_23) rfl (l' := #[.val (.ref a1), .val (.long q2), .second, .val (.ref r3), .val (.int (3 : Int32)), .val (.int ((0 : Int32) + (1 : Int32))), .val (.long u1), .second]) rfl ?_
          show Steps p.tables e below (T1.setTop (mkF m 25 #[.val (.ref a1), .val (.long q2), .second, .val (.ref r3), .val (.int (3 : Int32)), .val (.int ((0 : Int32) + (1 : Int32))), .val (.long u1), .second] [])) _
          refine XS.lload X1.here hx rfl (hb hby dG_25) rfl ?_
          show Steps p.tables e below (T1.setTop (mkF m 27 #[.val (.ref a1), .val (.long q2), .second, .val (.ref r3), .val (.int (3 : Int32)), .val (.int ((0 : Int32) + (1 : Int32))), .val (.long u1), .second] [(.long u1)])) _
          refine XS.lloadN X1.here hx rfl (hb hby dG_27) rfl ?_
          show Steps p.tables e below (T1.setTop (mkF m 28 #[.val (.ref a1), .val (.long q2), .second, .val (.ref r3), .val (.int (3 : Int32)), .val (.int ((0 : Int32) + (1 : Int32))), .val (.long u1), .second] [(.long q2), (.long u1)])) _
          refine XS.lcmp X1.here hx rfl (hb hby dG_28) rfl ?_
          show Steps p.tables e below (T1.setTop (mkF m 29 #[.val (.ref a1), .val (.long q2), .second, .val (.ref r3), .val (.int (3 : Int32)), .val (.int ((0 : Int32) + (1 : Int32))), .val (.long u1), .second] [(.int (lcmpW u1 q2))])) _
          refine XS.ifYes X1.here hx rfl (pc0 := 29) (pc' := 34) rfl (hb hby dG_29) rfl ((if0 _ _).trans (feq c1).2) (by decide) (by decide) ?_
          show Steps p.tables e below (T1.setTop (mkF m 34 #[.val (.ref a1), .val (.long q2), .second, .val (.ref r3), .val (.int (3 : Int32)), .val (.int ((0 : Int32) + (1 : Int32))), .val (.long u1), .second] [])) _
          refine XS.iinc X1.here hx rfl (hb hby dG_34) rfl (l' := #[.val (.ref a1), .val (.long q2), .second, .val (.ref r3), .val (.int (3 : Int32)), .val (.int (((0 : Int32) + (1 : Int32)) + (1 : Int32))), .val (.long u1), .second]) rfl ?_
          show Steps p.tables e below (T1.setTop (mkF m 37 #[.val (.ref a1), .val (.long q2), .second, .val (.ref r3), .val (.int (3 : Int32)), .val (.int (((0 : Int32) + (1 : Int32)) + (1 : Int32))), .val (.long u1), .second] [])) _
          refine XS.goto X1.here hx rfl (pc0 := 37) (pc' := 12) rfl (hb hby dG_37) (by decide) (by decide) ?_
          show Steps p.tables e below (T1.setTop (mkF m 12 #[.val (.ref a1), .val (.long q2), .second, .val (.ref r3), .val (.int (3 : Int32)), .val (.int (((0 : Int32) + (1 : Int32)) + (1 : Int32))), .val (.long u1), .second] [])) _
          refine XS.iload X1.here hx rfl (hb hby dG_12) rfl ?_
          show Steps p.tables e below (T1.setTop (mkF m 14 #[.val (.ref a1), .val (.long q2), .second, .val (.ref r3), .val (.int (3 : Int32)), .val (.int (((0 : Int32) + (1 : Int32)) + (1 : Int32))), .val (.long u1), .second] [(.int (((0 : Int32) + (1 : Int32)) + (1 : Int32)))])) _
          refine XS.iload X1.here hx rfl (hb hby dG_14) rfl ?_
          show Steps p.tables e below (T1.setTop (mkF m 16 #[.val (.ref a1), .val (.long q2), .second, .val (.ref r3), .val (.int (3 : Int32)), .val (.int (((0 : Int32) + (1 : Int32)) + (1 : Int32))), .val (.long u1), .second] [(.int (3 : Int32)), (.int (((0 : Int32) + (1 : Int32)) + (1 : Int32)))])) _
          refine XS.icmpNo X1.here hx rfl (hb hby dG_16) rfl (tlt (by decide)).2.1 ?_
          show Steps p.tables e below (T1.setTop (mkF m 19 #[.val (.ref a1), .val (.long q2), .second, .val (.ref r3), .val (.int (3 : Int32)), .val (.int (((0 : Int32) + (1 : Int32)) + (1 : Int32))), .val (.long u1), .second] [])) _
          refine XS.aloadN X1.here hx rfl (hb hby dG_19) rfl rfl ?_
          show Steps p.tables e below (T1.setTop (mkF m 20 #[.val (.ref a1), .val (.long q2), .second, .val (.ref r3), .val (.int (3 : Int32)), .val (.int (((0 : Int32) + (1 : Int32)) + (1 : Int32))), .val (.long u1), .second] [(.ref r3)])) _
          refine XS.iload X1.here hx rfl (hb hby dG_20) rfl ?_
          show Steps p.tables e below (T1.setTop (mkF m 22 #[.val (.ref a1), .val (.long q2), .second, .val (.ref r3), .val (.int (3 : Int32)), .val (.int (((0 : Int32) + (1 : Int32)) + (1 : Int32))), .val (.long u1), .second] [(.int (((0 : Int32) + (1 : Int32)) + (1 : Int32))), (.ref r3)])) _
          refine X1.laload hx (j := (((0 : Int32) + (1 : Int32)) + (1 : Int32))) (v := (.long u2)) (by rw [e1]; exact Av.1) (State.isArrayOf_alike hZ.alike Av.2.1) Av.2.2 hin2 (Has.at Hv hin2 rfl) (g := (mkF m 22 #[.val (.ref a1), .val (.long q2), .second, .val (.ref r3), .val (.int (3 : Int32)), .val (.int (((0 : Int32) + (1 : Int32)) + (1 : Int32))), .val (.long u1), .second] [(.int (((0 : Int32) + (1 : Int32)) + (1 : Int32))), (.ref r3)])) rfl rfl (hb hby dG_22) _ ?_
          show Steps p.tables e below (T1.setTop (mkF m 23 #[.val (.ref a1), .val (.long q2), .second, .val (.ref r3), .val (.int (3 : Int32)), .val (.int (((0 : Int32) + (1 : Int32)) + (1 : Int32))), .val (.long u1), .second] [(.long u2)])) _
          refine XS.lstore X1.here hx rfl (hb hby dG_23) rfl (l' := #[.val (.ref a1), .val (.long q2), .second, .val (.ref r3), .val (.int (3 : Int32)), .val (.int (((0 : Int32) + (1 : Int32)) + (1 : Int32))), .val (.long u2), .second]) rfl ?_
          show Steps p.tables e below (T1.setTop (mkF m 25 #[.val (.ref a1), .val (.long q2), .second, .val (.ref r3), .val (.int (3 : Int32)), .val (.int (((0 : Int32) + (1 : Int32)) + (1 : Int32))), .val (.long u2), .second] [])) _
          refine XS.lload X1.here hx rfl (hb hby dG_25) rfl ?_
          show Steps p.tables e below (T1.setTop (mkF m 27 #[.val (.ref a1), .val (.long q2), .second, .val (.ref r3), .val (.int (3 : Int32)), .val (.int (((0 : Int32) + (1 : Int32)) + (1 : Int32))), .val (.long u2), .second] [(.long u2)])) _
          refine XS.lloadN X1.here hx rfl (hb hby dG_27) rfl ?_
          show Steps p.tables e below (T1.setTop (mkF m 28 #[.val (.ref a1), .val (.long q2), .second, .val (.ref r3), .val (.int (3 : Int32)), .val (.int (((0 : Int32) + (1 : Int32)) + (1 : Int32))), .val (.long u2), .second] [(.long q2), (.long u2)])) _
          refine XS.lcmp X1.here hx rfl (hb hby dG_28) rfl ?_
          show Steps p.tables e below (T1.setTop (mkF m 29 #[.val (.ref a1), .val (.long q2), .second, .val (.ref r3), .val (.int (3 : Int32)), .val (.int (((0 : Int32) + (1 : Int32)) + (1 : Int32))), .val (.long u2), .second] [(.int (lcmpW u2 q2))])) _
          refine XS.ifYes X1.here hx rfl (pc0 := 29) (pc' := 34) rfl (hb hby dG_29) rfl ((if0 _ _).trans (feq c2).2) (by decide) (by decide) ?_
          show Steps p.tables e below (T1.setTop (mkF m 34 #[.val (.ref a1), .val (.long q2), .second, .val (.ref r3), .val (.int (3 : Int32)), .val (.int (((0 : Int32) + (1 : Int32)) + (1 : Int32))), .val (.long u2), .second] [])) _
          refine XS.iinc X1.here hx rfl (hb hby dG_34) rfl (l' := #[.val (.ref a1), .val (.long q2), .second, .val (.ref r3), .val (.int (3 : Int32)), .val (.int ((((0 : Int32) + (1 : Int32)) + (1 : Int32)) + (1 : Int32))), .val (.long u2), .second]) rfl ?_
          show Steps p.tables e below (T1.setTop (mkF m 37 #[.val (.ref a1), .val (.long q2), .second, .val (.ref r3), .val (.int (3 : Int32)), .val (.int ((((0 : Int32) + (1 : Int32)) + (1 : Int32)) + (1 : Int32))), .val (.long u2), .second] [])) _
          refine XS.goto X1.here hx rfl (pc0 := 37) (pc' := 12) rfl (hb hby dG_37) (by decide) (by decide) ?_
          show Steps p.tables e below (T1.setTop (mkF m 12 #[.val (.ref a1), .val (.long q2), .second, .val (.ref r3), .val (.int (3 : Int32)), .val (.int ((((0 : Int32) + (1 : Int32)) + (1 : Int32)) + (1 : Int32))), .val (.long u2), .second] [])) _
          refine XS.iload X1.here hx rfl (hb hby dG_12) rfl ?_
          show Steps p.tables e below (T1.setTop (mkF m 14 #[.val (.ref a1), .val (.long q2), .second, .val (.ref r3), .val (.int (3 : Int32)), .val (.int ((((0 : Int32) + (1 : Int32)) + (1 : Int32)) + (1 : Int32))), .val (.long u2), .second] [(.int ((((0 : Int32) + (1 : Int32)) + (1 : Int32)) + (1 : Int32)))])) _
          refine XS.iload X1.here hx rfl (hb hby dG_14) rfl ?_
          show Steps p.tables e below (T1.setTop (mkF m 16 #[.val (.ref a1), .val (.long q2), .second, .val (.ref r3), .val (.int (3 : Int32)), .val (.int ((((0 : Int32) + (1 : Int32)) + (1 : Int32)) + (1 : Int32))), .val (.long u2), .second] [(.int (3 : Int32)), (.int ((((0 : Int32) + (1 : Int32)) + (1 : Int32)) + (1 : Int32)))])) _
          refine XS.icmpYes X1.here hx rfl (pc0 := 16) (pc' := 40) rfl (hb hby dG_16) rfl (flt (by decide)).2.1 (by decide) (by decide) ?_
          show Steps p.tables e below (T1.setTop (mkF m 40 #[.val (.ref a1), .val (.long q2), .second, .val (.ref r3), .val (.int (3 : Int32)), .val (.int ((((0 : Int32) + (1 : Int32)) + (1 : Int32)) + (1 : Int32))), .val (.long u2), .second] [])) _
          refine XS.iconst X1.here hx rfl (hb hby dG_40) ?_
          show Steps p.tables e below (T1.setTop (mkF m 41 #[.val (.ref a1), .val (.long q2), .second, .val (.ref r3), .val (.int (3 : Int32)), .val (.int ((((0 : Int32) + (1 : Int32)) + (1 : Int32)) + (1 : Int32))), .val (.long u2), .second] [(.int (0 : Int32))])) _
          exact retN X1 hx (t := .boolean) Bd.returns (by simp) (hb hby dG_41) hr
        · show Q_rmG_3 Z a1 q2 r3 k3 d3 u0 u1 u2 h0 n0 _ T1.heap _
          rw [e1]
          exact ⟨by simp only [if_neg c0, if_neg c1, if_neg c2], N0, rfl⟩

theorem pd_at___V : parseMethodDescriptor "()V" = some ⟨[], none⟩ := by decide +kernel
theorem pd_at__Ljava_util_List__JJ_V : parseMethodDescriptor "(Ljava/util/List;[JJ)V" = some ⟨[(.object "java/util/List"), (.array .long), .long], none⟩ := by decide +kernel
theorem pd_at__J_Z : parseMethodDescriptor "(J)Z" = some ⟨[.long], some .boolean⟩ := by decide +kernel
theorem ef_at_ (m : MethodId) (q1 : Int64) (q2 : Int64) (q3 : Int64) (q4 : Int64) (q5 : Int64) (p6 : Int32) : entryFrame m #[(.long q1), (.long q2), (.long q3), (.long q4), (.long q5), (.int p6)] maxLocals = mkF m 0 #[.val (.long q1), .second, .val (.long q2), .second, .val (.long q3), .second, .val (.long q4), .second, .val (.long q5), .second, .val (.int p6), .unset, .unset, .unset, .unset, .unset, .unset, .unset, .unset] [] := by first | (simp [entryFrame, mkF, argsToLocals, Value.category, maxLocals]; done) | rfl
def Q_rm0_0 (Z : State) (q1 : Int64) (q2 : Int64) (q3 : Int64) (q4 : Int64) (q5 : Int64) (p6 : Int32) (ds : Addr) (un : Addr) (cu : Cell) (h0 : Heap) (n0 : Nat) (v : Option Value) (h : Heap) (L : List Loc) : Prop := v = some (.int (1 : Int32)) ∧ Fr n0 L
theorem pn_rm0_0 : plainName "com/example/done_by_xor/donebyxor/runtime/TupleBelongsToPinLaw" = true := by first | (simp [plainName, overriddenIn]; done) | decide +kernel
set_option maxRecDepth 65536 in
set_option maxHeartbeats 40000000 in
theorem rm0_0 (l : Launch) (Z : State) (a0 : Array Value) (hw : ∀ d ∈ tables_1, d.before a0 Z = true) (ws : List Jvm.Cond) (q1 : Int64) (q2 : Int64) (q3 : Int64) (q4 : Int64) (q5 : Int64) (p6 : Int32) (ds : Addr) (un : Addr) (cu : Cell) (h0 : Heap) (n0 : Nat) (Z0 : n0 ≤ h0.size) (hn : (p6 &&& (3 : Int32)) = (0 : Int32)) (Sd : Sta Z h0 "java/util/ArrayList" "DEFAULTCAPACITY_EMPTY_ELEMENTDATA" "[Ljava/lang/Object;" (.ref ds)) (Su : Sta Z h0 "com/example/done_by_xor/donebyxor/runtime/Tuple" "UNTRACKED" "[J" (.ref un)) (Au : Arr Z h0 un cu .long) (Zu : cu.slots.size = (0 : Int32).toNatClampNeg) :
    MetFree l x (head1 (Jvm.Cond.code x code maxLocals ret :: ws) room_1) (fun a U => a = #[(.long q1), (.long q2), (.long q3), (.long q4), (.long q5), (.int p6)] ∧ Z.Warmed39 U.vm ∧ U.heap = h0) (fun _ _ _ _ _ => True) (fun _ U o U' => ∃ v L, o = .returned v ∧ Q_rm0_0 Z q1 q2 q3 q4 q5 p6 ds  un  cu  h0 n0 v U'.heap L ∧ FrameEnd U o U' L room_1.cells room_1.slots) := by
  refine MetFree.of_bodySF (plainFor_of_name pn_rm0_0) hisR ?_
  intro p e s m args below meth c s₁ Bd hml0 hP hK
  obtain ⟨rfl, hZ, hh⟩ := hP
  have hx := Bd.exec
  have hby := Bd.bytes
  have hml : c.maxLocals = 19 := hml0
  have hown : s.vm.findClass "com/example/done_by_xor/donebyxor/runtime/TupleBelongsToPinLaw" = some m.cls := findClass_of_methodNamed Bd.named
  have hnm := (name_of_methodNamed Bd.named Bd.method).1
  have X0 : Stand p l e room_1 s m #[(.long q1), (.long q2), (.long q3), (.long q4), (.long q5), (.int p6)] below meth c s₁ [] 0 0 := Stand.of_body Bd
  have e0 : s₁.heap = h0 := by rw [← hh, Bd.state]; rfl
  have N0 := Fr.nil n0
  have pre0 : ∀ tZ, Steps p.tables e below (s₁.setTop (mkF m 0 #[.val (.long q1), .second, .val (.long q2), .second, .val (.long q3), .second, .val (.long q4), .second, .val (.long q5), .second, .val (.int p6), .unset, .unset, .unset, .unset, .unset, .unset, .unset, .unset] [])) tZ → Steps p.tables e below (s₁.setTop (entryFrame m #[(.long q1), (.long q2), (.long q3), (.long q4), (.long q5), (.int p6)] maxLocals)) tZ := fun tZ kZ => castTop (ef_at_ m q1 q2 q3 q4 q5 p6) kZ
  obtain ⟨T1, X1, e1, st1⟩ := getS2 X0 hx hZ hown (host := "") (Or.inl (hw _ (List.mem_of_getElem? (i := 49) rfl))) Via.refl e0 Su (g := (mkF m 19 #[.val (.long q1), .second, .val (.long q2), .second, .val (.long q3), .second, .val (.long q4), .second, .val (.long q5), .second, .val (.int p6), .val (.int (0 : Int32)), .val (.int (((p6.toUInt32 >>> ((2 : Int32) &&& 31).toUInt32).toInt32) &&& (3 : Int32))), .unset, .unset, .unset, .unset, .unset, .unset] [])) rfl (hb hby at_19)
  have gr0 : un < h0.size := Au.lt
  have V0 : Arv Z h0 un cu.cls .long (0 : Int32) [] (.long (0 : Int64)) := ⟨cu, Au, rfl, Zu, by decide, fun k hk => absurd (Zu ▸ hk) (Nat.not_lt_zero _), fun k hk => absurd (Zu ▸ hk) (Nat.not_lt_zero _)⟩
  have Vf : Arv Z h0 un cu.cls .long (0 : Int32) [] (.long (0 : Int64)) := V0
  obtain ⟨x, h_x⟩ : ∃ z : Int64, z = (if (((p6.toUInt32 >>> ((2 : Int32) &&& 31).toUInt32).toInt32) &&& (3 : Int32)) = (0 : Int32) then q4 else (if (((p6.toUInt32 >>> ((2 : Int32) &&& 31).toUInt32).toInt32) &&& (3 : Int32)) = (1 : Int32) then q1 else (if (((p6.toUInt32 >>> ((2 : Int32) &&& 31).toUInt32).toInt32) &&& (3 : Int32)) = (2 : Int32) then q2 else q3))) := ⟨_, rfl⟩
  obtain ⟨T2, h2, X2, e2, E2, A2, D2, -, st2⟩ := newO X1 hx hZ hown (hw _ (List.mem_of_getElem? (i := 1) rfl)) (hw _ (List.mem_of_getElem? (i := 2) rfl)) (hw _ (List.mem_of_getElem? (i := 3) rfl)) e1 (g := (mkF m 125 #[.val (.long q1), .second, .val (.long q2), .second, .val (.long q3), .second, .val (.long q4), .second, .val (.long q5), .second, .val (.int p6), .val (.int (0 : Int32)), .val (.int (((p6.toUInt32 >>> ((2 : Int32) &&& 31).toUInt32).toInt32) &&& (3 : Int32))), .val (.ref un), .val (.long x), .second, .unset, .unset, .unset] [])) rfl (hb hby at_125) (by decide) (by decide)
  obtain ⟨b2, g2⟩ : ∃ z, z = h0.size := ⟨_, rfl⟩
  rw [← g2] at A2 D2 st2
  have F_modCount_b2 : Fld Z h2 b2 "java/util/AbstractList" "modCount" "I" (.int (0 : Int32)) := D2 (Or.inl (hw _ (List.mem_of_getElem? (i := 23) rfl))) (ty := .int) (by decide)
  have F_elementData_b2 : Fld Z h2 b2 "java/util/ArrayList" "elementData" "[Ljava/lang/Object;" .null := D2 (Or.inl (hw _ (List.mem_of_getElem? (i := 26) rfl))) (ty := (.array (.object "java/lang/Object"))) (by decide)
  have go : n0 ≤ b2 := Nat.le_trans (Nat.le_trans Z0 (Keep.refl h0 []).1) (Nat.le_of_eq g2.symm)
  have Vg := Vf.ext E2
  have Zg : n0 ≤ h2.size := Nat.le_trans (Nat.le_trans Z0 (Keep.refl h0 []).1) E2.1
  obtain ⟨_, _, ⟨T3, L3, k3, n3⟩, -, X3, ⟨Lc3, hQ3, l3, y3, z3⟩, st3⟩ := X2.specialBack hx (y := (⟨"java/util/ArrayList", "<init>", "()V"⟩ : MethodName)) rfl hown (mvT hZ (hw _ (List.mem_of_getElem? (i := 4) rfl))) (mvT hZ (hw _ (List.mem_of_getElem? (i := 5) rfl))) (mvT hZ (hw _ (List.mem_of_getElem? (i := 6) rfl))) (by decide) (backOf (W := 1) (rmA l Z a0 hw [] b2 ds h2 n0 Zg A2 F_modCount_b2 F_elementData_b2 (Sd.ext E2) go) hZ (hw _ (List.mem_of_getElem? (i := 6) rfl)) (hw _ (List.mem_of_getElem? (i := 3) rfl)) (by decide) (by decide)) (g := (mkF m 129 #[.val (.long q1), .second, .val (.long q2), .second, .val (.long q3), .second, .val (.long q4), .second, .val (.long q5), .second, .val (.int p6), .val (.int (0 : Int32)), .val (.int (((p6.toUInt32 >>> ((2 : Int32) &&& 31).toUInt32).toInt32) &&& (3 : Int32))), .val (.ref un), .val (.long x), .second, .unset, .unset, .unset] [(.ref b2), (.ref b2)])) rfl (by rw [hml]; rfl) (Steps.refl _) (a := b2) (argsL := []) (rest := [(.ref b2)]) (lenOf pd_at___V rfl) rfl (by show 2 * 0 + _ ≤ _; exact Nat.le_of_eq rfl) (hb hby at_129) (fun _ _ => ⟨rfl, e2, (by decide : 1 + 0 ≤ _), (by decide : 3 + 0 ≤ _)⟩)
  dsimp only [Pt.U, Pt.locs, Pt.cells, Pt.slots] at X3 l3 y3 z3 st3 hQ3
  subst l3 y3 z3
  obtain ⟨rfl, N3q, K3⟩ := hQ3
  have N3 := Fr.app N0 N3q
  have nro : un ≠ b2 := Nat.ne_of_lt (Nat.lt_of_lt_of_le Vf.lt (Nat.le_of_eq g2.symm))
  have Vh := Vg.keep K3 (ninS nro nin0)
  obtain ⟨T4, h4, X4, e4, E4, A4, D4, -, st4⟩ := newO X3 hx hZ hown (hw _ (List.mem_of_getElem? (i := 27) rfl)) (hw _ (List.mem_of_getElem? (i := 28) rfl)) (hw _ (List.mem_of_getElem? (i := 29) rfl)) rfl (g := (mkF m 134 #[.val (.long q1), .second, .val (.long q2), .second, .val (.long q3), .second, .val (.long q4), .second, .val (.long q5), .second, .val (.int p6), .val (.int (0 : Int32)), .val (.int (((p6.toUInt32 >>> ((2 : Int32) &&& 31).toUInt32).toInt32) &&& (3 : Int32))), .val (.ref un), .val (.long x), .second, .val (.ref b2), .unset, .unset] [])) rfl (hb hby at_134) (by decide) (by decide)
  obtain ⟨b4, g4⟩ : ∃ z, z = T3.heap.size := ⟨_, rfl⟩
  rw [← g4] at A4 D4 st4
  have F_values_b4 : Fld Z h4 b4 "com/example/done_by_xor/donebyxor/runtime/Tuple" "values" "Ljava/util/List;" .null := D4 (Or.inr (hw _ (List.mem_of_getElem? (i := 35) rfl))) (ty := (.object "java/util/List")) (by decide)
  have F_roots_b4 : Fld Z h4 b4 "com/example/done_by_xor/donebyxor/runtime/Tuple" "roots" "[J" .null := D4 (Or.inr (hw _ (List.mem_of_getElem? (i := 37) rfl))) (ty := (.array .long)) (by decide)
  have F_ackValues_b4 : Fld Z h4 b4 "com/example/done_by_xor/donebyxor/runtime/Tuple" "ackValues" "[J" .null := D4 (Or.inr (hw _ (List.mem_of_getElem? (i := 39) rfl))) (ty := (.array .long)) (by decide)
  have Vi := Vh.ext E4
  have nrt : un ≠ b4 := Nat.ne_of_lt (Nat.lt_of_lt_of_le Vh.lt (Nat.le_of_eq g4.symm))
  have Zi : n0 ≤ h4.size := Nat.le_trans (Nat.le_trans Zg K3.1) E4.1
  have gt : n0 ≤ b4 := Nat.le_trans (Nat.le_trans Zg K3.1) (Nat.le_of_eq g4.symm)
  obtain ⟨cj, Aj, qj, Sj, Nj, Hj, Gj⟩ := Vi
  have Vi' : Arv Z h4 un cu.cls .long (0 : Int32) [] (.long (0 : Int64)) := ⟨cj, Aj, qj, Sj, Nj, Hj, Gj⟩
  obtain ⟨_, _, ⟨T5, L5, k5, n5⟩, -, X5, ⟨Lc5, hQ5, l5, y5, z5⟩, st5⟩ := X4.specialBack hx (y := (⟨"com/example/done_by_xor/donebyxor/runtime/Tuple", "<init>", "(Ljava/util/List;[JJ)V"⟩ : MethodName)) rfl hown (mvT hZ (hw _ (List.mem_of_getElem? (i := 30) rfl))) (mvT hZ (hw _ (List.mem_of_getElem? (i := 31) rfl))) (mvT hZ (hw _ (List.mem_of_getElem? (i := 32) rfl))) (by decide) (backOf (W := 1) (rmT_0 l Z a0 hw [] b4 b2 un q5 cj h4 n0 Zi A4 F_values_b4 F_roots_b4 F_ackValues_b4 Aj Sj nrt gt) hZ (hw _ (List.mem_of_getElem? (i := 32) rfl)) (hw _ (List.mem_of_getElem? (i := 29) rfl)) (by decide) (by decide)) (g := (mkF m 144 #[.val (.long q1), .second, .val (.long q2), .second, .val (.long q3), .second, .val (.long q4), .second, .val (.long q5), .second, .val (.int p6), .val (.int (0 : Int32)), .val (.int (((p6.toUInt32 >>> ((2 : Int32) &&& 31).toUInt32).toInt32) &&& (3 : Int32))), .val (.ref un), .val (.long x), .second, .val (.ref b2), .unset, .unset] [(.long q5), (.ref un), (.ref b2), (.ref b4), (.ref b4)])) rfl (by rw [hml]; rfl) (Steps.refl _) (a := b4) (argsL := [(.ref b2), (.ref un), (.long q5)]) (rest := [(.ref b4)]) (lenOf pd_at__Ljava_util_List__JJ_V rfl) rfl (by show 2 * 0 + _ ≤ _; exact Nat.le_of_eq rfl) (hb hby at_144) (fun _ _ => ⟨rfl, e4, (by decide : 2 + 1 ≤ _), (by decide : 7 + 0 ≤ _)⟩)
  dsimp only [Pt.U, Pt.locs, Pt.cells, Pt.slots] at X5 l5 y5 z5 st5 hQ5
  subst l5 y5 z5
  obtain ⟨rfl, N5q, K5, Ex5, Fr5⟩ := hQ5
  have N5 := Fr.app N3 N5q
  have Vk := Vi'.keep K5 (ninS nrt nin0)
  obtain ⟨cq6, kq6, q6a, q6b, q6c⟩ := isOf hZ rfl Ex5
  obtain ⟨_, _, ⟨T6, L6, k6, n6⟩, -, X6, ⟨Lc6, hQ6, l6, y6, z6⟩, st6⟩ := X5.virtualBack hx (y := (⟨"com/example/done_by_xor/donebyxor/runtime/Tuple", "belongsTo", "(J)Z"⟩ : MethodName)) (z := (⟨"com/example/done_by_xor/donebyxor/runtime/Tuple", "belongsTo", "(J)Z"⟩ : MethodName)) hown (mvT hZ (hw _ (List.mem_of_getElem? (i := 44) rfl))) (mvT hZ (hw _ (List.mem_of_getElem? (i := 45) rfl))) (notFace_of_selects (args := #[]) (mvT hZ (hw _ (List.mem_of_getElem? (i := 47) rfl)))) (mvT hZ (hw _ (List.mem_of_getElem? (i := 47) rfl))) (mvT hZ (hw _ (List.mem_of_getElem? (i := 46) rfl))) (by decide) (backOf (W := 0) (rmG_0 l Z a0 hw [] b4 x un cu.cls (.long (0 : Int64))  T5.heap n0 (Nat.le_trans Zi K5.1) Fr5 Vk) hZ (hw _ (List.mem_of_getElem? (i := 48) rfl)) (hw _ (List.mem_of_getElem? (i := 29) rfl)) (by decide) (by decide)) q6a q6c (g := (mkF m 199 #[.val (.long q1), .second, .val (.long q2), .second, .val (.long q3), .second, .val (.long q4), .second, .val (.long q5), .second, .val (.int p6), .val (.int (0 : Int32)), .val (.int (((p6.toUInt32 >>> ((2 : Int32) &&& 31).toUInt32).toInt32) &&& (3 : Int32))), .val (.ref un), .val (.long x), .second, .val (.ref b2), .val (.ref b4), .val (.int (0 : Int32))] [(.long x), (.ref b4)])) rfl (by rw [hml]; rfl) (Steps.refl _) (argsL := [(.long x)]) (rest := []) (lenOf pd_at__J_Z rfl) rfl (by show 2 * 0 + _ ≤ _; exact Nat.le_of_eq rfl) (hb hby at_199) (fun _ _ => ⟨rfl, rfl, (by decide : 3 + 0 ≤ _), (by decide : 7 + 0 ≤ _)⟩)
  dsimp only [Pt.U, Pt.locs, Pt.cells, Pt.slots] at X6 l6 y6 z6 st6 hQ6
  subst l6 y6 z6
  obtain ⟨rfl, N6q, e6⟩ := hQ6
  have N6 := Fr.app N5 N6q
  have own_eq0 : (0 : Int32) = (0 : Int32) := rfl
  obtain ⟨fs, hr, hrun, hended, hW, hsame⟩ := X6.leave (v := some (.int (1 : Int32))) (fun h => by rw [Bd.returns] at h; cases h)
  refine ⟨_, _, pre0 _ ?_, hrun, hended, _, _, rfl, ?_, ⟨_, rfl⟩, hW, hsame.mono (by decide) (by decide)⟩
  · show Steps p.tables e below (s₁.setTop (mkF m 0 #[.val (.long q1), .second, .val (.long q2), .second, .val (.long q3), .second, .val (.long q4), .second, .val (.long q5), .second, .val (.int p6), .unset, .unset, .unset, .unset, .unset, .unset, .unset, .unset] [])) _
    refine XS.iload X0.here hx rfl (hb hby at_0) rfl ?_
    show Steps p.tables e below (s₁.setTop (mkF m 2 #[.val (.long q1), .second, .val (.long q2), .second, .val (.long q3), .second, .val (.long q4), .second, .val (.long q5), .second, .val (.int p6), .unset, .unset, .unset, .unset, .unset, .unset, .unset, .unset] [(.int p6)])) _
    refine XS.iconst X0.here hx rfl (hb hby at_2) ?_
    show Steps p.tables e below (s₁.setTop (mkF m 3 #[.val (.long q1), .second, .val (.long q2), .second, .val (.long q3), .second, .val (.long q4), .second, .val (.long q5), .second, .val (.int p6), .unset, .unset, .unset, .unset, .unset, .unset, .unset, .unset] [(.int (3 : Int32)), (.int p6)])) _
    refine XS.iand X0.here hx rfl (hb hby at_3) rfl ?_
    show Steps p.tables e below (s₁.setTop (mkF m 4 #[.val (.long q1), .second, .val (.long q2), .second, .val (.long q3), .second, .val (.long q4), .second, .val (.long q5), .second, .val (.int p6), .unset, .unset, .unset, .unset, .unset, .unset, .unset, .unset] [(.int (p6 &&& (3 : Int32)))])) _
    rw [hn]
    show Steps p.tables e below (s₁.setTop (mkF m 4 #[.val (.long q1), .second, .val (.long q2), .second, .val (.long q3), .second, .val (.long q4), .second, .val (.long q5), .second, .val (.int p6), .unset, .unset, .unset, .unset, .unset, .unset, .unset, .unset] [(.int (0 : Int32))])) _
    refine XS.istore X0.here hx rfl (hb hby at_4) rfl (l' := #[.val (.long q1), .second, .val (.long q2), .second, .val (.long q3), .second, .val (.long q4), .second, .val (.long q5), .second, .val (.int p6), .val (.int (0 : Int32)), .unset, .unset, .unset, .unset, .unset, .unset, .unset]) rfl ?_
    show Steps p.tables e below (s₁.setTop (mkF m 6 #[.val (.long q1), .second, .val (.long q2), .second, .val (.long q3), .second, .val (.long q4), .second, .val (.long q5), .second, .val (.int p6), .val (.int (0 : Int32)), .unset, .unset, .unset, .unset, .unset, .unset, .unset] [])) _
    refine XS.iload X0.here hx rfl (hb hby at_6) rfl ?_
    show Steps p.tables e below (s₁.setTop (mkF m 8 #[.val (.long q1), .second, .val (.long q2), .second, .val (.long q3), .second, .val (.long q4), .second, .val (.long q5), .second, .val (.int p6), .val (.int (0 : Int32)), .unset, .unset, .unset, .unset, .unset, .unset, .unset] [(.int p6)])) _
    refine XS.iconst X0.here hx rfl (hb hby at_8) ?_
    show Steps p.tables e below (s₁.setTop (mkF m 9 #[.val (.long q1), .second, .val (.long q2), .second, .val (.long q3), .second, .val (.long q4), .second, .val (.long q5), .second, .val (.int p6), .val (.int (0 : Int32)), .unset, .unset, .unset, .unset, .unset, .unset, .unset] [(.int (2 : Int32)), (.int p6)])) _
    refine XS.iushr X0.here hx rfl (hb hby at_9) rfl ?_
    show Steps p.tables e below (s₁.setTop (mkF m 10 #[.val (.long q1), .second, .val (.long q2), .second, .val (.long q3), .second, .val (.long q4), .second, .val (.long q5), .second, .val (.int p6), .val (.int (0 : Int32)), .unset, .unset, .unset, .unset, .unset, .unset, .unset] [(.int ((p6.toUInt32 >>> ((2 : Int32) &&& 31).toUInt32).toInt32))])) _
    refine XS.iconst X0.here hx rfl (hb hby at_10) ?_
    show Steps p.tables e below (s₁.setTop (mkF m 11 #[.val (.long q1), .second, .val (.long q2), .second, .val (.long q3), .second, .val (.long q4), .second, .val (.long q5), .second, .val (.int p6), .val (.int (0 : Int32)), .unset, .unset, .unset, .unset, .unset, .unset, .unset] [(.int (3 : Int32)), (.int ((p6.toUInt32 >>> ((2 : Int32) &&& 31).toUInt32).toInt32))])) _
    refine XS.iand X0.here hx rfl (hb hby at_11) rfl ?_
    show Steps p.tables e below (s₁.setTop (mkF m 12 #[.val (.long q1), .second, .val (.long q2), .second, .val (.long q3), .second, .val (.long q4), .second, .val (.long q5), .second, .val (.int p6), .val (.int (0 : Int32)), .unset, .unset, .unset, .unset, .unset, .unset, .unset] [(.int (((p6.toUInt32 >>> ((2 : Int32) &&& 31).toUInt32).toInt32) &&& (3 : Int32)))])) _
    refine XS.istore X0.here hx rfl (hb hby at_12) rfl (l' := #[.val (.long q1), .second, .val (.long q2), .second, .val (.long q3), .second, .val (.long q4), .second, .val (.long q5), .second, .val (.int p6), .val (.int (0 : Int32)), .val (.int (((p6.toUInt32 >>> ((2 : Int32) &&& 31).toUInt32).toInt32) &&& (3 : Int32))), .unset, .unset, .unset, .unset, .unset, .unset]) rfl ?_
    show Steps p.tables e below (s₁.setTop (mkF m 14 #[.val (.long q1), .second, .val (.long q2), .second, .val (.long q3), .second, .val (.long q4), .second, .val (.long q5), .second, .val (.int p6), .val (.int (0 : Int32)), .val (.int (((p6.toUInt32 >>> ((2 : Int32) &&& 31).toUInt32).toInt32) &&& (3 : Int32))), .unset, .unset, .unset, .unset, .unset, .unset] [])) _
    refine XS.iload X0.here hx rfl (hb hby at_14) rfl ?_
    show Steps p.tables e below (s₁.setTop (mkF m 16 #[.val (.long q1), .second, .val (.long q2), .second, .val (.long q3), .second, .val (.long q4), .second, .val (.long q5), .second, .val (.int p6), .val (.int (0 : Int32)), .val (.int (((p6.toUInt32 >>> ((2 : Int32) &&& 31).toUInt32).toInt32) &&& (3 : Int32))), .unset, .unset, .unset, .unset, .unset, .unset] [(.int (0 : Int32))])) _
    refine XS.ifNo X0.here hx rfl (hb hby at_16) rfl ((if0 _ _).trans (teq (by decide)).2) ?_
    show Steps p.tables e below (s₁.setTop (mkF m 19 #[.val (.long q1), .second, .val (.long q2), .second, .val (.long q3), .second, .val (.long q4), .second, .val (.long q5), .second, .val (.int p6), .val (.int (0 : Int32)), .val (.int (((p6.toUInt32 >>> ((2 : Int32) &&& 31).toUInt32).toInt32) &&& (3 : Int32))), .unset, .unset, .unset, .unset, .unset, .unset] [])) _
    refine st1 _ ?_
    show Steps p.tables e below (T1.setTop (mkF m 22 #[.val (.long q1), .second, .val (.long q2), .second, .val (.long q3), .second, .val (.long q4), .second, .val (.long q5), .second, .val (.int p6), .val (.int (0 : Int32)), .val (.int (((p6.toUInt32 >>> ((2 : Int32) &&& 31).toUInt32).toInt32) &&& (3 : Int32))), .unset, .unset, .unset, .unset, .unset, .unset] [(.ref un)])) _
    refine XS.astore X1.here hx rfl (hb hby at_22) rfl rfl (l' := #[.val (.long q1), .second, .val (.long q2), .second, .val (.long q3), .second, .val (.long q4), .second, .val (.long q5), .second, .val (.int p6), .val (.int (0 : Int32)), .val (.int (((p6.toUInt32 >>> ((2 : Int32) &&& 31).toUInt32).toInt32) &&& (3 : Int32))), .val (.ref un), .unset, .unset, .unset, .unset, .unset]) rfl ?_
    show Steps p.tables e below (T1.setTop (mkF m 24 #[.val (.long q1), .second, .val (.long q2), .second, .val (.long q3), .second, .val (.long q4), .second, .val (.long q5), .second, .val (.int p6), .val (.int (0 : Int32)), .val (.int (((p6.toUInt32 >>> ((2 : Int32) &&& 31).toUInt32).toInt32) &&& (3 : Int32))), .val (.ref un), .unset, .unset, .unset, .unset, .unset] [])) _
    refine XS.goto X1.here hx rfl (pc0 := 24) (pc' := 85) rfl (hb hby at_24) (by decide) (by decide) ?_
    show Steps p.tables e below (T1.setTop (mkF m 85 #[.val (.long q1), .second, .val (.long q2), .second, .val (.long q3), .second, .val (.long q4), .second, .val (.long q5), .second, .val (.int p6), .val (.int (0 : Int32)), .val (.int (((p6.toUInt32 >>> ((2 : Int32) &&& 31).toUInt32).toInt32) &&& (3 : Int32))), .val (.ref un), .unset, .unset, .unset, .unset, .unset] [])) _
    refine XS.iload X1.here hx rfl (hb hby at_85) rfl ?_
    show Steps p.tables e below (T1.setTop (mkF m 87 #[.val (.long q1), .second, .val (.long q2), .second, .val (.long q3), .second, .val (.long q4), .second, .val (.long q5), .second, .val (.int p6), .val (.int (0 : Int32)), .val (.int (((p6.toUInt32 >>> ((2 : Int32) &&& 31).toUInt32).toInt32) &&& (3 : Int32))), .val (.ref un), .unset, .unset, .unset, .unset, .unset] [(.int (((p6.toUInt32 >>> ((2 : Int32) &&& 31).toUInt32).toInt32) &&& (3 : Int32)))])) _
    have sg87 : ∀ target, Steps p.tables e below (T1.setTop (mkF m 125 #[.val (.long q1), .second, .val (.long q2), .second, .val (.long q3), .second, .val (.long q4), .second, .val (.long q5), .second, .val (.int p6), .val (.int (0 : Int32)), .val (.int (((p6.toUInt32 >>> ((2 : Int32) &&& 31).toUInt32).toInt32) &&& (3 : Int32))), .val (.ref un), .val (.long (if (((p6.toUInt32 >>> ((2 : Int32) &&& 31).toUInt32).toInt32) &&& (3 : Int32)) = (0 : Int32) then q4 else (if (((p6.toUInt32 >>> ((2 : Int32) &&& 31).toUInt32).toInt32) &&& (3 : Int32)) = (1 : Int32) then q1 else (if (((p6.toUInt32 >>> ((2 : Int32) &&& 31).toUInt32).toInt32) &&& (3 : Int32)) = (2 : Int32) then q2 else q3)))), .second, .unset, .unset, .unset] [])) target → Steps p.tables e below (T1.setTop (mkF m 87 #[.val (.long q1), .second, .val (.long q2), .second, .val (.long q3), .second, .val (.long q4), .second, .val (.long q5), .second, .val (.int p6), .val (.int (0 : Int32)), .val (.int (((p6.toUInt32 >>> ((2 : Int32) &&& 31).toUInt32).toInt32) &&& (3 : Int32))), .val (.ref un), .unset, .unset, .unset, .unset, .unset] [(.int (((p6.toUInt32 >>> ((2 : Int32) &&& 31).toUInt32).toInt32) &&& (3 : Int32)))])) target := by
      intro target kt
      rcases Classical.em ((((p6.toUInt32 >>> ((2 : Int32) &&& 31).toUInt32).toInt32) &&& (3 : Int32)) = (0 : Int32)) with hr87_0 | hr87_0
      · (try simp only [if_pos hr87_0] at kt)
        refine XS.ifNo X1.here hx rfl (hb hby at_87) rfl ((if0 _ _).trans (teq hr87_0).2) ?_
        show Steps p.tables e below (T1.setTop (mkF m 90 #[.val (.long q1), .second, .val (.long q2), .second, .val (.long q3), .second, .val (.long q4), .second, .val (.long q5), .second, .val (.int p6), .val (.int (0 : Int32)), .val (.int (((p6.toUInt32 >>> ((2 : Int32) &&& 31).toUInt32).toInt32) &&& (3 : Int32))), .val (.ref un), .unset, .unset, .unset, .unset, .unset] [])) _
        refine XS.lload X1.here hx rfl (hb hby at_90) rfl ?_
        show Steps p.tables e below (T1.setTop (mkF m 92 #[.val (.long q1), .second, .val (.long q2), .second, .val (.long q3), .second, .val (.long q4), .second, .val (.long q5), .second, .val (.int p6), .val (.int (0 : Int32)), .val (.int (((p6.toUInt32 >>> ((2 : Int32) &&& 31).toUInt32).toInt32) &&& (3 : Int32))), .val (.ref un), .unset, .unset, .unset, .unset, .unset] [(.long q4)])) _
        refine XS.lstore X1.here hx rfl (hb hby at_92) rfl (l' := #[.val (.long q1), .second, .val (.long q2), .second, .val (.long q3), .second, .val (.long q4), .second, .val (.long q5), .second, .val (.int p6), .val (.int (0 : Int32)), .val (.int (((p6.toUInt32 >>> ((2 : Int32) &&& 31).toUInt32).toInt32) &&& (3 : Int32))), .val (.ref un), .val (.long q4), .second, .unset, .unset, .unset]) rfl ?_
        show Steps p.tables e below (T1.setTop (mkF m 94 #[.val (.long q1), .second, .val (.long q2), .second, .val (.long q3), .second, .val (.long q4), .second, .val (.long q5), .second, .val (.int p6), .val (.int (0 : Int32)), .val (.int (((p6.toUInt32 >>> ((2 : Int32) &&& 31).toUInt32).toInt32) &&& (3 : Int32))), .val (.ref un), .val (.long q4), .second, .unset, .unset, .unset] [])) _
        refine XS.goto X1.here hx rfl (pc0 := 94) (pc' := 125) rfl (hb hby at_94) (by decide) (by decide) ?_
        show Steps p.tables e below (T1.setTop (mkF m 125 #[.val (.long q1), .second, .val (.long q2), .second, .val (.long q3), .second, .val (.long q4), .second, .val (.long q5), .second, .val (.int p6), .val (.int (0 : Int32)), .val (.int (((p6.toUInt32 >>> ((2 : Int32) &&& 31).toUInt32).toInt32) &&& (3 : Int32))), .val (.ref un), .val (.long q4), .second, .unset, .unset, .unset] [])) _
        exact kt
      · (try simp only [if_neg hr87_0] at kt)
        refine XS.ifYes X1.here hx rfl (pc0 := 87) (pc' := 97) rfl (hb hby at_87) rfl ((if0 _ _).trans (feq hr87_0).2) (by decide) (by decide) ?_
        show Steps p.tables e below (T1.setTop (mkF m 97 #[.val (.long q1), .second, .val (.long q2), .second, .val (.long q3), .second, .val (.long q4), .second, .val (.long q5), .second, .val (.int p6), .val (.int (0 : Int32)), .val (.int (((p6.toUInt32 >>> ((2 : Int32) &&& 31).toUInt32).toInt32) &&& (3 : Int32))), .val (.ref un), .unset, .unset, .unset, .unset, .unset] [])) _
        refine XS.iload X1.here hx rfl (hb hby at_97) rfl ?_
        show Steps p.tables e below (T1.setTop (mkF m 99 #[.val (.long q1), .second, .val (.long q2), .second, .val (.long q3), .second, .val (.long q4), .second, .val (.long q5), .second, .val (.int p6), .val (.int (0 : Int32)), .val (.int (((p6.toUInt32 >>> ((2 : Int32) &&& 31).toUInt32).toInt32) &&& (3 : Int32))), .val (.ref un), .unset, .unset, .unset, .unset, .unset] [(.int (((p6.toUInt32 >>> ((2 : Int32) &&& 31).toUInt32).toInt32) &&& (3 : Int32)))])) _
        refine XS.iconst X1.here hx rfl (hb hby at_99) ?_
        show Steps p.tables e below (T1.setTop (mkF m 100 #[.val (.long q1), .second, .val (.long q2), .second, .val (.long q3), .second, .val (.long q4), .second, .val (.long q5), .second, .val (.int p6), .val (.int (0 : Int32)), .val (.int (((p6.toUInt32 >>> ((2 : Int32) &&& 31).toUInt32).toInt32) &&& (3 : Int32))), .val (.ref un), .unset, .unset, .unset, .unset, .unset] [(.int (1 : Int32)), (.int (((p6.toUInt32 >>> ((2 : Int32) &&& 31).toUInt32).toInt32) &&& (3 : Int32)))])) _
        rcases Classical.em ((((p6.toUInt32 >>> ((2 : Int32) &&& 31).toUInt32).toInt32) &&& (3 : Int32)) = (1 : Int32)) with hr100_1 | hr100_1
        · (try simp only [if_pos hr100_1] at kt)
          refine XS.icmpNo X1.here hx rfl (hb hby at_100) rfl (teq hr100_1).2 ?_
          show Steps p.tables e below (T1.setTop (mkF m 103 #[.val (.long q1), .second, .val (.long q2), .second, .val (.long q3), .second, .val (.long q4), .second, .val (.long q5), .second, .val (.int p6), .val (.int (0 : Int32)), .val (.int (((p6.toUInt32 >>> ((2 : Int32) &&& 31).toUInt32).toInt32) &&& (3 : Int32))), .val (.ref un), .unset, .unset, .unset, .unset, .unset] [])) _
          refine XS.lloadN X1.here hx rfl (hb hby at_103) rfl ?_
          show Steps p.tables e below (T1.setTop (mkF m 104 #[.val (.long q1), .second, .val (.long q2), .second, .val (.long q3), .second, .val (.long q4), .second, .val (.long q5), .second, .val (.int p6), .val (.int (0 : Int32)), .val (.int (((p6.toUInt32 >>> ((2 : Int32) &&& 31).toUInt32).toInt32) &&& (3 : Int32))), .val (.ref un), .unset, .unset, .unset, .unset, .unset] [(.long q1)])) _
          refine XS.lstore X1.here hx rfl (hb hby at_104) rfl (l' := #[.val (.long q1), .second, .val (.long q2), .second, .val (.long q3), .second, .val (.long q4), .second, .val (.long q5), .second, .val (.int p6), .val (.int (0 : Int32)), .val (.int (((p6.toUInt32 >>> ((2 : Int32) &&& 31).toUInt32).toInt32) &&& (3 : Int32))), .val (.ref un), .val (.long q1), .second, .unset, .unset, .unset]) rfl ?_
          show Steps p.tables e below (T1.setTop (mkF m 106 #[.val (.long q1), .second, .val (.long q2), .second, .val (.long q3), .second, .val (.long q4), .second, .val (.long q5), .second, .val (.int p6), .val (.int (0 : Int32)), .val (.int (((p6.toUInt32 >>> ((2 : Int32) &&& 31).toUInt32).toInt32) &&& (3 : Int32))), .val (.ref un), .val (.long q1), .second, .unset, .unset, .unset] [])) _
          refine XS.goto X1.here hx rfl (pc0 := 106) (pc' := 125) rfl (hb hby at_106) (by decide) (by decide) ?_
          show Steps p.tables e below (T1.setTop (mkF m 125 #[.val (.long q1), .second, .val (.long q2), .second, .val (.long q3), .second, .val (.long q4), .second, .val (.long q5), .second, .val (.int p6), .val (.int (0 : Int32)), .val (.int (((p6.toUInt32 >>> ((2 : Int32) &&& 31).toUInt32).toInt32) &&& (3 : Int32))), .val (.ref un), .val (.long q1), .second, .unset, .unset, .unset] [])) _
          exact kt
        · (try simp only [if_neg hr100_1] at kt)
          refine XS.icmpYes X1.here hx rfl (pc0 := 100) (pc' := 109) rfl (hb hby at_100) rfl (feq hr100_1).2 (by decide) (by decide) ?_
          show Steps p.tables e below (T1.setTop (mkF m 109 #[.val (.long q1), .second, .val (.long q2), .second, .val (.long q3), .second, .val (.long q4), .second, .val (.long q5), .second, .val (.int p6), .val (.int (0 : Int32)), .val (.int (((p6.toUInt32 >>> ((2 : Int32) &&& 31).toUInt32).toInt32) &&& (3 : Int32))), .val (.ref un), .unset, .unset, .unset, .unset, .unset] [])) _
          refine XS.iload X1.here hx rfl (hb hby at_109) rfl ?_
          show Steps p.tables e below (T1.setTop (mkF m 111 #[.val (.long q1), .second, .val (.long q2), .second, .val (.long q3), .second, .val (.long q4), .second, .val (.long q5), .second, .val (.int p6), .val (.int (0 : Int32)), .val (.int (((p6.toUInt32 >>> ((2 : Int32) &&& 31).toUInt32).toInt32) &&& (3 : Int32))), .val (.ref un), .unset, .unset, .unset, .unset, .unset] [(.int (((p6.toUInt32 >>> ((2 : Int32) &&& 31).toUInt32).toInt32) &&& (3 : Int32)))])) _
          refine XS.iconst X1.here hx rfl (hb hby at_111) ?_
          show Steps p.tables e below (T1.setTop (mkF m 112 #[.val (.long q1), .second, .val (.long q2), .second, .val (.long q3), .second, .val (.long q4), .second, .val (.long q5), .second, .val (.int p6), .val (.int (0 : Int32)), .val (.int (((p6.toUInt32 >>> ((2 : Int32) &&& 31).toUInt32).toInt32) &&& (3 : Int32))), .val (.ref un), .unset, .unset, .unset, .unset, .unset] [(.int (2 : Int32)), (.int (((p6.toUInt32 >>> ((2 : Int32) &&& 31).toUInt32).toInt32) &&& (3 : Int32)))])) _
          rcases Classical.em ((((p6.toUInt32 >>> ((2 : Int32) &&& 31).toUInt32).toInt32) &&& (3 : Int32)) = (2 : Int32)) with hr112_2 | hr112_2
          · (try simp only [if_pos hr112_2] at kt)
            refine XS.icmpNo X1.here hx rfl (hb hby at_112) rfl (teq hr112_2).2 ?_
            show Steps p.tables e below (T1.setTop (mkF m 115 #[.val (.long q1), .second, .val (.long q2), .second, .val (.long q3), .second, .val (.long q4), .second, .val (.long q5), .second, .val (.int p6), .val (.int (0 : Int32)), .val (.int (((p6.toUInt32 >>> ((2 : Int32) &&& 31).toUInt32).toInt32) &&& (3 : Int32))), .val (.ref un), .unset, .unset, .unset, .unset, .unset] [])) _
            refine XS.lloadN X1.here hx rfl (hb hby at_115) rfl ?_
            show Steps p.tables e below (T1.setTop (mkF m 116 #[.val (.long q1), .second, .val (.long q2), .second, .val (.long q3), .second, .val (.long q4), .second, .val (.long q5), .second, .val (.int p6), .val (.int (0 : Int32)), .val (.int (((p6.toUInt32 >>> ((2 : Int32) &&& 31).toUInt32).toInt32) &&& (3 : Int32))), .val (.ref un), .unset, .unset, .unset, .unset, .unset] [(.long q2)])) _
            refine XS.lstore X1.here hx rfl (hb hby at_116) rfl (l' := #[.val (.long q1), .second, .val (.long q2), .second, .val (.long q3), .second, .val (.long q4), .second, .val (.long q5), .second, .val (.int p6), .val (.int (0 : Int32)), .val (.int (((p6.toUInt32 >>> ((2 : Int32) &&& 31).toUInt32).toInt32) &&& (3 : Int32))), .val (.ref un), .val (.long q2), .second, .unset, .unset, .unset]) rfl ?_
            show Steps p.tables e below (T1.setTop (mkF m 118 #[.val (.long q1), .second, .val (.long q2), .second, .val (.long q3), .second, .val (.long q4), .second, .val (.long q5), .second, .val (.int p6), .val (.int (0 : Int32)), .val (.int (((p6.toUInt32 >>> ((2 : Int32) &&& 31).toUInt32).toInt32) &&& (3 : Int32))), .val (.ref un), .val (.long q2), .second, .unset, .unset, .unset] [])) _
            refine XS.goto X1.here hx rfl (pc0 := 118) (pc' := 125) rfl (hb hby at_118) (by decide) (by decide) ?_
            show Steps p.tables e below (T1.setTop (mkF m 125 #[.val (.long q1), .second, .val (.long q2), .second, .val (.long q3), .second, .val (.long q4), .second, .val (.long q5), .second, .val (.int p6), .val (.int (0 : Int32)), .val (.int (((p6.toUInt32 >>> ((2 : Int32) &&& 31).toUInt32).toInt32) &&& (3 : Int32))), .val (.ref un), .val (.long q2), .second, .unset, .unset, .unset] [])) _
            exact kt
          · (try simp only [if_neg hr112_2] at kt)
            refine XS.icmpYes X1.here hx rfl (pc0 := 112) (pc' := 121) rfl (hb hby at_112) rfl (feq hr112_2).2 (by decide) (by decide) ?_
            show Steps p.tables e below (T1.setTop (mkF m 121 #[.val (.long q1), .second, .val (.long q2), .second, .val (.long q3), .second, .val (.long q4), .second, .val (.long q5), .second, .val (.int p6), .val (.int (0 : Int32)), .val (.int (((p6.toUInt32 >>> ((2 : Int32) &&& 31).toUInt32).toInt32) &&& (3 : Int32))), .val (.ref un), .unset, .unset, .unset, .unset, .unset] [])) _
            refine XS.lload X1.here hx rfl (hb hby at_121) rfl ?_
            show Steps p.tables e below (T1.setTop (mkF m 123 #[.val (.long q1), .second, .val (.long q2), .second, .val (.long q3), .second, .val (.long q4), .second, .val (.long q5), .second, .val (.int p6), .val (.int (0 : Int32)), .val (.int (((p6.toUInt32 >>> ((2 : Int32) &&& 31).toUInt32).toInt32) &&& (3 : Int32))), .val (.ref un), .unset, .unset, .unset, .unset, .unset] [(.long q3)])) _
            refine XS.lstore X1.here hx rfl (hb hby at_123) rfl (l' := #[.val (.long q1), .second, .val (.long q2), .second, .val (.long q3), .second, .val (.long q4), .second, .val (.long q5), .second, .val (.int p6), .val (.int (0 : Int32)), .val (.int (((p6.toUInt32 >>> ((2 : Int32) &&& 31).toUInt32).toInt32) &&& (3 : Int32))), .val (.ref un), .val (.long q3), .second, .unset, .unset, .unset]) rfl ?_
            show Steps p.tables e below (T1.setTop (mkF m 125 #[.val (.long q1), .second, .val (.long q2), .second, .val (.long q3), .second, .val (.long q4), .second, .val (.long q5), .second, .val (.int p6), .val (.int (0 : Int32)), .val (.int (((p6.toUInt32 >>> ((2 : Int32) &&& 31).toUInt32).toInt32) &&& (3 : Int32))), .val (.ref un), .val (.long q3), .second, .unset, .unset, .unset] [])) _
            exact kt
    refine sg87 _ ?_
    show Steps p.tables e below (T1.setTop (mkF m 125 #[.val (.long q1), .second, .val (.long q2), .second, .val (.long q3), .second, .val (.long q4), .second, .val (.long q5), .second, .val (.int p6), .val (.int (0 : Int32)), .val (.int (((p6.toUInt32 >>> ((2 : Int32) &&& 31).toUInt32).toInt32) &&& (3 : Int32))), .val (.ref un), .val (.long (if (((p6.toUInt32 >>> ((2 : Int32) &&& 31).toUInt32).toInt32) &&& (3 : Int32)) = (0 : Int32) then q4 else (if (((p6.toUInt32 >>> ((2 : Int32) &&& 31).toUInt32).toInt32) &&& (3 : Int32)) = (1 : Int32) then q1 else (if (((p6.toUInt32 >>> ((2 : Int32) &&& 31).toUInt32).toInt32) &&& (3 : Int32)) = (2 : Int32) then q2 else q3)))), .second, .unset, .unset, .unset] [])) _
    rw [← h_x]
    show Steps p.tables e below (T1.setTop (mkF m 125 #[.val (.long q1), .second, .val (.long q2), .second, .val (.long q3), .second, .val (.long q4), .second, .val (.long q5), .second, .val (.int p6), .val (.int (0 : Int32)), .val (.int (((p6.toUInt32 >>> ((2 : Int32) &&& 31).toUInt32).toInt32) &&& (3 : Int32))), .val (.ref un), .val (.long x), .second, .unset, .unset, .unset] [])) _
    refine st2 _ ?_
    show Steps p.tables e below (T2.setTop (mkF m 128 #[.val (.long q1), .second, .val (.long q2), .second, .val (.long q3), .second, .val (.long q4), .second, .val (.long q5), .second, .val (.int p6), .val (.int (0 : Int32)), .val (.int (((p6.toUInt32 >>> ((2 : Int32) &&& 31).toUInt32).toInt32) &&& (3 : Int32))), .val (.ref un), .val (.long x), .second, .unset, .unset, .unset] [(.ref b2)])) _
    refine XS.dup X2.here hx rfl (hb hby at_128) rfl rfl ?_
    show Steps p.tables e below (T2.setTop (mkF m 129 #[.val (.long q1), .second, .val (.long q2), .second, .val (.long q3), .second, .val (.long q4), .second, .val (.long q5), .second, .val (.int p6), .val (.int (0 : Int32)), .val (.int (((p6.toUInt32 >>> ((2 : Int32) &&& 31).toUInt32).toInt32) &&& (3 : Int32))), .val (.ref un), .val (.long x), .second, .unset, .unset, .unset] [(.ref b2), (.ref b2)])) _
    refine st3.trans ?_
    show Steps p.tables e below (T3.setTop (mkF m 132 #[.val (.long q1), .second, .val (.long q2), .second, .val (.long q3), .second, .val (.long q4), .second, .val (.long q5), .second, .val (.int p6), .val (.int (0 : Int32)), .val (.int (((p6.toUInt32 >>> ((2 : Int32) &&& 31).toUInt32).toInt32) &&& (3 : Int32))), .val (.ref un), .val (.long x), .second, .unset, .unset, .unset] [(.ref b2)])) _
    refine XS.astore X3.here hx rfl (hb hby at_132) rfl rfl (l' := #[.val (.long q1), .second, .val (.long q2), .second, .val (.long q3), .second, .val (.long q4), .second, .val (.long q5), .second, .val (.int p6), .val (.int (0 : Int32)), .val (.int (((p6.toUInt32 >>> ((2 : Int32) &&& 31).toUInt32).toInt32) &&& (3 : Int32))), .val (.ref un), .val (.long x), .second, .val (.ref b2), .unset, .unset]) rfl ?_
    show Steps p.tables e below (T3.setTop (mkF m 134 #[.val (.long q1), .second, .val (.long q2), .second, .val (.long q3), .second, .val (.long q4), .second, .val (.long q5), .second, .val (.int p6), .val (.int (0 : Int32)), .val (.int (((p6.toUInt32 >>> ((2 : Int32) &&& 31).toUInt32).toInt32) &&& (3 : Int32))), .val (.ref un), .val (.long x), .second, .val (.ref b2), .unset, .unset] [])) _
    refine st4 _ ?_
    show Steps p.tables e below (T4.setTop (mkF m 137 #[.val (.long q1), .second, .val (.long q2), .second, .val (.long q3), .second, .val (.long q4), .second, .val (.long q5), .second, .val (.int p6), .val (.int (0 : Int32)), .val (.int (((p6.toUInt32 >>> ((2 : Int32) &&& 31).toUInt32).toInt32) &&& (3 : Int32))), .val (.ref un), .val (.long x), .second, .val (.ref b2), .unset, .unset] [(.ref b4)])) _
    refine XS.dup X4.here hx rfl (hb hby at_137) rfl rfl ?_
    show Steps p.tables e below (T4.setTop (mkF m 138 #[.val (.long q1), .second, .val (.long q2), .second, .val (.long q3), .second, .val (.long q4), .second, .val (.long q5), .second, .val (.int p6), .val (.int (0 : Int32)), .val (.int (((p6.toUInt32 >>> ((2 : Int32) &&& 31).toUInt32).toInt32) &&& (3 : Int32))), .val (.ref un), .val (.long x), .second, .val (.ref b2), .unset, .unset] [(.ref b4), (.ref b4)])) _
    refine XS.aload X4.here hx rfl (hb hby at_138) rfl rfl ?_
    show Steps p.tables e below (T4.setTop (mkF m 140 #[.val (.long q1), .second, .val (.long q2), .second, .val (.long q3), .second, .val (.long q4), .second, .val (.long q5), .second, .val (.int p6), .val (.int (0 : Int32)), .val (.int (((p6.toUInt32 >>> ((2 : Int32) &&& 31).toUInt32).toInt32) &&& (3 : Int32))), .val (.ref un), .val (.long x), .second, .val (.ref b2), .unset, .unset] [(.ref b2), (.ref b4), (.ref b4)])) _
    refine XS.aload X4.here hx rfl (hb hby at_140) rfl rfl ?_
    show Steps p.tables e below (T4.setTop (mkF m 142 #[.val (.long q1), .second, .val (.long q2), .second, .val (.long q3), .second, .val (.long q4), .second, .val (.long q5), .second, .val (.int p6), .val (.int (0 : Int32)), .val (.int (((p6.toUInt32 >>> ((2 : Int32) &&& 31).toUInt32).toInt32) &&& (3 : Int32))), .val (.ref un), .val (.long x), .second, .val (.ref b2), .unset, .unset] [(.ref un), (.ref b2), (.ref b4), (.ref b4)])) _
    refine XS.lload X4.here hx rfl (hb hby at_142) rfl ?_
    show Steps p.tables e below (T4.setTop (mkF m 144 #[.val (.long q1), .second, .val (.long q2), .second, .val (.long q3), .second, .val (.long q4), .second, .val (.long q5), .second, .val (.int p6), .val (.int (0 : Int32)), .val (.int (((p6.toUInt32 >>> ((2 : Int32) &&& 31).toUInt32).toInt32) &&& (3 : Int32))), .val (.ref un), .val (.long x), .second, .val (.ref b2), .unset, .unset] [(.long q5), (.ref un), (.ref b2), (.ref b4), (.ref b4)])) _
    refine st5.trans ?_
    show Steps p.tables e below (T5.setTop (mkF m 147 #[.val (.long q1), .second, .val (.long q2), .second, .val (.long q3), .second, .val (.long q4), .second, .val (.long q5), .second, .val (.int p6), .val (.int (0 : Int32)), .val (.int (((p6.toUInt32 >>> ((2 : Int32) &&& 31).toUInt32).toInt32) &&& (3 : Int32))), .val (.ref un), .val (.long x), .second, .val (.ref b2), .unset, .unset] [(.ref b4)])) _
    refine XS.astore X5.here hx rfl (hb hby at_147) rfl rfl (l' := #[.val (.long q1), .second, .val (.long q2), .second, .val (.long q3), .second, .val (.long q4), .second, .val (.long q5), .second, .val (.int p6), .val (.int (0 : Int32)), .val (.int (((p6.toUInt32 >>> ((2 : Int32) &&& 31).toUInt32).toInt32) &&& (3 : Int32))), .val (.ref un), .val (.long x), .second, .val (.ref b2), .val (.ref b4), .unset]) rfl ?_
    show Steps p.tables e below (T5.setTop (mkF m 149 #[.val (.long q1), .second, .val (.long q2), .second, .val (.long q3), .second, .val (.long q4), .second, .val (.long q5), .second, .val (.int p6), .val (.int (0 : Int32)), .val (.int (((p6.toUInt32 >>> ((2 : Int32) &&& 31).toUInt32).toInt32) &&& (3 : Int32))), .val (.ref un), .val (.long x), .second, .val (.ref b2), .val (.ref b4), .unset] [])) _
    refine XS.iload X5.here hx rfl (hb hby at_149) rfl ?_
    show Steps p.tables e below (T5.setTop (mkF m 151 #[.val (.long q1), .second, .val (.long q2), .second, .val (.long q3), .second, .val (.long q4), .second, .val (.long q5), .second, .val (.int p6), .val (.int (0 : Int32)), .val (.int (((p6.toUInt32 >>> ((2 : Int32) &&& 31).toUInt32).toInt32) &&& (3 : Int32))), .val (.ref un), .val (.long x), .second, .val (.ref b2), .val (.ref b4), .unset] [(.int (0 : Int32))])) _
    have sg151 : ∀ target, Steps p.tables e below (T5.setTop (mkF m 193 #[.val (.long q1), .second, .val (.long q2), .second, .val (.long q3), .second, .val (.long q4), .second, .val (.long q5), .second, .val (.int p6), .val (.int (0 : Int32)), .val (.int (((p6.toUInt32 >>> ((2 : Int32) &&& 31).toUInt32).toInt32) &&& (3 : Int32))), .val (.ref un), .val (.long x), .second, .val (.ref b2), .val (.ref b4), .unset] [(.int (0 : Int32))])) target → Steps p.tables e below (T5.setTop (mkF m 151 #[.val (.long q1), .second, .val (.long q2), .second, .val (.long q3), .second, .val (.long q4), .second, .val (.long q5), .second, .val (.int p6), .val (.int (0 : Int32)), .val (.int (((p6.toUInt32 >>> ((2 : Int32) &&& 31).toUInt32).toInt32) &&& (3 : Int32))), .val (.ref un), .val (.long x), .second, .val (.ref b2), .val (.ref b4), .unset] [(.int (0 : Int32))])) target := by
      intro target kt
      refine XS.ifYes X5.here hx rfl (pc0 := 151) (pc' := 161) rfl (hb hby at_151) rfl ((if0 _ _).trans (flt (by decide)).2.2.2) (by decide) (by decide) ?_
      show Steps p.tables e below (T5.setTop (mkF m 161 #[.val (.long q1), .second, .val (.long q2), .second, .val (.long q3), .second, .val (.long q4), .second, .val (.long q5), .second, .val (.int p6), .val (.int (0 : Int32)), .val (.int (((p6.toUInt32 >>> ((2 : Int32) &&& 31).toUInt32).toInt32) &&& (3 : Int32))), .val (.ref un), .val (.long x), .second, .val (.ref b2), .val (.ref b4), .unset] [])) _
      refine XS.iload X5.here hx rfl (hb hby at_161) rfl ?_
      show Steps p.tables e below (T5.setTop (mkF m 163 #[.val (.long q1), .second, .val (.long q2), .second, .val (.long q3), .second, .val (.long q4), .second, .val (.long q5), .second, .val (.int p6), .val (.int (0 : Int32)), .val (.int (((p6.toUInt32 >>> ((2 : Int32) &&& 31).toUInt32).toInt32) &&& (3 : Int32))), .val (.ref un), .val (.long x), .second, .val (.ref b2), .val (.ref b4), .unset] [(.int (0 : Int32))])) _
      refine XS.iconst X5.here hx rfl (hb hby at_163) ?_
      show Steps p.tables e below (T5.setTop (mkF m 164 #[.val (.long q1), .second, .val (.long q2), .second, .val (.long q3), .second, .val (.long q4), .second, .val (.long q5), .second, .val (.int p6), .val (.int (0 : Int32)), .val (.int (((p6.toUInt32 >>> ((2 : Int32) &&& 31).toUInt32).toInt32) &&& (3 : Int32))), .val (.ref un), .val (.long x), .second, .val (.ref b2), .val (.ref b4), .unset] [(.int (1 : Int32)), (.int (0 : Int32))])) _
      refine XS.icmpYes X5.here hx rfl (pc0 := 164) (pc' := 174) rfl (hb hby at_164) rfl (flt (by decide)).2.2.2 (by decide) (by decide) ?_
      show Steps p.tables e below (T5.setTop (mkF m 174 #[.val (.long q1), .second, .val (.long q2), .second, .val (.long q3), .second, .val (.long q4), .second, .val (.long q5), .second, .val (.int p6), .val (.int (0 : Int32)), .val (.int (((p6.toUInt32 >>> ((2 : Int32) &&& 31).toUInt32).toInt32) &&& (3 : Int32))), .val (.ref un), .val (.long x), .second, .val (.ref b2), .val (.ref b4), .unset] [])) _
      refine XS.iload X5.here hx rfl (hb hby at_174) rfl ?_
      show Steps p.tables e below (T5.setTop (mkF m 176 #[.val (.long q1), .second, .val (.long q2), .second, .val (.long q3), .second, .val (.long q4), .second, .val (.long q5), .second, .val (.int p6), .val (.int (0 : Int32)), .val (.int (((p6.toUInt32 >>> ((2 : Int32) &&& 31).toUInt32).toInt32) &&& (3 : Int32))), .val (.ref un), .val (.long x), .second, .val (.ref b2), .val (.ref b4), .unset] [(.int (0 : Int32))])) _
      refine XS.iconst X5.here hx rfl (hb hby at_176) ?_
      show Steps p.tables e below (T5.setTop (mkF m 177 #[.val (.long q1), .second, .val (.long q2), .second, .val (.long q3), .second, .val (.long q4), .second, .val (.long q5), .second, .val (.int p6), .val (.int (0 : Int32)), .val (.int (((p6.toUInt32 >>> ((2 : Int32) &&& 31).toUInt32).toInt32) &&& (3 : Int32))), .val (.ref un), .val (.long x), .second, .val (.ref b2), .val (.ref b4), .unset] [(.int (2 : Int32)), (.int (0 : Int32))])) _
      refine XS.icmpYes X5.here hx rfl (pc0 := 177) (pc' := 192) rfl (hb hby at_177) rfl (flt (by decide)).2.2.2 (by decide) (by decide) ?_
      show Steps p.tables e below (T5.setTop (mkF m 192 #[.val (.long q1), .second, .val (.long q2), .second, .val (.long q3), .second, .val (.long q4), .second, .val (.long q5), .second, .val (.int p6), .val (.int (0 : Int32)), .val (.int (((p6.toUInt32 >>> ((2 : Int32) &&& 31).toUInt32).toInt32) &&& (3 : Int32))), .val (.ref un), .val (.long x), .second, .val (.ref b2), .val (.ref b4), .unset] [])) _
      refine XS.iconst X5.here hx rfl (hb hby at_192) ?_
      show Steps p.tables e below (T5.setTop (mkF m 193 #[.val (.long q1), .second, .val (.long q2), .second, .val (.long q3), .second, .val (.long q4), .second, .val (.long q5), .second, .val (.int p6), .val (.int (0 : Int32)), .val (.int (((p6.toUInt32 >>> ((2 : Int32) &&& 31).toUInt32).toInt32) &&& (3 : Int32))), .val (.ref un), .val (.long x), .second, .val (.ref b2), .val (.ref b4), .unset] [(.int (0 : Int32))])) _
      exact kt
    refine sg151 _ ?_
    show Steps p.tables e below (T5.setTop (mkF m 193 #[.val (.long q1), .second, .val (.long q2), .second, .val (.long q3), .second, .val (.long q4), .second, .val (.long q5), .second, .val (.int p6), .val (.int (0 : Int32)), .val (.int (((p6.toUInt32 >>> ((2 : Int32) &&& 31).toUInt32).toInt32) &&& (3 : Int32))), .val (.ref un), .val (.long x), .second, .val (.ref b2), .val (.ref b4), .unset] [(.int (0 : Int32))])) _
    refine XS.istore X5.here hx rfl (hb hby at_193) rfl (l' := #[.val (.long q1), .second, .val (.long q2), .second, .val (.long q3), .second, .val (.long q4), .second, .val (.long q5), .second, .val (.int p6), .val (.int (0 : Int32)), .val (.int (((p6.toUInt32 >>> ((2 : Int32) &&& 31).toUInt32).toInt32) &&& (3 : Int32))), .val (.ref un), .val (.long x), .second, .val (.ref b2), .val (.ref b4), .val (.int (0 : Int32))]) rfl ?_
    show Steps p.tables e below (T5.setTop (mkF m 195 #[.val (.long q1), .second, .val (.long q2), .second, .val (.long q3), .second, .val (.long q4), .second, .val (.long q5), .second, .val (.int p6), .val (.int (0 : Int32)), .val (.int (((p6.toUInt32 >>> ((2 : Int32) &&& 31).toUInt32).toInt32) &&& (3 : Int32))), .val (.ref un), .val (.long x), .second, .val (.ref b2), .val (.ref b4), .val (.int (0 : Int32))] [])) _
    refine XS.aload X5.here hx rfl (hb hby at_195) rfl rfl ?_
    show Steps p.tables e below (T5.setTop (mkF m 197 #[.val (.long q1), .second, .val (.long q2), .second, .val (.long q3), .second, .val (.long q4), .second, .val (.long q5), .second, .val (.int p6), .val (.int (0 : Int32)), .val (.int (((p6.toUInt32 >>> ((2 : Int32) &&& 31).toUInt32).toInt32) &&& (3 : Int32))), .val (.ref un), .val (.long x), .second, .val (.ref b2), .val (.ref b4), .val (.int (0 : Int32))] [(.ref b4)])) _
    refine XS.lload X5.here hx rfl (hb hby at_197) rfl ?_
    show Steps p.tables e below (T5.setTop (mkF m 199 #[.val (.long q1), .second, .val (.long q2), .second, .val (.long q3), .second, .val (.long q4), .second, .val (.long q5), .second, .val (.int p6), .val (.int (0 : Int32)), .val (.int (((p6.toUInt32 >>> ((2 : Int32) &&& 31).toUInt32).toInt32) &&& (3 : Int32))), .val (.ref un), .val (.long x), .second, .val (.ref b2), .val (.ref b4), .val (.int (0 : Int32))] [(.long x), (.ref b4)])) _
    refine st6.trans ?_
    show Steps p.tables e below (T6.setTop (mkF m 202 #[.val (.long q1), .second, .val (.long q2), .second, .val (.long q3), .second, .val (.long q4), .second, .val (.long q5), .second, .val (.int p6), .val (.int (0 : Int32)), .val (.int (((p6.toUInt32 >>> ((2 : Int32) &&& 31).toUInt32).toInt32) &&& (3 : Int32))), .val (.ref un), .val (.long x), .second, .val (.ref b2), .val (.ref b4), .val (.int (0 : Int32))] [(.int (0 : Int32))])) _
    refine XS.iload X6.here hx rfl (hb hby at_202) rfl ?_
    show Steps p.tables e below (T6.setTop (mkF m 204 #[.val (.long q1), .second, .val (.long q2), .second, .val (.long q3), .second, .val (.long q4), .second, .val (.long q5), .second, .val (.int p6), .val (.int (0 : Int32)), .val (.int (((p6.toUInt32 >>> ((2 : Int32) &&& 31).toUInt32).toInt32) &&& (3 : Int32))), .val (.ref un), .val (.long x), .second, .val (.ref b2), .val (.ref b4), .val (.int (0 : Int32))] [(.int (0 : Int32)), (.int (0 : Int32))])) _
    refine XS.icmpNo X6.here hx rfl (hb hby at_204) rfl (teq own_eq0).2 ?_
    show Steps p.tables e below (T6.setTop (mkF m 207 #[.val (.long q1), .second, .val (.long q2), .second, .val (.long q3), .second, .val (.long q4), .second, .val (.long q5), .second, .val (.int p6), .val (.int (0 : Int32)), .val (.int (((p6.toUInt32 >>> ((2 : Int32) &&& 31).toUInt32).toInt32) &&& (3 : Int32))), .val (.ref un), .val (.long x), .second, .val (.ref b2), .val (.ref b4), .val (.int (0 : Int32))] [])) _
    refine XS.iconst X6.here hx rfl (hb hby at_207) ?_
    show Steps p.tables e below (T6.setTop (mkF m 208 #[.val (.long q1), .second, .val (.long q2), .second, .val (.long q3), .second, .val (.long q4), .second, .val (.long q5), .second, .val (.int p6), .val (.int (0 : Int32)), .val (.int (((p6.toUInt32 >>> ((2 : Int32) &&& 31).toUInt32).toInt32) &&& (3 : Int32))), .val (.ref un), .val (.long x), .second, .val (.ref b2), .val (.ref b4), .val (.int (0 : Int32))] [(.int (1 : Int32))])) _
    refine XS.goto X6.here hx rfl (pc0 := 208) (pc' := 212) rfl (hb hby at_208) (by decide) (by decide) ?_
    show Steps p.tables e below (T6.setTop (mkF m 212 #[.val (.long q1), .second, .val (.long q2), .second, .val (.long q3), .second, .val (.long q4), .second, .val (.long q5), .second, .val (.int p6), .val (.int (0 : Int32)), .val (.int (((p6.toUInt32 >>> ((2 : Int32) &&& 31).toUInt32).toInt32) &&& (3 : Int32))), .val (.ref un), .val (.long x), .second, .val (.ref b2), .val (.ref b4), .val (.int (0 : Int32))] [(.int (1 : Int32))])) _
    exact retN X6 hx (t := .boolean) Bd.returns (by simp) (hb hby at_212) hr
  · show Q_rm0_0 Z q1 q2 q3 q4 q5 p6 ds un cu h0 n0 _ T6.heap _
    rw [e6]
    exact ⟨rfl, N6⟩

theorem ef_at1_ (m : MethodId) (q1 : Int64) (q2 : Int64) (q3 : Int64) (q4 : Int64) (q5 : Int64) (p6 : Int32) : entryFrame m #[(.long q1), (.long q2), (.long q3), (.long q4), (.long q5), (.int p6)] maxLocals = mkF m 0 #[.val (.long q1), .second, .val (.long q2), .second, .val (.long q3), .second, .val (.long q4), .second, .val (.long q5), .second, .val (.int p6), .unset, .unset, .unset, .unset, .unset, .unset, .unset, .unset] [] := by first | (simp [entryFrame, mkF, argsToLocals, Value.category, maxLocals]; done) | rfl
def Q_rm0_1 (Z : State) (q1 : Int64) (q2 : Int64) (q3 : Int64) (q4 : Int64) (q5 : Int64) (p6 : Int32) (ds : Addr) (h0 : Heap) (n0 : Nat) (v : Option Value) (h : Heap) (L : List Loc) : Prop := v = some (.int (1 : Int32)) ∧ Fr n0 L
theorem pn_rm0_1 : plainName "com/example/done_by_xor/donebyxor/runtime/TupleBelongsToPinLaw" = true := by first | (simp [plainName, overriddenIn]; done) | decide +kernel
set_option maxRecDepth 65536 in
set_option maxHeartbeats 40000000 in
theorem rm0_1 (l : Launch) (Z : State) (a0 : Array Value) (hw : ∀ d ∈ tables_1, d.before a0 Z = true) (ws : List Jvm.Cond) (q1 : Int64) (q2 : Int64) (q3 : Int64) (q4 : Int64) (q5 : Int64) (p6 : Int32) (ds : Addr) (h0 : Heap) (n0 : Nat) (Z0 : n0 ≤ h0.size) (hn : (p6 &&& (3 : Int32)) = (1 : Int32)) (Sd : Sta Z h0 "java/util/ArrayList" "DEFAULTCAPACITY_EMPTY_ELEMENTDATA" "[Ljava/lang/Object;" (.ref ds))  :
    MetFree l x (head1 (Jvm.Cond.code x code maxLocals ret :: ws) room_1) (fun a U => a = #[(.long q1), (.long q2), (.long q3), (.long q4), (.long q5), (.int p6)] ∧ Z.Warmed39 U.vm ∧ U.heap = h0) (fun _ _ _ _ _ => True) (fun _ U o U' => ∃ v L, o = .returned v ∧ Q_rm0_1 Z q1 q2 q3 q4 q5 p6 ds  h0 n0 v U'.heap L ∧ FrameEnd U o U' L room_1.cells room_1.slots) := by
  refine MetFree.of_bodySF (plainFor_of_name pn_rm0_1) hisR ?_
  intro p e s m args below meth c s₁ Bd hml0 hP hK
  obtain ⟨rfl, hZ, hh⟩ := hP
  have hx := Bd.exec
  have hby := Bd.bytes
  have hml : c.maxLocals = 19 := hml0
  have hown : s.vm.findClass "com/example/done_by_xor/donebyxor/runtime/TupleBelongsToPinLaw" = some m.cls := findClass_of_methodNamed Bd.named
  have hnm := (name_of_methodNamed Bd.named Bd.method).1
  have X0 : Stand p l e room_1 s m #[(.long q1), (.long q2), (.long q3), (.long q4), (.long q5), (.int p6)] below meth c s₁ [] 0 0 := Stand.of_body Bd
  have e0 : s₁.heap = h0 := by rw [← hh, Bd.state]; rfl
  have N0 := Fr.nil n0
  have pre0 : ∀ tZ, Steps p.tables e below (s₁.setTop (mkF m 0 #[.val (.long q1), .second, .val (.long q2), .second, .val (.long q3), .second, .val (.long q4), .second, .val (.long q5), .second, .val (.int p6), .unset, .unset, .unset, .unset, .unset, .unset, .unset, .unset] [])) tZ → Steps p.tables e below (s₁.setTop (entryFrame m #[(.long q1), (.long q2), (.long q3), (.long q4), (.long q5), (.int p6)] maxLocals)) tZ := fun tZ kZ => castTop (ef_at1_ m q1 q2 q3 q4 q5 p6) kZ
  obtain ⟨T1, h1, k1, X1, e1, E1, A1, st1⟩ := newP X0 hx hZ (hw _ (List.mem_of_getElem? (i := 0) rfl)) e0 (g := (mkF m 34 #[.val (.long q1), .second, .val (.long q2), .second, .val (.long q3), .second, .val (.long q4), .second, .val (.long q5), .second, .val (.int p6), .val (.int (1 : Int32)), .val (.int (((p6.toUInt32 >>> ((2 : Int32) &&& 31).toUInt32).toInt32) &&& (3 : Int32))), .unset, .unset, .unset, .unset, .unset, .unset] [(.int (1 : Int32))])) rfl (hb hby at_34) rfl (by decide) (cap := 1) (by decide) (by decide) (by decide) (by decide)
  obtain ⟨b1, g1⟩ : ∃ z, z = h0.size := ⟨_, rfl⟩
  rw [← g1] at A1 st1
  have V1 := Arv.new A1 (by decide)
  have gr : n0 ≤ b1 := Nat.le_trans Z0 (Nat.le_of_eq g1.symm)
  have Va : Arv Z h1 b1 k1 .long (1 : Int32) [(.long (0 : Int64))] (.long (0 : Int64)) := V1.pad (pad_rep [] (.long (0 : Int64)) 1)
  have Sd_1 := Sd.ext E1
  have K_1 : Keep h0 h1 [] := (Keep.refl h0 []).ext E1
  have sr : h0.size ≤ b1 := Nat.le_of_eq g1.symm
  obtain ⟨cl0, Al0, ql0, Sl0, Nl0, Hl0, Gl0⟩ := Va
  have hin0 := inb_of (j := (0 : Int32)) Sl0 ⟨by decide, by decide⟩
  obtain ⟨T2, h2, X2, e2, W2, st2⟩ := stJ X1 hx hZ e1 Al0 (j := (0 : Int32)) hin0 (g := (mkF m 39 #[.val (.long q1), .second, .val (.long q2), .second, .val (.long q3), .second, .val (.long q4), .second, .val (.long q5), .second, .val (.int p6), .val (.int (1 : Int32)), .val (.int (((p6.toUInt32 >>> ((2 : Int32) &&& 31).toUInt32).toInt32) &&& (3 : Int32))), .unset, .unset, .unset, .unset, .unset, .unset] [(.long q1), (.int (0 : Int32)), (.ref b1), (.ref b1)])) rfl rfl (hb hby at_39)
  have Vs0 := Arv.set Al0 ql0 Sl0 Nl0 Hl0 Gl0 (v := .long q1) rfl W2 0 rfl (Nat.le_of_ble_eq_true rfl)
  have Sd_2 := Sd_1.wr W2
  have K_2 : Keep h0 h2 [] := K_1.wr W2 (Or.inr sr)
  have N_2 := Fr.snoc X2 N0 gr
  have Vf : Arv Z h2 b1 k1 .long (1 : Int32) [(.long q1)] (.long (0 : Int64)) := Vs0
  obtain ⟨x, h_x⟩ : ∃ z : Int64, z = (if (((p6.toUInt32 >>> ((2 : Int32) &&& 31).toUInt32).toInt32) &&& (3 : Int32)) = (0 : Int32) then q4 else (if (((p6.toUInt32 >>> ((2 : Int32) &&& 31).toUInt32).toInt32) &&& (3 : Int32)) = (1 : Int32) then q1 else (if (((p6.toUInt32 >>> ((2 : Int32) &&& 31).toUInt32).toInt32) &&& (3 : Int32)) = (2 : Int32) then q2 else q3))) := ⟨_, rfl⟩
  obtain ⟨T3, h3, X3, e3, E3, A3, D3, -, st3⟩ := newO X2 hx hZ hown (hw _ (List.mem_of_getElem? (i := 1) rfl)) (hw _ (List.mem_of_getElem? (i := 2) rfl)) (hw _ (List.mem_of_getElem? (i := 3) rfl)) e2 (g := (mkF m 125 #[.val (.long q1), .second, .val (.long q2), .second, .val (.long q3), .second, .val (.long q4), .second, .val (.long q5), .second, .val (.int p6), .val (.int (1 : Int32)), .val (.int (((p6.toUInt32 >>> ((2 : Int32) &&& 31).toUInt32).toInt32) &&& (3 : Int32))), .val (.ref b1), .val (.long x), .second, .unset, .unset, .unset] [])) rfl (hb hby at_125) (by decide) (by decide)
  obtain ⟨b3, g3⟩ : ∃ z, z = h2.size := ⟨_, rfl⟩
  rw [← g3] at A3 D3 st3
  have F_modCount_b3 : Fld Z h3 b3 "java/util/AbstractList" "modCount" "I" (.int (0 : Int32)) := D3 (Or.inl (hw _ (List.mem_of_getElem? (i := 23) rfl))) (ty := .int) (by decide)
  have F_elementData_b3 : Fld Z h3 b3 "java/util/ArrayList" "elementData" "[Ljava/lang/Object;" .null := D3 (Or.inl (hw _ (List.mem_of_getElem? (i := 26) rfl))) (ty := (.array (.object "java/lang/Object"))) (by decide)
  have go : n0 ≤ b3 := Nat.le_trans (Nat.le_trans Z0 K_2.1) (Nat.le_of_eq g3.symm)
  have Vg := Vf.ext E3
  have Zg : n0 ≤ h3.size := Nat.le_trans (Nat.le_trans Z0 K_2.1) E3.1
  obtain ⟨_, _, ⟨T4, L4, k4, n4⟩, -, X4, ⟨Lc4, hQ4, l4, y4, z4⟩, st4⟩ := X3.specialBack hx (y := (⟨"java/util/ArrayList", "<init>", "()V"⟩ : MethodName)) rfl hown (mvT hZ (hw _ (List.mem_of_getElem? (i := 4) rfl))) (mvT hZ (hw _ (List.mem_of_getElem? (i := 5) rfl))) (mvT hZ (hw _ (List.mem_of_getElem? (i := 6) rfl))) (by decide) (backOf (W := 1) (rmA l Z a0 hw [] b3 ds h3 n0 Zg A3 F_modCount_b3 F_elementData_b3 (Sd_2.ext E3) go) hZ (hw _ (List.mem_of_getElem? (i := 6) rfl)) (hw _ (List.mem_of_getElem? (i := 3) rfl)) (by decide) (by decide)) (g := (mkF m 129 #[.val (.long q1), .second, .val (.long q2), .second, .val (.long q3), .second, .val (.long q4), .second, .val (.long q5), .second, .val (.int p6), .val (.int (1 : Int32)), .val (.int (((p6.toUInt32 >>> ((2 : Int32) &&& 31).toUInt32).toInt32) &&& (3 : Int32))), .val (.ref b1), .val (.long x), .second, .unset, .unset, .unset] [(.ref b3), (.ref b3)])) rfl (by rw [hml]; rfl) (Steps.refl _) (a := b3) (argsL := []) (rest := [(.ref b3)]) (lenOf pd_at___V rfl) rfl (by show 2 * 0 + _ ≤ _; exact Nat.le_of_eq rfl) (hb hby at_129) (fun _ _ => ⟨rfl, e3, (by decide : 2 + 0 ≤ _), (by decide : 4 + 0 ≤ _)⟩)
  dsimp only [Pt.U, Pt.locs, Pt.cells, Pt.slots] at X4 l4 y4 z4 st4 hQ4
  subst l4 y4 z4
  obtain ⟨rfl, N4q, K4⟩ := hQ4
  have N4 := Fr.app N_2 N4q
  have nro : b1 ≠ b3 := Nat.ne_of_lt (Nat.lt_of_lt_of_le Vf.lt (Nat.le_of_eq g3.symm))
  have Vh := Vg.keep K4 (ninS nro nin0)
  obtain ⟨T5, h5, X5, e5, E5, A5, D5, -, st5⟩ := newO X4 hx hZ hown (hw _ (List.mem_of_getElem? (i := 27) rfl)) (hw _ (List.mem_of_getElem? (i := 28) rfl)) (hw _ (List.mem_of_getElem? (i := 29) rfl)) rfl (g := (mkF m 134 #[.val (.long q1), .second, .val (.long q2), .second, .val (.long q3), .second, .val (.long q4), .second, .val (.long q5), .second, .val (.int p6), .val (.int (1 : Int32)), .val (.int (((p6.toUInt32 >>> ((2 : Int32) &&& 31).toUInt32).toInt32) &&& (3 : Int32))), .val (.ref b1), .val (.long x), .second, .val (.ref b3), .unset, .unset] [])) rfl (hb hby at_134) (by decide) (by decide)
  obtain ⟨b5, g5⟩ : ∃ z, z = T4.heap.size := ⟨_, rfl⟩
  rw [← g5] at A5 D5 st5
  have F_values_b5 : Fld Z h5 b5 "com/example/done_by_xor/donebyxor/runtime/Tuple" "values" "Ljava/util/List;" .null := D5 (Or.inr (hw _ (List.mem_of_getElem? (i := 35) rfl))) (ty := (.object "java/util/List")) (by decide)
  have F_roots_b5 : Fld Z h5 b5 "com/example/done_by_xor/donebyxor/runtime/Tuple" "roots" "[J" .null := D5 (Or.inr (hw _ (List.mem_of_getElem? (i := 37) rfl))) (ty := (.array .long)) (by decide)
  have F_ackValues_b5 : Fld Z h5 b5 "com/example/done_by_xor/donebyxor/runtime/Tuple" "ackValues" "[J" .null := D5 (Or.inr (hw _ (List.mem_of_getElem? (i := 39) rfl))) (ty := (.array .long)) (by decide)
  have Vi := Vh.ext E5
  have nrt : b1 ≠ b5 := Nat.ne_of_lt (Nat.lt_of_lt_of_le Vh.lt (Nat.le_of_eq g5.symm))
  have Zi : n0 ≤ h5.size := Nat.le_trans (Nat.le_trans Zg K4.1) E5.1
  have gt : n0 ≤ b5 := Nat.le_trans (Nat.le_trans Zg K4.1) (Nat.le_of_eq g5.symm)
  obtain ⟨cj, Aj, qj, Sj, Nj, Hj, Gj⟩ := Vi
  have Vi' : Arv Z h5 b1 k1 .long (1 : Int32) [(.long q1)] (.long (0 : Int64)) := ⟨cj, Aj, qj, Sj, Nj, Hj, Gj⟩
  obtain ⟨_, _, ⟨T6, L6, k6, n6⟩, -, X6, ⟨Lc6, hQ6, l6, y6, z6⟩, st6⟩ := X5.specialBack hx (y := (⟨"com/example/done_by_xor/donebyxor/runtime/Tuple", "<init>", "(Ljava/util/List;[JJ)V"⟩ : MethodName)) rfl hown (mvT hZ (hw _ (List.mem_of_getElem? (i := 30) rfl))) (mvT hZ (hw _ (List.mem_of_getElem? (i := 31) rfl))) (mvT hZ (hw _ (List.mem_of_getElem? (i := 32) rfl))) (by decide) (backOf (W := 1) (rmT_1 l Z a0 hw [] b5 b3 b1 q5 cj h5 n0 Zi A5 F_values_b5 F_roots_b5 F_ackValues_b5 Aj Sj nrt gt) hZ (hw _ (List.mem_of_getElem? (i := 32) rfl)) (hw _ (List.mem_of_getElem? (i := 29) rfl)) (by decide) (by decide)) (g := (mkF m 144 #[.val (.long q1), .second, .val (.long q2), .second, .val (.long q3), .second, .val (.long q4), .second, .val (.long q5), .second, .val (.int p6), .val (.int (1 : Int32)), .val (.int (((p6.toUInt32 >>> ((2 : Int32) &&& 31).toUInt32).toInt32) &&& (3 : Int32))), .val (.ref b1), .val (.long x), .second, .val (.ref b3), .unset, .unset] [(.long q5), (.ref b1), (.ref b3), (.ref b5), (.ref b5)])) rfl (by rw [hml]; rfl) (Steps.refl _) (a := b5) (argsL := [(.ref b3), (.ref b1), (.long q5)]) (rest := [(.ref b5)]) (lenOf pd_at__Ljava_util_List__JJ_V rfl) rfl (by show 2 * 0 + _ ≤ _; exact Nat.le_of_eq rfl) (hb hby at_144) (fun _ _ => ⟨rfl, e5, (by decide : 3 + 1 ≤ _), (by decide : 8 + 1 ≤ _)⟩)
  dsimp only [Pt.U, Pt.locs, Pt.cells, Pt.slots] at X6 l6 y6 z6 st6 hQ6
  subst l6 y6 z6
  obtain ⟨rfl, N6q, K6, Ex6, Fr6⟩ := hQ6
  have N6 := Fr.app N4 N6q
  have Vk := Vi'.keep K6 (ninS nrt nin0)
  obtain ⟨cq7, kq7, q7a, q7b, q7c⟩ := isOf hZ rfl Ex6
  obtain ⟨_, _, ⟨T7, L7, k7, n7⟩, -, X7, ⟨Lc7, hQ7, l7, y7, z7⟩, st7⟩ := X6.virtualBack hx (y := (⟨"com/example/done_by_xor/donebyxor/runtime/Tuple", "belongsTo", "(J)Z"⟩ : MethodName)) (z := (⟨"com/example/done_by_xor/donebyxor/runtime/Tuple", "belongsTo", "(J)Z"⟩ : MethodName)) hown (mvT hZ (hw _ (List.mem_of_getElem? (i := 44) rfl))) (mvT hZ (hw _ (List.mem_of_getElem? (i := 45) rfl))) (notFace_of_selects (args := #[]) (mvT hZ (hw _ (List.mem_of_getElem? (i := 47) rfl)))) (mvT hZ (hw _ (List.mem_of_getElem? (i := 47) rfl))) (mvT hZ (hw _ (List.mem_of_getElem? (i := 46) rfl))) (by decide) (backOf (W := 0) (rmG_1 l Z a0 hw [] b5 x b1 k1 (.long (0 : Int64)) q1 T6.heap n0 (Nat.le_trans Zi K6.1) Fr6 Vk) hZ (hw _ (List.mem_of_getElem? (i := 48) rfl)) (hw _ (List.mem_of_getElem? (i := 29) rfl)) (by decide) (by decide)) q7a q7c (g := (mkF m 199 #[.val (.long q1), .second, .val (.long q2), .second, .val (.long q3), .second, .val (.long q4), .second, .val (.long q5), .second, .val (.int p6), .val (.int (1 : Int32)), .val (.int (((p6.toUInt32 >>> ((2 : Int32) &&& 31).toUInt32).toInt32) &&& (3 : Int32))), .val (.ref b1), .val (.long x), .second, .val (.ref b3), .val (.ref b5), .val (.int (if (lcmpW x q1) = (0 : Int32) then (1 : Int32) else (0 : Int32)))] [(.long x), (.ref b5)])) rfl (by rw [hml]; rfl) (Steps.refl _) (argsL := [(.long x)]) (rest := []) (lenOf pd_at__J_Z rfl) rfl (by show 2 * 0 + _ ≤ _; exact Nat.le_of_eq rfl) (hb hby at_199) (fun _ _ => ⟨rfl, rfl, (by decide : 4 + 0 ≤ _), (by decide : 9 + 0 ≤ _)⟩)
  dsimp only [Pt.U, Pt.locs, Pt.cells, Pt.slots] at X7 l7 y7 z7 st7 hQ7
  subst l7 y7 z7
  obtain ⟨rfl, N7q, e7⟩ := hQ7
  have N7 := Fr.app N6 N7q
  have own_eq1 : (if (lcmpW q1 x) = (0 : Int32) then (1 : Int32) else (0 : Int32)) = (if (lcmpW x q1) = (0 : Int32) then (1 : Int32) else (0 : Int32)) := by
    simp only [own_sym x]
  obtain ⟨fs, hr, hrun, hended, hW, hsame⟩ := X7.leave (v := some (.int (1 : Int32))) (fun h => by rw [Bd.returns] at h; cases h)
  refine ⟨_, _, pre0 _ ?_, hrun, hended, _, _, rfl, ?_, ⟨_, rfl⟩, hW, hsame.mono (by decide) (by decide)⟩
  · show Steps p.tables e below (s₁.setTop (mkF m 0 #[.val (.long q1), .second, .val (.long q2), .second, .val (.long q3), .second, .val (.long q4), .second, .val (.long q5), .second, .val (.int p6), .unset, .unset, .unset, .unset, .unset, .unset, .unset, .unset] [])) _
    refine XS.iload X0.here hx rfl (hb hby at_0) rfl ?_
    show Steps p.tables e below (s₁.setTop (mkF m 2 #[.val (.long q1), .second, .val (.long q2), .second, .val (.long q3), .second, .val (.long q4), .second, .val (.long q5), .second, .val (.int p6), .unset, .unset, .unset, .unset, .unset, .unset, .unset, .unset] [(.int p6)])) _
    refine XS.iconst X0.here hx rfl (hb hby at_2) ?_
    show Steps p.tables e below (s₁.setTop (mkF m 3 #[.val (.long q1), .second, .val (.long q2), .second, .val (.long q3), .second, .val (.long q4), .second, .val (.long q5), .second, .val (.int p6), .unset, .unset, .unset, .unset, .unset, .unset, .unset, .unset] [(.int (3 : Int32)), (.int p6)])) _
    refine XS.iand X0.here hx rfl (hb hby at_3) rfl ?_
    show Steps p.tables e below (s₁.setTop (mkF m 4 #[.val (.long q1), .second, .val (.long q2), .second, .val (.long q3), .second, .val (.long q4), .second, .val (.long q5), .second, .val (.int p6), .unset, .unset, .unset, .unset, .unset, .unset, .unset, .unset] [(.int (p6 &&& (3 : Int32)))])) _
    rw [hn]
    show Steps p.tables e below (s₁.setTop (mkF m 4 #[.val (.long q1), .second, .val (.long q2), .second, .val (.long q3), .second, .val (.long q4), .second, .val (.long q5), .second, .val (.int p6), .unset, .unset, .unset, .unset, .unset, .unset, .unset, .unset] [(.int (1 : Int32))])) _
    refine XS.istore X0.here hx rfl (hb hby at_4) rfl (l' := #[.val (.long q1), .second, .val (.long q2), .second, .val (.long q3), .second, .val (.long q4), .second, .val (.long q5), .second, .val (.int p6), .val (.int (1 : Int32)), .unset, .unset, .unset, .unset, .unset, .unset, .unset]) rfl ?_
    show Steps p.tables e below (s₁.setTop (mkF m 6 #[.val (.long q1), .second, .val (.long q2), .second, .val (.long q3), .second, .val (.long q4), .second, .val (.long q5), .second, .val (.int p6), .val (.int (1 : Int32)), .unset, .unset, .unset, .unset, .unset, .unset, .unset] [])) _
    refine XS.iload X0.here hx rfl (hb hby at_6) rfl ?_
    show Steps p.tables e below (s₁.setTop (mkF m 8 #[.val (.long q1), .second, .val (.long q2), .second, .val (.long q3), .second, .val (.long q4), .second, .val (.long q5), .second, .val (.int p6), .val (.int (1 : Int32)), .unset, .unset, .unset, .unset, .unset, .unset, .unset] [(.int p6)])) _
    refine XS.iconst X0.here hx rfl (hb hby at_8) ?_
    show Steps p.tables e below (s₁.setTop (mkF m 9 #[.val (.long q1), .second, .val (.long q2), .second, .val (.long q3), .second, .val (.long q4), .second, .val (.long q5), .second, .val (.int p6), .val (.int (1 : Int32)), .unset, .unset, .unset, .unset, .unset, .unset, .unset] [(.int (2 : Int32)), (.int p6)])) _
    refine XS.iushr X0.here hx rfl (hb hby at_9) rfl ?_
    show Steps p.tables e below (s₁.setTop (mkF m 10 #[.val (.long q1), .second, .val (.long q2), .second, .val (.long q3), .second, .val (.long q4), .second, .val (.long q5), .second, .val (.int p6), .val (.int (1 : Int32)), .unset, .unset, .unset, .unset, .unset, .unset, .unset] [(.int ((p6.toUInt32 >>> ((2 : Int32) &&& 31).toUInt32).toInt32))])) _
    refine XS.iconst X0.here hx rfl (hb hby at_10) ?_
    show Steps p.tables e below (s₁.setTop (mkF m 11 #[.val (.long q1), .second, .val (.long q2), .second, .val (.long q3), .second, .val (.long q4), .second, .val (.long q5), .second, .val (.int p6), .val (.int (1 : Int32)), .unset, .unset, .unset, .unset, .unset, .unset, .unset] [(.int (3 : Int32)), (.int ((p6.toUInt32 >>> ((2 : Int32) &&& 31).toUInt32).toInt32))])) _
    refine XS.iand X0.here hx rfl (hb hby at_11) rfl ?_
    show Steps p.tables e below (s₁.setTop (mkF m 12 #[.val (.long q1), .second, .val (.long q2), .second, .val (.long q3), .second, .val (.long q4), .second, .val (.long q5), .second, .val (.int p6), .val (.int (1 : Int32)), .unset, .unset, .unset, .unset, .unset, .unset, .unset] [(.int (((p6.toUInt32 >>> ((2 : Int32) &&& 31).toUInt32).toInt32) &&& (3 : Int32)))])) _
    refine XS.istore X0.here hx rfl (hb hby at_12) rfl (l' := #[.val (.long q1), .second, .val (.long q2), .second, .val (.long q3), .second, .val (.long q4), .second, .val (.long q5), .second, .val (.int p6), .val (.int (1 : Int32)), .val (.int (((p6.toUInt32 >>> ((2 : Int32) &&& 31).toUInt32).toInt32) &&& (3 : Int32))), .unset, .unset, .unset, .unset, .unset, .unset]) rfl ?_
    show Steps p.tables e below (s₁.setTop (mkF m 14 #[.val (.long q1), .second, .val (.long q2), .second, .val (.long q3), .second, .val (.long q4), .second, .val (.long q5), .second, .val (.int p6), .val (.int (1 : Int32)), .val (.int (((p6.toUInt32 >>> ((2 : Int32) &&& 31).toUInt32).toInt32) &&& (3 : Int32))), .unset, .unset, .unset, .unset, .unset, .unset] [])) _
    refine XS.iload X0.here hx rfl (hb hby at_14) rfl ?_
    show Steps p.tables e below (s₁.setTop (mkF m 16 #[.val (.long q1), .second, .val (.long q2), .second, .val (.long q3), .second, .val (.long q4), .second, .val (.long q5), .second, .val (.int p6), .val (.int (1 : Int32)), .val (.int (((p6.toUInt32 >>> ((2 : Int32) &&& 31).toUInt32).toInt32) &&& (3 : Int32))), .unset, .unset, .unset, .unset, .unset, .unset] [(.int (1 : Int32))])) _
    refine XS.ifYes X0.here hx rfl (pc0 := 16) (pc' := 27) rfl (hb hby at_16) rfl ((if0 _ _).trans (feq (by decide)).2) (by decide) (by decide) ?_
    show Steps p.tables e below (s₁.setTop (mkF m 27 #[.val (.long q1), .second, .val (.long q2), .second, .val (.long q3), .second, .val (.long q4), .second, .val (.long q5), .second, .val (.int p6), .val (.int (1 : Int32)), .val (.int (((p6.toUInt32 >>> ((2 : Int32) &&& 31).toUInt32).toInt32) &&& (3 : Int32))), .unset, .unset, .unset, .unset, .unset, .unset] [])) _
    refine XS.iload X0.here hx rfl (hb hby at_27) rfl ?_
    show Steps p.tables e below (s₁.setTop (mkF m 29 #[.val (.long q1), .second, .val (.long q2), .second, .val (.long q3), .second, .val (.long q4), .second, .val (.long q5), .second, .val (.int p6), .val (.int (1 : Int32)), .val (.int (((p6.toUInt32 >>> ((2 : Int32) &&& 31).toUInt32).toInt32) &&& (3 : Int32))), .unset, .unset, .unset, .unset, .unset, .unset] [(.int (1 : Int32))])) _
    refine XS.iconst X0.here hx rfl (hb hby at_29) ?_
    show Steps p.tables e below (s₁.setTop (mkF m 30 #[.val (.long q1), .second, .val (.long q2), .second, .val (.long q3), .second, .val (.long q4), .second, .val (.long q5), .second, .val (.int p6), .val (.int (1 : Int32)), .val (.int (((p6.toUInt32 >>> ((2 : Int32) &&& 31).toUInt32).toInt32) &&& (3 : Int32))), .unset, .unset, .unset, .unset, .unset, .unset] [(.int (1 : Int32)), (.int (1 : Int32))])) _
    refine XS.icmpNo X0.here hx rfl (hb hby at_30) rfl (teq (by decide)).2 ?_
    show Steps p.tables e below (s₁.setTop (mkF m 33 #[.val (.long q1), .second, .val (.long q2), .second, .val (.long q3), .second, .val (.long q4), .second, .val (.long q5), .second, .val (.int p6), .val (.int (1 : Int32)), .val (.int (((p6.toUInt32 >>> ((2 : Int32) &&& 31).toUInt32).toInt32) &&& (3 : Int32))), .unset, .unset, .unset, .unset, .unset, .unset] [])) _
    refine XS.iconst X0.here hx rfl (hb hby at_33) ?_
    show Steps p.tables e below (s₁.setTop (mkF m 34 #[.val (.long q1), .second, .val (.long q2), .second, .val (.long q3), .second, .val (.long q4), .second, .val (.long q5), .second, .val (.int p6), .val (.int (1 : Int32)), .val (.int (((p6.toUInt32 >>> ((2 : Int32) &&& 31).toUInt32).toInt32) &&& (3 : Int32))), .unset, .unset, .unset, .unset, .unset, .unset] [(.int (1 : Int32))])) _
    refine st1 _ ?_
    show Steps p.tables e below (T1.setTop (mkF m 36 #[.val (.long q1), .second, .val (.long q2), .second, .val (.long q3), .second, .val (.long q4), .second, .val (.long q5), .second, .val (.int p6), .val (.int (1 : Int32)), .val (.int (((p6.toUInt32 >>> ((2 : Int32) &&& 31).toUInt32).toInt32) &&& (3 : Int32))), .unset, .unset, .unset, .unset, .unset, .unset] [(.ref b1)])) _
    refine XS.dup X1.here hx rfl (hb hby at_36) rfl rfl ?_
    show Steps p.tables e below (T1.setTop (mkF m 37 #[.val (.long q1), .second, .val (.long q2), .second, .val (.long q3), .second, .val (.long q4), .second, .val (.long q5), .second, .val (.int p6), .val (.int (1 : Int32)), .val (.int (((p6.toUInt32 >>> ((2 : Int32) &&& 31).toUInt32).toInt32) &&& (3 : Int32))), .unset, .unset, .unset, .unset, .unset, .unset] [(.ref b1), (.ref b1)])) _
    refine XS.iconst X1.here hx rfl (hb hby at_37) ?_
    show Steps p.tables e below (T1.setTop (mkF m 38 #[.val (.long q1), .second, .val (.long q2), .second, .val (.long q3), .second, .val (.long q4), .second, .val (.long q5), .second, .val (.int p6), .val (.int (1 : Int32)), .val (.int (((p6.toUInt32 >>> ((2 : Int32) &&& 31).toUInt32).toInt32) &&& (3 : Int32))), .unset, .unset, .unset, .unset, .unset, .unset] [(.int (0 : Int32)), (.ref b1), (.ref b1)])) _
    refine XS.lloadN X1.here hx rfl (hb hby at_38) rfl ?_
    show Steps p.tables e below (T1.setTop (mkF m 39 #[.val (.long q1), .second, .val (.long q2), .second, .val (.long q3), .second, .val (.long q4), .second, .val (.long q5), .second, .val (.int p6), .val (.int (1 : Int32)), .val (.int (((p6.toUInt32 >>> ((2 : Int32) &&& 31).toUInt32).toInt32) &&& (3 : Int32))), .unset, .unset, .unset, .unset, .unset, .unset] [(.long q1), (.int (0 : Int32)), (.ref b1), (.ref b1)])) _
    refine st2 _ ?_
    show Steps p.tables e below (T2.setTop (mkF m 40 #[.val (.long q1), .second, .val (.long q2), .second, .val (.long q3), .second, .val (.long q4), .second, .val (.long q5), .second, .val (.int p6), .val (.int (1 : Int32)), .val (.int (((p6.toUInt32 >>> ((2 : Int32) &&& 31).toUInt32).toInt32) &&& (3 : Int32))), .unset, .unset, .unset, .unset, .unset, .unset] [(.ref b1)])) _
    refine XS.astore X2.here hx rfl (hb hby at_40) rfl rfl (l' := #[.val (.long q1), .second, .val (.long q2), .second, .val (.long q3), .second, .val (.long q4), .second, .val (.long q5), .second, .val (.int p6), .val (.int (1 : Int32)), .val (.int (((p6.toUInt32 >>> ((2 : Int32) &&& 31).toUInt32).toInt32) &&& (3 : Int32))), .val (.ref b1), .unset, .unset, .unset, .unset, .unset]) rfl ?_
    show Steps p.tables e below (T2.setTop (mkF m 42 #[.val (.long q1), .second, .val (.long q2), .second, .val (.long q3), .second, .val (.long q4), .second, .val (.long q5), .second, .val (.int p6), .val (.int (1 : Int32)), .val (.int (((p6.toUInt32 >>> ((2 : Int32) &&& 31).toUInt32).toInt32) &&& (3 : Int32))), .val (.ref b1), .unset, .unset, .unset, .unset, .unset] [])) _
    refine XS.goto X2.here hx rfl (pc0 := 42) (pc' := 85) rfl (hb hby at_42) (by decide) (by decide) ?_
    show Steps p.tables e below (T2.setTop (mkF m 85 #[.val (.long q1), .second, .val (.long q2), .second, .val (.long q3), .second, .val (.long q4), .second, .val (.long q5), .second, .val (.int p6), .val (.int (1 : Int32)), .val (.int (((p6.toUInt32 >>> ((2 : Int32) &&& 31).toUInt32).toInt32) &&& (3 : Int32))), .val (.ref b1), .unset, .unset, .unset, .unset, .unset] [])) _
    refine XS.iload X2.here hx rfl (hb hby at_85) rfl ?_
    show Steps p.tables e below (T2.setTop (mkF m 87 #[.val (.long q1), .second, .val (.long q2), .second, .val (.long q3), .second, .val (.long q4), .second, .val (.long q5), .second, .val (.int p6), .val (.int (1 : Int32)), .val (.int (((p6.toUInt32 >>> ((2 : Int32) &&& 31).toUInt32).toInt32) &&& (3 : Int32))), .val (.ref b1), .unset, .unset, .unset, .unset, .unset] [(.int (((p6.toUInt32 >>> ((2 : Int32) &&& 31).toUInt32).toInt32) &&& (3 : Int32)))])) _
    have sg87 : ∀ target, Steps p.tables e below (T2.setTop (mkF m 125 #[.val (.long q1), .second, .val (.long q2), .second, .val (.long q3), .second, .val (.long q4), .second, .val (.long q5), .second, .val (.int p6), .val (.int (1 : Int32)), .val (.int (((p6.toUInt32 >>> ((2 : Int32) &&& 31).toUInt32).toInt32) &&& (3 : Int32))), .val (.ref b1), .val (.long (if (((p6.toUInt32 >>> ((2 : Int32) &&& 31).toUInt32).toInt32) &&& (3 : Int32)) = (0 : Int32) then q4 else (if (((p6.toUInt32 >>> ((2 : Int32) &&& 31).toUInt32).toInt32) &&& (3 : Int32)) = (1 : Int32) then q1 else (if (((p6.toUInt32 >>> ((2 : Int32) &&& 31).toUInt32).toInt32) &&& (3 : Int32)) = (2 : Int32) then q2 else q3)))), .second, .unset, .unset, .unset] [])) target → Steps p.tables e below (T2.setTop (mkF m 87 #[.val (.long q1), .second, .val (.long q2), .second, .val (.long q3), .second, .val (.long q4), .second, .val (.long q5), .second, .val (.int p6), .val (.int (1 : Int32)), .val (.int (((p6.toUInt32 >>> ((2 : Int32) &&& 31).toUInt32).toInt32) &&& (3 : Int32))), .val (.ref b1), .unset, .unset, .unset, .unset, .unset] [(.int (((p6.toUInt32 >>> ((2 : Int32) &&& 31).toUInt32).toInt32) &&& (3 : Int32)))])) target := by
      intro target kt
      rcases Classical.em ((((p6.toUInt32 >>> ((2 : Int32) &&& 31).toUInt32).toInt32) &&& (3 : Int32)) = (0 : Int32)) with hr87_0 | hr87_0
      · (try simp only [if_pos hr87_0] at kt)
        refine XS.ifNo X2.here hx rfl (hb hby at_87) rfl ((if0 _ _).trans (teq hr87_0).2) ?_
        show Steps p.tables e below (T2.setTop (mkF m 90 #[.val (.long q1), .second, .val (.long q2), .second, .val (.long q3), .second, .val (.long q4), .second, .val (.long q5), .second, .val (.int p6), .val (.int (1 : Int32)), .val (.int (((p6.toUInt32 >>> ((2 : Int32) &&& 31).toUInt32).toInt32) &&& (3 : Int32))), .val (.ref b1), .unset, .unset, .unset, .unset, .unset] [])) _
        refine XS.lload X2.here hx rfl (hb hby at_90) rfl ?_
        show Steps p.tables e below (T2.setTop (mkF m 92 #[.val (.long q1), .second, .val (.long q2), .second, .val (.long q3), .second, .val (.long q4), .second, .val (.long q5), .second, .val (.int p6), .val (.int (1 : Int32)), .val (.int (((p6.toUInt32 >>> ((2 : Int32) &&& 31).toUInt32).toInt32) &&& (3 : Int32))), .val (.ref b1), .unset, .unset, .unset, .unset, .unset] [(.long q4)])) _
        refine XS.lstore X2.here hx rfl (hb hby at_92) rfl (l' := #[.val (.long q1), .second, .val (.long q2), .second, .val (.long q3), .second, .val (.long q4), .second, .val (.long q5), .second, .val (.int p6), .val (.int (1 : Int32)), .val (.int (((p6.toUInt32 >>> ((2 : Int32) &&& 31).toUInt32).toInt32) &&& (3 : Int32))), .val (.ref b1), .val (.long q4), .second, .unset, .unset, .unset]) rfl ?_
        show Steps p.tables e below (T2.setTop (mkF m 94 #[.val (.long q1), .second, .val (.long q2), .second, .val (.long q3), .second, .val (.long q4), .second, .val (.long q5), .second, .val (.int p6), .val (.int (1 : Int32)), .val (.int (((p6.toUInt32 >>> ((2 : Int32) &&& 31).toUInt32).toInt32) &&& (3 : Int32))), .val (.ref b1), .val (.long q4), .second, .unset, .unset, .unset] [])) _
        refine XS.goto X2.here hx rfl (pc0 := 94) (pc' := 125) rfl (hb hby at_94) (by decide) (by decide) ?_
        show Steps p.tables e below (T2.setTop (mkF m 125 #[.val (.long q1), .second, .val (.long q2), .second, .val (.long q3), .second, .val (.long q4), .second, .val (.long q5), .second, .val (.int p6), .val (.int (1 : Int32)), .val (.int (((p6.toUInt32 >>> ((2 : Int32) &&& 31).toUInt32).toInt32) &&& (3 : Int32))), .val (.ref b1), .val (.long q4), .second, .unset, .unset, .unset] [])) _
        exact kt
      · (try simp only [if_neg hr87_0] at kt)
        refine XS.ifYes X2.here hx rfl (pc0 := 87) (pc' := 97) rfl (hb hby at_87) rfl ((if0 _ _).trans (feq hr87_0).2) (by decide) (by decide) ?_
        show Steps p.tables e below (T2.setTop (mkF m 97 #[.val (.long q1), .second, .val (.long q2), .second, .val (.long q3), .second, .val (.long q4), .second, .val (.long q5), .second, .val (.int p6), .val (.int (1 : Int32)), .val (.int (((p6.toUInt32 >>> ((2 : Int32) &&& 31).toUInt32).toInt32) &&& (3 : Int32))), .val (.ref b1), .unset, .unset, .unset, .unset, .unset] [])) _
        refine XS.iload X2.here hx rfl (hb hby at_97) rfl ?_
        show Steps p.tables e below (T2.setTop (mkF m 99 #[.val (.long q1), .second, .val (.long q2), .second, .val (.long q3), .second, .val (.long q4), .second, .val (.long q5), .second, .val (.int p6), .val (.int (1 : Int32)), .val (.int (((p6.toUInt32 >>> ((2 : Int32) &&& 31).toUInt32).toInt32) &&& (3 : Int32))), .val (.ref b1), .unset, .unset, .unset, .unset, .unset] [(.int (((p6.toUInt32 >>> ((2 : Int32) &&& 31).toUInt32).toInt32) &&& (3 : Int32)))])) _
        refine XS.iconst X2.here hx rfl (hb hby at_99) ?_
        show Steps p.tables e below (T2.setTop (mkF m 100 #[.val (.long q1), .second, .val (.long q2), .second, .val (.long q3), .second, .val (.long q4), .second, .val (.long q5), .second, .val (.int p6), .val (.int (1 : Int32)), .val (.int (((p6.toUInt32 >>> ((2 : Int32) &&& 31).toUInt32).toInt32) &&& (3 : Int32))), .val (.ref b1), .unset, .unset, .unset, .unset, .unset] [(.int (1 : Int32)), (.int (((p6.toUInt32 >>> ((2 : Int32) &&& 31).toUInt32).toInt32) &&& (3 : Int32)))])) _
        rcases Classical.em ((((p6.toUInt32 >>> ((2 : Int32) &&& 31).toUInt32).toInt32) &&& (3 : Int32)) = (1 : Int32)) with hr100_1 | hr100_1
        · (try simp only [if_pos hr100_1] at kt)
          refine XS.icmpNo X2.here hx rfl (hb hby at_100) rfl (teq hr100_1).2 ?_
          show Steps p.tables e below (T2.setTop (mkF m 103 #[.val (.long q1), .second, .val (.long q2), .second, .val (.long q3), .second, .val (.long q4), .second, .val (.long q5), .second, .val (.int p6), .val (.int (1 : Int32)), .val (.int (((p6.toUInt32 >>> ((2 : Int32) &&& 31).toUInt32).toInt32) &&& (3 : Int32))), .val (.ref b1), .unset, .unset, .unset, .unset, .unset] [])) _
          refine XS.lloadN X2.here hx rfl (hb hby at_103) rfl ?_
          show Steps p.tables e below (T2.setTop (mkF m 104 #[.val (.long q1), .second, .val (.long q2), .second, .val (.long q3), .second, .val (.long q4), .second, .val (.long q5), .second, .val (.int p6), .val (.int (1 : Int32)), .val (.int (((p6.toUInt32 >>> ((2 : Int32) &&& 31).toUInt32).toInt32) &&& (3 : Int32))), .val (.ref b1), .unset, .unset, .unset, .unset, .unset] [(.long q1)])) _
          refine XS.lstore X2.here hx rfl (hb hby at_104) rfl (l' := #[.val (.long q1), .second, .val (.long q2), .second, .val (.long q3), .second, .val (.long q4), .second, .val (.long q5), .second, .val (.int p6), .val (.int (1 : Int32)), .val (.int (((p6.toUInt32 >>> ((2 : Int32) &&& 31).toUInt32).toInt32) &&& (3 : Int32))), .val (.ref b1), .val (.long q1), .second, .unset, .unset, .unset]) rfl ?_
          show Steps p.tables e below (T2.setTop (mkF m 106 #[.val (.long q1), .second, .val (.long q2), .second, .val (.long q3), .second, .val (.long q4), .second, .val (.long q5), .second, .val (.int p6), .val (.int (1 : Int32)), .val (.int (((p6.toUInt32 >>> ((2 : Int32) &&& 31).toUInt32).toInt32) &&& (3 : Int32))), .val (.ref b1), .val (.long q1), .second, .unset, .unset, .unset] [])) _
          refine XS.goto X2.here hx rfl (pc0 := 106) (pc' := 125) rfl (hb hby at_106) (by decide) (by decide) ?_
          show Steps p.tables e below (T2.setTop (mkF m 125 #[.val (.long q1), .second, .val (.long q2), .second, .val (.long q3), .second, .val (.long q4), .second, .val (.long q5), .second, .val (.int p6), .val (.int (1 : Int32)), .val (.int (((p6.toUInt32 >>> ((2 : Int32) &&& 31).toUInt32).toInt32) &&& (3 : Int32))), .val (.ref b1), .val (.long q1), .second, .unset, .unset, .unset] [])) _
          exact kt
        · (try simp only [if_neg hr100_1] at kt)
          refine XS.icmpYes X2.here hx rfl (pc0 := 100) (pc' := 109) rfl (hb hby at_100) rfl (feq hr100_1).2 (by decide) (by decide) ?_
          show Steps p.tables e below (T2.setTop (mkF m 109 #[.val (.long q1), .second, .val (.long q2), .second, .val (.long q3), .second, .val (.long q4), .second, .val (.long q5), .second, .val (.int p6), .val (.int (1 : Int32)), .val (.int (((p6.toUInt32 >>> ((2 : Int32) &&& 31).toUInt32).toInt32) &&& (3 : Int32))), .val (.ref b1), .unset, .unset, .unset, .unset, .unset] [])) _
          refine XS.iload X2.here hx rfl (hb hby at_109) rfl ?_
          show Steps p.tables e below (T2.setTop (mkF m 111 #[.val (.long q1), .second, .val (.long q2), .second, .val (.long q3), .second, .val (.long q4), .second, .val (.long q5), .second, .val (.int p6), .val (.int (1 : Int32)), .val (.int (((p6.toUInt32 >>> ((2 : Int32) &&& 31).toUInt32).toInt32) &&& (3 : Int32))), .val (.ref b1), .unset, .unset, .unset, .unset, .unset] [(.int (((p6.toUInt32 >>> ((2 : Int32) &&& 31).toUInt32).toInt32) &&& (3 : Int32)))])) _
          refine XS.iconst X2.here hx rfl (hb hby at_111) ?_
          show Steps p.tables e below (T2.setTop (mkF m 112 #[.val (.long q1), .second, .val (.long q2), .second, .val (.long q3), .second, .val (.long q4), .second, .val (.long q5), .second, .val (.int p6), .val (.int (1 : Int32)), .val (.int (((p6.toUInt32 >>> ((2 : Int32) &&& 31).toUInt32).toInt32) &&& (3 : Int32))), .val (.ref b1), .unset, .unset, .unset, .unset, .unset] [(.int (2 : Int32)), (.int (((p6.toUInt32 >>> ((2 : Int32) &&& 31).toUInt32).toInt32) &&& (3 : Int32)))])) _
          rcases Classical.em ((((p6.toUInt32 >>> ((2 : Int32) &&& 31).toUInt32).toInt32) &&& (3 : Int32)) = (2 : Int32)) with hr112_2 | hr112_2
          · (try simp only [if_pos hr112_2] at kt)
            refine XS.icmpNo X2.here hx rfl (hb hby at_112) rfl (teq hr112_2).2 ?_
            show Steps p.tables e below (T2.setTop (mkF m 115 #[.val (.long q1), .second, .val (.long q2), .second, .val (.long q3), .second, .val (.long q4), .second, .val (.long q5), .second, .val (.int p6), .val (.int (1 : Int32)), .val (.int (((p6.toUInt32 >>> ((2 : Int32) &&& 31).toUInt32).toInt32) &&& (3 : Int32))), .val (.ref b1), .unset, .unset, .unset, .unset, .unset] [])) _
            refine XS.lloadN X2.here hx rfl (hb hby at_115) rfl ?_
            show Steps p.tables e below (T2.setTop (mkF m 116 #[.val (.long q1), .second, .val (.long q2), .second, .val (.long q3), .second, .val (.long q4), .second, .val (.long q5), .second, .val (.int p6), .val (.int (1 : Int32)), .val (.int (((p6.toUInt32 >>> ((2 : Int32) &&& 31).toUInt32).toInt32) &&& (3 : Int32))), .val (.ref b1), .unset, .unset, .unset, .unset, .unset] [(.long q2)])) _
            refine XS.lstore X2.here hx rfl (hb hby at_116) rfl (l' := #[.val (.long q1), .second, .val (.long q2), .second, .val (.long q3), .second, .val (.long q4), .second, .val (.long q5), .second, .val (.int p6), .val (.int (1 : Int32)), .val (.int (((p6.toUInt32 >>> ((2 : Int32) &&& 31).toUInt32).toInt32) &&& (3 : Int32))), .val (.ref b1), .val (.long q2), .second, .unset, .unset, .unset]) rfl ?_
            show Steps p.tables e below (T2.setTop (mkF m 118 #[.val (.long q1), .second, .val (.long q2), .second, .val (.long q3), .second, .val (.long q4), .second, .val (.long q5), .second, .val (.int p6), .val (.int (1 : Int32)), .val (.int (((p6.toUInt32 >>> ((2 : Int32) &&& 31).toUInt32).toInt32) &&& (3 : Int32))), .val (.ref b1), .val (.long q2), .second, .unset, .unset, .unset] [])) _
            refine XS.goto X2.here hx rfl (pc0 := 118) (pc' := 125) rfl (hb hby at_118) (by decide) (by decide) ?_
            show Steps p.tables e below (T2.setTop (mkF m 125 #[.val (.long q1), .second, .val (.long q2), .second, .val (.long q3), .second, .val (.long q4), .second, .val (.long q5), .second, .val (.int p6), .val (.int (1 : Int32)), .val (.int (((p6.toUInt32 >>> ((2 : Int32) &&& 31).toUInt32).toInt32) &&& (3 : Int32))), .val (.ref b1), .val (.long q2), .second, .unset, .unset, .unset] [])) _
            exact kt
          · (try simp only [if_neg hr112_2] at kt)
            refine XS.icmpYes X2.here hx rfl (pc0 := 112) (pc' := 121) rfl (hb hby at_112) rfl (feq hr112_2).2 (by decide) (by decide) ?_
            show Steps p.tables e below (T2.setTop (mkF m 121 #[.val (.long q1), .second, .val (.long q2), .second, .val (.long q3), .second, .val (.long q4), .second, .val (.long q5), .second, .val (.int p6), .val (.int (1 : Int32)), .val (.int (((p6.toUInt32 >>> ((2 : Int32) &&& 31).toUInt32).toInt32) &&& (3 : Int32))), .val (.ref b1), .unset, .unset, .unset, .unset, .unset] [])) _
            refine XS.lload X2.here hx rfl (hb hby at_121) rfl ?_
            show Steps p.tables e below (T2.setTop (mkF m 123 #[.val (.long q1), .second, .val (.long q2), .second, .val (.long q3), .second, .val (.long q4), .second, .val (.long q5), .second, .val (.int p6), .val (.int (1 : Int32)), .val (.int (((p6.toUInt32 >>> ((2 : Int32) &&& 31).toUInt32).toInt32) &&& (3 : Int32))), .val (.ref b1), .unset, .unset, .unset, .unset, .unset] [(.long q3)])) _
            refine XS.lstore X2.here hx rfl (hb hby at_123) rfl (l' := #[.val (.long q1), .second, .val (.long q2), .second, .val (.long q3), .second, .val (.long q4), .second, .val (.long q5), .second, .val (.int p6), .val (.int (1 : Int32)), .val (.int (((p6.toUInt32 >>> ((2 : Int32) &&& 31).toUInt32).toInt32) &&& (3 : Int32))), .val (.ref b1), .val (.long q3), .second, .unset, .unset, .unset]) rfl ?_
            show Steps p.tables e below (T2.setTop (mkF m 125 #[.val (.long q1), .second, .val (.long q2), .second, .val (.long q3), .second, .val (.long q4), .second, .val (.long q5), .second, .val (.int p6), .val (.int (1 : Int32)), .val (.int (((p6.toUInt32 >>> ((2 : Int32) &&& 31).toUInt32).toInt32) &&& (3 : Int32))), .val (.ref b1), .val (.long q3), .second, .unset, .unset, .unset] [])) _
            exact kt
    refine sg87 _ ?_
    show Steps p.tables e below (T2.setTop (mkF m 125 #[.val (.long q1), .second, .val (.long q2), .second, .val (.long q3), .second, .val (.long q4), .second, .val (.long q5), .second, .val (.int p6), .val (.int (1 : Int32)), .val (.int (((p6.toUInt32 >>> ((2 : Int32) &&& 31).toUInt32).toInt32) &&& (3 : Int32))), .val (.ref b1), .val (.long (if (((p6.toUInt32 >>> ((2 : Int32) &&& 31).toUInt32).toInt32) &&& (3 : Int32)) = (0 : Int32) then q4 else (if (((p6.toUInt32 >>> ((2 : Int32) &&& 31).toUInt32).toInt32) &&& (3 : Int32)) = (1 : Int32) then q1 else (if (((p6.toUInt32 >>> ((2 : Int32) &&& 31).toUInt32).toInt32) &&& (3 : Int32)) = (2 : Int32) then q2 else q3)))), .second, .unset, .unset, .unset] [])) _
    rw [← h_x]
    show Steps p.tables e below (T2.setTop (mkF m 125 #[.val (.long q1), .second, .val (.long q2), .second, .val (.long q3), .second, .val (.long q4), .second, .val (.long q5), .second, .val (.int p6), .val (.int (1 : Int32)), .val (.int (((p6.toUInt32 >>> ((2 : Int32) &&& 31).toUInt32).toInt32) &&& (3 : Int32))), .val (.ref b1), .val (.long x), .second, .unset, .unset, .unset] [])) _
    refine st3 _ ?_
    show Steps p.tables e below (T3.setTop (mkF m 128 #[.val (.long q1), .second, .val (.long q2), .second, .val (.long q3), .second, .val (.long q4), .second, .val (.long q5), .second, .val (.int p6), .val (.int (1 : Int32)), .val (.int (((p6.toUInt32 >>> ((2 : Int32) &&& 31).toUInt32).toInt32) &&& (3 : Int32))), .val (.ref b1), .val (.long x), .second, .unset, .unset, .unset] [(.ref b3)])) _
    refine XS.dup X3.here hx rfl (hb hby at_128) rfl rfl ?_
    show Steps p.tables e below (T3.setTop (mkF m 129 #[.val (.long q1), .second, .val (.long q2), .second, .val (.long q3), .second, .val (.long q4), .second, .val (.long q5), .second, .val (.int p6), .val (.int (1 : Int32)), .val (.int (((p6.toUInt32 >>> ((2 : Int32) &&& 31).toUInt32).toInt32) &&& (3 : Int32))), .val (.ref b1), .val (.long x), .second, .unset, .unset, .unset] [(.ref b3), (.ref b3)])) _
    refine st4.trans ?_
    show Steps p.tables e below (T4.setTop (mkF m 132 #[.val (.long q1), .second, .val (.long q2), .second, .val (.long q3), .second, .val (.long q4), .second, .val (.long q5), .second, .val (.int p6), .val (.int (1 : Int32)), .val (.int (((p6.toUInt32 >>> ((2 : Int32) &&& 31).toUInt32).toInt32) &&& (3 : Int32))), .val (.ref b1), .val (.long x), .second, .unset, .unset, .unset] [(.ref b3)])) _
    refine XS.astore X4.here hx rfl (hb hby at_132) rfl rfl (l' := #[.val (.long q1), .second, .val (.long q2), .second, .val (.long q3), .second, .val (.long q4), .second, .val (.long q5), .second, .val (.int p6), .val (.int (1 : Int32)), .val (.int (((p6.toUInt32 >>> ((2 : Int32) &&& 31).toUInt32).toInt32) &&& (3 : Int32))), .val (.ref b1), .val (.long x), .second, .val (.ref b3), .unset, .unset]) rfl ?_
    show Steps p.tables e below (T4.setTop (mkF m 134 #[.val (.long q1), .second, .val (.long q2), .second, .val (.long q3), .second, .val (.long q4), .second, .val (.long q5), .second, .val (.int p6), .val (.int (1 : Int32)), .val (.int (((p6.toUInt32 >>> ((2 : Int32) &&& 31).toUInt32).toInt32) &&& (3 : Int32))), .val (.ref b1), .val (.long x), .second, .val (.ref b3), .unset, .unset] [])) _
    refine st5 _ ?_
    show Steps p.tables e below (T5.setTop (mkF m 137 #[.val (.long q1), .second, .val (.long q2), .second, .val (.long q3), .second, .val (.long q4), .second, .val (.long q5), .second, .val (.int p6), .val (.int (1 : Int32)), .val (.int (((p6.toUInt32 >>> ((2 : Int32) &&& 31).toUInt32).toInt32) &&& (3 : Int32))), .val (.ref b1), .val (.long x), .second, .val (.ref b3), .unset, .unset] [(.ref b5)])) _
    refine XS.dup X5.here hx rfl (hb hby at_137) rfl rfl ?_
    show Steps p.tables e below (T5.setTop (mkF m 138 #[.val (.long q1), .second, .val (.long q2), .second, .val (.long q3), .second, .val (.long q4), .second, .val (.long q5), .second, .val (.int p6), .val (.int (1 : Int32)), .val (.int (((p6.toUInt32 >>> ((2 : Int32) &&& 31).toUInt32).toInt32) &&& (3 : Int32))), .val (.ref b1), .val (.long x), .second, .val (.ref b3), .unset, .unset] [(.ref b5), (.ref b5)])) _
    refine XS.aload X5.here hx rfl (hb hby at_138) rfl rfl ?_
    show Steps p.tables e below (T5.setTop (mkF m 140 #[.val (.long q1), .second, .val (.long q2), .second, .val (.long q3), .second, .val (.long q4), .second, .val (.long q5), .second, .val (.int p6), .val (.int (1 : Int32)), .val (.int (((p6.toUInt32 >>> ((2 : Int32) &&& 31).toUInt32).toInt32) &&& (3 : Int32))), .val (.ref b1), .val (.long x), .second, .val (.ref b3), .unset, .unset] [(.ref b3), (.ref b5), (.ref b5)])) _
    refine XS.aload X5.here hx rfl (hb hby at_140) rfl rfl ?_
    show Steps p.tables e below (T5.setTop (mkF m 142 #[.val (.long q1), .second, .val (.long q2), .second, .val (.long q3), .second, .val (.long q4), .second, .val (.long q5), .second, .val (.int p6), .val (.int (1 : Int32)), .val (.int (((p6.toUInt32 >>> ((2 : Int32) &&& 31).toUInt32).toInt32) &&& (3 : Int32))), .val (.ref b1), .val (.long x), .second, .val (.ref b3), .unset, .unset] [(.ref b1), (.ref b3), (.ref b5), (.ref b5)])) _
    refine XS.lload X5.here hx rfl (hb hby at_142) rfl ?_
    show Steps p.tables e below (T5.setTop (mkF m 144 #[.val (.long q1), .second, .val (.long q2), .second, .val (.long q3), .second, .val (.long q4), .second, .val (.long q5), .second, .val (.int p6), .val (.int (1 : Int32)), .val (.int (((p6.toUInt32 >>> ((2 : Int32) &&& 31).toUInt32).toInt32) &&& (3 : Int32))), .val (.ref b1), .val (.long x), .second, .val (.ref b3), .unset, .unset] [(.long q5), (.ref b1), (.ref b3), (.ref b5), (.ref b5)])) _
    refine st6.trans ?_
    show Steps p.tables e below (T6.setTop (mkF m 147 #[.val (.long q1), .second, .val (.long q2), .second, .val (.long q3), .second, .val (.long q4), .second, .val (.long q5), .second, .val (.int p6), .val (.int (1 : Int32)), .val (.int (((p6.toUInt32 >>> ((2 : Int32) &&& 31).toUInt32).toInt32) &&& (3 : Int32))), .val (.ref b1), .val (.long x), .second, .val (.ref b3), .unset, .unset] [(.ref b5)])) _
    refine XS.astore X6.here hx rfl (hb hby at_147) rfl rfl (l' := #[.val (.long q1), .second, .val (.long q2), .second, .val (.long q3), .second, .val (.long q4), .second, .val (.long q5), .second, .val (.int p6), .val (.int (1 : Int32)), .val (.int (((p6.toUInt32 >>> ((2 : Int32) &&& 31).toUInt32).toInt32) &&& (3 : Int32))), .val (.ref b1), .val (.long x), .second, .val (.ref b3), .val (.ref b5), .unset]) rfl ?_
    show Steps p.tables e below (T6.setTop (mkF m 149 #[.val (.long q1), .second, .val (.long q2), .second, .val (.long q3), .second, .val (.long q4), .second, .val (.long q5), .second, .val (.int p6), .val (.int (1 : Int32)), .val (.int (((p6.toUInt32 >>> ((2 : Int32) &&& 31).toUInt32).toInt32) &&& (3 : Int32))), .val (.ref b1), .val (.long x), .second, .val (.ref b3), .val (.ref b5), .unset] [])) _
    refine XS.iload X6.here hx rfl (hb hby at_149) rfl ?_
    show Steps p.tables e below (T6.setTop (mkF m 151 #[.val (.long q1), .second, .val (.long q2), .second, .val (.long q3), .second, .val (.long q4), .second, .val (.long q5), .second, .val (.int p6), .val (.int (1 : Int32)), .val (.int (((p6.toUInt32 >>> ((2 : Int32) &&& 31).toUInt32).toInt32) &&& (3 : Int32))), .val (.ref b1), .val (.long x), .second, .val (.ref b3), .val (.ref b5), .unset] [(.int (1 : Int32))])) _
    have sg151 : ∀ target, Steps p.tables e below (T6.setTop (mkF m 193 #[.val (.long q1), .second, .val (.long q2), .second, .val (.long q3), .second, .val (.long q4), .second, .val (.long q5), .second, .val (.int p6), .val (.int (1 : Int32)), .val (.int (((p6.toUInt32 >>> ((2 : Int32) &&& 31).toUInt32).toInt32) &&& (3 : Int32))), .val (.ref b1), .val (.long x), .second, .val (.ref b3), .val (.ref b5), .unset] [(.int (if (lcmpW x q1) = (0 : Int32) then (1 : Int32) else (0 : Int32)))])) target → Steps p.tables e below (T6.setTop (mkF m 151 #[.val (.long q1), .second, .val (.long q2), .second, .val (.long q3), .second, .val (.long q4), .second, .val (.long q5), .second, .val (.int p6), .val (.int (1 : Int32)), .val (.int (((p6.toUInt32 >>> ((2 : Int32) &&& 31).toUInt32).toInt32) &&& (3 : Int32))), .val (.ref b1), .val (.long x), .second, .val (.ref b3), .val (.ref b5), .unset] [(.int (1 : Int32))])) target := by
      intro target kt
      refine XS.ifNo X6.here hx rfl (hb hby at_151) rfl ((if0 _ _).trans (tlt (by decide)).2.2.2) ?_
      show Steps p.tables e below (T6.setTop (mkF m 154 #[.val (.long q1), .second, .val (.long q2), .second, .val (.long q3), .second, .val (.long q4), .second, .val (.long q5), .second, .val (.int p6), .val (.int (1 : Int32)), .val (.int (((p6.toUInt32 >>> ((2 : Int32) &&& 31).toUInt32).toInt32) &&& (3 : Int32))), .val (.ref b1), .val (.long x), .second, .val (.ref b3), .val (.ref b5), .unset] [])) _
      refine XS.lload X6.here hx rfl (hb hby at_154) rfl ?_
      show Steps p.tables e below (T6.setTop (mkF m 156 #[.val (.long q1), .second, .val (.long q2), .second, .val (.long q3), .second, .val (.long q4), .second, .val (.long q5), .second, .val (.int p6), .val (.int (1 : Int32)), .val (.int (((p6.toUInt32 >>> ((2 : Int32) &&& 31).toUInt32).toInt32) &&& (3 : Int32))), .val (.ref b1), .val (.long x), .second, .val (.ref b3), .val (.ref b5), .unset] [(.long x)])) _
      refine XS.lloadN X6.here hx rfl (hb hby at_156) rfl ?_
      show Steps p.tables e below (T6.setTop (mkF m 157 #[.val (.long q1), .second, .val (.long q2), .second, .val (.long q3), .second, .val (.long q4), .second, .val (.long q5), .second, .val (.int p6), .val (.int (1 : Int32)), .val (.int (((p6.toUInt32 >>> ((2 : Int32) &&& 31).toUInt32).toInt32) &&& (3 : Int32))), .val (.ref b1), .val (.long x), .second, .val (.ref b3), .val (.ref b5), .unset] [(.long q1), (.long x)])) _
      refine XS.lcmp X6.here hx rfl (hb hby at_157) rfl ?_
      show Steps p.tables e below (T6.setTop (mkF m 158 #[.val (.long q1), .second, .val (.long q2), .second, .val (.long q3), .second, .val (.long q4), .second, .val (.long q5), .second, .val (.int p6), .val (.int (1 : Int32)), .val (.int (((p6.toUInt32 >>> ((2 : Int32) &&& 31).toUInt32).toInt32) &&& (3 : Int32))), .val (.ref b1), .val (.long x), .second, .val (.ref b3), .val (.ref b5), .unset] [(.int (lcmpW x q1))])) _
      rcases Classical.em ((lcmpW x q1) = (0 : Int32)) with hr158_0 | hr158_0
      · (try simp only [if_pos hr158_0] at kt)
        refine XS.ifYes X6.here hx rfl (pc0 := 158) (pc' := 188) rfl (hb hby at_158) rfl ((if0 _ _).trans (teq hr158_0).1) (by decide) (by decide) ?_
        show Steps p.tables e below (T6.setTop (mkF m 188 #[.val (.long q1), .second, .val (.long q2), .second, .val (.long q3), .second, .val (.long q4), .second, .val (.long q5), .second, .val (.int p6), .val (.int (1 : Int32)), .val (.int (((p6.toUInt32 >>> ((2 : Int32) &&& 31).toUInt32).toInt32) &&& (3 : Int32))), .val (.ref b1), .val (.long x), .second, .val (.ref b3), .val (.ref b5), .unset] [])) _
        refine XS.iconst X6.here hx rfl (hb hby at_188) ?_
        show Steps p.tables e below (T6.setTop (mkF m 189 #[.val (.long q1), .second, .val (.long q2), .second, .val (.long q3), .second, .val (.long q4), .second, .val (.long q5), .second, .val (.int p6), .val (.int (1 : Int32)), .val (.int (((p6.toUInt32 >>> ((2 : Int32) &&& 31).toUInt32).toInt32) &&& (3 : Int32))), .val (.ref b1), .val (.long x), .second, .val (.ref b3), .val (.ref b5), .unset] [(.int (1 : Int32))])) _
        refine XS.goto X6.here hx rfl (pc0 := 189) (pc' := 193) rfl (hb hby at_189) (by decide) (by decide) ?_
        show Steps p.tables e below (T6.setTop (mkF m 193 #[.val (.long q1), .second, .val (.long q2), .second, .val (.long q3), .second, .val (.long q4), .second, .val (.long q5), .second, .val (.int p6), .val (.int (1 : Int32)), .val (.int (((p6.toUInt32 >>> ((2 : Int32) &&& 31).toUInt32).toInt32) &&& (3 : Int32))), .val (.ref b1), .val (.long x), .second, .val (.ref b3), .val (.ref b5), .unset] [(.int (1 : Int32))])) _
        exact kt
      · (try simp only [if_neg hr158_0] at kt)
        refine XS.ifNo X6.here hx rfl (hb hby at_158) rfl ((if0 _ _).trans (feq hr158_0).1) ?_
        show Steps p.tables e below (T6.setTop (mkF m 161 #[.val (.long q1), .second, .val (.long q2), .second, .val (.long q3), .second, .val (.long q4), .second, .val (.long q5), .second, .val (.int p6), .val (.int (1 : Int32)), .val (.int (((p6.toUInt32 >>> ((2 : Int32) &&& 31).toUInt32).toInt32) &&& (3 : Int32))), .val (.ref b1), .val (.long x), .second, .val (.ref b3), .val (.ref b5), .unset] [])) _
        refine XS.iload X6.here hx rfl (hb hby at_161) rfl ?_
        show Steps p.tables e below (T6.setTop (mkF m 163 #[.val (.long q1), .second, .val (.long q2), .second, .val (.long q3), .second, .val (.long q4), .second, .val (.long q5), .second, .val (.int p6), .val (.int (1 : Int32)), .val (.int (((p6.toUInt32 >>> ((2 : Int32) &&& 31).toUInt32).toInt32) &&& (3 : Int32))), .val (.ref b1), .val (.long x), .second, .val (.ref b3), .val (.ref b5), .unset] [(.int (1 : Int32))])) _
        refine XS.iconst X6.here hx rfl (hb hby at_163) ?_
        show Steps p.tables e below (T6.setTop (mkF m 164 #[.val (.long q1), .second, .val (.long q2), .second, .val (.long q3), .second, .val (.long q4), .second, .val (.long q5), .second, .val (.int p6), .val (.int (1 : Int32)), .val (.int (((p6.toUInt32 >>> ((2 : Int32) &&& 31).toUInt32).toInt32) &&& (3 : Int32))), .val (.ref b1), .val (.long x), .second, .val (.ref b3), .val (.ref b5), .unset] [(.int (1 : Int32)), (.int (1 : Int32))])) _
        refine XS.icmpYes X6.here hx rfl (pc0 := 164) (pc' := 174) rfl (hb hby at_164) rfl (flt (by decide)).2.2.2 (by decide) (by decide) ?_
        show Steps p.tables e below (T6.setTop (mkF m 174 #[.val (.long q1), .second, .val (.long q2), .second, .val (.long q3), .second, .val (.long q4), .second, .val (.long q5), .second, .val (.int p6), .val (.int (1 : Int32)), .val (.int (((p6.toUInt32 >>> ((2 : Int32) &&& 31).toUInt32).toInt32) &&& (3 : Int32))), .val (.ref b1), .val (.long x), .second, .val (.ref b3), .val (.ref b5), .unset] [])) _
        refine XS.iload X6.here hx rfl (hb hby at_174) rfl ?_
        show Steps p.tables e below (T6.setTop (mkF m 176 #[.val (.long q1), .second, .val (.long q2), .second, .val (.long q3), .second, .val (.long q4), .second, .val (.long q5), .second, .val (.int p6), .val (.int (1 : Int32)), .val (.int (((p6.toUInt32 >>> ((2 : Int32) &&& 31).toUInt32).toInt32) &&& (3 : Int32))), .val (.ref b1), .val (.long x), .second, .val (.ref b3), .val (.ref b5), .unset] [(.int (1 : Int32))])) _
        refine XS.iconst X6.here hx rfl (hb hby at_176) ?_
        show Steps p.tables e below (T6.setTop (mkF m 177 #[.val (.long q1), .second, .val (.long q2), .second, .val (.long q3), .second, .val (.long q4), .second, .val (.long q5), .second, .val (.int p6), .val (.int (1 : Int32)), .val (.int (((p6.toUInt32 >>> ((2 : Int32) &&& 31).toUInt32).toInt32) &&& (3 : Int32))), .val (.ref b1), .val (.long x), .second, .val (.ref b3), .val (.ref b5), .unset] [(.int (2 : Int32)), (.int (1 : Int32))])) _
        refine XS.icmpYes X6.here hx rfl (pc0 := 177) (pc' := 192) rfl (hb hby at_177) rfl (flt (by decide)).2.2.2 (by decide) (by decide) ?_
        show Steps p.tables e below (T6.setTop (mkF m 192 #[.val (.long q1), .second, .val (.long q2), .second, .val (.long q3), .second, .val (.long q4), .second, .val (.long q5), .second, .val (.int p6), .val (.int (1 : Int32)), .val (.int (((p6.toUInt32 >>> ((2 : Int32) &&& 31).toUInt32).toInt32) &&& (3 : Int32))), .val (.ref b1), .val (.long x), .second, .val (.ref b3), .val (.ref b5), .unset] [])) _
        refine XS.iconst X6.here hx rfl (hb hby at_192) ?_
        show Steps p.tables e below (T6.setTop (mkF m 193 #[.val (.long q1), .second, .val (.long q2), .second, .val (.long q3), .second, .val (.long q4), .second, .val (.long q5), .second, .val (.int p6), .val (.int (1 : Int32)), .val (.int (((p6.toUInt32 >>> ((2 : Int32) &&& 31).toUInt32).toInt32) &&& (3 : Int32))), .val (.ref b1), .val (.long x), .second, .val (.ref b3), .val (.ref b5), .unset] [(.int (0 : Int32))])) _
        exact kt
    refine sg151 _ ?_
    show Steps p.tables e below (T6.setTop (mkF m 193 #[.val (.long q1), .second, .val (.long q2), .second, .val (.long q3), .second, .val (.long q4), .second, .val (.long q5), .second, .val (.int p6), .val (.int (1 : Int32)), .val (.int (((p6.toUInt32 >>> ((2 : Int32) &&& 31).toUInt32).toInt32) &&& (3 : Int32))), .val (.ref b1), .val (.long x), .second, .val (.ref b3), .val (.ref b5), .unset] [(.int (if (lcmpW x q1) = (0 : Int32) then (1 : Int32) else (0 : Int32)))])) _
    refine XS.istore X6.here hx rfl (hb hby at_193) rfl (l' := #[.val (.long q1), .second, .val (.long q2), .second, .val (.long q3), .second, .val (.long q4), .second, .val (.long q5), .second, .val (.int p6), .val (.int (1 : Int32)), .val (.int (((p6.toUInt32 >>> ((2 : Int32) &&& 31).toUInt32).toInt32) &&& (3 : Int32))), .val (.ref b1), .val (.long x), .second, .val (.ref b3), .val (.ref b5), .val (.int (if (lcmpW x q1) = (0 : Int32) then (1 : Int32) else (0 : Int32)))]) rfl ?_
    show Steps p.tables e below (T6.setTop (mkF m 195 #[.val (.long q1), .second, .val (.long q2), .second, .val (.long q3), .second, .val (.long q4), .second, .val (.long q5), .second, .val (.int p6), .val (.int (1 : Int32)), .val (.int (((p6.toUInt32 >>> ((2 : Int32) &&& 31).toUInt32).toInt32) &&& (3 : Int32))), .val (.ref b1), .val (.long x), .second, .val (.ref b3), .val (.ref b5), .val (.int (if (lcmpW x q1) = (0 : Int32) then (1 : Int32) else (0 : Int32)))] [])) _
    refine XS.aload X6.here hx rfl (hb hby at_195) rfl rfl ?_
    show Steps p.tables e below (T6.setTop (mkF m 197 #[.val (.long q1), .second, .val (.long q2), .second, .val (.long q3), .second, .val (.long q4), .second, .val (.long q5), .second, .val (.int p6), .val (.int (1 : Int32)), .val (.int (((p6.toUInt32 >>> ((2 : Int32) &&& 31).toUInt32).toInt32) &&& (3 : Int32))), .val (.ref b1), .val (.long x), .second, .val (.ref b3), .val (.ref b5), .val (.int (if (lcmpW x q1) = (0 : Int32) then (1 : Int32) else (0 : Int32)))] [(.ref b5)])) _
    refine XS.lload X6.here hx rfl (hb hby at_197) rfl ?_
    show Steps p.tables e below (T6.setTop (mkF m 199 #[.val (.long q1), .second, .val (.long q2), .second, .val (.long q3), .second, .val (.long q4), .second, .val (.long q5), .second, .val (.int p6), .val (.int (1 : Int32)), .val (.int (((p6.toUInt32 >>> ((2 : Int32) &&& 31).toUInt32).toInt32) &&& (3 : Int32))), .val (.ref b1), .val (.long x), .second, .val (.ref b3), .val (.ref b5), .val (.int (if (lcmpW x q1) = (0 : Int32) then (1 : Int32) else (0 : Int32)))] [(.long x), (.ref b5)])) _
    refine st7.trans ?_
    show Steps p.tables e below (T7.setTop (mkF m 202 #[.val (.long q1), .second, .val (.long q2), .second, .val (.long q3), .second, .val (.long q4), .second, .val (.long q5), .second, .val (.int p6), .val (.int (1 : Int32)), .val (.int (((p6.toUInt32 >>> ((2 : Int32) &&& 31).toUInt32).toInt32) &&& (3 : Int32))), .val (.ref b1), .val (.long x), .second, .val (.ref b3), .val (.ref b5), .val (.int (if (lcmpW x q1) = (0 : Int32) then (1 : Int32) else (0 : Int32)))] [(.int (if (lcmpW q1 x) = (0 : Int32) then (1 : Int32) else (0 : Int32)))])) _
    refine XS.iload X7.here hx rfl (hb hby at_202) rfl ?_
    show Steps p.tables e below (T7.setTop (mkF m 204 #[.val (.long q1), .second, .val (.long q2), .second, .val (.long q3), .second, .val (.long q4), .second, .val (.long q5), .second, .val (.int p6), .val (.int (1 : Int32)), .val (.int (((p6.toUInt32 >>> ((2 : Int32) &&& 31).toUInt32).toInt32) &&& (3 : Int32))), .val (.ref b1), .val (.long x), .second, .val (.ref b3), .val (.ref b5), .val (.int (if (lcmpW x q1) = (0 : Int32) then (1 : Int32) else (0 : Int32)))] [(.int (if (lcmpW x q1) = (0 : Int32) then (1 : Int32) else (0 : Int32))), (.int (if (lcmpW q1 x) = (0 : Int32) then (1 : Int32) else (0 : Int32)))])) _
    refine XS.icmpNo X7.here hx rfl (hb hby at_204) rfl (teq own_eq1).2 ?_
    show Steps p.tables e below (T7.setTop (mkF m 207 #[.val (.long q1), .second, .val (.long q2), .second, .val (.long q3), .second, .val (.long q4), .second, .val (.long q5), .second, .val (.int p6), .val (.int (1 : Int32)), .val (.int (((p6.toUInt32 >>> ((2 : Int32) &&& 31).toUInt32).toInt32) &&& (3 : Int32))), .val (.ref b1), .val (.long x), .second, .val (.ref b3), .val (.ref b5), .val (.int (if (lcmpW x q1) = (0 : Int32) then (1 : Int32) else (0 : Int32)))] [])) _
    refine XS.iconst X7.here hx rfl (hb hby at_207) ?_
    show Steps p.tables e below (T7.setTop (mkF m 208 #[.val (.long q1), .second, .val (.long q2), .second, .val (.long q3), .second, .val (.long q4), .second, .val (.long q5), .second, .val (.int p6), .val (.int (1 : Int32)), .val (.int (((p6.toUInt32 >>> ((2 : Int32) &&& 31).toUInt32).toInt32) &&& (3 : Int32))), .val (.ref b1), .val (.long x), .second, .val (.ref b3), .val (.ref b5), .val (.int (if (lcmpW x q1) = (0 : Int32) then (1 : Int32) else (0 : Int32)))] [(.int (1 : Int32))])) _
    refine XS.goto X7.here hx rfl (pc0 := 208) (pc' := 212) rfl (hb hby at_208) (by decide) (by decide) ?_
    show Steps p.tables e below (T7.setTop (mkF m 212 #[.val (.long q1), .second, .val (.long q2), .second, .val (.long q3), .second, .val (.long q4), .second, .val (.long q5), .second, .val (.int p6), .val (.int (1 : Int32)), .val (.int (((p6.toUInt32 >>> ((2 : Int32) &&& 31).toUInt32).toInt32) &&& (3 : Int32))), .val (.ref b1), .val (.long x), .second, .val (.ref b3), .val (.ref b5), .val (.int (if (lcmpW x q1) = (0 : Int32) then (1 : Int32) else (0 : Int32)))] [(.int (1 : Int32))])) _
    exact retN X7 hx (t := .boolean) Bd.returns (by simp) (hb hby at_212) hr
  · show Q_rm0_1 Z q1 q2 q3 q4 q5 p6 ds h0 n0 _ T7.heap _
    rw [e7]
    exact ⟨rfl, N7⟩

theorem ef_at2_ (m : MethodId) (q1 : Int64) (q2 : Int64) (q3 : Int64) (q4 : Int64) (q5 : Int64) (p6 : Int32) : entryFrame m #[(.long q1), (.long q2), (.long q3), (.long q4), (.long q5), (.int p6)] maxLocals = mkF m 0 #[.val (.long q1), .second, .val (.long q2), .second, .val (.long q3), .second, .val (.long q4), .second, .val (.long q5), .second, .val (.int p6), .unset, .unset, .unset, .unset, .unset, .unset, .unset, .unset] [] := by first | (simp [entryFrame, mkF, argsToLocals, Value.category, maxLocals]; done) | rfl
def Q_rm0_2 (Z : State) (q1 : Int64) (q2 : Int64) (q3 : Int64) (q4 : Int64) (q5 : Int64) (p6 : Int32) (ds : Addr) (h0 : Heap) (n0 : Nat) (v : Option Value) (h : Heap) (L : List Loc) : Prop := v = some (.int (1 : Int32)) ∧ Fr n0 L
theorem pn_rm0_2 : plainName "com/example/done_by_xor/donebyxor/runtime/TupleBelongsToPinLaw" = true := by first | (simp [plainName, overriddenIn]; done) | decide +kernel
set_option maxRecDepth 65536 in
set_option maxHeartbeats 40000000 in
theorem rm0_2 (l : Launch) (Z : State) (a0 : Array Value) (hw : ∀ d ∈ tables_1, d.before a0 Z = true) (ws : List Jvm.Cond) (q1 : Int64) (q2 : Int64) (q3 : Int64) (q4 : Int64) (q5 : Int64) (p6 : Int32) (ds : Addr) (h0 : Heap) (n0 : Nat) (Z0 : n0 ≤ h0.size) (hn : (p6 &&& (3 : Int32)) = (2 : Int32)) (Sd : Sta Z h0 "java/util/ArrayList" "DEFAULTCAPACITY_EMPTY_ELEMENTDATA" "[Ljava/lang/Object;" (.ref ds))  :
    MetFree l x (head1 (Jvm.Cond.code x code maxLocals ret :: ws) room_1) (fun a U => a = #[(.long q1), (.long q2), (.long q3), (.long q4), (.long q5), (.int p6)] ∧ Z.Warmed39 U.vm ∧ U.heap = h0) (fun _ _ _ _ _ => True) (fun _ U o U' => ∃ v L, o = .returned v ∧ Q_rm0_2 Z q1 q2 q3 q4 q5 p6 ds  h0 n0 v U'.heap L ∧ FrameEnd U o U' L room_1.cells room_1.slots) := by
  refine MetFree.of_bodySF (plainFor_of_name pn_rm0_2) hisR ?_
  intro p e s m args below meth c s₁ Bd hml0 hP hK
  obtain ⟨rfl, hZ, hh⟩ := hP
  have hx := Bd.exec
  have hby := Bd.bytes
  have hml : c.maxLocals = 19 := hml0
  have hown : s.vm.findClass "com/example/done_by_xor/donebyxor/runtime/TupleBelongsToPinLaw" = some m.cls := findClass_of_methodNamed Bd.named
  have hnm := (name_of_methodNamed Bd.named Bd.method).1
  have X0 : Stand p l e room_1 s m #[(.long q1), (.long q2), (.long q3), (.long q4), (.long q5), (.int p6)] below meth c s₁ [] 0 0 := Stand.of_body Bd
  have e0 : s₁.heap = h0 := by rw [← hh, Bd.state]; rfl
  have N0 := Fr.nil n0
  have pre0 : ∀ tZ, Steps p.tables e below (s₁.setTop (mkF m 0 #[.val (.long q1), .second, .val (.long q2), .second, .val (.long q3), .second, .val (.long q4), .second, .val (.long q5), .second, .val (.int p6), .unset, .unset, .unset, .unset, .unset, .unset, .unset, .unset] [])) tZ → Steps p.tables e below (s₁.setTop (entryFrame m #[(.long q1), (.long q2), (.long q3), (.long q4), (.long q5), (.int p6)] maxLocals)) tZ := fun tZ kZ => castTop (ef_at2_ m q1 q2 q3 q4 q5 p6) kZ
  obtain ⟨T1, h1, k1, X1, e1, E1, A1, st1⟩ := newP X0 hx hZ (hw _ (List.mem_of_getElem? (i := 0) rfl)) e0 (g := (mkF m 52 #[.val (.long q1), .second, .val (.long q2), .second, .val (.long q3), .second, .val (.long q4), .second, .val (.long q5), .second, .val (.int p6), .val (.int (2 : Int32)), .val (.int (((p6.toUInt32 >>> ((2 : Int32) &&& 31).toUInt32).toInt32) &&& (3 : Int32))), .unset, .unset, .unset, .unset, .unset, .unset] [(.int (2 : Int32))])) rfl (hb hby at_52) rfl (by decide) (cap := 2) (by decide) (by decide) (by decide) (by decide)
  obtain ⟨b1, g1⟩ : ∃ z, z = h0.size := ⟨_, rfl⟩
  rw [← g1] at A1 st1
  have V1 := Arv.new A1 (by decide)
  have gr : n0 ≤ b1 := Nat.le_trans Z0 (Nat.le_of_eq g1.symm)
  have Va : Arv Z h1 b1 k1 .long (2 : Int32) [(.long (0 : Int64)), (.long (0 : Int64))] (.long (0 : Int64)) := V1.pad (pad_rep [] (.long (0 : Int64)) 2)
  have Sd_1 := Sd.ext E1
  have K_1 : Keep h0 h1 [] := (Keep.refl h0 []).ext E1
  have sr : h0.size ≤ b1 := Nat.le_of_eq g1.symm
  obtain ⟨cl0, Al0, ql0, Sl0, Nl0, Hl0, Gl0⟩ := Va
  have hin0 := inb_of (j := (0 : Int32)) Sl0 ⟨by decide, by decide⟩
  obtain ⟨T2, h2, X2, e2, W2, st2⟩ := stJ X1 hx hZ e1 Al0 (j := (0 : Int32)) hin0 (g := (mkF m 57 #[.val (.long q1), .second, .val (.long q2), .second, .val (.long q3), .second, .val (.long q4), .second, .val (.long q5), .second, .val (.int p6), .val (.int (2 : Int32)), .val (.int (((p6.toUInt32 >>> ((2 : Int32) &&& 31).toUInt32).toInt32) &&& (3 : Int32))), .unset, .unset, .unset, .unset, .unset, .unset] [(.long q1), (.int (0 : Int32)), (.ref b1), (.ref b1)])) rfl rfl (hb hby at_57)
  have Vs0 := Arv.set Al0 ql0 Sl0 Nl0 Hl0 Gl0 (v := .long q1) rfl W2 0 rfl (Nat.le_of_ble_eq_true rfl)
  have Sd_2 := Sd_1.wr W2
  have K_2 : Keep h0 h2 [] := K_1.wr W2 (Or.inr sr)
  have N_2 := Fr.snoc X2 N0 gr
  obtain ⟨cl1, Al1, ql1, Sl1, Nl1, Hl1, Gl1⟩ := Vs0
  have hin1 := inb_of (j := (1 : Int32)) Sl1 ⟨by decide, by decide⟩
  obtain ⟨T3, h3, X3, e3, W3, st3⟩ := stJ X2 hx hZ e2 Al1 (j := (1 : Int32)) hin1 (g := (mkF m 61 #[.val (.long q1), .second, .val (.long q2), .second, .val (.long q3), .second, .val (.long q4), .second, .val (.long q5), .second, .val (.int p6), .val (.int (2 : Int32)), .val (.int (((p6.toUInt32 >>> ((2 : Int32) &&& 31).toUInt32).toInt32) &&& (3 : Int32))), .unset, .unset, .unset, .unset, .unset, .unset] [(.long q2), (.int (1 : Int32)), (.ref b1), (.ref b1)])) rfl rfl (hb hby at_61)
  have Vs1 := Arv.set Al1 ql1 Sl1 Nl1 Hl1 Gl1 (v := .long q2) rfl W3 1 rfl (Nat.le_of_ble_eq_true rfl)
  have Sd_3 := Sd_2.wr W3
  have K_3 : Keep h0 h3 [] := K_2.wr W3 (Or.inr sr)
  have N_3 := Fr.snoc X3 N_2 gr
  have Vf : Arv Z h3 b1 k1 .long (2 : Int32) [(.long q1), (.long q2)] (.long (0 : Int64)) := Vs1
  obtain ⟨x, h_x⟩ : ∃ z : Int64, z = (if (((p6.toUInt32 >>> ((2 : Int32) &&& 31).toUInt32).toInt32) &&& (3 : Int32)) = (0 : Int32) then q4 else (if (((p6.toUInt32 >>> ((2 : Int32) &&& 31).toUInt32).toInt32) &&& (3 : Int32)) = (1 : Int32) then q1 else (if (((p6.toUInt32 >>> ((2 : Int32) &&& 31).toUInt32).toInt32) &&& (3 : Int32)) = (2 : Int32) then q2 else q3))) := ⟨_, rfl⟩
  obtain ⟨T4, h4, X4, e4, E4, A4, D4, -, st4⟩ := newO X3 hx hZ hown (hw _ (List.mem_of_getElem? (i := 1) rfl)) (hw _ (List.mem_of_getElem? (i := 2) rfl)) (hw _ (List.mem_of_getElem? (i := 3) rfl)) e3 (g := (mkF m 125 #[.val (.long q1), .second, .val (.long q2), .second, .val (.long q3), .second, .val (.long q4), .second, .val (.long q5), .second, .val (.int p6), .val (.int (2 : Int32)), .val (.int (((p6.toUInt32 >>> ((2 : Int32) &&& 31).toUInt32).toInt32) &&& (3 : Int32))), .val (.ref b1), .val (.long x), .second, .unset, .unset, .unset] [])) rfl (hb hby at_125) (by decide) (by decide)
  obtain ⟨b4, g4⟩ : ∃ z, z = h3.size := ⟨_, rfl⟩
  rw [← g4] at A4 D4 st4
  have F_modCount_b4 : Fld Z h4 b4 "java/util/AbstractList" "modCount" "I" (.int (0 : Int32)) := D4 (Or.inl (hw _ (List.mem_of_getElem? (i := 23) rfl))) (ty := .int) (by decide)
  have F_elementData_b4 : Fld Z h4 b4 "java/util/ArrayList" "elementData" "[Ljava/lang/Object;" .null := D4 (Or.inl (hw _ (List.mem_of_getElem? (i := 26) rfl))) (ty := (.array (.object "java/lang/Object"))) (by decide)
  have go : n0 ≤ b4 := Nat.le_trans (Nat.le_trans Z0 K_3.1) (Nat.le_of_eq g4.symm)
  have Vg := Vf.ext E4
  have Zg : n0 ≤ h4.size := Nat.le_trans (Nat.le_trans Z0 K_3.1) E4.1
  obtain ⟨_, _, ⟨T5, L5, k5, n5⟩, -, X5, ⟨Lc5, hQ5, l5, y5, z5⟩, st5⟩ := X4.specialBack hx (y := (⟨"java/util/ArrayList", "<init>", "()V"⟩ : MethodName)) rfl hown (mvT hZ (hw _ (List.mem_of_getElem? (i := 4) rfl))) (mvT hZ (hw _ (List.mem_of_getElem? (i := 5) rfl))) (mvT hZ (hw _ (List.mem_of_getElem? (i := 6) rfl))) (by decide) (backOf (W := 1) (rmA l Z a0 hw [] b4 ds h4 n0 Zg A4 F_modCount_b4 F_elementData_b4 (Sd_3.ext E4) go) hZ (hw _ (List.mem_of_getElem? (i := 6) rfl)) (hw _ (List.mem_of_getElem? (i := 3) rfl)) (by decide) (by decide)) (g := (mkF m 129 #[.val (.long q1), .second, .val (.long q2), .second, .val (.long q3), .second, .val (.long q4), .second, .val (.long q5), .second, .val (.int p6), .val (.int (2 : Int32)), .val (.int (((p6.toUInt32 >>> ((2 : Int32) &&& 31).toUInt32).toInt32) &&& (3 : Int32))), .val (.ref b1), .val (.long x), .second, .unset, .unset, .unset] [(.ref b4), (.ref b4)])) rfl (by rw [hml]; rfl) (Steps.refl _) (a := b4) (argsL := []) (rest := [(.ref b4)]) (lenOf pd_at___V rfl) rfl (by show 2 * 0 + _ ≤ _; exact Nat.le_of_eq rfl) (hb hby at_129) (fun _ _ => ⟨rfl, e4, (by decide : 2 + 0 ≤ _), (by decide : 5 + 0 ≤ _)⟩)
  dsimp only [Pt.U, Pt.locs, Pt.cells, Pt.slots] at X5 l5 y5 z5 st5 hQ5
  subst l5 y5 z5
  obtain ⟨rfl, N5q, K5⟩ := hQ5
  have N5 := Fr.app N_3 N5q
  have nro : b1 ≠ b4 := Nat.ne_of_lt (Nat.lt_of_lt_of_le Vf.lt (Nat.le_of_eq g4.symm))
  have Vh := Vg.keep K5 (ninS nro nin0)
  obtain ⟨T6, h6, X6, e6, E6, A6, D6, -, st6⟩ := newO X5 hx hZ hown (hw _ (List.mem_of_getElem? (i := 27) rfl)) (hw _ (List.mem_of_getElem? (i := 28) rfl)) (hw _ (List.mem_of_getElem? (i := 29) rfl)) rfl (g := (mkF m 134 #[.val (.long q1), .second, .val (.long q2), .second, .val (.long q3), .second, .val (.long q4), .second, .val (.long q5), .second, .val (.int p6), .val (.int (2 : Int32)), .val (.int (((p6.toUInt32 >>> ((2 : Int32) &&& 31).toUInt32).toInt32) &&& (3 : Int32))), .val (.ref b1), .val (.long x), .second, .val (.ref b4), .unset, .unset] [])) rfl (hb hby at_134) (by decide) (by decide)
  obtain ⟨b6, g6⟩ : ∃ z, z = T5.heap.size := ⟨_, rfl⟩
  rw [← g6] at A6 D6 st6
  have F_values_b6 : Fld Z h6 b6 "com/example/done_by_xor/donebyxor/runtime/Tuple" "values" "Ljava/util/List;" .null := D6 (Or.inr (hw _ (List.mem_of_getElem? (i := 35) rfl))) (ty := (.object "java/util/List")) (by decide)
  have F_roots_b6 : Fld Z h6 b6 "com/example/done_by_xor/donebyxor/runtime/Tuple" "roots" "[J" .null := D6 (Or.inr (hw _ (List.mem_of_getElem? (i := 37) rfl))) (ty := (.array .long)) (by decide)
  have F_ackValues_b6 : Fld Z h6 b6 "com/example/done_by_xor/donebyxor/runtime/Tuple" "ackValues" "[J" .null := D6 (Or.inr (hw _ (List.mem_of_getElem? (i := 39) rfl))) (ty := (.array .long)) (by decide)
  have Vi := Vh.ext E6
  have nrt : b1 ≠ b6 := Nat.ne_of_lt (Nat.lt_of_lt_of_le Vh.lt (Nat.le_of_eq g6.symm))
  have Zi : n0 ≤ h6.size := Nat.le_trans (Nat.le_trans Zg K5.1) E6.1
  have gt : n0 ≤ b6 := Nat.le_trans (Nat.le_trans Zg K5.1) (Nat.le_of_eq g6.symm)
  obtain ⟨cj, Aj, qj, Sj, Nj, Hj, Gj⟩ := Vi
  have Vi' : Arv Z h6 b1 k1 .long (2 : Int32) [(.long q1), (.long q2)] (.long (0 : Int64)) := ⟨cj, Aj, qj, Sj, Nj, Hj, Gj⟩
  obtain ⟨_, _, ⟨T7, L7, k7, n7⟩, -, X7, ⟨Lc7, hQ7, l7, y7, z7⟩, st7⟩ := X6.specialBack hx (y := (⟨"com/example/done_by_xor/donebyxor/runtime/Tuple", "<init>", "(Ljava/util/List;[JJ)V"⟩ : MethodName)) rfl hown (mvT hZ (hw _ (List.mem_of_getElem? (i := 30) rfl))) (mvT hZ (hw _ (List.mem_of_getElem? (i := 31) rfl))) (mvT hZ (hw _ (List.mem_of_getElem? (i := 32) rfl))) (by decide) (backOf (W := 1) (rmT_2 l Z a0 hw [] b6 b4 b1 q5 cj h6 n0 Zi A6 F_values_b6 F_roots_b6 F_ackValues_b6 Aj Sj nrt gt) hZ (hw _ (List.mem_of_getElem? (i := 32) rfl)) (hw _ (List.mem_of_getElem? (i := 29) rfl)) (by decide) (by decide)) (g := (mkF m 144 #[.val (.long q1), .second, .val (.long q2), .second, .val (.long q3), .second, .val (.long q4), .second, .val (.long q5), .second, .val (.int p6), .val (.int (2 : Int32)), .val (.int (((p6.toUInt32 >>> ((2 : Int32) &&& 31).toUInt32).toInt32) &&& (3 : Int32))), .val (.ref b1), .val (.long x), .second, .val (.ref b4), .unset, .unset] [(.long q5), (.ref b1), (.ref b4), (.ref b6), (.ref b6)])) rfl (by rw [hml]; rfl) (Steps.refl _) (a := b6) (argsL := [(.ref b4), (.ref b1), (.long q5)]) (rest := [(.ref b6)]) (lenOf pd_at__Ljava_util_List__JJ_V rfl) rfl (by show 2 * 0 + _ ≤ _; exact Nat.le_of_eq rfl) (hb hby at_144) (fun _ _ => ⟨rfl, e6, (by decide : 3 + 1 ≤ _), (by decide : 9 + 2 ≤ _)⟩)
  dsimp only [Pt.U, Pt.locs, Pt.cells, Pt.slots] at X7 l7 y7 z7 st7 hQ7
  subst l7 y7 z7
  obtain ⟨rfl, N7q, K7, Ex7, Fr7⟩ := hQ7
  have N7 := Fr.app N5 N7q
  have Vk := Vi'.keep K7 (ninS nrt nin0)
  obtain ⟨cq8, kq8, q8a, q8b, q8c⟩ := isOf hZ rfl Ex7
  obtain ⟨_, _, ⟨T8, L8, k8, n8⟩, -, X8, ⟨Lc8, hQ8, l8, y8, z8⟩, st8⟩ := X7.virtualBack hx (y := (⟨"com/example/done_by_xor/donebyxor/runtime/Tuple", "belongsTo", "(J)Z"⟩ : MethodName)) (z := (⟨"com/example/done_by_xor/donebyxor/runtime/Tuple", "belongsTo", "(J)Z"⟩ : MethodName)) hown (mvT hZ (hw _ (List.mem_of_getElem? (i := 44) rfl))) (mvT hZ (hw _ (List.mem_of_getElem? (i := 45) rfl))) (notFace_of_selects (args := #[]) (mvT hZ (hw _ (List.mem_of_getElem? (i := 47) rfl)))) (mvT hZ (hw _ (List.mem_of_getElem? (i := 47) rfl))) (mvT hZ (hw _ (List.mem_of_getElem? (i := 46) rfl))) (by decide) (backOf (W := 0) (rmG_2 l Z a0 hw [] b6 x b1 k1 (.long (0 : Int64)) q1 q2 T7.heap n0 (Nat.le_trans Zi K7.1) Fr7 Vk) hZ (hw _ (List.mem_of_getElem? (i := 48) rfl)) (hw _ (List.mem_of_getElem? (i := 29) rfl)) (by decide) (by decide)) q8a q8c (g := (mkF m 199 #[.val (.long q1), .second, .val (.long q2), .second, .val (.long q3), .second, .val (.long q4), .second, .val (.long q5), .second, .val (.int p6), .val (.int (2 : Int32)), .val (.int (((p6.toUInt32 >>> ((2 : Int32) &&& 31).toUInt32).toInt32) &&& (3 : Int32))), .val (.ref b1), .val (.long x), .second, .val (.ref b4), .val (.ref b6), .val (.int (if (lcmpW x q1) = (0 : Int32) then (1 : Int32) else (if (lcmpW x q2) = (0 : Int32) then (1 : Int32) else (0 : Int32))))] [(.long x), (.ref b6)])) rfl (by rw [hml]; rfl) (Steps.refl _) (argsL := [(.long x)]) (rest := []) (lenOf pd_at__J_Z rfl) rfl (by show 2 * 0 + _ ≤ _; exact Nat.le_of_eq rfl) (hb hby at_199) (fun _ _ => ⟨rfl, rfl, (by decide : 4 + 0 ≤ _), (by decide : 11 + 0 ≤ _)⟩)
  dsimp only [Pt.U, Pt.locs, Pt.cells, Pt.slots] at X8 l8 y8 z8 st8 hQ8
  subst l8 y8 z8
  obtain ⟨rfl, N8q, e8⟩ := hQ8
  have N8 := Fr.app N7 N8q
  have own_eq2 : (if (lcmpW q1 x) = (0 : Int32) then (1 : Int32) else (if (lcmpW q2 x) = (0 : Int32) then (1 : Int32) else (0 : Int32))) = (if (lcmpW x q1) = (0 : Int32) then (1 : Int32) else (if (lcmpW x q2) = (0 : Int32) then (1 : Int32) else (0 : Int32))) := by
    simp only [own_sym x]
  obtain ⟨fs, hr, hrun, hended, hW, hsame⟩ := X8.leave (v := some (.int (1 : Int32))) (fun h => by rw [Bd.returns] at h; cases h)
  refine ⟨_, _, pre0 _ ?_, hrun, hended, _, _, rfl, ?_, ⟨_, rfl⟩, hW, hsame.mono (by decide) (by decide)⟩
  · show Steps p.tables e below (s₁.setTop (mkF m 0 #[.val (.long q1), .second, .val (.long q2), .second, .val (.long q3), .second, .val (.long q4), .second, .val (.long q5), .second, .val (.int p6), .unset, .unset, .unset, .unset, .unset, .unset, .unset, .unset] [])) _
    refine XS.iload X0.here hx rfl (hb hby at_0) rfl ?_
    show Steps p.tables e below (s₁.setTop (mkF m 2 #[.val (.long q1), .second, .val (.long q2), .second, .val (.long q3), .second, .val (.long q4), .second, .val (.long q5), .second, .val (.int p6), .unset, .unset, .unset, .unset, .unset, .unset, .unset, .unset] [(.int p6)])) _
    refine XS.iconst X0.here hx rfl (hb hby at_2) ?_
    show Steps p.tables e below (s₁.setTop (mkF m 3 #[.val (.long q1), .second, .val (.long q2), .second, .val (.long q3), .second, .val (.long q4), .second, .val (.long q5), .second, .val (.int p6), .unset, .unset, .unset, .unset, .unset, .unset, .unset, .unset] [(.int (3 : Int32)), (.int p6)])) _
    refine XS.iand X0.here hx rfl (hb hby at_3) rfl ?_
    show Steps p.tables e below (s₁.setTop (mkF m 4 #[.val (.long q1), .second, .val (.long q2), .second, .val (.long q3), .second, .val (.long q4), .second, .val (.long q5), .second, .val (.int p6), .unset, .unset, .unset, .unset, .unset, .unset, .unset, .unset] [(.int (p6 &&& (3 : Int32)))])) _
    rw [hn]
    show Steps p.tables e below (s₁.setTop (mkF m 4 #[.val (.long q1), .second, .val (.long q2), .second, .val (.long q3), .second, .val (.long q4), .second, .val (.long q5), .second, .val (.int p6), .unset, .unset, .unset, .unset, .unset, .unset, .unset, .unset] [(.int (2 : Int32))])) _
    refine XS.istore X0.here hx rfl (hb hby at_4) rfl (l' := #[.val (.long q1), .second, .val (.long q2), .second, .val (.long q3), .second, .val (.long q4), .second, .val (.long q5), .second, .val (.int p6), .val (.int (2 : Int32)), .unset, .unset, .unset, .unset, .unset, .unset, .unset]) rfl ?_
    show Steps p.tables e below (s₁.setTop (mkF m 6 #[.val (.long q1), .second, .val (.long q2), .second, .val (.long q3), .second, .val (.long q4), .second, .val (.long q5), .second, .val (.int p6), .val (.int (2 : Int32)), .unset, .unset, .unset, .unset, .unset, .unset, .unset] [])) _
    refine XS.iload X0.here hx rfl (hb hby at_6) rfl ?_
    show Steps p.tables e below (s₁.setTop (mkF m 8 #[.val (.long q1), .second, .val (.long q2), .second, .val (.long q3), .second, .val (.long q4), .second, .val (.long q5), .second, .val (.int p6), .val (.int (2 : Int32)), .unset, .unset, .unset, .unset, .unset, .unset, .unset] [(.int p6)])) _
    refine XS.iconst X0.here hx rfl (hb hby at_8) ?_
    show Steps p.tables e below (s₁.setTop (mkF m 9 #[.val (.long q1), .second, .val (.long q2), .second, .val (.long q3), .second, .val (.long q4), .second, .val (.long q5), .second, .val (.int p6), .val (.int (2 : Int32)), .unset, .unset, .unset, .unset, .unset, .unset, .unset] [(.int (2 : Int32)), (.int p6)])) _
    refine XS.iushr X0.here hx rfl (hb hby at_9) rfl ?_
    show Steps p.tables e below (s₁.setTop (mkF m 10 #[.val (.long q1), .second, .val (.long q2), .second, .val (.long q3), .second, .val (.long q4), .second, .val (.long q5), .second, .val (.int p6), .val (.int (2 : Int32)), .unset, .unset, .unset, .unset, .unset, .unset, .unset] [(.int ((p6.toUInt32 >>> ((2 : Int32) &&& 31).toUInt32).toInt32))])) _
    refine XS.iconst X0.here hx rfl (hb hby at_10) ?_
    show Steps p.tables e below (s₁.setTop (mkF m 11 #[.val (.long q1), .second, .val (.long q2), .second, .val (.long q3), .second, .val (.long q4), .second, .val (.long q5), .second, .val (.int p6), .val (.int (2 : Int32)), .unset, .unset, .unset, .unset, .unset, .unset, .unset] [(.int (3 : Int32)), (.int ((p6.toUInt32 >>> ((2 : Int32) &&& 31).toUInt32).toInt32))])) _
    refine XS.iand X0.here hx rfl (hb hby at_11) rfl ?_
    show Steps p.tables e below (s₁.setTop (mkF m 12 #[.val (.long q1), .second, .val (.long q2), .second, .val (.long q3), .second, .val (.long q4), .second, .val (.long q5), .second, .val (.int p6), .val (.int (2 : Int32)), .unset, .unset, .unset, .unset, .unset, .unset, .unset] [(.int (((p6.toUInt32 >>> ((2 : Int32) &&& 31).toUInt32).toInt32) &&& (3 : Int32)))])) _
    refine XS.istore X0.here hx rfl (hb hby at_12) rfl (l' := #[.val (.long q1), .second, .val (.long q2), .second, .val (.long q3), .second, .val (.long q4), .second, .val (.long q5), .second, .val (.int p6), .val (.int (2 : Int32)), .val (.int (((p6.toUInt32 >>> ((2 : Int32) &&& 31).toUInt32).toInt32) &&& (3 : Int32))), .unset, .unset, .unset, .unset, .unset, .unset]) rfl ?_
    show Steps p.tables e below (s₁.setTop (mkF m 14 #[.val (.long q1), .second, .val (.long q2), .second, .val (.long q3), .second, .val (.long q4), .second, .val (.long q5), .second, .val (.int p6), .val (.int (2 : Int32)), .val (.int (((p6.toUInt32 >>> ((2 : Int32) &&& 31).toUInt32).toInt32) &&& (3 : Int32))), .unset, .unset, .unset, .unset, .unset, .unset] [])) _
    refine XS.iload X0.here hx rfl (hb hby at_14) rfl ?_
    show Steps p.tables e below (s₁.setTop (mkF m 16 #[.val (.long q1), .second, .val (.long q2), .second, .val (.long q3), .second, .val (.long q4), .second, .val (.long q5), .second, .val (.int p6), .val (.int (2 : Int32)), .val (.int (((p6.toUInt32 >>> ((2 : Int32) &&& 31).toUInt32).toInt32) &&& (3 : Int32))), .unset, .unset, .unset, .unset, .unset, .unset] [(.int (2 : Int32))])) _
    refine XS.ifYes X0.here hx rfl (pc0 := 16) (pc' := 27) rfl (hb hby at_16) rfl ((if0 _ _).trans (feq (by decide)).2) (by decide) (by decide) ?_
    show Steps p.tables e below (s₁.setTop (mkF m 27 #[.val (.long q1), .second, .val (.long q2), .second, .val (.long q3), .second, .val (.long q4), .second, .val (.long q5), .second, .val (.int p6), .val (.int (2 : Int32)), .val (.int (((p6.toUInt32 >>> ((2 : Int32) &&& 31).toUInt32).toInt32) &&& (3 : Int32))), .unset, .unset, .unset, .unset, .unset, .unset] [])) _
    refine XS.iload X0.here hx rfl (hb hby at_27) rfl ?_
    show Steps p.tables e below (s₁.setTop (mkF m 29 #[.val (.long q1), .second, .val (.long q2), .second, .val (.long q3), .second, .val (.long q4), .second, .val (.long q5), .second, .val (.int p6), .val (.int (2 : Int32)), .val (.int (((p6.toUInt32 >>> ((2 : Int32) &&& 31).toUInt32).toInt32) &&& (3 : Int32))), .unset, .unset, .unset, .unset, .unset, .unset] [(.int (2 : Int32))])) _
    refine XS.iconst X0.here hx rfl (hb hby at_29) ?_
    show Steps p.tables e below (s₁.setTop (mkF m 30 #[.val (.long q1), .second, .val (.long q2), .second, .val (.long q3), .second, .val (.long q4), .second, .val (.long q5), .second, .val (.int p6), .val (.int (2 : Int32)), .val (.int (((p6.toUInt32 >>> ((2 : Int32) &&& 31).toUInt32).toInt32) &&& (3 : Int32))), .unset, .unset, .unset, .unset, .unset, .unset] [(.int (1 : Int32)), (.int (2 : Int32))])) _
    refine XS.icmpYes X0.here hx rfl (pc0 := 30) (pc' := 45) rfl (hb hby at_30) rfl (feq (by decide)).2 (by decide) (by decide) ?_
    show Steps p.tables e below (s₁.setTop (mkF m 45 #[.val (.long q1), .second, .val (.long q2), .second, .val (.long q3), .second, .val (.long q4), .second, .val (.long q5), .second, .val (.int p6), .val (.int (2 : Int32)), .val (.int (((p6.toUInt32 >>> ((2 : Int32) &&& 31).toUInt32).toInt32) &&& (3 : Int32))), .unset, .unset, .unset, .unset, .unset, .unset] [])) _
    refine XS.iload X0.here hx rfl (hb hby at_45) rfl ?_
    show Steps p.tables e below (s₁.setTop (mkF m 47 #[.val (.long q1), .second, .val (.long q2), .second, .val (.long q3), .second, .val (.long q4), .second, .val (.long q5), .second, .val (.int p6), .val (.int (2 : Int32)), .val (.int (((p6.toUInt32 >>> ((2 : Int32) &&& 31).toUInt32).toInt32) &&& (3 : Int32))), .unset, .unset, .unset, .unset, .unset, .unset] [(.int (2 : Int32))])) _
    refine XS.iconst X0.here hx rfl (hb hby at_47) ?_
    show Steps p.tables e below (s₁.setTop (mkF m 48 #[.val (.long q1), .second, .val (.long q2), .second, .val (.long q3), .second, .val (.long q4), .second, .val (.long q5), .second, .val (.int p6), .val (.int (2 : Int32)), .val (.int (((p6.toUInt32 >>> ((2 : Int32) &&& 31).toUInt32).toInt32) &&& (3 : Int32))), .unset, .unset, .unset, .unset, .unset, .unset] [(.int (2 : Int32)), (.int (2 : Int32))])) _
    refine XS.icmpNo X0.here hx rfl (hb hby at_48) rfl (teq (by decide)).2 ?_
    show Steps p.tables e below (s₁.setTop (mkF m 51 #[.val (.long q1), .second, .val (.long q2), .second, .val (.long q3), .second, .val (.long q4), .second, .val (.long q5), .second, .val (.int p6), .val (.int (2 : Int32)), .val (.int (((p6.toUInt32 >>> ((2 : Int32) &&& 31).toUInt32).toInt32) &&& (3 : Int32))), .unset, .unset, .unset, .unset, .unset, .unset] [])) _
    refine XS.iconst X0.here hx rfl (hb hby at_51) ?_
    show Steps p.tables e below (s₁.setTop (mkF m 52 #[.val (.long q1), .second, .val (.long q2), .second, .val (.long q3), .second, .val (.long q4), .second, .val (.long q5), .second, .val (.int p6), .val (.int (2 : Int32)), .val (.int (((p6.toUInt32 >>> ((2 : Int32) &&& 31).toUInt32).toInt32) &&& (3 : Int32))), .unset, .unset, .unset, .unset, .unset, .unset] [(.int (2 : Int32))])) _
    refine st1 _ ?_
    show Steps p.tables e below (T1.setTop (mkF m 54 #[.val (.long q1), .second, .val (.long q2), .second, .val (.long q3), .second, .val (.long q4), .second, .val (.long q5), .second, .val (.int p6), .val (.int (2 : Int32)), .val (.int (((p6.toUInt32 >>> ((2 : Int32) &&& 31).toUInt32).toInt32) &&& (3 : Int32))), .unset, .unset, .unset, .unset, .unset, .unset] [(.ref b1)])) _
    refine XS.dup X1.here hx rfl (hb hby at_54) rfl rfl ?_
    show Steps p.tables e below (T1.setTop (mkF m 55 #[.val (.long q1), .second, .val (.long q2), .second, .val (.long q3), .second, .val (.long q4), .second, .val (.long q5), .second, .val (.int p6), .val (.int (2 : Int32)), .val (.int (((p6.toUInt32 >>> ((2 : Int32) &&& 31).toUInt32).toInt32) &&& (3 : Int32))), .unset, .unset, .unset, .unset, .unset, .unset] [(.ref b1), (.ref b1)])) _
    refine XS.iconst X1.here hx rfl (hb hby at_55) ?_
    show Steps p.tables e below (T1.setTop (mkF m 56 #[.val (.long q1), .second, .val (.long q2), .second, .val (.long q3), .second, .val (.long q4), .second, .val (.long q5), .second, .val (.int p6), .val (.int (2 : Int32)), .val (.int (((p6.toUInt32 >>> ((2 : Int32) &&& 31).toUInt32).toInt32) &&& (3 : Int32))), .unset, .unset, .unset, .unset, .unset, .unset] [(.int (0 : Int32)), (.ref b1), (.ref b1)])) _
    refine XS.lloadN X1.here hx rfl (hb hby at_56) rfl ?_
    show Steps p.tables e below (T1.setTop (mkF m 57 #[.val (.long q1), .second, .val (.long q2), .second, .val (.long q3), .second, .val (.long q4), .second, .val (.long q5), .second, .val (.int p6), .val (.int (2 : Int32)), .val (.int (((p6.toUInt32 >>> ((2 : Int32) &&& 31).toUInt32).toInt32) &&& (3 : Int32))), .unset, .unset, .unset, .unset, .unset, .unset] [(.long q1), (.int (0 : Int32)), (.ref b1), (.ref b1)])) _
    refine st2 _ ?_
    show Steps p.tables e below (T2.setTop (mkF m 58 #[.val (.long q1), .second, .val (.long q2), .second, .val (.long q3), .second, .val (.long q4), .second, .val (.long q5), .second, .val (.int p6), .val (.int (2 : Int32)), .val (.int (((p6.toUInt32 >>> ((2 : Int32) &&& 31).toUInt32).toInt32) &&& (3 : Int32))), .unset, .unset, .unset, .unset, .unset, .unset] [(.ref b1)])) _
    refine XS.dup X2.here hx rfl (hb hby at_58) rfl rfl ?_
    show Steps p.tables e below (T2.setTop (mkF m 59 #[.val (.long q1), .second, .val (.long q2), .second, .val (.long q3), .second, .val (.long q4), .second, .val (.long q5), .second, .val (.int p6), .val (.int (2 : Int32)), .val (.int (((p6.toUInt32 >>> ((2 : Int32) &&& 31).toUInt32).toInt32) &&& (3 : Int32))), .unset, .unset, .unset, .unset, .unset, .unset] [(.ref b1), (.ref b1)])) _
    refine XS.iconst X2.here hx rfl (hb hby at_59) ?_
    show Steps p.tables e below (T2.setTop (mkF m 60 #[.val (.long q1), .second, .val (.long q2), .second, .val (.long q3), .second, .val (.long q4), .second, .val (.long q5), .second, .val (.int p6), .val (.int (2 : Int32)), .val (.int (((p6.toUInt32 >>> ((2 : Int32) &&& 31).toUInt32).toInt32) &&& (3 : Int32))), .unset, .unset, .unset, .unset, .unset, .unset] [(.int (1 : Int32)), (.ref b1), (.ref b1)])) _
    refine XS.lloadN X2.here hx rfl (hb hby at_60) rfl ?_
    show Steps p.tables e below (T2.setTop (mkF m 61 #[.val (.long q1), .second, .val (.long q2), .second, .val (.long q3), .second, .val (.long q4), .second, .val (.long q5), .second, .val (.int p6), .val (.int (2 : Int32)), .val (.int (((p6.toUInt32 >>> ((2 : Int32) &&& 31).toUInt32).toInt32) &&& (3 : Int32))), .unset, .unset, .unset, .unset, .unset, .unset] [(.long q2), (.int (1 : Int32)), (.ref b1), (.ref b1)])) _
    refine st3 _ ?_
    show Steps p.tables e below (T3.setTop (mkF m 62 #[.val (.long q1), .second, .val (.long q2), .second, .val (.long q3), .second, .val (.long q4), .second, .val (.long q5), .second, .val (.int p6), .val (.int (2 : Int32)), .val (.int (((p6.toUInt32 >>> ((2 : Int32) &&& 31).toUInt32).toInt32) &&& (3 : Int32))), .unset, .unset, .unset, .unset, .unset, .unset] [(.ref b1)])) _
    refine XS.astore X3.here hx rfl (hb hby at_62) rfl rfl (l' := #[.val (.long q1), .second, .val (.long q2), .second, .val (.long q3), .second, .val (.long q4), .second, .val (.long q5), .second, .val (.int p6), .val (.int (2 : Int32)), .val (.int (((p6.toUInt32 >>> ((2 : Int32) &&& 31).toUInt32).toInt32) &&& (3 : Int32))), .val (.ref b1), .unset, .unset, .unset, .unset, .unset]) rfl ?_
    show Steps p.tables e below (T3.setTop (mkF m 64 #[.val (.long q1), .second, .val (.long q2), .second, .val (.long q3), .second, .val (.long q4), .second, .val (.long q5), .second, .val (.int p6), .val (.int (2 : Int32)), .val (.int (((p6.toUInt32 >>> ((2 : Int32) &&& 31).toUInt32).toInt32) &&& (3 : Int32))), .val (.ref b1), .unset, .unset, .unset, .unset, .unset] [])) _
    refine XS.goto X3.here hx rfl (pc0 := 64) (pc' := 85) rfl (hb hby at_64) (by decide) (by decide) ?_
    show Steps p.tables e below (T3.setTop (mkF m 85 #[.val (.long q1), .second, .val (.long q2), .second, .val (.long q3), .second, .val (.long q4), .second, .val (.long q5), .second, .val (.int p6), .val (.int (2 : Int32)), .val (.int (((p6.toUInt32 >>> ((2 : Int32) &&& 31).toUInt32).toInt32) &&& (3 : Int32))), .val (.ref b1), .unset, .unset, .unset, .unset, .unset] [])) _
    refine XS.iload X3.here hx rfl (hb hby at_85) rfl ?_
    show Steps p.tables e below (T3.setTop (mkF m 87 #[.val (.long q1), .second, .val (.long q2), .second, .val (.long q3), .second, .val (.long q4), .second, .val (.long q5), .second, .val (.int p6), .val (.int (2 : Int32)), .val (.int (((p6.toUInt32 >>> ((2 : Int32) &&& 31).toUInt32).toInt32) &&& (3 : Int32))), .val (.ref b1), .unset, .unset, .unset, .unset, .unset] [(.int (((p6.toUInt32 >>> ((2 : Int32) &&& 31).toUInt32).toInt32) &&& (3 : Int32)))])) _
    have sg87 : ∀ target, Steps p.tables e below (T3.setTop (mkF m 125 #[.val (.long q1), .second, .val (.long q2), .second, .val (.long q3), .second, .val (.long q4), .second, .val (.long q5), .second, .val (.int p6), .val (.int (2 : Int32)), .val (.int (((p6.toUInt32 >>> ((2 : Int32) &&& 31).toUInt32).toInt32) &&& (3 : Int32))), .val (.ref b1), .val (.long (if (((p6.toUInt32 >>> ((2 : Int32) &&& 31).toUInt32).toInt32) &&& (3 : Int32)) = (0 : Int32) then q4 else (if (((p6.toUInt32 >>> ((2 : Int32) &&& 31).toUInt32).toInt32) &&& (3 : Int32)) = (1 : Int32) then q1 else (if (((p6.toUInt32 >>> ((2 : Int32) &&& 31).toUInt32).toInt32) &&& (3 : Int32)) = (2 : Int32) then q2 else q3)))), .second, .unset, .unset, .unset] [])) target → Steps p.tables e below (T3.setTop (mkF m 87 #[.val (.long q1), .second, .val (.long q2), .second, .val (.long q3), .second, .val (.long q4), .second, .val (.long q5), .second, .val (.int p6), .val (.int (2 : Int32)), .val (.int (((p6.toUInt32 >>> ((2 : Int32) &&& 31).toUInt32).toInt32) &&& (3 : Int32))), .val (.ref b1), .unset, .unset, .unset, .unset, .unset] [(.int (((p6.toUInt32 >>> ((2 : Int32) &&& 31).toUInt32).toInt32) &&& (3 : Int32)))])) target := by
      intro target kt
      rcases Classical.em ((((p6.toUInt32 >>> ((2 : Int32) &&& 31).toUInt32).toInt32) &&& (3 : Int32)) = (0 : Int32)) with hr87_0 | hr87_0
      · (try simp only [if_pos hr87_0] at kt)
        refine XS.ifNo X3.here hx rfl (hb hby at_87) rfl ((if0 _ _).trans (teq hr87_0).2) ?_
        show Steps p.tables e below (T3.setTop (mkF m 90 #[.val (.long q1), .second, .val (.long q2), .second, .val (.long q3), .second, .val (.long q4), .second, .val (.long q5), .second, .val (.int p6), .val (.int (2 : Int32)), .val (.int (((p6.toUInt32 >>> ((2 : Int32) &&& 31).toUInt32).toInt32) &&& (3 : Int32))), .val (.ref b1), .unset, .unset, .unset, .unset, .unset] [])) _
        refine XS.lload X3.here hx rfl (hb hby at_90) rfl ?_
        show Steps p.tables e below (T3.setTop (mkF m 92 #[.val (.long q1), .second, .val (.long q2), .second, .val (.long q3), .second, .val (.long q4), .second, .val (.long q5), .second, .val (.int p6), .val (.int (2 : Int32)), .val (.int (((p6.toUInt32 >>> ((2 : Int32) &&& 31).toUInt32).toInt32) &&& (3 : Int32))), .val (.ref b1), .unset, .unset, .unset, .unset, .unset] [(.long q4)])) _
        refine XS.lstore X3.here hx rfl (hb hby at_92) rfl (l' := #[.val (.long q1), .second, .val (.long q2), .second, .val (.long q3), .second, .val (.long q4), .second, .val (.long q5), .second, .val (.int p6), .val (.int (2 : Int32)), .val (.int (((p6.toUInt32 >>> ((2 : Int32) &&& 31).toUInt32).toInt32) &&& (3 : Int32))), .val (.ref b1), .val (.long q4), .second, .unset, .unset, .unset]) rfl ?_
        show Steps p.tables e below (T3.setTop (mkF m 94 #[.val (.long q1), .second, .val (.long q2), .second, .val (.long q3), .second, .val (.long q4), .second, .val (.long q5), .second, .val (.int p6), .val (.int (2 : Int32)), .val (.int (((p6.toUInt32 >>> ((2 : Int32) &&& 31).toUInt32).toInt32) &&& (3 : Int32))), .val (.ref b1), .val (.long q4), .second, .unset, .unset, .unset] [])) _
        refine XS.goto X3.here hx rfl (pc0 := 94) (pc' := 125) rfl (hb hby at_94) (by decide) (by decide) ?_
        show Steps p.tables e below (T3.setTop (mkF m 125 #[.val (.long q1), .second, .val (.long q2), .second, .val (.long q3), .second, .val (.long q4), .second, .val (.long q5), .second, .val (.int p6), .val (.int (2 : Int32)), .val (.int (((p6.toUInt32 >>> ((2 : Int32) &&& 31).toUInt32).toInt32) &&& (3 : Int32))), .val (.ref b1), .val (.long q4), .second, .unset, .unset, .unset] [])) _
        exact kt
      · (try simp only [if_neg hr87_0] at kt)
        refine XS.ifYes X3.here hx rfl (pc0 := 87) (pc' := 97) rfl (hb hby at_87) rfl ((if0 _ _).trans (feq hr87_0).2) (by decide) (by decide) ?_
        show Steps p.tables e below (T3.setTop (mkF m 97 #[.val (.long q1), .second, .val (.long q2), .second, .val (.long q3), .second, .val (.long q4), .second, .val (.long q5), .second, .val (.int p6), .val (.int (2 : Int32)), .val (.int (((p6.toUInt32 >>> ((2 : Int32) &&& 31).toUInt32).toInt32) &&& (3 : Int32))), .val (.ref b1), .unset, .unset, .unset, .unset, .unset] [])) _
        refine XS.iload X3.here hx rfl (hb hby at_97) rfl ?_
        show Steps p.tables e below (T3.setTop (mkF m 99 #[.val (.long q1), .second, .val (.long q2), .second, .val (.long q3), .second, .val (.long q4), .second, .val (.long q5), .second, .val (.int p6), .val (.int (2 : Int32)), .val (.int (((p6.toUInt32 >>> ((2 : Int32) &&& 31).toUInt32).toInt32) &&& (3 : Int32))), .val (.ref b1), .unset, .unset, .unset, .unset, .unset] [(.int (((p6.toUInt32 >>> ((2 : Int32) &&& 31).toUInt32).toInt32) &&& (3 : Int32)))])) _
        refine XS.iconst X3.here hx rfl (hb hby at_99) ?_
        show Steps p.tables e below (T3.setTop (mkF m 100 #[.val (.long q1), .second, .val (.long q2), .second, .val (.long q3), .second, .val (.long q4), .second, .val (.long q5), .second, .val (.int p6), .val (.int (2 : Int32)), .val (.int (((p6.toUInt32 >>> ((2 : Int32) &&& 31).toUInt32).toInt32) &&& (3 : Int32))), .val (.ref b1), .unset, .unset, .unset, .unset, .unset] [(.int (1 : Int32)), (.int (((p6.toUInt32 >>> ((2 : Int32) &&& 31).toUInt32).toInt32) &&& (3 : Int32)))])) _
        rcases Classical.em ((((p6.toUInt32 >>> ((2 : Int32) &&& 31).toUInt32).toInt32) &&& (3 : Int32)) = (1 : Int32)) with hr100_1 | hr100_1
        · (try simp only [if_pos hr100_1] at kt)
          refine XS.icmpNo X3.here hx rfl (hb hby at_100) rfl (teq hr100_1).2 ?_
          show Steps p.tables e below (T3.setTop (mkF m 103 #[.val (.long q1), .second, .val (.long q2), .second, .val (.long q3), .second, .val (.long q4), .second, .val (.long q5), .second, .val (.int p6), .val (.int (2 : Int32)), .val (.int (((p6.toUInt32 >>> ((2 : Int32) &&& 31).toUInt32).toInt32) &&& (3 : Int32))), .val (.ref b1), .unset, .unset, .unset, .unset, .unset] [])) _
          refine XS.lloadN X3.here hx rfl (hb hby at_103) rfl ?_
          show Steps p.tables e below (T3.setTop (mkF m 104 #[.val (.long q1), .second, .val (.long q2), .second, .val (.long q3), .second, .val (.long q4), .second, .val (.long q5), .second, .val (.int p6), .val (.int (2 : Int32)), .val (.int (((p6.toUInt32 >>> ((2 : Int32) &&& 31).toUInt32).toInt32) &&& (3 : Int32))), .val (.ref b1), .unset, .unset, .unset, .unset, .unset] [(.long q1)])) _
          refine XS.lstore X3.here hx rfl (hb hby at_104) rfl (l' := #[.val (.long q1), .second, .val (.long q2), .second, .val (.long q3), .second, .val (.long q4), .second, .val (.long q5), .second, .val (.int p6), .val (.int (2 : Int32)), .val (.int (((p6.toUInt32 >>> ((2 : Int32) &&& 31).toUInt32).toInt32) &&& (3 : Int32))), .val (.ref b1), .val (.long q1), .second, .unset, .unset, .unset]) rfl ?_
          show Steps p.tables e below (T3.setTop (mkF m 106 #[.val (.long q1), .second, .val (.long q2), .second, .val (.long q3), .second, .val (.long q4), .second, .val (.long q5), .second, .val (.int p6), .val (.int (2 : Int32)), .val (.int (((p6.toUInt32 >>> ((2 : Int32) &&& 31).toUInt32).toInt32) &&& (3 : Int32))), .val (.ref b1), .val (.long q1), .second, .unset, .unset, .unset] [])) _
          refine XS.goto X3.here hx rfl (pc0 := 106) (pc' := 125) rfl (hb hby at_106) (by decide) (by decide) ?_
          show Steps p.tables e below (T3.setTop (mkF m 125 #[.val (.long q1), .second, .val (.long q2), .second, .val (.long q3), .second, .val (.long q4), .second, .val (.long q5), .second, .val (.int p6), .val (.int (2 : Int32)), .val (.int (((p6.toUInt32 >>> ((2 : Int32) &&& 31).toUInt32).toInt32) &&& (3 : Int32))), .val (.ref b1), .val (.long q1), .second, .unset, .unset, .unset] [])) _
          exact kt
        · (try simp only [if_neg hr100_1] at kt)
          refine XS.icmpYes X3.here hx rfl (pc0 := 100) (pc' := 109) rfl (hb hby at_100) rfl (feq hr100_1).2 (by decide) (by decide) ?_
          show Steps p.tables e below (T3.setTop (mkF m 109 #[.val (.long q1), .second, .val (.long q2), .second, .val (.long q3), .second, .val (.long q4), .second, .val (.long q5), .second, .val (.int p6), .val (.int (2 : Int32)), .val (.int (((p6.toUInt32 >>> ((2 : Int32) &&& 31).toUInt32).toInt32) &&& (3 : Int32))), .val (.ref b1), .unset, .unset, .unset, .unset, .unset] [])) _
          refine XS.iload X3.here hx rfl (hb hby at_109) rfl ?_
          show Steps p.tables e below (T3.setTop (mkF m 111 #[.val (.long q1), .second, .val (.long q2), .second, .val (.long q3), .second, .val (.long q4), .second, .val (.long q5), .second, .val (.int p6), .val (.int (2 : Int32)), .val (.int (((p6.toUInt32 >>> ((2 : Int32) &&& 31).toUInt32).toInt32) &&& (3 : Int32))), .val (.ref b1), .unset, .unset, .unset, .unset, .unset] [(.int (((p6.toUInt32 >>> ((2 : Int32) &&& 31).toUInt32).toInt32) &&& (3 : Int32)))])) _
          refine XS.iconst X3.here hx rfl (hb hby at_111) ?_
          show Steps p.tables e below (T3.setTop (mkF m 112 #[.val (.long q1), .second, .val (.long q2), .second, .val (.long q3), .second, .val (.long q4), .second, .val (.long q5), .second, .val (.int p6), .val (.int (2 : Int32)), .val (.int (((p6.toUInt32 >>> ((2 : Int32) &&& 31).toUInt32).toInt32) &&& (3 : Int32))), .val (.ref b1), .unset, .unset, .unset, .unset, .unset] [(.int (2 : Int32)), (.int (((p6.toUInt32 >>> ((2 : Int32) &&& 31).toUInt32).toInt32) &&& (3 : Int32)))])) _
          rcases Classical.em ((((p6.toUInt32 >>> ((2 : Int32) &&& 31).toUInt32).toInt32) &&& (3 : Int32)) = (2 : Int32)) with hr112_2 | hr112_2
          · (try simp only [if_pos hr112_2] at kt)
            refine XS.icmpNo X3.here hx rfl (hb hby at_112) rfl (teq hr112_2).2 ?_
            show Steps p.tables e below (T3.setTop (mkF m 115 #[.val (.long q1), .second, .val (.long q2), .second, .val (.long q3), .second, .val (.long q4), .second, .val (.long q5), .second, .val (.int p6), .val (.int (2 : Int32)), .val (.int (((p6.toUInt32 >>> ((2 : Int32) &&& 31).toUInt32).toInt32) &&& (3 : Int32))), .val (.ref b1), .unset, .unset, .unset, .unset, .unset] [])) _
            refine XS.lloadN X3.here hx rfl (hb hby at_115) rfl ?_
            show Steps p.tables e below (T3.setTop (mkF m 116 #[.val (.long q1), .second, .val (.long q2), .second, .val (.long q3), .second, .val (.long q4), .second, .val (.long q5), .second, .val (.int p6), .val (.int (2 : Int32)), .val (.int (((p6.toUInt32 >>> ((2 : Int32) &&& 31).toUInt32).toInt32) &&& (3 : Int32))), .val (.ref b1), .unset, .unset, .unset, .unset, .unset] [(.long q2)])) _
            refine XS.lstore X3.here hx rfl (hb hby at_116) rfl (l' := #[.val (.long q1), .second, .val (.long q2), .second, .val (.long q3), .second, .val (.long q4), .second, .val (.long q5), .second, .val (.int p6), .val (.int (2 : Int32)), .val (.int (((p6.toUInt32 >>> ((2 : Int32) &&& 31).toUInt32).toInt32) &&& (3 : Int32))), .val (.ref b1), .val (.long q2), .second, .unset, .unset, .unset]) rfl ?_
            show Steps p.tables e below (T3.setTop (mkF m 118 #[.val (.long q1), .second, .val (.long q2), .second, .val (.long q3), .second, .val (.long q4), .second, .val (.long q5), .second, .val (.int p6), .val (.int (2 : Int32)), .val (.int (((p6.toUInt32 >>> ((2 : Int32) &&& 31).toUInt32).toInt32) &&& (3 : Int32))), .val (.ref b1), .val (.long q2), .second, .unset, .unset, .unset] [])) _
            refine XS.goto X3.here hx rfl (pc0 := 118) (pc' := 125) rfl (hb hby at_118) (by decide) (by decide) ?_
            show Steps p.tables e below (T3.setTop (mkF m 125 #[.val (.long q1), .second, .val (.long q2), .second, .val (.long q3), .second, .val (.long q4), .second, .val (.long q5), .second, .val (.int p6), .val (.int (2 : Int32)), .val (.int (((p6.toUInt32 >>> ((2 : Int32) &&& 31).toUInt32).toInt32) &&& (3 : Int32))), .val (.ref b1), .val (.long q2), .second, .unset, .unset, .unset] [])) _
            exact kt
          · (try simp only [if_neg hr112_2] at kt)
            refine XS.icmpYes X3.here hx rfl (pc0 := 112) (pc' := 121) rfl (hb hby at_112) rfl (feq hr112_2).2 (by decide) (by decide) ?_
            show Steps p.tables e below (T3.setTop (mkF m 121 #[.val (.long q1), .second, .val (.long q2), .second, .val (.long q3), .second, .val (.long q4), .second, .val (.long q5), .second, .val (.int p6), .val (.int (2 : Int32)), .val (.int (((p6.toUInt32 >>> ((2 : Int32) &&& 31).toUInt32).toInt32) &&& (3 : Int32))), .val (.ref b1), .unset, .unset, .unset, .unset, .unset] [])) _
            refine XS.lload X3.here hx rfl (hb hby at_121) rfl ?_
            show Steps p.tables e below (T3.setTop (mkF m 123 #[.val (.long q1), .second, .val (.long q2), .second, .val (.long q3), .second, .val (.long q4), .second, .val (.long q5), .second, .val (.int p6), .val (.int (2 : Int32)), .val (.int (((p6.toUInt32 >>> ((2 : Int32) &&& 31).toUInt32).toInt32) &&& (3 : Int32))), .val (.ref b1), .unset, .unset, .unset, .unset, .unset] [(.long q3)])) _
            refine XS.lstore X3.here hx rfl (hb hby at_123) rfl (l' := #[.val (.long q1), .second, .val (.long q2), .second, .val (.long q3), .second, .val (.long q4), .second, .val (.long q5), .second, .val (.int p6), .val (.int (2 : Int32)), .val (.int (((p6.toUInt32 >>> ((2 : Int32) &&& 31).toUInt32).toInt32) &&& (3 : Int32))), .val (.ref b1), .val (.long q3), .second, .unset, .unset, .unset]) rfl ?_
            show Steps p.tables e below (T3.setTop (mkF m 125 #[.val (.long q1), .second, .val (.long q2), .second, .val (.long q3), .second, .val (.long q4), .second, .val (.long q5), .second, .val (.int p6), .val (.int (2 : Int32)), .val (.int (((p6.toUInt32 >>> ((2 : Int32) &&& 31).toUInt32).toInt32) &&& (3 : Int32))), .val (.ref b1), .val (.long q3), .second, .unset, .unset, .unset] [])) _
            exact kt
    refine sg87 _ ?_
    show Steps p.tables e below (T3.setTop (mkF m 125 #[.val (.long q1), .second, .val (.long q2), .second, .val (.long q3), .second, .val (.long q4), .second, .val (.long q5), .second, .val (.int p6), .val (.int (2 : Int32)), .val (.int (((p6.toUInt32 >>> ((2 : Int32) &&& 31).toUInt32).toInt32) &&& (3 : Int32))), .val (.ref b1), .val (.long (if (((p6.toUInt32 >>> ((2 : Int32) &&& 31).toUInt32).toInt32) &&& (3 : Int32)) = (0 : Int32) then q4 else (if (((p6.toUInt32 >>> ((2 : Int32) &&& 31).toUInt32).toInt32) &&& (3 : Int32)) = (1 : Int32) then q1 else (if (((p6.toUInt32 >>> ((2 : Int32) &&& 31).toUInt32).toInt32) &&& (3 : Int32)) = (2 : Int32) then q2 else q3)))), .second, .unset, .unset, .unset] [])) _
    rw [← h_x]
    show Steps p.tables e below (T3.setTop (mkF m 125 #[.val (.long q1), .second, .val (.long q2), .second, .val (.long q3), .second, .val (.long q4), .second, .val (.long q5), .second, .val (.int p6), .val (.int (2 : Int32)), .val (.int (((p6.toUInt32 >>> ((2 : Int32) &&& 31).toUInt32).toInt32) &&& (3 : Int32))), .val (.ref b1), .val (.long x), .second, .unset, .unset, .unset] [])) _
    refine st4 _ ?_
    show Steps p.tables e below (T4.setTop (mkF m 128 #[.val (.long q1), .second, .val (.long q2), .second, .val (.long q3), .second, .val (.long q4), .second, .val (.long q5), .second, .val (.int p6), .val (.int (2 : Int32)), .val (.int (((p6.toUInt32 >>> ((2 : Int32) &&& 31).toUInt32).toInt32) &&& (3 : Int32))), .val (.ref b1), .val (.long x), .second, .unset, .unset, .unset] [(.ref b4)])) _
    refine XS.dup X4.here hx rfl (hb hby at_128) rfl rfl ?_
    show Steps p.tables e below (T4.setTop (mkF m 129 #[.val (.long q1), .second, .val (.long q2), .second, .val (.long q3), .second, .val (.long q4), .second, .val (.long q5), .second, .val (.int p6), .val (.int (2 : Int32)), .val (.int (((p6.toUInt32 >>> ((2 : Int32) &&& 31).toUInt32).toInt32) &&& (3 : Int32))), .val (.ref b1), .val (.long x), .second, .unset, .unset, .unset] [(.ref b4), (.ref b4)])) _
    refine st5.trans ?_
    show Steps p.tables e below (T5.setTop (mkF m 132 #[.val (.long q1), .second, .val (.long q2), .second, .val (.long q3), .second, .val (.long q4), .second, .val (.long q5), .second, .val (.int p6), .val (.int (2 : Int32)), .val (.int (((p6.toUInt32 >>> ((2 : Int32) &&& 31).toUInt32).toInt32) &&& (3 : Int32))), .val (.ref b1), .val (.long x), .second, .unset, .unset, .unset] [(.ref b4)])) _
    refine XS.astore X5.here hx rfl (hb hby at_132) rfl rfl (l' := #[.val (.long q1), .second, .val (.long q2), .second, .val (.long q3), .second, .val (.long q4), .second, .val (.long q5), .second, .val (.int p6), .val (.int (2 : Int32)), .val (.int (((p6.toUInt32 >>> ((2 : Int32) &&& 31).toUInt32).toInt32) &&& (3 : Int32))), .val (.ref b1), .val (.long x), .second, .val (.ref b4), .unset, .unset]) rfl ?_
    show Steps p.tables e below (T5.setTop (mkF m 134 #[.val (.long q1), .second, .val (.long q2), .second, .val (.long q3), .second, .val (.long q4), .second, .val (.long q5), .second, .val (.int p6), .val (.int (2 : Int32)), .val (.int (((p6.toUInt32 >>> ((2 : Int32) &&& 31).toUInt32).toInt32) &&& (3 : Int32))), .val (.ref b1), .val (.long x), .second, .val (.ref b4), .unset, .unset] [])) _
    refine st6 _ ?_
    show Steps p.tables e below (T6.setTop (mkF m 137 #[.val (.long q1), .second, .val (.long q2), .second, .val (.long q3), .second, .val (.long q4), .second, .val (.long q5), .second, .val (.int p6), .val (.int (2 : Int32)), .val (.int (((p6.toUInt32 >>> ((2 : Int32) &&& 31).toUInt32).toInt32) &&& (3 : Int32))), .val (.ref b1), .val (.long x), .second, .val (.ref b4), .unset, .unset] [(.ref b6)])) _
    refine XS.dup X6.here hx rfl (hb hby at_137) rfl rfl ?_
    show Steps p.tables e below (T6.setTop (mkF m 138 #[.val (.long q1), .second, .val (.long q2), .second, .val (.long q3), .second, .val (.long q4), .second, .val (.long q5), .second, .val (.int p6), .val (.int (2 : Int32)), .val (.int (((p6.toUInt32 >>> ((2 : Int32) &&& 31).toUInt32).toInt32) &&& (3 : Int32))), .val (.ref b1), .val (.long x), .second, .val (.ref b4), .unset, .unset] [(.ref b6), (.ref b6)])) _
    refine XS.aload X6.here hx rfl (hb hby at_138) rfl rfl ?_
    show Steps p.tables e below (T6.setTop (mkF m 140 #[.val (.long q1), .second, .val (.long q2), .second, .val (.long q3), .second, .val (.long q4), .second, .val (.long q5), .second, .val (.int p6), .val (.int (2 : Int32)), .val (.int (((p6.toUInt32 >>> ((2 : Int32) &&& 31).toUInt32).toInt32) &&& (3 : Int32))), .val (.ref b1), .val (.long x), .second, .val (.ref b4), .unset, .unset] [(.ref b4), (.ref b6), (.ref b6)])) _
    refine XS.aload X6.here hx rfl (hb hby at_140) rfl rfl ?_
    show Steps p.tables e below (T6.setTop (mkF m 142 #[.val (.long q1), .second, .val (.long q2), .second, .val (.long q3), .second, .val (.long q4), .second, .val (.long q5), .second, .val (.int p6), .val (.int (2 : Int32)), .val (.int (((p6.toUInt32 >>> ((2 : Int32) &&& 31).toUInt32).toInt32) &&& (3 : Int32))), .val (.ref b1), .val (.long x), .second, .val (.ref b4), .unset, .unset] [(.ref b1), (.ref b4), (.ref b6), (.ref b6)])) _
    refine XS.lload X6.here hx rfl (hb hby at_142) rfl ?_
    show Steps p.tables e below (T6.setTop (mkF m 144 #[.val (.long q1), .second, .val (.long q2), .second, .val (.long q3), .second, .val (.long q4), .second, .val (.long q5), .second, .val (.int p6), .val (.int (2 : Int32)), .val (.int (((p6.toUInt32 >>> ((2 : Int32) &&& 31).toUInt32).toInt32) &&& (3 : Int32))), .val (.ref b1), .val (.long x), .second, .val (.ref b4), .unset, .unset] [(.long q5), (.ref b1), (.ref b4), (.ref b6), (.ref b6)])) _
    refine st7.trans ?_
    show Steps p.tables e below (T7.setTop (mkF m 147 #[.val (.long q1), .second, .val (.long q2), .second, .val (.long q3), .second, .val (.long q4), .second, .val (.long q5), .second, .val (.int p6), .val (.int (2 : Int32)), .val (.int (((p6.toUInt32 >>> ((2 : Int32) &&& 31).toUInt32).toInt32) &&& (3 : Int32))), .val (.ref b1), .val (.long x), .second, .val (.ref b4), .unset, .unset] [(.ref b6)])) _
    refine XS.astore X7.here hx rfl (hb hby at_147) rfl rfl (l' := #[.val (.long q1), .second, .val (.long q2), .second, .val (.long q3), .second, .val (.long q4), .second, .val (.long q5), .second, .val (.int p6), .val (.int (2 : Int32)), .val (.int (((p6.toUInt32 >>> ((2 : Int32) &&& 31).toUInt32).toInt32) &&& (3 : Int32))), .val (.ref b1), .val (.long x), .second, .val (.ref b4), .val (.ref b6), .unset]) rfl ?_
    show Steps p.tables e below (T7.setTop (mkF m 149 #[.val (.long q1), .second, .val (.long q2), .second, .val (.long q3), .second, .val (.long q4), .second, .val (.long q5), .second, .val (.int p6), .val (.int (2 : Int32)), .val (.int (((p6.toUInt32 >>> ((2 : Int32) &&& 31).toUInt32).toInt32) &&& (3 : Int32))), .val (.ref b1), .val (.long x), .second, .val (.ref b4), .val (.ref b6), .unset] [])) _
    refine XS.iload X7.here hx rfl (hb hby at_149) rfl ?_
    show Steps p.tables e below (T7.setTop (mkF m 151 #[.val (.long q1), .second, .val (.long q2), .second, .val (.long q3), .second, .val (.long q4), .second, .val (.long q5), .second, .val (.int p6), .val (.int (2 : Int32)), .val (.int (((p6.toUInt32 >>> ((2 : Int32) &&& 31).toUInt32).toInt32) &&& (3 : Int32))), .val (.ref b1), .val (.long x), .second, .val (.ref b4), .val (.ref b6), .unset] [(.int (2 : Int32))])) _
    have sg151 : ∀ target, Steps p.tables e below (T7.setTop (mkF m 193 #[.val (.long q1), .second, .val (.long q2), .second, .val (.long q3), .second, .val (.long q4), .second, .val (.long q5), .second, .val (.int p6), .val (.int (2 : Int32)), .val (.int (((p6.toUInt32 >>> ((2 : Int32) &&& 31).toUInt32).toInt32) &&& (3 : Int32))), .val (.ref b1), .val (.long x), .second, .val (.ref b4), .val (.ref b6), .unset] [(.int (if (lcmpW x q1) = (0 : Int32) then (1 : Int32) else (if (lcmpW x q2) = (0 : Int32) then (1 : Int32) else (0 : Int32))))])) target → Steps p.tables e below (T7.setTop (mkF m 151 #[.val (.long q1), .second, .val (.long q2), .second, .val (.long q3), .second, .val (.long q4), .second, .val (.long q5), .second, .val (.int p6), .val (.int (2 : Int32)), .val (.int (((p6.toUInt32 >>> ((2 : Int32) &&& 31).toUInt32).toInt32) &&& (3 : Int32))), .val (.ref b1), .val (.long x), .second, .val (.ref b4), .val (.ref b6), .unset] [(.int (2 : Int32))])) target := by
      intro target kt
      refine XS.ifNo X7.here hx rfl (hb hby at_151) rfl ((if0 _ _).trans (tlt (by decide)).2.2.2) ?_
      show Steps p.tables e below (T7.setTop (mkF m 154 #[.val (.long q1), .second, .val (.long q2), .second, .val (.long q3), .second, .val (.long q4), .second, .val (.long q5), .second, .val (.int p6), .val (.int (2 : Int32)), .val (.int (((p6.toUInt32 >>> ((2 : Int32) &&& 31).toUInt32).toInt32) &&& (3 : Int32))), .val (.ref b1), .val (.long x), .second, .val (.ref b4), .val (.ref b6), .unset] [])) _
      refine XS.lload X7.here hx rfl (hb hby at_154) rfl ?_
      show Steps p.tables e below (T7.setTop (mkF m 156 #[.val (.long q1), .second, .val (.long q2), .second, .val (.long q3), .second, .val (.long q4), .second, .val (.long q5), .second, .val (.int p6), .val (.int (2 : Int32)), .val (.int (((p6.toUInt32 >>> ((2 : Int32) &&& 31).toUInt32).toInt32) &&& (3 : Int32))), .val (.ref b1), .val (.long x), .second, .val (.ref b4), .val (.ref b6), .unset] [(.long x)])) _
      refine XS.lloadN X7.here hx rfl (hb hby at_156) rfl ?_
      show Steps p.tables e below (T7.setTop (mkF m 157 #[.val (.long q1), .second, .val (.long q2), .second, .val (.long q3), .second, .val (.long q4), .second, .val (.long q5), .second, .val (.int p6), .val (.int (2 : Int32)), .val (.int (((p6.toUInt32 >>> ((2 : Int32) &&& 31).toUInt32).toInt32) &&& (3 : Int32))), .val (.ref b1), .val (.long x), .second, .val (.ref b4), .val (.ref b6), .unset] [(.long q1), (.long x)])) _
      refine XS.lcmp X7.here hx rfl (hb hby at_157) rfl ?_
      show Steps p.tables e below (T7.setTop (mkF m 158 #[.val (.long q1), .second, .val (.long q2), .second, .val (.long q3), .second, .val (.long q4), .second, .val (.long q5), .second, .val (.int p6), .val (.int (2 : Int32)), .val (.int (((p6.toUInt32 >>> ((2 : Int32) &&& 31).toUInt32).toInt32) &&& (3 : Int32))), .val (.ref b1), .val (.long x), .second, .val (.ref b4), .val (.ref b6), .unset] [(.int (lcmpW x q1))])) _
      rcases Classical.em ((lcmpW x q1) = (0 : Int32)) with hr158_0 | hr158_0
      · (try simp only [if_pos hr158_0] at kt)
        refine XS.ifYes X7.here hx rfl (pc0 := 158) (pc' := 188) rfl (hb hby at_158) rfl ((if0 _ _).trans (teq hr158_0).1) (by decide) (by decide) ?_
        show Steps p.tables e below (T7.setTop (mkF m 188 #[.val (.long q1), .second, .val (.long q2), .second, .val (.long q3), .second, .val (.long q4), .second, .val (.long q5), .second, .val (.int p6), .val (.int (2 : Int32)), .val (.int (((p6.toUInt32 >>> ((2 : Int32) &&& 31).toUInt32).toInt32) &&& (3 : Int32))), .val (.ref b1), .val (.long x), .second, .val (.ref b4), .val (.ref b6), .unset] [])) _
        refine XS.iconst X7.here hx rfl (hb hby at_188) ?_
        show Steps p.tables e below (T7.setTop (mkF m 189 #[.val (.long q1), .second, .val (.long q2), .second, .val (.long q3), .second, .val (.long q4), .second, .val (.long q5), .second, .val (.int p6), .val (.int (2 : Int32)), .val (.int (((p6.toUInt32 >>> ((2 : Int32) &&& 31).toUInt32).toInt32) &&& (3 : Int32))), .val (.ref b1), .val (.long x), .second, .val (.ref b4), .val (.ref b6), .unset] [(.int (1 : Int32))])) _
        refine XS.goto X7.here hx rfl (pc0 := 189) (pc' := 193) rfl (hb hby at_189) (by decide) (by decide) ?_
        show Steps p.tables e below (T7.setTop (mkF m 193 #[.val (.long q1), .second, .val (.long q2), .second, .val (.long q3), .second, .val (.long q4), .second, .val (.long q5), .second, .val (.int p6), .val (.int (2 : Int32)), .val (.int (((p6.toUInt32 >>> ((2 : Int32) &&& 31).toUInt32).toInt32) &&& (3 : Int32))), .val (.ref b1), .val (.long x), .second, .val (.ref b4), .val (.ref b6), .unset] [(.int (1 : Int32))])) _
        exact kt
      · (try simp only [if_neg hr158_0] at kt)
        refine XS.ifNo X7.here hx rfl (hb hby at_158) rfl ((if0 _ _).trans (feq hr158_0).1) ?_
        show Steps p.tables e below (T7.setTop (mkF m 161 #[.val (.long q1), .second, .val (.long q2), .second, .val (.long q3), .second, .val (.long q4), .second, .val (.long q5), .second, .val (.int p6), .val (.int (2 : Int32)), .val (.int (((p6.toUInt32 >>> ((2 : Int32) &&& 31).toUInt32).toInt32) &&& (3 : Int32))), .val (.ref b1), .val (.long x), .second, .val (.ref b4), .val (.ref b6), .unset] [])) _
        refine XS.iload X7.here hx rfl (hb hby at_161) rfl ?_
        show Steps p.tables e below (T7.setTop (mkF m 163 #[.val (.long q1), .second, .val (.long q2), .second, .val (.long q3), .second, .val (.long q4), .second, .val (.long q5), .second, .val (.int p6), .val (.int (2 : Int32)), .val (.int (((p6.toUInt32 >>> ((2 : Int32) &&& 31).toUInt32).toInt32) &&& (3 : Int32))), .val (.ref b1), .val (.long x), .second, .val (.ref b4), .val (.ref b6), .unset] [(.int (2 : Int32))])) _
        refine XS.iconst X7.here hx rfl (hb hby at_163) ?_
        show Steps p.tables e below (T7.setTop (mkF m 164 #[.val (.long q1), .second, .val (.long q2), .second, .val (.long q3), .second, .val (.long q4), .second, .val (.long q5), .second, .val (.int p6), .val (.int (2 : Int32)), .val (.int (((p6.toUInt32 >>> ((2 : Int32) &&& 31).toUInt32).toInt32) &&& (3 : Int32))), .val (.ref b1), .val (.long x), .second, .val (.ref b4), .val (.ref b6), .unset] [(.int (1 : Int32)), (.int (2 : Int32))])) _
        refine XS.icmpNo X7.here hx rfl (hb hby at_164) rfl (tlt (by decide)).2.2.2 ?_
        show Steps p.tables e below (T7.setTop (mkF m 167 #[.val (.long q1), .second, .val (.long q2), .second, .val (.long q3), .second, .val (.long q4), .second, .val (.long q5), .second, .val (.int p6), .val (.int (2 : Int32)), .val (.int (((p6.toUInt32 >>> ((2 : Int32) &&& 31).toUInt32).toInt32) &&& (3 : Int32))), .val (.ref b1), .val (.long x), .second, .val (.ref b4), .val (.ref b6), .unset] [])) _
        refine XS.lload X7.here hx rfl (hb hby at_167) rfl ?_
        show Steps p.tables e below (T7.setTop (mkF m 169 #[.val (.long q1), .second, .val (.long q2), .second, .val (.long q3), .second, .val (.long q4), .second, .val (.long q5), .second, .val (.int p6), .val (.int (2 : Int32)), .val (.int (((p6.toUInt32 >>> ((2 : Int32) &&& 31).toUInt32).toInt32) &&& (3 : Int32))), .val (.ref b1), .val (.long x), .second, .val (.ref b4), .val (.ref b6), .unset] [(.long x)])) _
        refine XS.lloadN X7.here hx rfl (hb hby at_169) rfl ?_
        show Steps p.tables e below (T7.setTop (mkF m 170 #[.val (.long q1), .second, .val (.long q2), .second, .val (.long q3), .second, .val (.long q4), .second, .val (.long q5), .second, .val (.int p6), .val (.int (2 : Int32)), .val (.int (((p6.toUInt32 >>> ((2 : Int32) &&& 31).toUInt32).toInt32) &&& (3 : Int32))), .val (.ref b1), .val (.long x), .second, .val (.ref b4), .val (.ref b6), .unset] [(.long q2), (.long x)])) _
        refine XS.lcmp X7.here hx rfl (hb hby at_170) rfl ?_
        show Steps p.tables e below (T7.setTop (mkF m 171 #[.val (.long q1), .second, .val (.long q2), .second, .val (.long q3), .second, .val (.long q4), .second, .val (.long q5), .second, .val (.int p6), .val (.int (2 : Int32)), .val (.int (((p6.toUInt32 >>> ((2 : Int32) &&& 31).toUInt32).toInt32) &&& (3 : Int32))), .val (.ref b1), .val (.long x), .second, .val (.ref b4), .val (.ref b6), .unset] [(.int (lcmpW x q2))])) _
        rcases Classical.em ((lcmpW x q2) = (0 : Int32)) with hr171_1 | hr171_1
        · (try simp only [if_pos hr171_1] at kt)
          refine XS.ifYes X7.here hx rfl (pc0 := 171) (pc' := 188) rfl (hb hby at_171) rfl ((if0 _ _).trans (teq hr171_1).1) (by decide) (by decide) ?_
          show Steps p.tables e below (T7.setTop (mkF m 188 #[.val (.long q1), .second, .val (.long q2), .second, .val (.long q3), .second, .val (.long q4), .second, .val (.long q5), .second, .val (.int p6), .val (.int (2 : Int32)), .val (.int (((p6.toUInt32 >>> ((2 : Int32) &&& 31).toUInt32).toInt32) &&& (3 : Int32))), .val (.ref b1), .val (.long x), .second, .val (.ref b4), .val (.ref b6), .unset] [])) _
          refine XS.iconst X7.here hx rfl (hb hby at_188) ?_
          show Steps p.tables e below (T7.setTop (mkF m 189 #[.val (.long q1), .second, .val (.long q2), .second, .val (.long q3), .second, .val (.long q4), .second, .val (.long q5), .second, .val (.int p6), .val (.int (2 : Int32)), .val (.int (((p6.toUInt32 >>> ((2 : Int32) &&& 31).toUInt32).toInt32) &&& (3 : Int32))), .val (.ref b1), .val (.long x), .second, .val (.ref b4), .val (.ref b6), .unset] [(.int (1 : Int32))])) _
          refine XS.goto X7.here hx rfl (pc0 := 189) (pc' := 193) rfl (hb hby at_189) (by decide) (by decide) ?_
          show Steps p.tables e below (T7.setTop (mkF m 193 #[.val (.long q1), .second, .val (.long q2), .second, .val (.long q3), .second, .val (.long q4), .second, .val (.long q5), .second, .val (.int p6), .val (.int (2 : Int32)), .val (.int (((p6.toUInt32 >>> ((2 : Int32) &&& 31).toUInt32).toInt32) &&& (3 : Int32))), .val (.ref b1), .val (.long x), .second, .val (.ref b4), .val (.ref b6), .unset] [(.int (1 : Int32))])) _
          exact kt
        · (try simp only [if_neg hr171_1] at kt)
          refine XS.ifNo X7.here hx rfl (hb hby at_171) rfl ((if0 _ _).trans (feq hr171_1).1) ?_
          show Steps p.tables e below (T7.setTop (mkF m 174 #[.val (.long q1), .second, .val (.long q2), .second, .val (.long q3), .second, .val (.long q4), .second, .val (.long q5), .second, .val (.int p6), .val (.int (2 : Int32)), .val (.int (((p6.toUInt32 >>> ((2 : Int32) &&& 31).toUInt32).toInt32) &&& (3 : Int32))), .val (.ref b1), .val (.long x), .second, .val (.ref b4), .val (.ref b6), .unset] [])) _
          refine XS.iload X7.here hx rfl (hb hby at_174) rfl ?_
          show Steps p.tables e below (T7.setTop (mkF m 176 #[.val (.long q1), .second, .val (.long q2), .second, .val (.long q3), .second, .val (.long q4), .second, .val (.long q5), .second, .val (.int p6), .val (.int (2 : Int32)), .val (.int (((p6.toUInt32 >>> ((2 : Int32) &&& 31).toUInt32).toInt32) &&& (3 : Int32))), .val (.ref b1), .val (.long x), .second, .val (.ref b4), .val (.ref b6), .unset] [(.int (2 : Int32))])) _
          refine XS.iconst X7.here hx rfl (hb hby at_176) ?_
          show Steps p.tables e below (T7.setTop (mkF m 177 #[.val (.long q1), .second, .val (.long q2), .second, .val (.long q3), .second, .val (.long q4), .second, .val (.long q5), .second, .val (.int p6), .val (.int (2 : Int32)), .val (.int (((p6.toUInt32 >>> ((2 : Int32) &&& 31).toUInt32).toInt32) &&& (3 : Int32))), .val (.ref b1), .val (.long x), .second, .val (.ref b4), .val (.ref b6), .unset] [(.int (2 : Int32)), (.int (2 : Int32))])) _
          refine XS.icmpYes X7.here hx rfl (pc0 := 177) (pc' := 192) rfl (hb hby at_177) rfl (flt (by decide)).2.2.2 (by decide) (by decide) ?_
          show Steps p.tables e below (T7.setTop (mkF m 192 #[.val (.long q1), .second, .val (.long q2), .second, .val (.long q3), .second, .val (.long q4), .second, .val (.long q5), .second, .val (.int p6), .val (.int (2 : Int32)), .val (.int (((p6.toUInt32 >>> ((2 : Int32) &&& 31).toUInt32).toInt32) &&& (3 : Int32))), .val (.ref b1), .val (.long x), .second, .val (.ref b4), .val (.ref b6), .unset] [])) _
          refine XS.iconst X7.here hx rfl (hb hby at_192) ?_
          show Steps p.tables e below (T7.setTop (mkF m 193 #[.val (.long q1), .second, .val (.long q2), .second, .val (.long q3), .second, .val (.long q4), .second, .val (.long q5), .second, .val (.int p6), .val (.int (2 : Int32)), .val (.int (((p6.toUInt32 >>> ((2 : Int32) &&& 31).toUInt32).toInt32) &&& (3 : Int32))), .val (.ref b1), .val (.long x), .second, .val (.ref b4), .val (.ref b6), .unset] [(.int (0 : Int32))])) _
          exact kt
    refine sg151 _ ?_
    show Steps p.tables e below (T7.setTop (mkF m 193 #[.val (.long q1), .second, .val (.long q2), .second, .val (.long q3), .second, .val (.long q4), .second, .val (.long q5), .second, .val (.int p6), .val (.int (2 : Int32)), .val (.int (((p6.toUInt32 >>> ((2 : Int32) &&& 31).toUInt32).toInt32) &&& (3 : Int32))), .val (.ref b1), .val (.long x), .second, .val (.ref b4), .val (.ref b6), .unset] [(.int (if (lcmpW x q1) = (0 : Int32) then (1 : Int32) else (if (lcmpW x q2) = (0 : Int32) then (1 : Int32) else (0 : Int32))))])) _
    refine XS.istore X7.here hx rfl (hb hby at_193) rfl (l' := #[.val (.long q1), .second, .val (.long q2), .second, .val (.long q3), .second, .val (.long q4), .second, .val (.long q5), .second, .val (.int p6), .val (.int (2 : Int32)), .val (.int (((p6.toUInt32 >>> ((2 : Int32) &&& 31).toUInt32).toInt32) &&& (3 : Int32))), .val (.ref b1), .val (.long x), .second, .val (.ref b4), .val (.ref b6), .val (.int (if (lcmpW x q1) = (0 : Int32) then (1 : Int32) else (if (lcmpW x q2) = (0 : Int32) then (1 : Int32) else (0 : Int32))))]) rfl ?_
    show Steps p.tables e below (T7.setTop (mkF m 195 #[.val (.long q1), .second, .val (.long q2), .second, .val (.long q3), .second, .val (.long q4), .second, .val (.long q5), .second, .val (.int p6), .val (.int (2 : Int32)), .val (.int (((p6.toUInt32 >>> ((2 : Int32) &&& 31).toUInt32).toInt32) &&& (3 : Int32))), .val (.ref b1), .val (.long x), .second, .val (.ref b4), .val (.ref b6), .val (.int (if (lcmpW x q1) = (0 : Int32) then (1 : Int32) else (if (lcmpW x q2) = (0 : Int32) then (1 : Int32) else (0 : Int32))))] [])) _
    refine XS.aload X7.here hx rfl (hb hby at_195) rfl rfl ?_
    show Steps p.tables e below (T7.setTop (mkF m 197 #[.val (.long q1), .second, .val (.long q2), .second, .val (.long q3), .second, .val (.long q4), .second, .val (.long q5), .second, .val (.int p6), .val (.int (2 : Int32)), .val (.int (((p6.toUInt32 >>> ((2 : Int32) &&& 31).toUInt32).toInt32) &&& (3 : Int32))), .val (.ref b1), .val (.long x), .second, .val (.ref b4), .val (.ref b6), .val (.int (if (lcmpW x q1) = (0 : Int32) then (1 : Int32) else (if (lcmpW x q2) = (0 : Int32) then (1 : Int32) else (0 : Int32))))] [(.ref b6)])) _
    refine XS.lload X7.here hx rfl (hb hby at_197) rfl ?_
    show Steps p.tables e below (T7.setTop (mkF m 199 #[.val (.long q1), .second, .val (.long q2), .second, .val (.long q3), .second, .val (.long q4), .second, .val (.long q5), .second, .val (.int p6), .val (.int (2 : Int32)), .val (.int (((p6.toUInt32 >>> ((2 : Int32) &&& 31).toUInt32).toInt32) &&& (3 : Int32))), .val (.ref b1), .val (.long x), .second, .val (.ref b4), .val (.ref b6), .val (.int (if (lcmpW x q1) = (0 : Int32) then (1 : Int32) else (if (lcmpW x q2) = (0 : Int32) then (1 : Int32) else (0 : Int32))))] [(.long x), (.ref b6)])) _
    refine st8.trans ?_
    show Steps p.tables e below (T8.setTop (mkF m 202 #[.val (.long q1), .second, .val (.long q2), .second, .val (.long q3), .second, .val (.long q4), .second, .val (.long q5), .second, .val (.int p6), .val (.int (2 : Int32)), .val (.int (((p6.toUInt32 >>> ((2 : Int32) &&& 31).toUInt32).toInt32) &&& (3 : Int32))), .val (.ref b1), .val (.long x), .second, .val (.ref b4), .val (.ref b6), .val (.int (if (lcmpW x q1) = (0 : Int32) then (1 : Int32) else (if (lcmpW x q2) = (0 : Int32) then (1 : Int32) else (0 : Int32))))] [(.int (if (lcmpW q1 x) = (0 : Int32) then (1 : Int32) else (if (lcmpW q2 x) = (0 : Int32) then (1 : Int32) else (0 : Int32))))])) _
    refine XS.iload X8.here hx rfl (hb hby at_202) rfl ?_
    show Steps p.tables e below (T8.setTop (mkF m 204 #[.val (.long q1), .second, .val (.long q2), .second, .val (.long q3), .second, .val (.long q4), .second, .val (.long q5), .second, .val (.int p6), .val (.int (2 : Int32)), .val (.int (((p6.toUInt32 >>> ((2 : Int32) &&& 31).toUInt32).toInt32) &&& (3 : Int32))), .val (.ref b1), .val (.long x), .second, .val (.ref b4), .val (.ref b6), .val (.int (if (lcmpW x q1) = (0 : Int32) then (1 : Int32) else (if (lcmpW x q2) = (0 : Int32) then (1 : Int32) else (0 : Int32))))] [(.int (if (lcmpW x q1) = (0 : Int32) then (1 : Int32) else (if (lcmpW x q2) = (0 : Int32) then (1 : Int32) else (0 : Int32)))), (.int (if (lcmpW q1 x) = (0 : Int32) then (1 : Int32) else (if (lcmpW q2 x) = (0 : Int32) then (1 : Int32) else (0 : Int32))))])) _
    refine XS.icmpNo X8.here hx rfl (hb hby at_204) rfl (teq own_eq2).2 ?_
    show Steps p.tables e below (T8.setTop (mkF m 207 #[.val (.long q1), .second, .val (.long q2), .second, .val (.long q3), .second, .val (.long q4), .second, .val (.long q5), .second, .val (.int p6), .val (.int (2 : Int32)), .val (.int (((p6.toUInt32 >>> ((2 : Int32) &&& 31).toUInt32).toInt32) &&& (3 : Int32))), .val (.ref b1), .val (.long x), .second, .val (.ref b4), .val (.ref b6), .val (.int (if (lcmpW x q1) = (0 : Int32) then (1 : Int32) else (if (lcmpW x q2) = (0 : Int32) then (1 : Int32) else (0 : Int32))))] [])) _
    refine XS.iconst X8.here hx rfl (hb hby at_207) ?_
    show Steps p.tables e below (T8.setTop (mkF m 208 #[.val (.long q1), .second, .val (.long q2), .second, .val (.long q3), .second, .val (.long q4), .second, .val (.long q5), .second, .val (.int p6), .val (.int (2 : Int32)), .val (.int (((p6.toUInt32 >>> ((2 : Int32) &&& 31).toUInt32).toInt32) &&& (3 : Int32))), .val (.ref b1), .val (.long x), .second, .val (.ref b4), .val (.ref b6), .val (.int (if (lcmpW x q1) = (0 : Int32) then (1 : Int32) else (if (lcmpW x q2) = (0 : Int32) then (1 : Int32) else (0 : Int32))))] [(.int (1 : Int32))])) _
    refine XS.goto X8.here hx rfl (pc0 := 208) (pc' := 212) rfl (hb hby at_208) (by decide) (by decide) ?_
    show Steps p.tables e below (T8.setTop (mkF m 212 #[.val (.long q1), .second, .val (.long q2), .second, .val (.long q3), .second, .val (.long q4), .second, .val (.long q5), .second, .val (.int p6), .val (.int (2 : Int32)), .val (.int (((p6.toUInt32 >>> ((2 : Int32) &&& 31).toUInt32).toInt32) &&& (3 : Int32))), .val (.ref b1), .val (.long x), .second, .val (.ref b4), .val (.ref b6), .val (.int (if (lcmpW x q1) = (0 : Int32) then (1 : Int32) else (if (lcmpW x q2) = (0 : Int32) then (1 : Int32) else (0 : Int32))))] [(.int (1 : Int32))])) _
    exact retN X8 hx (t := .boolean) Bd.returns (by simp) (hb hby at_212) hr
  · show Q_rm0_2 Z q1 q2 q3 q4 q5 p6 ds h0 n0 _ T8.heap _
    rw [e8]
    exact ⟨rfl, N8⟩

theorem ef_at3_ (m : MethodId) (q1 : Int64) (q2 : Int64) (q3 : Int64) (q4 : Int64) (q5 : Int64) (p6 : Int32) : entryFrame m #[(.long q1), (.long q2), (.long q3), (.long q4), (.long q5), (.int p6)] maxLocals = mkF m 0 #[.val (.long q1), .second, .val (.long q2), .second, .val (.long q3), .second, .val (.long q4), .second, .val (.long q5), .second, .val (.int p6), .unset, .unset, .unset, .unset, .unset, .unset, .unset, .unset] [] := by first | (simp [entryFrame, mkF, argsToLocals, Value.category, maxLocals]; done) | rfl
def Q_rm0_3 (Z : State) (q1 : Int64) (q2 : Int64) (q3 : Int64) (q4 : Int64) (q5 : Int64) (p6 : Int32) (ds : Addr) (h0 : Heap) (n0 : Nat) (v : Option Value) (h : Heap) (L : List Loc) : Prop := v = some (.int (1 : Int32)) ∧ Fr n0 L
theorem pn_rm0_3 : plainName "com/example/done_by_xor/donebyxor/runtime/TupleBelongsToPinLaw" = true := by first | (simp [plainName, overriddenIn]; done) | decide +kernel
set_option maxRecDepth 65536 in
set_option maxHeartbeats 40000000 in
theorem rm0_3 (l : Launch) (Z : State) (a0 : Array Value) (hw : ∀ d ∈ tables_1, d.before a0 Z = true) (ws : List Jvm.Cond) (q1 : Int64) (q2 : Int64) (q3 : Int64) (q4 : Int64) (q5 : Int64) (p6 : Int32) (ds : Addr) (h0 : Heap) (n0 : Nat) (Z0 : n0 ≤ h0.size) (hn : (p6 &&& (3 : Int32)) = (3 : Int32)) (Sd : Sta Z h0 "java/util/ArrayList" "DEFAULTCAPACITY_EMPTY_ELEMENTDATA" "[Ljava/lang/Object;" (.ref ds))  :
    MetFree l x (head1 (Jvm.Cond.code x code maxLocals ret :: ws) room_1) (fun a U => a = #[(.long q1), (.long q2), (.long q3), (.long q4), (.long q5), (.int p6)] ∧ Z.Warmed39 U.vm ∧ U.heap = h0) (fun _ _ _ _ _ => True) (fun _ U o U' => ∃ v L, o = .returned v ∧ Q_rm0_3 Z q1 q2 q3 q4 q5 p6 ds  h0 n0 v U'.heap L ∧ FrameEnd U o U' L room_1.cells room_1.slots) := by
  refine MetFree.of_bodySF (plainFor_of_name pn_rm0_3) hisR ?_
  intro p e s m args below meth c s₁ Bd hml0 hP hK
  obtain ⟨rfl, hZ, hh⟩ := hP
  have hx := Bd.exec
  have hby := Bd.bytes
  have hml : c.maxLocals = 19 := hml0
  have hown : s.vm.findClass "com/example/done_by_xor/donebyxor/runtime/TupleBelongsToPinLaw" = some m.cls := findClass_of_methodNamed Bd.named
  have hnm := (name_of_methodNamed Bd.named Bd.method).1
  have X0 : Stand p l e room_1 s m #[(.long q1), (.long q2), (.long q3), (.long q4), (.long q5), (.int p6)] below meth c s₁ [] 0 0 := Stand.of_body Bd
  have e0 : s₁.heap = h0 := by rw [← hh, Bd.state]; rfl
  have N0 := Fr.nil n0
  have pre0 : ∀ tZ, Steps p.tables e below (s₁.setTop (mkF m 0 #[.val (.long q1), .second, .val (.long q2), .second, .val (.long q3), .second, .val (.long q4), .second, .val (.long q5), .second, .val (.int p6), .unset, .unset, .unset, .unset, .unset, .unset, .unset, .unset] [])) tZ → Steps p.tables e below (s₁.setTop (entryFrame m #[(.long q1), (.long q2), (.long q3), (.long q4), (.long q5), (.int p6)] maxLocals)) tZ := fun tZ kZ => castTop (ef_at3_ m q1 q2 q3 q4 q5 p6) kZ
  obtain ⟨T1, h1, k1, X1, e1, E1, A1, st1⟩ := newP X0 hx hZ (hw _ (List.mem_of_getElem? (i := 0) rfl)) e0 (g := (mkF m 68 #[.val (.long q1), .second, .val (.long q2), .second, .val (.long q3), .second, .val (.long q4), .second, .val (.long q5), .second, .val (.int p6), .val (.int (3 : Int32)), .val (.int (((p6.toUInt32 >>> ((2 : Int32) &&& 31).toUInt32).toInt32) &&& (3 : Int32))), .unset, .unset, .unset, .unset, .unset, .unset] [(.int (3 : Int32))])) rfl (hb hby at_68) rfl (by decide) (cap := 3) (by decide) (by decide) (by decide) (by decide)
  obtain ⟨b1, g1⟩ : ∃ z, z = h0.size := ⟨_, rfl⟩
  rw [← g1] at A1 st1
  have V1 := Arv.new A1 (by decide)
  have gr : n0 ≤ b1 := Nat.le_trans Z0 (Nat.le_of_eq g1.symm)
  have Va : Arv Z h1 b1 k1 .long (3 : Int32) [(.long (0 : Int64)), (.long (0 : Int64)), (.long (0 : Int64))] (.long (0 : Int64)) := V1.pad (pad_rep [] (.long (0 : Int64)) 3)
  have Sd_1 := Sd.ext E1
  have K_1 : Keep h0 h1 [] := (Keep.refl h0 []).ext E1
  have sr : h0.size ≤ b1 := Nat.le_of_eq g1.symm
  obtain ⟨cl0, Al0, ql0, Sl0, Nl0, Hl0, Gl0⟩ := Va
  have hin0 := inb_of (j := (0 : Int32)) Sl0 ⟨by decide, by decide⟩
  obtain ⟨T2, h2, X2, e2, W2, st2⟩ := stJ X1 hx hZ e1 Al0 (j := (0 : Int32)) hin0 (g := (mkF m 73 #[.val (.long q1), .second, .val (.long q2), .second, .val (.long q3), .second, .val (.long q4), .second, .val (.long q5), .second, .val (.int p6), .val (.int (3 : Int32)), .val (.int (((p6.toUInt32 >>> ((2 : Int32) &&& 31).toUInt32).toInt32) &&& (3 : Int32))), .unset, .unset, .unset, .unset, .unset, .unset] [(.long q1), (.int (0 : Int32)), (.ref b1), (.ref b1)])) rfl rfl (hb hby at_73)
  have Vs0 := Arv.set Al0 ql0 Sl0 Nl0 Hl0 Gl0 (v := .long q1) rfl W2 0 rfl (Nat.le_of_ble_eq_true rfl)
  have Sd_2 := Sd_1.wr W2
  have K_2 : Keep h0 h2 [] := K_1.wr W2 (Or.inr sr)
  have N_2 := Fr.snoc X2 N0 gr
  obtain ⟨cl1, Al1, ql1, Sl1, Nl1, Hl1, Gl1⟩ := Vs0
  have hin1 := inb_of (j := (1 : Int32)) Sl1 ⟨by decide, by decide⟩
  obtain ⟨T3, h3, X3, e3, W3, st3⟩ := stJ X2 hx hZ e2 Al1 (j := (1 : Int32)) hin1 (g := (mkF m 77 #[.val (.long q1), .second, .val (.long q2), .second, .val (.long q3), .second, .val (.long q4), .second, .val (.long q5), .second, .val (.int p6), .val (.int (3 : Int32)), .val (.int (((p6.toUInt32 >>> ((2 : Int32) &&& 31).toUInt32).toInt32) &&& (3 : Int32))), .unset, .unset, .unset, .unset, .unset, .unset] [(.long q2), (.int (1 : Int32)), (.ref b1), (.ref b1)])) rfl rfl (hb hby at_77)
  have Vs1 := Arv.set Al1 ql1 Sl1 Nl1 Hl1 Gl1 (v := .long q2) rfl W3 1 rfl (Nat.le_of_ble_eq_true rfl)
  have Sd_3 := Sd_2.wr W3
  have K_3 : Keep h0 h3 [] := K_2.wr W3 (Or.inr sr)
  have N_3 := Fr.snoc X3 N_2 gr
  obtain ⟨cl2, Al2, ql2, Sl2, Nl2, Hl2, Gl2⟩ := Vs1
  have hin2 := inb_of (j := (2 : Int32)) Sl2 ⟨by decide, by decide⟩
  obtain ⟨T4, h4, X4, e4, W4, st4⟩ := stJ X3 hx hZ e3 Al2 (j := (2 : Int32)) hin2 (g := (mkF m 82 #[.val (.long q1), .second, .val (.long q2), .second, .val (.long q3), .second, .val (.long q4), .second, .val (.long q5), .second, .val (.int p6), .val (.int (3 : Int32)), .val (.int (((p6.toUInt32 >>> ((2 : Int32) &&& 31).toUInt32).toInt32) &&& (3 : Int32))), .unset, .unset, .unset, .unset, .unset, .unset] [(.long q3), (.int (2 : Int32)), (.ref b1), (.ref b1)])) rfl rfl (hb hby at_82)
  have Vs2 := Arv.set Al2 ql2 Sl2 Nl2 Hl2 Gl2 (v := .long q3) rfl W4 2 rfl (Nat.le_of_ble_eq_true rfl)
  have Sd_4 := Sd_3.wr W4
  have K_4 : Keep h0 h4 [] := K_3.wr W4 (Or.inr sr)
  have N_4 := Fr.snoc X4 N_3 gr
  have Vf : Arv Z h4 b1 k1 .long (3 : Int32) [(.long q1), (.long q2), (.long q3)] (.long (0 : Int64)) := Vs2
  obtain ⟨x, h_x⟩ : ∃ z : Int64, z = (if (((p6.toUInt32 >>> ((2 : Int32) &&& 31).toUInt32).toInt32) &&& (3 : Int32)) = (0 : Int32) then q4 else (if (((p6.toUInt32 >>> ((2 : Int32) &&& 31).toUInt32).toInt32) &&& (3 : Int32)) = (1 : Int32) then q1 else (if (((p6.toUInt32 >>> ((2 : Int32) &&& 31).toUInt32).toInt32) &&& (3 : Int32)) = (2 : Int32) then q2 else q3))) := ⟨_, rfl⟩
  obtain ⟨T5, h5, X5, e5, E5, A5, D5, -, st5⟩ := newO X4 hx hZ hown (hw _ (List.mem_of_getElem? (i := 1) rfl)) (hw _ (List.mem_of_getElem? (i := 2) rfl)) (hw _ (List.mem_of_getElem? (i := 3) rfl)) e4 (g := (mkF m 125 #[.val (.long q1), .second, .val (.long q2), .second, .val (.long q3), .second, .val (.long q4), .second, .val (.long q5), .second, .val (.int p6), .val (.int (3 : Int32)), .val (.int (((p6.toUInt32 >>> ((2 : Int32) &&& 31).toUInt32).toInt32) &&& (3 : Int32))), .val (.ref b1), .val (.long x), .second, .unset, .unset, .unset] [])) rfl (hb hby at_125) (by decide) (by decide)
  obtain ⟨b5, g5⟩ : ∃ z, z = h4.size := ⟨_, rfl⟩
  rw [← g5] at A5 D5 st5
  have F_modCount_b5 : Fld Z h5 b5 "java/util/AbstractList" "modCount" "I" (.int (0 : Int32)) := D5 (Or.inl (hw _ (List.mem_of_getElem? (i := 23) rfl))) (ty := .int) (by decide)
  have F_elementData_b5 : Fld Z h5 b5 "java/util/ArrayList" "elementData" "[Ljava/lang/Object;" .null := D5 (Or.inl (hw _ (List.mem_of_getElem? (i := 26) rfl))) (ty := (.array (.object "java/lang/Object"))) (by decide)
  have go : n0 ≤ b5 := Nat.le_trans (Nat.le_trans Z0 K_4.1) (Nat.le_of_eq g5.symm)
  have Vg := Vf.ext E5
  have Zg : n0 ≤ h5.size := Nat.le_trans (Nat.le_trans Z0 K_4.1) E5.1
  obtain ⟨_, _, ⟨T6, L6, k6, n6⟩, -, X6, ⟨Lc6, hQ6, l6, y6, z6⟩, st6⟩ := X5.specialBack hx (y := (⟨"java/util/ArrayList", "<init>", "()V"⟩ : MethodName)) rfl hown (mvT hZ (hw _ (List.mem_of_getElem? (i := 4) rfl))) (mvT hZ (hw _ (List.mem_of_getElem? (i := 5) rfl))) (mvT hZ (hw _ (List.mem_of_getElem? (i := 6) rfl))) (by decide) (backOf (W := 1) (rmA l Z a0 hw [] b5 ds h5 n0 Zg A5 F_modCount_b5 F_elementData_b5 (Sd_4.ext E5) go) hZ (hw _ (List.mem_of_getElem? (i := 6) rfl)) (hw _ (List.mem_of_getElem? (i := 3) rfl)) (by decide) (by decide)) (g := (mkF m 129 #[.val (.long q1), .second, .val (.long q2), .second, .val (.long q3), .second, .val (.long q4), .second, .val (.long q5), .second, .val (.int p6), .val (.int (3 : Int32)), .val (.int (((p6.toUInt32 >>> ((2 : Int32) &&& 31).toUInt32).toInt32) &&& (3 : Int32))), .val (.ref b1), .val (.long x), .second, .unset, .unset, .unset] [(.ref b5), (.ref b5)])) rfl (by rw [hml]; rfl) (Steps.refl _) (a := b5) (argsL := []) (rest := [(.ref b5)]) (lenOf pd_at___V rfl) rfl (by show 2 * 0 + _ ≤ _; exact Nat.le_of_eq rfl) (hb hby at_129) (fun _ _ => ⟨rfl, e5, (by decide : 2 + 0 ≤ _), (by decide : 6 + 0 ≤ _)⟩)
  dsimp only [Pt.U, Pt.locs, Pt.cells, Pt.slots] at X6 l6 y6 z6 st6 hQ6
  subst l6 y6 z6
  obtain ⟨rfl, N6q, K6⟩ := hQ6
  have N6 := Fr.app N_4 N6q
  have nro : b1 ≠ b5 := Nat.ne_of_lt (Nat.lt_of_lt_of_le Vf.lt (Nat.le_of_eq g5.symm))
  have Vh := Vg.keep K6 (ninS nro nin0)
  obtain ⟨T7, h7, X7, e7, E7, A7, D7, -, st7⟩ := newO X6 hx hZ hown (hw _ (List.mem_of_getElem? (i := 27) rfl)) (hw _ (List.mem_of_getElem? (i := 28) rfl)) (hw _ (List.mem_of_getElem? (i := 29) rfl)) rfl (g := (mkF m 134 #[.val (.long q1), .second, .val (.long q2), .second, .val (.long q3), .second, .val (.long q4), .second, .val (.long q5), .second, .val (.int p6), .val (.int (3 : Int32)), .val (.int (((p6.toUInt32 >>> ((2 : Int32) &&& 31).toUInt32).toInt32) &&& (3 : Int32))), .val (.ref b1), .val (.long x), .second, .val (.ref b5), .unset, .unset] [])) rfl (hb hby at_134) (by decide) (by decide)
  obtain ⟨b7, g7⟩ : ∃ z, z = T6.heap.size := ⟨_, rfl⟩
  rw [← g7] at A7 D7 st7
  have F_values_b7 : Fld Z h7 b7 "com/example/done_by_xor/donebyxor/runtime/Tuple" "values" "Ljava/util/List;" .null := D7 (Or.inr (hw _ (List.mem_of_getElem? (i := 35) rfl))) (ty := (.object "java/util/List")) (by decide)
  have F_roots_b7 : Fld Z h7 b7 "com/example/done_by_xor/donebyxor/runtime/Tuple" "roots" "[J" .null := D7 (Or.inr (hw _ (List.mem_of_getElem? (i := 37) rfl))) (ty := (.array .long)) (by decide)
  have F_ackValues_b7 : Fld Z h7 b7 "com/example/done_by_xor/donebyxor/runtime/Tuple" "ackValues" "[J" .null := D7 (Or.inr (hw _ (List.mem_of_getElem? (i := 39) rfl))) (ty := (.array .long)) (by decide)
  have Vi := Vh.ext E7
  have nrt : b1 ≠ b7 := Nat.ne_of_lt (Nat.lt_of_lt_of_le Vh.lt (Nat.le_of_eq g7.symm))
  have Zi : n0 ≤ h7.size := Nat.le_trans (Nat.le_trans Zg K6.1) E7.1
  have gt : n0 ≤ b7 := Nat.le_trans (Nat.le_trans Zg K6.1) (Nat.le_of_eq g7.symm)
  obtain ⟨cj, Aj, qj, Sj, Nj, Hj, Gj⟩ := Vi
  have Vi' : Arv Z h7 b1 k1 .long (3 : Int32) [(.long q1), (.long q2), (.long q3)] (.long (0 : Int64)) := ⟨cj, Aj, qj, Sj, Nj, Hj, Gj⟩
  obtain ⟨_, _, ⟨T8, L8, k8, n8⟩, -, X8, ⟨Lc8, hQ8, l8, y8, z8⟩, st8⟩ := X7.specialBack hx (y := (⟨"com/example/done_by_xor/donebyxor/runtime/Tuple", "<init>", "(Ljava/util/List;[JJ)V"⟩ : MethodName)) rfl hown (mvT hZ (hw _ (List.mem_of_getElem? (i := 30) rfl))) (mvT hZ (hw _ (List.mem_of_getElem? (i := 31) rfl))) (mvT hZ (hw _ (List.mem_of_getElem? (i := 32) rfl))) (by decide) (backOf (W := 1) (rmT_3 l Z a0 hw [] b7 b5 b1 q5 cj h7 n0 Zi A7 F_values_b7 F_roots_b7 F_ackValues_b7 Aj Sj nrt gt) hZ (hw _ (List.mem_of_getElem? (i := 32) rfl)) (hw _ (List.mem_of_getElem? (i := 29) rfl)) (by decide) (by decide)) (g := (mkF m 144 #[.val (.long q1), .second, .val (.long q2), .second, .val (.long q3), .second, .val (.long q4), .second, .val (.long q5), .second, .val (.int p6), .val (.int (3 : Int32)), .val (.int (((p6.toUInt32 >>> ((2 : Int32) &&& 31).toUInt32).toInt32) &&& (3 : Int32))), .val (.ref b1), .val (.long x), .second, .val (.ref b5), .unset, .unset] [(.long q5), (.ref b1), (.ref b5), (.ref b7), (.ref b7)])) rfl (by rw [hml]; rfl) (Steps.refl _) (a := b7) (argsL := [(.ref b5), (.ref b1), (.long q5)]) (rest := [(.ref b7)]) (lenOf pd_at__Ljava_util_List__JJ_V rfl) rfl (by show 2 * 0 + _ ≤ _; exact Nat.le_of_eq rfl) (hb hby at_144) (fun _ _ => ⟨rfl, e7, (by decide : 3 + 1 ≤ _), (by decide : 10 + 3 ≤ _)⟩)
  dsimp only [Pt.U, Pt.locs, Pt.cells, Pt.slots] at X8 l8 y8 z8 st8 hQ8
  subst l8 y8 z8
  obtain ⟨rfl, N8q, K8, Ex8, Fr8⟩ := hQ8
  have N8 := Fr.app N6 N8q
  have Vk := Vi'.keep K8 (ninS nrt nin0)
  obtain ⟨cq9, kq9, q9a, q9b, q9c⟩ := isOf hZ rfl Ex8
  obtain ⟨_, _, ⟨T9, L9, k9, n9⟩, -, X9, ⟨Lc9, hQ9, l9, y9, z9⟩, st9⟩ := X8.virtualBack hx (y := (⟨"com/example/done_by_xor/donebyxor/runtime/Tuple", "belongsTo", "(J)Z"⟩ : MethodName)) (z := (⟨"com/example/done_by_xor/donebyxor/runtime/Tuple", "belongsTo", "(J)Z"⟩ : MethodName)) hown (mvT hZ (hw _ (List.mem_of_getElem? (i := 44) rfl))) (mvT hZ (hw _ (List.mem_of_getElem? (i := 45) rfl))) (notFace_of_selects (args := #[]) (mvT hZ (hw _ (List.mem_of_getElem? (i := 47) rfl)))) (mvT hZ (hw _ (List.mem_of_getElem? (i := 47) rfl))) (mvT hZ (hw _ (List.mem_of_getElem? (i := 46) rfl))) (by decide) (backOf (W := 0) (rmG_3 l Z a0 hw [] b7 x b1 k1 (.long (0 : Int64)) q1 q2 q3 T8.heap n0 (Nat.le_trans Zi K8.1) Fr8 Vk) hZ (hw _ (List.mem_of_getElem? (i := 48) rfl)) (hw _ (List.mem_of_getElem? (i := 29) rfl)) (by decide) (by decide)) q9a q9c (g := (mkF m 199 #[.val (.long q1), .second, .val (.long q2), .second, .val (.long q3), .second, .val (.long q4), .second, .val (.long q5), .second, .val (.int p6), .val (.int (3 : Int32)), .val (.int (((p6.toUInt32 >>> ((2 : Int32) &&& 31).toUInt32).toInt32) &&& (3 : Int32))), .val (.ref b1), .val (.long x), .second, .val (.ref b5), .val (.ref b7), .val (.int (if (lcmpW x q1) = (0 : Int32) then (1 : Int32) else (if (lcmpW x q2) = (0 : Int32) then (1 : Int32) else (if (lcmpW x q3) = (0 : Int32) then (1 : Int32) else (0 : Int32)))))] [(.long x), (.ref b7)])) rfl (by rw [hml]; rfl) (Steps.refl _) (argsL := [(.long x)]) (rest := []) (lenOf pd_at__J_Z rfl) rfl (by show 2 * 0 + _ ≤ _; exact Nat.le_of_eq rfl) (hb hby at_199) (fun _ _ => ⟨rfl, rfl, (by decide : 4 + 0 ≤ _), (by decide : 13 + 0 ≤ _)⟩)
  dsimp only [Pt.U, Pt.locs, Pt.cells, Pt.slots] at X9 l9 y9 z9 st9 hQ9
  subst l9 y9 z9
  obtain ⟨rfl, N9q, e9⟩ := hQ9
  have N9 := Fr.app N8 N9q
  have own_eq3 : (if (lcmpW q1 x) = (0 : Int32) then (1 : Int32) else (if (lcmpW q2 x) = (0 : Int32) then (1 : Int32) else (if (lcmpW q3 x) = (0 : Int32) then (1 : Int32) else (0 : Int32)))) = (if (lcmpW x q1) = (0 : Int32) then (1 : Int32) else (if (lcmpW x q2) = (0 : Int32) then (1 : Int32) else (if (lcmpW x q3) = (0 : Int32) then (1 : Int32) else (0 : Int32)))) := by
    simp only [own_sym x]
  obtain ⟨fs, hr, hrun, hended, hW, hsame⟩ := X9.leave (v := some (.int (1 : Int32))) (fun h => by rw [Bd.returns] at h; cases h)
  refine ⟨_, _, pre0 _ ?_, hrun, hended, _, _, rfl, ?_, ⟨_, rfl⟩, hW, hsame.mono (by decide) (by decide)⟩
  · show Steps p.tables e below (s₁.setTop (mkF m 0 #[.val (.long q1), .second, .val (.long q2), .second, .val (.long q3), .second, .val (.long q4), .second, .val (.long q5), .second, .val (.int p6), .unset, .unset, .unset, .unset, .unset, .unset, .unset, .unset] [])) _
    refine XS.iload X0.here hx rfl (hb hby at_0) rfl ?_
    show Steps p.tables e below (s₁.setTop (mkF m 2 #[.val (.long q1), .second, .val (.long q2), .second, .val (.long q3), .second, .val (.long q4), .second, .val (.long q5), .second, .val (.int p6), .unset, .unset, .unset, .unset, .unset, .unset, .unset, .unset] [(.int p6)])) _
    refine XS.iconst X0.here hx rfl (hb hby at_2) ?_
    show Steps p.tables e below (s₁.setTop (mkF m 3 #[.val (.long q1), .second, .val (.long q2), .second, .val (.long q3), .second, .val (.long q4), .second, .val (.long q5), .second, .val (.int p6), .unset, .unset, .unset, .unset, .unset, .unset, .unset, .unset] [(.int (3 : Int32)), (.int p6)])) _
    refine XS.iand X0.here hx rfl (hb hby at_3) rfl ?_
    show Steps p.tables e below (s₁.setTop (mkF m 4 #[.val (.long q1), .second, .val (.long q2), .second, .val (.long q3), .second, .val (.long q4), .second, .val (.long q5), .second, .val (.int p6), .unset, .unset, .unset, .unset, .unset, .unset, .unset, .unset] [(.int (p6 &&& (3 : Int32)))])) _
    rw [hn]
    show Steps p.tables e below (s₁.setTop (mkF m 4 #[.val (.long q1), .second, .val (.long q2), .second, .val (.long q3), .second, .val (.long q4), .second, .val (.long q5), .second, .val (.int p6), .unset, .unset, .unset, .unset, .unset, .unset, .unset, .unset] [(.int (3 : Int32))])) _
    refine XS.istore X0.here hx rfl (hb hby at_4) rfl (l' := #[.val (.long q1), .second, .val (.long q2), .second, .val (.long q3), .second, .val (.long q4), .second, .val (.long q5), .second, .val (.int p6), .val (.int (3 : Int32)), .unset, .unset, .unset, .unset, .unset, .unset, .unset]) rfl ?_
    show Steps p.tables e below (s₁.setTop (mkF m 6 #[.val (.long q1), .second, .val (.long q2), .second, .val (.long q3), .second, .val (.long q4), .second, .val (.long q5), .second, .val (.int p6), .val (.int (3 : Int32)), .unset, .unset, .unset, .unset, .unset, .unset, .unset] [])) _
    refine XS.iload X0.here hx rfl (hb hby at_6) rfl ?_
    show Steps p.tables e below (s₁.setTop (mkF m 8 #[.val (.long q1), .second, .val (.long q2), .second, .val (.long q3), .second, .val (.long q4), .second, .val (.long q5), .second, .val (.int p6), .val (.int (3 : Int32)), .unset, .unset, .unset, .unset, .unset, .unset, .unset] [(.int p6)])) _
    refine XS.iconst X0.here hx rfl (hb hby at_8) ?_
    show Steps p.tables e below (s₁.setTop (mkF m 9 #[.val (.long q1), .second, .val (.long q2), .second, .val (.long q3), .second, .val (.long q4), .second, .val (.long q5), .second, .val (.int p6), .val (.int (3 : Int32)), .unset, .unset, .unset, .unset, .unset, .unset, .unset] [(.int (2 : Int32)), (.int p6)])) _
    refine XS.iushr X0.here hx rfl (hb hby at_9) rfl ?_
    show Steps p.tables e below (s₁.setTop (mkF m 10 #[.val (.long q1), .second, .val (.long q2), .second, .val (.long q3), .second, .val (.long q4), .second, .val (.long q5), .second, .val (.int p6), .val (.int (3 : Int32)), .unset, .unset, .unset, .unset, .unset, .unset, .unset] [(.int ((p6.toUInt32 >>> ((2 : Int32) &&& 31).toUInt32).toInt32))])) _
    refine XS.iconst X0.here hx rfl (hb hby at_10) ?_
    show Steps p.tables e below (s₁.setTop (mkF m 11 #[.val (.long q1), .second, .val (.long q2), .second, .val (.long q3), .second, .val (.long q4), .second, .val (.long q5), .second, .val (.int p6), .val (.int (3 : Int32)), .unset, .unset, .unset, .unset, .unset, .unset, .unset] [(.int (3 : Int32)), (.int ((p6.toUInt32 >>> ((2 : Int32) &&& 31).toUInt32).toInt32))])) _
    refine XS.iand X0.here hx rfl (hb hby at_11) rfl ?_
    show Steps p.tables e below (s₁.setTop (mkF m 12 #[.val (.long q1), .second, .val (.long q2), .second, .val (.long q3), .second, .val (.long q4), .second, .val (.long q5), .second, .val (.int p6), .val (.int (3 : Int32)), .unset, .unset, .unset, .unset, .unset, .unset, .unset] [(.int (((p6.toUInt32 >>> ((2 : Int32) &&& 31).toUInt32).toInt32) &&& (3 : Int32)))])) _
    refine XS.istore X0.here hx rfl (hb hby at_12) rfl (l' := #[.val (.long q1), .second, .val (.long q2), .second, .val (.long q3), .second, .val (.long q4), .second, .val (.long q5), .second, .val (.int p6), .val (.int (3 : Int32)), .val (.int (((p6.toUInt32 >>> ((2 : Int32) &&& 31).toUInt32).toInt32) &&& (3 : Int32))), .unset, .unset, .unset, .unset, .unset, .unset]) rfl ?_
    show Steps p.tables e below (s₁.setTop (mkF m 14 #[.val (.long q1), .second, .val (.long q2), .second, .val (.long q3), .second, .val (.long q4), .second, .val (.long q5), .second, .val (.int p6), .val (.int (3 : Int32)), .val (.int (((p6.toUInt32 >>> ((2 : Int32) &&& 31).toUInt32).toInt32) &&& (3 : Int32))), .unset, .unset, .unset, .unset, .unset, .unset] [])) _
    refine XS.iload X0.here hx rfl (hb hby at_14) rfl ?_
    show Steps p.tables e below (s₁.setTop (mkF m 16 #[.val (.long q1), .second, .val (.long q2), .second, .val (.long q3), .second, .val (.long q4), .second, .val (.long q5), .second, .val (.int p6), .val (.int (3 : Int32)), .val (.int (((p6.toUInt32 >>> ((2 : Int32) &&& 31).toUInt32).toInt32) &&& (3 : Int32))), .unset, .unset, .unset, .unset, .unset, .unset] [(.int (3 : Int32))])) _
    refine XS.ifYes X0.here hx rfl (pc0 := 16) (pc' := 27) rfl (hb hby at_16) rfl ((if0 _ _).trans (feq (by decide)).2) (by decide) (by decide) ?_
    show Steps p.tables e below (s₁.setTop (mkF m 27 #[.val (.long q1), .second, .val (.long q2), .second, .val (.long q3), .second, .val (.long q4), .second, .val (.long q5), .second, .val (.int p6), .val (.int (3 : Int32)), .val (.int (((p6.toUInt32 >>> ((2 : Int32) &&& 31).toUInt32).toInt32) &&& (3 : Int32))), .unset, .unset, .unset, .unset, .unset, .unset] [])) _
    refine XS.iload X0.here hx rfl (hb hby at_27) rfl ?_
    show Steps p.tables e below (s₁.setTop (mkF m 29 #[.val (.long q1), .second, .val (.long q2), .second, .val (.long q3), .second, .val (.long q4), .second, .val (.long q5), .second, .val (.int p6), .val (.int (3 : Int32)), .val (.int (((p6.toUInt32 >>> ((2 : Int32) &&& 31).toUInt32).toInt32) &&& (3 : Int32))), .unset, .unset, .unset, .unset, .unset, .unset] [(.int (3 : Int32))])) _
    refine XS.iconst X0.here hx rfl (hb hby at_29) ?_
    show Steps p.tables e below (s₁.setTop (mkF m 30 #[.val (.long q1), .second, .val (.long q2), .second, .val (.long q3), .second, .val (.long q4), .second, .val (.long q5), .second, .val (.int p6), .val (.int (3 : Int32)), .val (.int (((p6.toUInt32 >>> ((2 : Int32) &&& 31).toUInt32).toInt32) &&& (3 : Int32))), .unset, .unset, .unset, .unset, .unset, .unset] [(.int (1 : Int32)), (.int (3 : Int32))])) _
    refine XS.icmpYes X0.here hx rfl (pc0 := 30) (pc' := 45) rfl (hb hby at_30) rfl (feq (by decide)).2 (by decide) (by decide) ?_
    show Steps p.tables e below (s₁.setTop (mkF m 45 #[.val (.long q1), .second, .val (.long q2), .second, .val (.long q3), .second, .val (.long q4), .second, .val (.long q5), .second, .val (.int p6), .val (.int (3 : Int32)), .val (.int (((p6.toUInt32 >>> ((2 : Int32) &&& 31).toUInt32).toInt32) &&& (3 : Int32))), .unset, .unset, .unset, .unset, .unset, .unset] [])) _
    refine XS.iload X0.here hx rfl (hb hby at_45) rfl ?_
    show Steps p.tables e below (s₁.setTop (mkF m 47 #[.val (.long q1), .second, .val (.long q2), .second, .val (.long q3), .second, .val (.long q4), .second, .val (.long q5), .second, .val (.int p6), .val (.int (3 : Int32)), .val (.int (((p6.toUInt32 >>> ((2 : Int32) &&& 31).toUInt32).toInt32) &&& (3 : Int32))), .unset, .unset, .unset, .unset, .unset, .unset] [(.int (3 : Int32))])) _
    refine XS.iconst X0.here hx rfl (hb hby at_47) ?_
    show Steps p.tables e below (s₁.setTop (mkF m 48 #[.val (.long q1), .second, .val (.long q2), .second, .val (.long q3), .second, .val (.long q4), .second, .val (.long q5), .second, .val (.int p6), .val (.int (3 : Int32)), .val (.int (((p6.toUInt32 >>> ((2 : Int32) &&& 31).toUInt32).toInt32) &&& (3 : Int32))), .unset, .unset, .unset, .unset, .unset, .unset] [(.int (2 : Int32)), (.int (3 : Int32))])) _
    refine XS.icmpYes X0.here hx rfl (pc0 := 48) (pc' := 67) rfl (hb hby at_48) rfl (feq (by decide)).2 (by decide) (by decide) ?_
    show Steps p.tables e below (s₁.setTop (mkF m 67 #[.val (.long q1), .second, .val (.long q2), .second, .val (.long q3), .second, .val (.long q4), .second, .val (.long q5), .second, .val (.int p6), .val (.int (3 : Int32)), .val (.int (((p6.toUInt32 >>> ((2 : Int32) &&& 31).toUInt32).toInt32) &&& (3 : Int32))), .unset, .unset, .unset, .unset, .unset, .unset] [])) _
    refine XS.iconst X0.here hx rfl (hb hby at_67) ?_
    show Steps p.tables e below (s₁.setTop (mkF m 68 #[.val (.long q1), .second, .val (.long q2), .second, .val (.long q3), .second, .val (.long q4), .second, .val (.long q5), .second, .val (.int p6), .val (.int (3 : Int32)), .val (.int (((p6.toUInt32 >>> ((2 : Int32) &&& 31).toUInt32).toInt32) &&& (3 : Int32))), .unset, .unset, .unset, .unset, .unset, .unset] [(.int (3 : Int32))])) _
    refine st1 _ ?_
    show Steps p.tables e below (T1.setTop (mkF m 70 #[.val (.long q1), .second, .val (.long q2), .second, .val (.long q3), .second, .val (.long q4), .second, .val (.long q5), .second, .val (.int p6), .val (.int (3 : Int32)), .val (.int (((p6.toUInt32 >>> ((2 : Int32) &&& 31).toUInt32).toInt32) &&& (3 : Int32))), .unset, .unset, .unset, .unset, .unset, .unset] [(.ref b1)])) _
    refine XS.dup X1.here hx rfl (hb hby at_70) rfl rfl ?_
    show Steps p.tables e below (T1.setTop (mkF m 71 #[.val (.long q1), .second, .val (.long q2), .second, .val (.long q3), .second, .val (.long q4), .second, .val (.long q5), .second, .val (.int p6), .val (.int (3 : Int32)), .val (.int (((p6.toUInt32 >>> ((2 : Int32) &&& 31).toUInt32).toInt32) &&& (3 : Int32))), .unset, .unset, .unset, .unset, .unset, .unset] [(.ref b1), (.ref b1)])) _
    refine XS.iconst X1.here hx rfl (hb hby at_71) ?_
    show Steps p.tables e below (T1.setTop (mkF m 72 #[.val (.long q1), .second, .val (.long q2), .second, .val (.long q3), .second, .val (.long q4), .second, .val (.long q5), .second, .val (.int p6), .val (.int (3 : Int32)), .val (.int (((p6.toUInt32 >>> ((2 : Int32) &&& 31).toUInt32).toInt32) &&& (3 : Int32))), .unset, .unset, .unset, .unset, .unset, .unset] [(.int (0 : Int32)), (.ref b1), (.ref b1)])) _
    refine XS.lloadN X1.here hx rfl (hb hby at_72) rfl ?_
    show Steps p.tables e below (T1.setTop (mkF m 73 #[.val (.long q1), .second, .val (.long q2), .second, .val (.long q3), .second, .val (.long q4), .second, .val (.long q5), .second, .val (.int p6), .val (.int (3 : Int32)), .val (.int (((p6.toUInt32 >>> ((2 : Int32) &&& 31).toUInt32).toInt32) &&& (3 : Int32))), .unset, .unset, .unset, .unset, .unset, .unset] [(.long q1), (.int (0 : Int32)), (.ref b1), (.ref b1)])) _
    refine st2 _ ?_
    show Steps p.tables e below (T2.setTop (mkF m 74 #[.val (.long q1), .second, .val (.long q2), .second, .val (.long q3), .second, .val (.long q4), .second, .val (.long q5), .second, .val (.int p6), .val (.int (3 : Int32)), .val (.int (((p6.toUInt32 >>> ((2 : Int32) &&& 31).toUInt32).toInt32) &&& (3 : Int32))), .unset, .unset, .unset, .unset, .unset, .unset] [(.ref b1)])) _
    refine XS.dup X2.here hx rfl (hb hby at_74) rfl rfl ?_
    show Steps p.tables e below (T2.setTop (mkF m 75 #[.val (.long q1), .second, .val (.long q2), .second, .val (.long q3), .second, .val (.long q4), .second, .val (.long q5), .second, .val (.int p6), .val (.int (3 : Int32)), .val (.int (((p6.toUInt32 >>> ((2 : Int32) &&& 31).toUInt32).toInt32) &&& (3 : Int32))), .unset, .unset, .unset, .unset, .unset, .unset] [(.ref b1), (.ref b1)])) _
    refine XS.iconst X2.here hx rfl (hb hby at_75) ?_
    show Steps p.tables e below (T2.setTop (mkF m 76 #[.val (.long q1), .second, .val (.long q2), .second, .val (.long q3), .second, .val (.long q4), .second, .val (.long q5), .second, .val (.int p6), .val (.int (3 : Int32)), .val (.int (((p6.toUInt32 >>> ((2 : Int32) &&& 31).toUInt32).toInt32) &&& (3 : Int32))), .unset, .unset, .unset, .unset, .unset, .unset] [(.int (1 : Int32)), (.ref b1), (.ref b1)])) _
    refine XS.lloadN X2.here hx rfl (hb hby at_76) rfl ?_
    show Steps p.tables e below (T2.setTop (mkF m 77 #[.val (.long q1), .second, .val (.long q2), .second, .val (.long q3), .second, .val (.long q4), .second, .val (.long q5), .second, .val (.int p6), .val (.int (3 : Int32)), .val (.int (((p6.toUInt32 >>> ((2 : Int32) &&& 31).toUInt32).toInt32) &&& (3 : Int32))), .unset, .unset, .unset, .unset, .unset, .unset] [(.long q2), (.int (1 : Int32)), (.ref b1), (.ref b1)])) _
    refine st3 _ ?_
    show Steps p.tables e below (T3.setTop (mkF m 78 #[.val (.long q1), .second, .val (.long q2), .second, .val (.long q3), .second, .val (.long q4), .second, .val (.long q5), .second, .val (.int p6), .val (.int (3 : Int32)), .val (.int (((p6.toUInt32 >>> ((2 : Int32) &&& 31).toUInt32).toInt32) &&& (3 : Int32))), .unset, .unset, .unset, .unset, .unset, .unset] [(.ref b1)])) _
    refine XS.dup X3.here hx rfl (hb hby at_78) rfl rfl ?_
    show Steps p.tables e below (T3.setTop (mkF m 79 #[.val (.long q1), .second, .val (.long q2), .second, .val (.long q3), .second, .val (.long q4), .second, .val (.long q5), .second, .val (.int p6), .val (.int (3 : Int32)), .val (.int (((p6.toUInt32 >>> ((2 : Int32) &&& 31).toUInt32).toInt32) &&& (3 : Int32))), .unset, .unset, .unset, .unset, .unset, .unset] [(.ref b1), (.ref b1)])) _
    refine XS.iconst X3.here hx rfl (hb hby at_79) ?_
    show Steps p.tables e below (T3.setTop (mkF m 80 #[.val (.long q1), .second, .val (.long q2), .second, .val (.long q3), .second, .val (.long q4), .second, .val (.long q5), .second, .val (.int p6), .val (.int (3 : Int32)), .val (.int (((p6.toUInt32 >>> ((2 : Int32) &&& 31).toUInt32).toInt32) &&& (3 : Int32))), .unset, .unset, .unset, .unset, .unset, .unset] [(.int (2 : Int32)), (.ref b1), (.ref b1)])) _
    refine XS.lload X3.here hx rfl (hb hby at_80) rfl ?_
    show Steps p.tables e below (T3.setTop (mkF m 82 #[.val (.long q1), .second, .val (.long q2), .second, .val (.long q3), .second, .val (.long q4), .second, .val (.long q5), .second, .val (.int p6), .val (.int (3 : Int32)), .val (.int (((p6.toUInt32 >>> ((2 : Int32) &&& 31).toUInt32).toInt32) &&& (3 : Int32))), .unset, .unset, .unset, .unset, .unset, .unset] [(.long q3), (.int (2 : Int32)), (.ref b1), (.ref b1)])) _
    refine st4 _ ?_
    show Steps p.tables e below (T4.setTop (mkF m 83 #[.val (.long q1), .second, .val (.long q2), .second, .val (.long q3), .second, .val (.long q4), .second, .val (.long q5), .second, .val (.int p6), .val (.int (3 : Int32)), .val (.int (((p6.toUInt32 >>> ((2 : Int32) &&& 31).toUInt32).toInt32) &&& (3 : Int32))), .unset, .unset, .unset, .unset, .unset, .unset] [(.ref b1)])) _
    refine XS.astore X4.here hx rfl (hb hby at_83) rfl rfl (l' := #[.val (.long q1), .second, .val (.long q2), .second, .val (.long q3), .second, .val (.long q4), .second, .val (.long q5), .second, .val (.int p6), .val (.int (3 : Int32)), .val (.int (((p6.toUInt32 >>> ((2 : Int32) &&& 31).toUInt32).toInt32) &&& (3 : Int32))), .val (.ref b1), .unset, .unset, .unset, .unset, .unset]) rfl ?_
    show Steps p.tables e below (T4.setTop (mkF m 85 #[.val (.long q1), .second, .val (.long q2), .second, .val (.long q3), .second, .val (.long q4), .second, .val (.long q5), .second, .val (.int p6), .val (.int (3 : Int32)), .val (.int (((p6.toUInt32 >>> ((2 : Int32) &&& 31).toUInt32).toInt32) &&& (3 : Int32))), .val (.ref b1), .unset, .unset, .unset, .unset, .unset] [])) _
    refine XS.iload X4.here hx rfl (hb hby at_85) rfl ?_
    show Steps p.tables e below (T4.setTop (mkF m 87 #[.val (.long q1), .second, .val (.long q2), .second, .val (.long q3), .second, .val (.long q4), .second, .val (.long q5), .second, .val (.int p6), .val (.int (3 : Int32)), .val (.int (((p6.toUInt32 >>> ((2 : Int32) &&& 31).toUInt32).toInt32) &&& (3 : Int32))), .val (.ref b1), .unset, .unset, .unset, .unset, .unset] [(.int (((p6.toUInt32 >>> ((2 : Int32) &&& 31).toUInt32).toInt32) &&& (3 : Int32)))])) _
    have sg87 : ∀ target, Steps p.tables e below (T4.setTop (mkF m 125 #[.val (.long q1), .second, .val (.long q2), .second, .val (.long q3), .second, .val (.long q4), .second, .val (.long q5), .second, .val (.int p6), .val (.int (3 : Int32)), .val (.int (((p6.toUInt32 >>> ((2 : Int32) &&& 31).toUInt32).toInt32) &&& (3 : Int32))), .val (.ref b1), .val (.long (if (((p6.toUInt32 >>> ((2 : Int32) &&& 31).toUInt32).toInt32) &&& (3 : Int32)) = (0 : Int32) then q4 else (if (((p6.toUInt32 >>> ((2 : Int32) &&& 31).toUInt32).toInt32) &&& (3 : Int32)) = (1 : Int32) then q1 else (if (((p6.toUInt32 >>> ((2 : Int32) &&& 31).toUInt32).toInt32) &&& (3 : Int32)) = (2 : Int32) then q2 else q3)))), .second, .unset, .unset, .unset] [])) target → Steps p.tables e below (T4.setTop (mkF m 87 #[.val (.long q1), .second, .val (.long q2), .second, .val (.long q3), .second, .val (.long q4), .second, .val (.long q5), .second, .val (.int p6), .val (.int (3 : Int32)), .val (.int (((p6.toUInt32 >>> ((2 : Int32) &&& 31).toUInt32).toInt32) &&& (3 : Int32))), .val (.ref b1), .unset, .unset, .unset, .unset, .unset] [(.int (((p6.toUInt32 >>> ((2 : Int32) &&& 31).toUInt32).toInt32) &&& (3 : Int32)))])) target := by
      intro target kt
      rcases Classical.em ((((p6.toUInt32 >>> ((2 : Int32) &&& 31).toUInt32).toInt32) &&& (3 : Int32)) = (0 : Int32)) with hr87_0 | hr87_0
      · (try simp only [if_pos hr87_0] at kt)
        refine XS.ifNo X4.here hx rfl (hb hby at_87) rfl ((if0 _ _).trans (teq hr87_0).2) ?_
        show Steps p.tables e below (T4.setTop (mkF m 90 #[.val (.long q1), .second, .val (.long q2), .second, .val (.long q3), .second, .val (.long q4), .second, .val (.long q5), .second, .val (.int p6), .val (.int (3 : Int32)), .val (.int (((p6.toUInt32 >>> ((2 : Int32) &&& 31).toUInt32).toInt32) &&& (3 : Int32))), .val (.ref b1), .unset, .unset, .unset, .unset, .unset] [])) _
        refine XS.lload X4.here hx rfl (hb hby at_90) rfl ?_
        show Steps p.tables e below (T4.setTop (mkF m 92 #[.val (.long q1), .second, .val (.long q2), .second, .val (.long q3), .second, .val (.long q4), .second, .val (.long q5), .second, .val (.int p6), .val (.int (3 : Int32)), .val (.int (((p6.toUInt32 >>> ((2 : Int32) &&& 31).toUInt32).toInt32) &&& (3 : Int32))), .val (.ref b1), .unset, .unset, .unset, .unset, .unset] [(.long q4)])) _
        refine XS.lstore X4.here hx rfl (hb hby at_92) rfl (l' := #[.val (.long q1), .second, .val (.long q2), .second, .val (.long q3), .second, .val (.long q4), .second, .val (.long q5), .second, .val (.int p6), .val (.int (3 : Int32)), .val (.int (((p6.toUInt32 >>> ((2 : Int32) &&& 31).toUInt32).toInt32) &&& (3 : Int32))), .val (.ref b1), .val (.long q4), .second, .unset, .unset, .unset]) rfl ?_
        show Steps p.tables e below (T4.setTop (mkF m 94 #[.val (.long q1), .second, .val (.long q2), .second, .val (.long q3), .second, .val (.long q4), .second, .val (.long q5), .second, .val (.int p6), .val (.int (3 : Int32)), .val (.int (((p6.toUInt32 >>> ((2 : Int32) &&& 31).toUInt32).toInt32) &&& (3 : Int32))), .val (.ref b1), .val (.long q4), .second, .unset, .unset, .unset] [])) _
        refine XS.goto X4.here hx rfl (pc0 := 94) (pc' := 125) rfl (hb hby at_94) (by decide) (by decide) ?_
        show Steps p.tables e below (T4.setTop (mkF m 125 #[.val (.long q1), .second, .val (.long q2), .second, .val (.long q3), .second, .val (.long q4), .second, .val (.long q5), .second, .val (.int p6), .val (.int (3 : Int32)), .val (.int (((p6.toUInt32 >>> ((2 : Int32) &&& 31).toUInt32).toInt32) &&& (3 : Int32))), .val (.ref b1), .val (.long q4), .second, .unset, .unset, .unset] [])) _
        exact kt
      · (try simp only [if_neg hr87_0] at kt)
        refine XS.ifYes X4.here hx rfl (pc0 := 87) (pc' := 97) rfl (hb hby at_87) rfl ((if0 _ _).trans (feq hr87_0).2) (by decide) (by decide) ?_
        show Steps p.tables e below (T4.setTop (mkF m 97 #[.val (.long q1), .second, .val (.long q2), .second, .val (.long q3), .second, .val (.long q4), .second, .val (.long q5), .second, .val (.int p6), .val (.int (3 : Int32)), .val (.int (((p6.toUInt32 >>> ((2 : Int32) &&& 31).toUInt32).toInt32) &&& (3 : Int32))), .val (.ref b1), .unset, .unset, .unset, .unset, .unset] [])) _
        refine XS.iload X4.here hx rfl (hb hby at_97) rfl ?_
        show Steps p.tables e below (T4.setTop (mkF m 99 #[.val (.long q1), .second, .val (.long q2), .second, .val (.long q3), .second, .val (.long q4), .second, .val (.long q5), .second, .val (.int p6), .val (.int (3 : Int32)), .val (.int (((p6.toUInt32 >>> ((2 : Int32) &&& 31).toUInt32).toInt32) &&& (3 : Int32))), .val (.ref b1), .unset, .unset, .unset, .unset, .unset] [(.int (((p6.toUInt32 >>> ((2 : Int32) &&& 31).toUInt32).toInt32) &&& (3 : Int32)))])) _
        refine XS.iconst X4.here hx rfl (hb hby at_99) ?_
        show Steps p.tables e below (T4.setTop (mkF m 100 #[.val (.long q1), .second, .val (.long q2), .second, .val (.long q3), .second, .val (.long q4), .second, .val (.long q5), .second, .val (.int p6), .val (.int (3 : Int32)), .val (.int (((p6.toUInt32 >>> ((2 : Int32) &&& 31).toUInt32).toInt32) &&& (3 : Int32))), .val (.ref b1), .unset, .unset, .unset, .unset, .unset] [(.int (1 : Int32)), (.int (((p6.toUInt32 >>> ((2 : Int32) &&& 31).toUInt32).toInt32) &&& (3 : Int32)))])) _
        rcases Classical.em ((((p6.toUInt32 >>> ((2 : Int32) &&& 31).toUInt32).toInt32) &&& (3 : Int32)) = (1 : Int32)) with hr100_1 | hr100_1
        · (try simp only [if_pos hr100_1] at kt)
          refine XS.icmpNo X4.here hx rfl (hb hby at_100) rfl (teq hr100_1).2 ?_
          show Steps p.tables e below (T4.setTop (mkF m 103 #[.val (.long q1), .second, .val (.long q2), .second, .val (.long q3), .second, .val (.long q4), .second, .val (.long q5), .second, .val (.int p6), .val (.int (3 : Int32)), .val (.int (((p6.toUInt32 >>> ((2 : Int32) &&& 31).toUInt32).toInt32) &&& (3 : Int32))), .val (.ref b1), .unset, .unset, .unset, .unset, .unset] [])) _
          refine XS.lloadN X4.here hx rfl (hb hby at_103) rfl ?_
          show Steps p.tables e below (T4.setTop (mkF m 104 #[.val (.long q1), .second, .val (.long q2), .second, .val (.long q3), .second, .val (.long q4), .second, .val (.long q5), .second, .val (.int p6), .val (.int (3 : Int32)), .val (.int (((p6.toUInt32 >>> ((2 : Int32) &&& 31).toUInt32).toInt32) &&& (3 : Int32))), .val (.ref b1), .unset, .unset, .unset, .unset, .unset] [(.long q1)])) _
          refine XS.lstore X4.here hx rfl (hb hby at_104) rfl (l' := #[.val (.long q1), .second, .val (.long q2), .second, .val (.long q3), .second, .val (.long q4), .second, .val (.long q5), .second, .val (.int p6), .val (.int (3 : Int32)), .val (.int (((p6.toUInt32 >>> ((2 : Int32) &&& 31).toUInt32).toInt32) &&& (3 : Int32))), .val (.ref b1), .val (.long q1), .second, .unset, .unset, .unset]) rfl ?_
          show Steps p.tables e below (T4.setTop (mkF m 106 #[.val (.long q1), .second, .val (.long q2), .second, .val (.long q3), .second, .val (.long q4), .second, .val (.long q5), .second, .val (.int p6), .val (.int (3 : Int32)), .val (.int (((p6.toUInt32 >>> ((2 : Int32) &&& 31).toUInt32).toInt32) &&& (3 : Int32))), .val (.ref b1), .val (.long q1), .second, .unset, .unset, .unset] [])) _
          refine XS.goto X4.here hx rfl (pc0 := 106) (pc' := 125) rfl (hb hby at_106) (by decide) (by decide) ?_
          show Steps p.tables e below (T4.setTop (mkF m 125 #[.val (.long q1), .second, .val (.long q2), .second, .val (.long q3), .second, .val (.long q4), .second, .val (.long q5), .second, .val (.int p6), .val (.int (3 : Int32)), .val (.int (((p6.toUInt32 >>> ((2 : Int32) &&& 31).toUInt32).toInt32) &&& (3 : Int32))), .val (.ref b1), .val (.long q1), .second, .unset, .unset, .unset] [])) _
          exact kt
        · (try simp only [if_neg hr100_1] at kt)
          refine XS.icmpYes X4.here hx rfl (pc0 := 100) (pc' := 109) rfl (hb hby at_100) rfl (feq hr100_1).2 (by decide) (by decide) ?_
          show Steps p.tables e below (T4.setTop (mkF m 109 #[.val (.long q1), .second, .val (.long q2), .second, .val (.long q3), .second, .val (.long q4), .second, .val (.long q5), .second, .val (.int p6), .val (.int (3 : Int32)), .val (.int (((p6.toUInt32 >>> ((2 : Int32) &&& 31).toUInt32).toInt32) &&& (3 : Int32))), .val (.ref b1), .unset, .unset, .unset, .unset, .unset] [])) _
          refine XS.iload X4.here hx rfl (hb hby at_109) rfl ?_
          show Steps p.tables e below (T4.setTop (mkF m 111 #[.val (.long q1), .second, .val (.long q2), .second, .val (.long q3), .second, .val (.long q4), .second, .val (.long q5), .second, .val (.int p6), .val (.int (3 : Int32)), .val (.int (((p6.toUInt32 >>> ((2 : Int32) &&& 31).toUInt32).toInt32) &&& (3 : Int32))), .val (.ref b1), .unset, .unset, .unset, .unset, .unset] [(.int (((p6.toUInt32 >>> ((2 : Int32) &&& 31).toUInt32).toInt32) &&& (3 : Int32)))])) _
          refine XS.iconst X4.here hx rfl (hb hby at_111) ?_
          show Steps p.tables e below (T4.setTop (mkF m 112 #[.val (.long q1), .second, .val (.long q2), .second, .val (.long q3), .second, .val (.long q4), .second, .val (.long q5), .second, .val (.int p6), .val (.int (3 : Int32)), .val (.int (((p6.toUInt32 >>> ((2 : Int32) &&& 31).toUInt32).toInt32) &&& (3 : Int32))), .val (.ref b1), .unset, .unset, .unset, .unset, .unset] [(.int (2 : Int32)), (.int (((p6.toUInt32 >>> ((2 : Int32) &&& 31).toUInt32).toInt32) &&& (3 : Int32)))])) _
          rcases Classical.em ((((p6.toUInt32 >>> ((2 : Int32) &&& 31).toUInt32).toInt32) &&& (3 : Int32)) = (2 : Int32)) with hr112_2 | hr112_2
          · (try simp only [if_pos hr112_2] at kt)
            refine XS.icmpNo X4.here hx rfl (hb hby at_112) rfl (teq hr112_2).2 ?_
            show Steps p.tables e below (T4.setTop (mkF m 115 #[.val (.long q1), .second, .val (.long q2), .second, .val (.long q3), .second, .val (.long q4), .second, .val (.long q5), .second, .val (.int p6), .val (.int (3 : Int32)), .val (.int (((p6.toUInt32 >>> ((2 : Int32) &&& 31).toUInt32).toInt32) &&& (3 : Int32))), .val (.ref b1), .unset, .unset, .unset, .unset, .unset] [])) _
            refine XS.lloadN X4.here hx rfl (hb hby at_115) rfl ?_
            show Steps p.tables e below (T4.setTop (mkF m 116 #[.val (.long q1), .second, .val (.long q2), .second, .val (.long q3), .second, .val (.long q4), .second, .val (.long q5), .second, .val (.int p6), .val (.int (3 : Int32)), .val (.int (((p6.toUInt32 >>> ((2 : Int32) &&& 31).toUInt32).toInt32) &&& (3 : Int32))), .val (.ref b1), .unset, .unset, .unset, .unset, .unset] [(.long q2)])) _
            refine XS.lstore X4.here hx rfl (hb hby at_116) rfl (l' := #[.val (.long q1), .second, .val (.long q2), .second, .val (.long q3), .second, .val (.long q4), .second, .val (.long q5), .second, .val (.int p6), .val (.int (3 : Int32)), .val (.int (((p6.toUInt32 >>> ((2 : Int32) &&& 31).toUInt32).toInt32) &&& (3 : Int32))), .val (.ref b1), .val (.long q2), .second, .unset, .unset, .unset]) rfl ?_
            show Steps p.tables e below (T4.setTop (mkF m 118 #[.val (.long q1), .second, .val (.long q2), .second, .val (.long q3), .second, .val (.long q4), .second, .val (.long q5), .second, .val (.int p6), .val (.int (3 : Int32)), .val (.int (((p6.toUInt32 >>> ((2 : Int32) &&& 31).toUInt32).toInt32) &&& (3 : Int32))), .val (.ref b1), .val (.long q2), .second, .unset, .unset, .unset] [])) _
            refine XS.goto X4.here hx rfl (pc0 := 118) (pc' := 125) rfl (hb hby at_118) (by decide) (by decide) ?_
            show Steps p.tables e below (T4.setTop (mkF m 125 #[.val (.long q1), .second, .val (.long q2), .second, .val (.long q3), .second, .val (.long q4), .second, .val (.long q5), .second, .val (.int p6), .val (.int (3 : Int32)), .val (.int (((p6.toUInt32 >>> ((2 : Int32) &&& 31).toUInt32).toInt32) &&& (3 : Int32))), .val (.ref b1), .val (.long q2), .second, .unset, .unset, .unset] [])) _
            exact kt
          · (try simp only [if_neg hr112_2] at kt)
            refine XS.icmpYes X4.here hx rfl (pc0 := 112) (pc' := 121) rfl (hb hby at_112) rfl (feq hr112_2).2 (by decide) (by decide) ?_
            show Steps p.tables e below (T4.setTop (mkF m 121 #[.val (.long q1), .second, .val (.long q2), .second, .val (.long q3), .second, .val (.long q4), .second, .val (.long q5), .second, .val (.int p6), .val (.int (3 : Int32)), .val (.int (((p6.toUInt32 >>> ((2 : Int32) &&& 31).toUInt32).toInt32) &&& (3 : Int32))), .val (.ref b1), .unset, .unset, .unset, .unset, .unset] [])) _
            refine XS.lload X4.here hx rfl (hb hby at_121) rfl ?_
            show Steps p.tables e below (T4.setTop (mkF m 123 #[.val (.long q1), .second, .val (.long q2), .second, .val (.long q3), .second, .val (.long q4), .second, .val (.long q5), .second, .val (.int p6), .val (.int (3 : Int32)), .val (.int (((p6.toUInt32 >>> ((2 : Int32) &&& 31).toUInt32).toInt32) &&& (3 : Int32))), .val (.ref b1), .unset, .unset, .unset, .unset, .unset] [(.long q3)])) _
            refine XS.lstore X4.here hx rfl (hb hby at_123) rfl (l' := #[.val (.long q1), .second, .val (.long q2), .second, .val (.long q3), .second, .val (.long q4), .second, .val (.long q5), .second, .val (.int p6), .val (.int (3 : Int32)), .val (.int (((p6.toUInt32 >>> ((2 : Int32) &&& 31).toUInt32).toInt32) &&& (3 : Int32))), .val (.ref b1), .val (.long q3), .second, .unset, .unset, .unset]) rfl ?_
            show Steps p.tables e below (T4.setTop (mkF m 125 #[.val (.long q1), .second, .val (.long q2), .second, .val (.long q3), .second, .val (.long q4), .second, .val (.long q5), .second, .val (.int p6), .val (.int (3 : Int32)), .val (.int (((p6.toUInt32 >>> ((2 : Int32) &&& 31).toUInt32).toInt32) &&& (3 : Int32))), .val (.ref b1), .val (.long q3), .second, .unset, .unset, .unset] [])) _
            exact kt
    refine sg87 _ ?_
    show Steps p.tables e below (T4.setTop (mkF m 125 #[.val (.long q1), .second, .val (.long q2), .second, .val (.long q3), .second, .val (.long q4), .second, .val (.long q5), .second, .val (.int p6), .val (.int (3 : Int32)), .val (.int (((p6.toUInt32 >>> ((2 : Int32) &&& 31).toUInt32).toInt32) &&& (3 : Int32))), .val (.ref b1), .val (.long (if (((p6.toUInt32 >>> ((2 : Int32) &&& 31).toUInt32).toInt32) &&& (3 : Int32)) = (0 : Int32) then q4 else (if (((p6.toUInt32 >>> ((2 : Int32) &&& 31).toUInt32).toInt32) &&& (3 : Int32)) = (1 : Int32) then q1 else (if (((p6.toUInt32 >>> ((2 : Int32) &&& 31).toUInt32).toInt32) &&& (3 : Int32)) = (2 : Int32) then q2 else q3)))), .second, .unset, .unset, .unset] [])) _
    rw [← h_x]
    show Steps p.tables e below (T4.setTop (mkF m 125 #[.val (.long q1), .second, .val (.long q2), .second, .val (.long q3), .second, .val (.long q4), .second, .val (.long q5), .second, .val (.int p6), .val (.int (3 : Int32)), .val (.int (((p6.toUInt32 >>> ((2 : Int32) &&& 31).toUInt32).toInt32) &&& (3 : Int32))), .val (.ref b1), .val (.long x), .second, .unset, .unset, .unset] [])) _
    refine st5 _ ?_
    show Steps p.tables e below (T5.setTop (mkF m 128 #[.val (.long q1), .second, .val (.long q2), .second, .val (.long q3), .second, .val (.long q4), .second, .val (.long q5), .second, .val (.int p6), .val (.int (3 : Int32)), .val (.int (((p6.toUInt32 >>> ((2 : Int32) &&& 31).toUInt32).toInt32) &&& (3 : Int32))), .val (.ref b1), .val (.long x), .second, .unset, .unset, .unset] [(.ref b5)])) _
    refine XS.dup X5.here hx rfl (hb hby at_128) rfl rfl ?_
    show Steps p.tables e below (T5.setTop (mkF m 129 #[.val (.long q1), .second, .val (.long q2), .second, .val (.long q3), .second, .val (.long q4), .second, .val (.long q5), .second, .val (.int p6), .val (.int (3 : Int32)), .val (.int (((p6.toUInt32 >>> ((2 : Int32) &&& 31).toUInt32).toInt32) &&& (3 : Int32))), .val (.ref b1), .val (.long x), .second, .unset, .unset, .unset] [(.ref b5), (.ref b5)])) _
    refine st6.trans ?_
    show Steps p.tables e below (T6.setTop (mkF m 132 #[.val (.long q1), .second, .val (.long q2), .second, .val (.long q3), .second, .val (.long q4), .second, .val (.long q5), .second, .val (.int p6), .val (.int (3 : Int32)), .val (.int (((p6.toUInt32 >>> ((2 : Int32) &&& 31).toUInt32).toInt32) &&& (3 : Int32))), .val (.ref b1), .val (.long x), .second, .unset, .unset, .unset] [(.ref b5)])) _
    refine XS.astore X6.here hx rfl (hb hby at_132) rfl rfl (l' := #[.val (.long q1), .second, .val (.long q2), .second, .val (.long q3), .second, .val (.long q4), .second, .val (.long q5), .second, .val (.int p6), .val (.int (3 : Int32)), .val (.int (((p6.toUInt32 >>> ((2 : Int32) &&& 31).toUInt32).toInt32) &&& (3 : Int32))), .val (.ref b1), .val (.long x), .second, .val (.ref b5), .unset, .unset]) rfl ?_
    show Steps p.tables e below (T6.setTop (mkF m 134 #[.val (.long q1), .second, .val (.long q2), .second, .val (.long q3), .second, .val (.long q4), .second, .val (.long q5), .second, .val (.int p6), .val (.int (3 : Int32)), .val (.int (((p6.toUInt32 >>> ((2 : Int32) &&& 31).toUInt32).toInt32) &&& (3 : Int32))), .val (.ref b1), .val (.long x), .second, .val (.ref b5), .unset, .unset] [])) _
    refine st7 _ ?_
    show Steps p.tables e below (T7.setTop (mkF m 137 #[.val (.long q1), .second, .val (.long q2), .second, .val (.long q3), .second, .val (.long q4), .second, .val (.long q5), .second, .val (.int p6), .val (.int (3 : Int32)), .val (.int (((p6.toUInt32 >>> ((2 : Int32) &&& 31).toUInt32).toInt32) &&& (3 : Int32))), .val (.ref b1), .val (.long x), .second, .val (.ref b5), .unset, .unset] [(.ref b7)])) _
    refine XS.dup X7.here hx rfl (hb hby at_137) rfl rfl ?_
    show Steps p.tables e below (T7.setTop (mkF m 138 #[.val (.long q1), .second, .val (.long q2), .second, .val (.long q3), .second, .val (.long q4), .second, .val (.long q5), .second, .val (.int p6), .val (.int (3 : Int32)), .val (.int (((p6.toUInt32 >>> ((2 : Int32) &&& 31).toUInt32).toInt32) &&& (3 : Int32))), .val (.ref b1), .val (.long x), .second, .val (.ref b5), .unset, .unset] [(.ref b7), (.ref b7)])) _
    refine XS.aload X7.here hx rfl (hb hby at_138) rfl rfl ?_
    show Steps p.tables e below (T7.setTop (mkF m 140 #[.val (.long q1), .second, .val (.long q2), .second, .val (.long q3), .second, .val (.long q4), .second, .val (.long q5), .second, .val (.int p6), .val (.int (3 : Int32)), .val (.int (((p6.toUInt32 >>> ((2 : Int32) &&& 31).toUInt32).toInt32) &&& (3 : Int32))), .val (.ref b1), .val (.long x), .second, .val (.ref b5), .unset, .unset] [(.ref b5), (.ref b7), (.ref b7)])) _
    refine XS.aload X7.here hx rfl (hb hby at_140) rfl rfl ?_
    show Steps p.tables e below (T7.setTop (mkF m 142 #[.val (.long q1), .second, .val (.long q2), .second, .val (.long q3), .second, .val (.long q4), .second, .val (.long q5), .second, .val (.int p6), .val (.int (3 : Int32)), .val (.int (((p6.toUInt32 >>> ((2 : Int32) &&& 31).toUInt32).toInt32) &&& (3 : Int32))), .val (.ref b1), .val (.long x), .second, .val (.ref b5), .unset, .unset] [(.ref b1), (.ref b5), (.ref b7), (.ref b7)])) _
    refine XS.lload X7.here hx rfl (hb hby at_142) rfl ?_
    show Steps p.tables e below (T7.setTop (mkF m 144 #[.val (.long q1), .second, .val (.long q2), .second, .val (.long q3), .second, .val (.long q4), .second, .val (.long q5), .second, .val (.int p6), .val (.int (3 : Int32)), .val (.int (((p6.toUInt32 >>> ((2 : Int32) &&& 31).toUInt32).toInt32) &&& (3 : Int32))), .val (.ref b1), .val (.long x), .second, .val (.ref b5), .unset, .unset] [(.long q5), (.ref b1), (.ref b5), (.ref b7), (.ref b7)])) _
    refine st8.trans ?_
    show Steps p.tables e below (T8.setTop (mkF m 147 #[.val (.long q1), .second, .val (.long q2), .second, .val (.long q3), .second, .val (.long q4), .second, .val (.long q5), .second, .val (.int p6), .val (.int (3 : Int32)), .val (.int (((p6.toUInt32 >>> ((2 : Int32) &&& 31).toUInt32).toInt32) &&& (3 : Int32))), .val (.ref b1), .val (.long x), .second, .val (.ref b5), .unset, .unset] [(.ref b7)])) _
    refine XS.astore X8.here hx rfl (hb hby at_147) rfl rfl (l' := #[.val (.long q1), .second, .val (.long q2), .second, .val (.long q3), .second, .val (.long q4), .second, .val (.long q5), .second, .val (.int p6), .val (.int (3 : Int32)), .val (.int (((p6.toUInt32 >>> ((2 : Int32) &&& 31).toUInt32).toInt32) &&& (3 : Int32))), .val (.ref b1), .val (.long x), .second, .val (.ref b5), .val (.ref b7), .unset]) rfl ?_
    show Steps p.tables e below (T8.setTop (mkF m 149 #[.val (.long q1), .second, .val (.long q2), .second, .val (.long q3), .second, .val (.long q4), .second, .val (.long q5), .second, .val (.int p6), .val (.int (3 : Int32)), .val (.int (((p6.toUInt32 >>> ((2 : Int32) &&& 31).toUInt32).toInt32) &&& (3 : Int32))), .val (.ref b1), .val (.long x), .second, .val (.ref b5), .val (.ref b7), .unset] [])) _
    refine XS.iload X8.here hx rfl (hb hby at_149) rfl ?_
    show Steps p.tables e below (T8.setTop (mkF m 151 #[.val (.long q1), .second, .val (.long q2), .second, .val (.long q3), .second, .val (.long q4), .second, .val (.long q5), .second, .val (.int p6), .val (.int (3 : Int32)), .val (.int (((p6.toUInt32 >>> ((2 : Int32) &&& 31).toUInt32).toInt32) &&& (3 : Int32))), .val (.ref b1), .val (.long x), .second, .val (.ref b5), .val (.ref b7), .unset] [(.int (3 : Int32))])) _
    have sg151 : ∀ target, Steps p.tables e below (T8.setTop (mkF m 193 #[.val (.long q1), .second, .val (.long q2), .second, .val (.long q3), .second, .val (.long q4), .second, .val (.long q5), .second, .val (.int p6), .val (.int (3 : Int32)), .val (.int (((p6.toUInt32 >>> ((2 : Int32) &&& 31).toUInt32).toInt32) &&& (3 : Int32))), .val (.ref b1), .val (.long x), .second, .val (.ref b5), .val (.ref b7), .unset] [(.int (if (lcmpW x q1) = (0 : Int32) then (1 : Int32) else (if (lcmpW x q2) = (0 : Int32) then (1 : Int32) else (if (lcmpW x q3) = (0 : Int32) then (1 : Int32) else (0 : Int32)))))])) target → Steps p.tables e below (T8.setTop (mkF m 151 #[.val (.long q1), .second, .val (.long q2), .second, .val (.long q3), .second, .val (.long q4), .second, .val (.long q5), .second, .val (.int p6), .val (.int (3 : Int32)), .val (.int (((p6.toUInt32 >>> ((2 : Int32) &&& 31).toUInt32).toInt32) &&& (3 : Int32))), .val (.ref b1), .val (.long x), .second, .val (.ref b5), .val (.ref b7), .unset] [(.int (3 : Int32))])) target := by
      intro target kt
      refine XS.ifNo X8.here hx rfl (hb hby at_151) rfl ((if0 _ _).trans (tlt (by decide)).2.2.2) ?_
      show Steps p.tables e below (T8.setTop (mkF m 154 #[.val (.long q1), .second, .val (.long q2), .second, .val (.long q3), .second, .val (.long q4), .second, .val (.long q5), .second, .val (.int p6), .val (.int (3 : Int32)), .val (.int (((p6.toUInt32 >>> ((2 : Int32) &&& 31).toUInt32).toInt32) &&& (3 : Int32))), .val (.ref b1), .val (.long x), .second, .val (.ref b5), .val (.ref b7), .unset] [])) _
      refine XS.lload X8.here hx rfl (hb hby at_154) rfl ?_
      show Steps p.tables e below (T8.setTop (mkF m 156 #[.val (.long q1), .second, .val (.long q2), .second, .val (.long q3), .second, .val (.long q4), .second, .val (.long q5), .second, .val (.int p6), .val (.int (3 : Int32)), .val (.int (((p6.toUInt32 >>> ((2 : Int32) &&& 31).toUInt32).toInt32) &&& (3 : Int32))), .val (.ref b1), .val (.long x), .second, .val (.ref b5), .val (.ref b7), .unset] [(.long x)])) _
      refine XS.lloadN X8.here hx rfl (hb hby at_156) rfl ?_
      show Steps p.tables e below (T8.setTop (mkF m 157 #[.val (.long q1), .second, .val (.long q2), .second, .val (.long q3), .second, .val (.long q4), .second, .val (.long q5), .second, .val (.int p6), .val (.int (3 : Int32)), .val (.int (((p6.toUInt32 >>> ((2 : Int32) &&& 31).toUInt32).toInt32) &&& (3 : Int32))), .val (.ref b1), .val (.long x), .second, .val (.ref b5), .val (.ref b7), .unset] [(.long q1), (.long x)])) _
      refine XS.lcmp X8.here hx rfl (hb hby at_157) rfl ?_
      show Steps p.tables e below (T8.setTop (mkF m 158 #[.val (.long q1), .second, .val (.long q2), .second, .val (.long q3), .second, .val (.long q4), .second, .val (.long q5), .second, .val (.int p6), .val (.int (3 : Int32)), .val (.int (((p6.toUInt32 >>> ((2 : Int32) &&& 31).toUInt32).toInt32) &&& (3 : Int32))), .val (.ref b1), .val (.long x), .second, .val (.ref b5), .val (.ref b7), .unset] [(.int (lcmpW x q1))])) _
      rcases Classical.em ((lcmpW x q1) = (0 : Int32)) with hr158_0 | hr158_0
      · (try simp only [if_pos hr158_0] at kt)
        refine XS.ifYes X8.here hx rfl (pc0 := 158) (pc' := 188) rfl (hb hby at_158) rfl ((if0 _ _).trans (teq hr158_0).1) (by decide) (by decide) ?_
        show Steps p.tables e below (T8.setTop (mkF m 188 #[.val (.long q1), .second, .val (.long q2), .second, .val (.long q3), .second, .val (.long q4), .second, .val (.long q5), .second, .val (.int p6), .val (.int (3 : Int32)), .val (.int (((p6.toUInt32 >>> ((2 : Int32) &&& 31).toUInt32).toInt32) &&& (3 : Int32))), .val (.ref b1), .val (.long x), .second, .val (.ref b5), .val (.ref b7), .unset] [])) _
        refine XS.iconst X8.here hx rfl (hb hby at_188) ?_
        show Steps p.tables e below (T8.setTop (mkF m 189 #[.val (.long q1), .second, .val (.long q2), .second, .val (.long q3), .second, .val (.long q4), .second, .val (.long q5), .second, .val (.int p6), .val (.int (3 : Int32)), .val (.int (((p6.toUInt32 >>> ((2 : Int32) &&& 31).toUInt32).toInt32) &&& (3 : Int32))), .val (.ref b1), .val (.long x), .second, .val (.ref b5), .val (.ref b7), .unset] [(.int (1 : Int32))])) _
        refine XS.goto X8.here hx rfl (pc0 := 189) (pc' := 193) rfl (hb hby at_189) (by decide) (by decide) ?_
        show Steps p.tables e below (T8.setTop (mkF m 193 #[.val (.long q1), .second, .val (.long q2), .second, .val (.long q3), .second, .val (.long q4), .second, .val (.long q5), .second, .val (.int p6), .val (.int (3 : Int32)), .val (.int (((p6.toUInt32 >>> ((2 : Int32) &&& 31).toUInt32).toInt32) &&& (3 : Int32))), .val (.ref b1), .val (.long x), .second, .val (.ref b5), .val (.ref b7), .unset] [(.int (1 : Int32))])) _
        exact kt
      · (try simp only [if_neg hr158_0] at kt)
        refine XS.ifNo X8.here hx rfl (hb hby at_158) rfl ((if0 _ _).trans (feq hr158_0).1) ?_
        show Steps p.tables e below (T8.setTop (mkF m 161 #[.val (.long q1), .second, .val (.long q2), .second, .val (.long q3), .second, .val (.long q4), .second, .val (.long q5), .second, .val (.int p6), .val (.int (3 : Int32)), .val (.int (((p6.toUInt32 >>> ((2 : Int32) &&& 31).toUInt32).toInt32) &&& (3 : Int32))), .val (.ref b1), .val (.long x), .second, .val (.ref b5), .val (.ref b7), .unset] [])) _
        refine XS.iload X8.here hx rfl (hb hby at_161) rfl ?_
        show Steps p.tables e below (T8.setTop (mkF m 163 #[.val (.long q1), .second, .val (.long q2), .second, .val (.long q3), .second, .val (.long q4), .second, .val (.long q5), .second, .val (.int p6), .val (.int (3 : Int32)), .val (.int (((p6.toUInt32 >>> ((2 : Int32) &&& 31).toUInt32).toInt32) &&& (3 : Int32))), .val (.ref b1), .val (.long x), .second, .val (.ref b5), .val (.ref b7), .unset] [(.int (3 : Int32))])) _
        refine XS.iconst X8.here hx rfl (hb hby at_163) ?_
        show Steps p.tables e below (T8.setTop (mkF m 164 #[.val (.long q1), .second, .val (.long q2), .second, .val (.long q3), .second, .val (.long q4), .second, .val (.long q5), .second, .val (.int p6), .val (.int (3 : Int32)), .val (.int (((p6.toUInt32 >>> ((2 : Int32) &&& 31).toUInt32).toInt32) &&& (3 : Int32))), .val (.ref b1), .val (.long x), .second, .val (.ref b5), .val (.ref b7), .unset] [(.int (1 : Int32)), (.int (3 : Int32))])) _
        refine XS.icmpNo X8.here hx rfl (hb hby at_164) rfl (tlt (by decide)).2.2.2 ?_
        show Steps p.tables e below (T8.setTop (mkF m 167 #[.val (.long q1), .second, .val (.long q2), .second, .val (.long q3), .second, .val (.long q4), .second, .val (.long q5), .second, .val (.int p6), .val (.int (3 : Int32)), .val (.int (((p6.toUInt32 >>> ((2 : Int32) &&& 31).toUInt32).toInt32) &&& (3 : Int32))), .val (.ref b1), .val (.long x), .second, .val (.ref b5), .val (.ref b7), .unset] [])) _
        refine XS.lload X8.here hx rfl (hb hby at_167) rfl ?_
        show Steps p.tables e below (T8.setTop (mkF m 169 #[.val (.long q1), .second, .val (.long q2), .second, .val (.long q3), .second, .val (.long q4), .second, .val (.long q5), .second, .val (.int p6), .val (.int (3 : Int32)), .val (.int (((p6.toUInt32 >>> ((2 : Int32) &&& 31).toUInt32).toInt32) &&& (3 : Int32))), .val (.ref b1), .val (.long x), .second, .val (.ref b5), .val (.ref b7), .unset] [(.long x)])) _
        refine XS.lloadN X8.here hx rfl (hb hby at_169) rfl ?_
        show Steps p.tables e below (T8.setTop (mkF m 170 #[.val (.long q1), .second, .val (.long q2), .second, .val (.long q3), .second, .val (.long q4), .second, .val (.long q5), .second, .val (.int p6), .val (.int (3 : Int32)), .val (.int (((p6.toUInt32 >>> ((2 : Int32) &&& 31).toUInt32).toInt32) &&& (3 : Int32))), .val (.ref b1), .val (.long x), .second, .val (.ref b5), .val (.ref b7), .unset] [(.long q2), (.long x)])) _
        refine XS.lcmp X8.here hx rfl (hb hby at_170) rfl ?_
        show Steps p.tables e below (T8.setTop (mkF m 171 #[.val (.long q1), .second, .val (.long q2), .second, .val (.long q3), .second, .val (.long q4), .second, .val (.long q5), .second, .val (.int p6), .val (.int (3 : Int32)), .val (.int (((p6.toUInt32 >>> ((2 : Int32) &&& 31).toUInt32).toInt32) &&& (3 : Int32))), .val (.ref b1), .val (.long x), .second, .val (.ref b5), .val (.ref b7), .unset] [(.int (lcmpW x q2))])) _
        rcases Classical.em ((lcmpW x q2) = (0 : Int32)) with hr171_1 | hr171_1
        · (try simp only [if_pos hr171_1] at kt)
          refine XS.ifYes X8.here hx rfl (pc0 := 171) (pc' := 188) rfl (hb hby at_171) rfl ((if0 _ _).trans (teq hr171_1).1) (by decide) (by decide) ?_
          show Steps p.tables e below (T8.setTop (mkF m 188 #[.val (.long q1), .second, .val (.long q2), .second, .val (.long q3), .second, .val (.long q4), .second, .val (.long q5), .second, .val (.int p6), .val (.int (3 : Int32)), .val (.int (((p6.toUInt32 >>> ((2 : Int32) &&& 31).toUInt32).toInt32) &&& (3 : Int32))), .val (.ref b1), .val (.long x), .second, .val (.ref b5), .val (.ref b7), .unset] [])) _
          refine XS.iconst X8.here hx rfl (hb hby at_188) ?_
          show Steps p.tables e below (T8.setTop (mkF m 189 #[.val (.long q1), .second, .val (.long q2), .second, .val (.long q3), .second, .val (.long q4), .second, .val (.long q5), .second, .val (.int p6), .val (.int (3 : Int32)), .val (.int (((p6.toUInt32 >>> ((2 : Int32) &&& 31).toUInt32).toInt32) &&& (3 : Int32))), .val (.ref b1), .val (.long x), .second, .val (.ref b5), .val (.ref b7), .unset] [(.int (1 : Int32))])) _
          refine XS.goto X8.here hx rfl (pc0 := 189) (pc' := 193) rfl (hb hby at_189) (by decide) (by decide) ?_
          show Steps p.tables e below (T8.setTop (mkF m 193 #[.val (.long q1), .second, .val (.long q2), .second, .val (.long q3), .second, .val (.long q4), .second, .val (.long q5), .second, .val (.int p6), .val (.int (3 : Int32)), .val (.int (((p6.toUInt32 >>> ((2 : Int32) &&& 31).toUInt32).toInt32) &&& (3 : Int32))), .val (.ref b1), .val (.long x), .second, .val (.ref b5), .val (.ref b7), .unset] [(.int (1 : Int32))])) _
          exact kt
        · (try simp only [if_neg hr171_1] at kt)
          refine XS.ifNo X8.here hx rfl (hb hby at_171) rfl ((if0 _ _).trans (feq hr171_1).1) ?_
          show Steps p.tables e below (T8.setTop (mkF m 174 #[.val (.long q1), .second, .val (.long q2), .second, .val (.long q3), .second, .val (.long q4), .second, .val (.long q5), .second, .val (.int p6), .val (.int (3 : Int32)), .val (.int (((p6.toUInt32 >>> ((2 : Int32) &&& 31).toUInt32).toInt32) &&& (3 : Int32))), .val (.ref b1), .val (.long x), .second, .val (.ref b5), .val (.ref b7), .unset] [])) _
          refine XS.iload X8.here hx rfl (hb hby at_174) rfl ?_
          show Steps p.tables e below (T8.setTop (mkF m 176 #[.val (.long q1), .second, .val (.long q2), .second, .val (.long q3), .second, .val (.long q4), .second, .val (.long q5), .second, .val (.int p6), .val (.int (3 : Int32)), .val (.int (((p6.toUInt32 >>> ((2 : Int32) &&& 31).toUInt32).toInt32) &&& (3 : Int32))), .val (.ref b1), .val (.long x), .second, .val (.ref b5), .val (.ref b7), .unset] [(.int (3 : Int32))])) _
          refine XS.iconst X8.here hx rfl (hb hby at_176) ?_
          show Steps p.tables e below (T8.setTop (mkF m 177 #[.val (.long q1), .second, .val (.long q2), .second, .val (.long q3), .second, .val (.long q4), .second, .val (.long q5), .second, .val (.int p6), .val (.int (3 : Int32)), .val (.int (((p6.toUInt32 >>> ((2 : Int32) &&& 31).toUInt32).toInt32) &&& (3 : Int32))), .val (.ref b1), .val (.long x), .second, .val (.ref b5), .val (.ref b7), .unset] [(.int (2 : Int32)), (.int (3 : Int32))])) _
          refine XS.icmpNo X8.here hx rfl (hb hby at_177) rfl (tlt (by decide)).2.2.2 ?_
          show Steps p.tables e below (T8.setTop (mkF m 180 #[.val (.long q1), .second, .val (.long q2), .second, .val (.long q3), .second, .val (.long q4), .second, .val (.long q5), .second, .val (.int p6), .val (.int (3 : Int32)), .val (.int (((p6.toUInt32 >>> ((2 : Int32) &&& 31).toUInt32).toInt32) &&& (3 : Int32))), .val (.ref b1), .val (.long x), .second, .val (.ref b5), .val (.ref b7), .unset] [])) _
          refine XS.lload X8.here hx rfl (hb hby at_180) rfl ?_
          show Steps p.tables e below (T8.setTop (mkF m 182 #[.val (.long q1), .second, .val (.long q2), .second, .val (.long q3), .second, .val (.long q4), .second, .val (.long q5), .second, .val (.int p6), .val (.int (3 : Int32)), .val (.int (((p6.toUInt32 >>> ((2 : Int32) &&& 31).toUInt32).toInt32) &&& (3 : Int32))), .val (.ref b1), .val (.long x), .second, .val (.ref b5), .val (.ref b7), .unset] [(.long x)])) _
          refine XS.lload X8.here hx rfl (hb hby at_182) rfl ?_
          show Steps p.tables e below (T8.setTop (mkF m 184 #[.val (.long q1), .second, .val (.long q2), .second, .val (.long q3), .second, .val (.long q4), .second, .val (.long q5), .second, .val (.int p6), .val (.int (3 : Int32)), .val (.int (((p6.toUInt32 >>> ((2 : Int32) &&& 31).toUInt32).toInt32) &&& (3 : Int32))), .val (.ref b1), .val (.long x), .second, .val (.ref b5), .val (.ref b7), .unset] [(.long q3), (.long x)])) _
          refine XS.lcmp X8.here hx rfl (hb hby at_184) rfl ?_
          show Steps p.tables e below (T8.setTop (mkF m 185 #[.val (.long q1), .second, .val (.long q2), .second, .val (.long q3), .second, .val (.long q4), .second, .val (.long q5), .second, .val (.int p6), .val (.int (3 : Int32)), .val (.int (((p6.toUInt32 >>> ((2 : Int32) &&& 31).toUInt32).toInt32) &&& (3 : Int32))), .val (.ref b1), .val (.long x), .second, .val (.ref b5), .val (.ref b7), .unset] [(.int (lcmpW x q3))])) _
          rcases Classical.em ((lcmpW x q3) = (0 : Int32)) with hr185_2 | hr185_2
          · (try simp only [if_pos hr185_2] at kt)
            refine XS.ifNo X8.here hx rfl (hb hby at_185) rfl ((if0 _ _).trans (teq hr185_2).2) ?_
            show Steps p.tables e below (T8.setTop (mkF m 188 #[.val (.long q1), .second, .val (.long q2), .second, .val (.long q3), .second, .val (.long q4), .second, .val (.long q5), .second, .val (.int p6), .val (.int (3 : Int32)), .val (.int (((p6.toUInt32 >>> ((2 : Int32) &&& 31).toUInt32).toInt32) &&& (3 : Int32))), .val (.ref b1), .val (.long x), .second, .val (.ref b5), .val (.ref b7), .unset] [])) _
            refine XS.iconst X8.here hx rfl (hb hby at_188) ?_
            show Steps p.tables e below (T8.setTop (mkF m 189 #[.val (.long q1), .second, .val (.long q2), .second, .val (.long q3), .second, .val (.long q4), .second, .val (.long q5), .second, .val (.int p6), .val (.int (3 : Int32)), .val (.int (((p6.toUInt32 >>> ((2 : Int32) &&& 31).toUInt32).toInt32) &&& (3 : Int32))), .val (.ref b1), .val (.long x), .second, .val (.ref b5), .val (.ref b7), .unset] [(.int (1 : Int32))])) _
            refine XS.goto X8.here hx rfl (pc0 := 189) (pc' := 193) rfl (hb hby at_189) (by decide) (by decide) ?_
            show Steps p.tables e below (T8.setTop (mkF m 193 #[.val (.long q1), .second, .val (.long q2), .second, .val (.long q3), .second, .val (.long q4), .second, .val (.long q5), .second, .val (.int p6), .val (.int (3 : Int32)), .val (.int (((p6.toUInt32 >>> ((2 : Int32) &&& 31).toUInt32).toInt32) &&& (3 : Int32))), .val (.ref b1), .val (.long x), .second, .val (.ref b5), .val (.ref b7), .unset] [(.int (1 : Int32))])) _
            exact kt
          · (try simp only [if_neg hr185_2] at kt)
            refine XS.ifYes X8.here hx rfl (pc0 := 185) (pc' := 192) rfl (hb hby at_185) rfl ((if0 _ _).trans (feq hr185_2).2) (by decide) (by decide) ?_
            show Steps p.tables e below (T8.setTop (mkF m 192 #[.val (.long q1), .second, .val (.long q2), .second, .val (.long q3), .second, .val (.long q4), .second, .val (.long q5), .second, .val (.int p6), .val (.int (3 : Int32)), .val (.int (((p6.toUInt32 >>> ((2 : Int32) &&& 31).toUInt32).toInt32) &&& (3 : Int32))), .val (.ref b1), .val (.long x), .second, .val (.ref b5), .val (.ref b7), .unset] [])) _
            refine XS.iconst X8.here hx rfl (hb hby at_192) ?_
            show Steps p.tables e below (T8.setTop (mkF m 193 #[.val (.long q1), .second, .val (.long q2), .second, .val (.long q3), .second, .val (.long q4), .second, .val (.long q5), .second, .val (.int p6), .val (.int (3 : Int32)), .val (.int (((p6.toUInt32 >>> ((2 : Int32) &&& 31).toUInt32).toInt32) &&& (3 : Int32))), .val (.ref b1), .val (.long x), .second, .val (.ref b5), .val (.ref b7), .unset] [(.int (0 : Int32))])) _
            exact kt
    refine sg151 _ ?_
    show Steps p.tables e below (T8.setTop (mkF m 193 #[.val (.long q1), .second, .val (.long q2), .second, .val (.long q3), .second, .val (.long q4), .second, .val (.long q5), .second, .val (.int p6), .val (.int (3 : Int32)), .val (.int (((p6.toUInt32 >>> ((2 : Int32) &&& 31).toUInt32).toInt32) &&& (3 : Int32))), .val (.ref b1), .val (.long x), .second, .val (.ref b5), .val (.ref b7), .unset] [(.int (if (lcmpW x q1) = (0 : Int32) then (1 : Int32) else (if (lcmpW x q2) = (0 : Int32) then (1 : Int32) else (if (lcmpW x q3) = (0 : Int32) then (1 : Int32) else (0 : Int32)))))])) _
    refine XS.istore X8.here hx rfl (hb hby at_193) rfl (l' := #[.val (.long q1), .second, .val (.long q2), .second, .val (.long q3), .second, .val (.long q4), .second, .val (.long q5), .second, .val (.int p6), .val (.int (3 : Int32)), .val (.int (((p6.toUInt32 >>> ((2 : Int32) &&& 31).toUInt32).toInt32) &&& (3 : Int32))), .val (.ref b1), .val (.long x), .second, .val (.ref b5), .val (.ref b7), .val (.int (if (lcmpW x q1) = (0 : Int32) then (1 : Int32) else (if (lcmpW x q2) = (0 : Int32) then (1 : Int32) else (if (lcmpW x q3) = (0 : Int32) then (1 : Int32) else (0 : Int32)))))]) rfl ?_
    show Steps p.tables e below (T8.setTop (mkF m 195 #[.val (.long q1), .second, .val (.long q2), .second, .val (.long q3), .second, .val (.long q4), .second, .val (.long q5), .second, .val (.int p6), .val (.int (3 : Int32)), .val (.int (((p6.toUInt32 >>> ((2 : Int32) &&& 31).toUInt32).toInt32) &&& (3 : Int32))), .val (.ref b1), .val (.long x), .second, .val (.ref b5), .val (.ref b7), .val (.int (if (lcmpW x q1) = (0 : Int32) then (1 : Int32) else (if (lcmpW x q2) = (0 : Int32) then (1 : Int32) else (if (lcmpW x q3) = (0 : Int32) then (1 : Int32) else (0 : Int32)))))] [])) _
    refine XS.aload X8.here hx rfl (hb hby at_195) rfl rfl ?_
    show Steps p.tables e below (T8.setTop (mkF m 197 #[.val (.long q1), .second, .val (.long q2), .second, .val (.long q3), .second, .val (.long q4), .second, .val (.long q5), .second, .val (.int p6), .val (.int (3 : Int32)), .val (.int (((p6.toUInt32 >>> ((2 : Int32) &&& 31).toUInt32).toInt32) &&& (3 : Int32))), .val (.ref b1), .val (.long x), .second, .val (.ref b5), .val (.ref b7), .val (.int (if (lcmpW x q1) = (0 : Int32) then (1 : Int32) else (if (lcmpW x q2) = (0 : Int32) then (1 : Int32) else (if (lcmpW x q3) = (0 : Int32) then (1 : Int32) else (0 : Int32)))))] [(.ref b7)])) _
    refine XS.lload X8.here hx rfl (hb hby at_197) rfl ?_
    show Steps p.tables e below (T8.setTop (mkF m 199 #[.val (.long q1), .second, .val (.long q2), .second, .val (.long q3), .second, .val (.long q4), .second, .val (.long q5), .second, .val (.int p6), .val (.int (3 : Int32)), .val (.int (((p6.toUInt32 >>> ((2 : Int32) &&& 31).toUInt32).toInt32) &&& (3 : Int32))), .val (.ref b1), .val (.long x), .second, .val (.ref b5), .val (.ref b7), .val (.int (if (lcmpW x q1) = (0 : Int32) then (1 : Int32) else (if (lcmpW x q2) = (0 : Int32) then (1 : Int32) else (if (lcmpW x q3) = (0 : Int32) then (1 : Int32) else (0 : Int32)))))] [(.long x), (.ref b7)])) _
    refine st9.trans ?_
    show Steps p.tables e below (T9.setTop (mkF m 202 #[.val (.long q1), .second, .val (.long q2), .second, .val (.long q3), .second, .val (.long q4), .second, .val (.long q5), .second, .val (.int p6), .val (.int (3 : Int32)), .val (.int (((p6.toUInt32 >>> ((2 : Int32) &&& 31).toUInt32).toInt32) &&& (3 : Int32))), .val (.ref b1), .val (.long x), .second, .val (.ref b5), .val (.ref b7), .val (.int (if (lcmpW x q1) = (0 : Int32) then (1 : Int32) else (if (lcmpW x q2) = (0 : Int32) then (1 : Int32) else (if (lcmpW x q3) = (0 : Int32) then (1 : Int32) else (0 : Int32)))))] [(.int (if (lcmpW q1 x) = (0 : Int32) then (1 : Int32) else (if (lcmpW q2 x) = (0 : Int32) then (1 : Int32) else (if (lcmpW q3 x) = (0 : Int32) then (1 : Int32) else (0 : Int32)))))])) _
    refine XS.iload X9.here hx rfl (hb hby at_202) rfl ?_
    show Steps p.tables e below (T9.setTop (mkF m 204 #[.val (.long q1), .second, .val (.long q2), .second, .val (.long q3), .second, .val (.long q4), .second, .val (.long q5), .second, .val (.int p6), .val (.int (3 : Int32)), .val (.int (((p6.toUInt32 >>> ((2 : Int32) &&& 31).toUInt32).toInt32) &&& (3 : Int32))), .val (.ref b1), .val (.long x), .second, .val (.ref b5), .val (.ref b7), .val (.int (if (lcmpW x q1) = (0 : Int32) then (1 : Int32) else (if (lcmpW x q2) = (0 : Int32) then (1 : Int32) else (if (lcmpW x q3) = (0 : Int32) then (1 : Int32) else (0 : Int32)))))] [(.int (if (lcmpW x q1) = (0 : Int32) then (1 : Int32) else (if (lcmpW x q2) = (0 : Int32) then (1 : Int32) else (if (lcmpW x q3) = (0 : Int32) then (1 : Int32) else (0 : Int32))))), (.int (if (lcmpW q1 x) = (0 : Int32) then (1 : Int32) else (if (lcmpW q2 x) = (0 : Int32) then (1 : Int32) else (if (lcmpW q3 x) = (0 : Int32) then (1 : Int32) else (0 : Int32)))))])) _
    refine XS.icmpNo X9.here hx rfl (hb hby at_204) rfl (teq own_eq3).2 ?_
    show Steps p.tables e below (T9.setTop (mkF m 207 #[.val (.long q1), .second, .val (.long q2), .second, .val (.long q3), .second, .val (.long q4), .second, .val (.long q5), .second, .val (.int p6), .val (.int (3 : Int32)), .val (.int (((p6.toUInt32 >>> ((2 : Int32) &&& 31).toUInt32).toInt32) &&& (3 : Int32))), .val (.ref b1), .val (.long x), .second, .val (.ref b5), .val (.ref b7), .val (.int (if (lcmpW x q1) = (0 : Int32) then (1 : Int32) else (if (lcmpW x q2) = (0 : Int32) then (1 : Int32) else (if (lcmpW x q3) = (0 : Int32) then (1 : Int32) else (0 : Int32)))))] [])) _
    refine XS.iconst X9.here hx rfl (hb hby at_207) ?_
    show Steps p.tables e below (T9.setTop (mkF m 208 #[.val (.long q1), .second, .val (.long q2), .second, .val (.long q3), .second, .val (.long q4), .second, .val (.long q5), .second, .val (.int p6), .val (.int (3 : Int32)), .val (.int (((p6.toUInt32 >>> ((2 : Int32) &&& 31).toUInt32).toInt32) &&& (3 : Int32))), .val (.ref b1), .val (.long x), .second, .val (.ref b5), .val (.ref b7), .val (.int (if (lcmpW x q1) = (0 : Int32) then (1 : Int32) else (if (lcmpW x q2) = (0 : Int32) then (1 : Int32) else (if (lcmpW x q3) = (0 : Int32) then (1 : Int32) else (0 : Int32)))))] [(.int (1 : Int32))])) _
    refine XS.goto X9.here hx rfl (pc0 := 208) (pc' := 212) rfl (hb hby at_208) (by decide) (by decide) ?_
    show Steps p.tables e below (T9.setTop (mkF m 212 #[.val (.long q1), .second, .val (.long q2), .second, .val (.long q3), .second, .val (.long q4), .second, .val (.long q5), .second, .val (.int p6), .val (.int (3 : Int32)), .val (.int (((p6.toUInt32 >>> ((2 : Int32) &&& 31).toUInt32).toInt32) &&& (3 : Int32))), .val (.ref b1), .val (.long x), .second, .val (.ref b5), .val (.ref b7), .val (.int (if (lcmpW x q1) = (0 : Int32) then (1 : Int32) else (if (lcmpW x q2) = (0 : Int32) then (1 : Int32) else (if (lcmpW x q3) = (0 : Int32) then (1 : Int32) else (0 : Int32)))))] [(.int (1 : Int32))])) _
    exact retN X9 hx (t := .boolean) Bd.returns (by simp) (hb hby at_212) hr
  · show Q_rm0_3 Z q1 q2 q3 q4 q5 p6 ds h0 n0 _ T9.heap _
    rw [e9]
    exact ⟨rfl, N9⟩

theorem own_and3 (p : Int32) : (p &&& (3 : Int32)) = 0 ∨ (p &&& (3 : Int32)) = 1 ∨ (p &&& (3 : Int32)) = 2 ∨ (p &&& (3 : Int32)) = 3 := by
  have h := c_and p (3 : Int32) (by decide)
  have k3 : (3 : Int32).toInt = 3 := by decide
  have k2 : (2 : Int32).toInt = 2 := by decide
  have k1 : (1 : Int32).toInt = 1 := by decide
  have k0 : (0 : Int32).toInt = 0 := by decide
  rw [← Int32.toInt_inj, ← Int32.toInt_inj, ← Int32.toInt_inj, ← Int32.toInt_inj]
  omega
theorem own_len {s : State} {args : Array Value} {t : Term} {a : Addr} {c : Cell} (ev : t.eval args s none [] s = some (.ref a)) (A : Arr s s.heap a c .long) (h : (Jvm.Cond.eq (Term.length t) (Term.int 0)).value args s none s [] = some true) : c.slots.size = (0 : Int32).toNatClampNeg := by
  obtain ⟨u, y, e1, e2, -, -⟩ := cmp_v (Or.inl h)
  have ha := A.fin (U := s) (Vm.Alike.refl _)
  have hlt : c.slots.size < 2 ^ 31 := by
    rcases Nat.lt_or_ge c.slots.size (2 ^ 31) with q | q
    · exact q
    · have : ¬ c.slots.size < 2147483648 := by omega
      simp [Term.eval, ev, ha, this] at e1
  have e3 := len_f ev ha hlt
  have e4 : (Term.int 0).eval args s none [] s = some (.int 0) := Term.int_eval 0
  have q : c.slots.size.toInt32 = 0 := by simpa [Cond.value, e3, e4] using h
  have q2 := len_toInt hlt
  rw [q] at q2
  have k0 : (0 : Int32).toInt = 0 := by decide
  show c.slots.size = 0
  omega
set_option maxRecDepth 65536 in
set_option maxHeartbeats 40000000 in
theorem comes_1 {Post : Tables → Env → Array Value → State → Outcome → State → Prop} (hpost : ∀ tb e args s v u, (limb_1_1.after args s (.returned v) u = true ∧ limb_1_2.after args s (.returned v) u = true ∧ True) → FrameEnd s (.returned v) u (Jvm.fieldLocs frame_1_writes args s ++ Jvm.arrayLocs frame_1_arrays args s ++ Jvm.staticLocs frame_1_statics s) 16 128 → Post tb e args s (.returned v) u) :
    ArmFor flags0 classFile x code maxLocals ret World_1 tables_1 room_1 Calls_1 rest_1 Pre_1 Post := by
  intro l hfl _ _ p e ha hc hk s m args below hf hA hF happ hP
  obtain ⟨hcalls, hrest, hpre⟩ := hP
  obtain ⟨-, -, -, hnamed, -, -, -, hat⟩ := (Spec.applies_iff hf).mp happ
  obtain ⟨hg, hn⟩ := and_e (Cond.before_iff.mp (show (Jvm.Cond.and given_1 narrow_1).before args s = true from hpre))
  obtain ⟨gc, g0⟩ := and_e hg
  obtain ⟨ga0, g1⟩ := and_e g0
  obtain ⟨ga1, g2⟩ := and_e g1
  obtain ⟨ga2, g3⟩ := and_e g2
  obtain ⟨ga3, g4⟩ := and_e g3
  obtain ⟨ga4, g5⟩ := and_e g4
  obtain ⟨w0, w1, w2, w3, w4, w5, rfl⟩ : ∃ w0 w1 w2 w3 w4 w5 : Value, args = #[w0, w1, w2, w3, w4, w5] := by
    have hs : args.size = 6 := by simpa [Cond.value, given_1] using gc
    obtain ⟨L⟩ := args
    match L, hs with
    | [w0, w1, w2, w3, w4, w5], _ => exact ⟨w0, w1, w2, w3, w4, w5, rfl⟩
  have hw := fun d (hd : d ∈ tables_1) => atoms_spec (ws := Jvm.Cond.code x code maxLocals ret :: tables_1) hat d (List.mem_cons_of_mem _ hd)
  have hfit : Fit s := fun {y c} hc i hi => by
    obtain ⟨ha, rfl⟩ := Array.getElem?_eq_some_iff.mp hc
    have q := List.all_eq_true.mp ((Array.all_eq_true_iff_forall_mem.mp hF) _ (Array.getElem_mem ha)) i (List.mem_range.mpr hi)
    simpa [Array.getElem?_eq_getElem hi] using q
  obtain ⟨i0, ei0⟩ := isL_v ga0
  obtain rfl : w0 = (.long i0) := Option.some.inj ei0
  obtain ⟨i1, ei1⟩ := isL_v ga1
  obtain rfl : w1 = (.long i1) := Option.some.inj ei1
  obtain ⟨i2, ei2⟩ := isL_v ga2
  obtain rfl : w2 = (.long i2) := Option.some.inj ei2
  obtain ⟨i3, ei3⟩ := isL_v ga3
  obtain rfl : w3 = (.long i3) := Option.some.inj ei3
  obtain ⟨i4, ei4⟩ := isL_v ga4
  obtain rfl : w4 = (.long i4) := Option.some.inj ei4
  obtain ⟨i5, ei5⟩ := is_v g5
  obtain rfl : w5 = (.int i5) := Option.some.inj ei5
  obtain ⟨hsets, hown0⟩ := atoms_of _ (rest_1_c_eq ▸ (show rest_1_c.before _ s = true from hrest))
  obtain ⟨ds, eds⟩ := arr_v (Cond.before_iff.mp (hsets _ (List.mem_of_getElem? (i := 6) rfl)))
  have Sd : Sta s s.heap "java/util/ArrayList" "DEFAULTCAPACITY_EMPTY_ELEMENTDATA" "[Ljava/lang/Object;" (.ref ds) := Sta.start eds (Or.inr ⟨hw _ (List.mem_of_getElem? (i := 3) rfl), hsets _ (List.mem_of_getElem? (i := 2) rfl)⟩)
  obtain ⟨na, nl⟩ := and_e hn
  obtain ⟨un, eun⟩ := arr_v na
  have Su : Sta s s.heap "com/example/done_by_xor/donebyxor/runtime/Tuple" "UNTRACKED" "[J" (.ref un) := Sta.start eun (Or.inr ⟨hw _ (List.mem_of_getElem? (i := 29) rfl), hw _ (List.mem_of_getElem? (i := 50) rfl)⟩)
  obtain ⟨cu, Au⟩ := Arr.start eun na
  have Zu : cu.slots.size = (0 : Int32).toNatClampNeg := own_len eun Au nl
  rcases own_and3 i5 with c0 | c0 | c0 | c0
  · obtain ⟨n, o, h1, h2, h3, _, L, rfl, ⟨rfl, N⟩, hq⟩ := rm0_0 l s _ hw tables_1 i0 i1 i2 i3 i4 i5 ds un cu s.heap s.heap.size (Nat.le_refl _) c0 Sd Su Au Zu p e ha hc hk s m _ below hf ((Spec.applies_iff_loose hf).mp happ).1 ⟨rfl, State.Warmed39.refl s, rfl⟩ trivial
    refine ⟨n, _, h1, h2, h3, hpost _ _ _ _ _ _ ⟨Cond.after_iff.mpr rfl, Cond.after_iff.mpr (eq_i res_at (Term.int_eval (1)) rfl), trivial⟩ ⟨hq.1, hq.2.1, (hq.2.2.sift fun y hy => Or.inr (N y hy)).mono (by decide) (by decide)⟩⟩
  · obtain ⟨n, o, h1, h2, h3, _, L, rfl, ⟨rfl, N⟩, hq⟩ := rm0_1 l s _ hw tables_1 i0 i1 i2 i3 i4 i5 ds s.heap s.heap.size (Nat.le_refl _) c0 Sd  p e ha hc hk s m _ below hf ((Spec.applies_iff_loose hf).mp happ).1 ⟨rfl, State.Warmed39.refl s, rfl⟩ trivial
    refine ⟨n, _, h1, h2, h3, hpost _ _ _ _ _ _ ⟨Cond.after_iff.mpr rfl, Cond.after_iff.mpr (eq_i res_at (Term.int_eval (1)) rfl), trivial⟩ ⟨hq.1, hq.2.1, (hq.2.2.sift fun y hy => Or.inr (N y hy)).mono (by decide) (by decide)⟩⟩
  · obtain ⟨n, o, h1, h2, h3, _, L, rfl, ⟨rfl, N⟩, hq⟩ := rm0_2 l s _ hw tables_1 i0 i1 i2 i3 i4 i5 ds s.heap s.heap.size (Nat.le_refl _) c0 Sd  p e ha hc hk s m _ below hf ((Spec.applies_iff_loose hf).mp happ).1 ⟨rfl, State.Warmed39.refl s, rfl⟩ trivial
    refine ⟨n, _, h1, h2, h3, hpost _ _ _ _ _ _ ⟨Cond.after_iff.mpr rfl, Cond.after_iff.mpr (eq_i res_at (Term.int_eval (1)) rfl), trivial⟩ ⟨hq.1, hq.2.1, (hq.2.2.sift fun y hy => Or.inr (N y hy)).mono (by decide) (by decide)⟩⟩
  · obtain ⟨n, o, h1, h2, h3, _, L, rfl, ⟨rfl, N⟩, hq⟩ := rm0_3 l s _ hw tables_1 i0 i1 i2 i3 i4 i5 ds s.heap s.heap.size (Nat.le_refl _) c0 Sd  p e ha hc hk s m _ below hf ((Spec.applies_iff_loose hf).mp happ).1 ⟨rfl, State.Warmed39.refl s, rfl⟩ trivial
    refine ⟨n, _, h1, h2, h3, hpost _ _ _ _ _ _ ⟨Cond.after_iff.mpr rfl, Cond.after_iff.mpr (eq_i res_at (Term.int_eval (1)) rfl), trivial⟩ ⟨hq.1, hq.2.1, (hq.2.2.sift fun y hy => Or.inr (N y hy)).mono (by decide) (by decide)⟩⟩
theorem main_1_1 : Claimed_1_1 := comes_1 fun _ _ _ _ _ _ h hF => ⟨h.1, hF⟩
theorem main_1_2 : Claimed_1_2 := comes_1 fun _ _ _ _ _ _ h hF => ⟨h.2.1, hF⟩

end Jvm.Pilot.@@N@@
namespace Jvm.Pilot.@@N@@
open Jvm Jvm.ClassFile Sem Op Lib Jvm.Free Jvm.Stand Jvm.Pilot.@@N@@.Jvm.D
/-! MADE BY PROGRAM (witnessworld.py) out of the Statement's table words and the real class files: 21 classes; the members and pool entries that the words name. The judged class is class 1, her method 1. -/
namespace start1
open Jvm.ClassFile
def u (s : String) : CpInfo := .utf8 (stringToUtf16 s)
/-- a pool by its gaps: so many unusable entries, then the entry; so many at the end -/
def gap : Nat → List CpInfo → List CpInfo
  | 0, r => r
  | n + 1, r => .unusable :: gap n r
def poolList (es : List (Nat × CpInfo)) (last : Nat) : List CpInfo := es.foldr (fun e r => gap e.1 (e.2 :: r)) (gap last [])
def pool (es : List (Nat × CpInfo)) (last : Nat) : Array CpInfo := ⟨poolList es last⟩
def fileOf (pool : Array CpInfo) (this : Nat) (attrs : Array Attribute := #[]) (ms : Array MethodInfo := #[]) (fl : Nat := 33) (sup : Nat := 0) (ifs : Array Nat := #[]) (fds : Array FieldInfo := #[]) : ClassFile where
  minorVersion := 0
  majorVersion := 65
  constantPool := pool
  accessFlags := fl
  thisClass := this
  superClass := sup
  interfaces := ifs
  fields := fds
  methods := ms
  attributes := attrs
def plain (name : String) (sup : Option ClassId) : Class where
  name := name
  kind := .ordinary
  loader := none
  accessFlags := 33
  super := sup
  interfaces := #[]
  cf := none
  fields := #[]
  methods := #[]
  instanceTypes := #[]
  staticTypes := #[]
  resolved := #[]
  callSites := []
  init := .initialized
  statics := none
  mirror := none

def pool0 : Array CpInfo := pool [(5, u "<init>"), (0, u "()V"), (1, .class_ 10), (1, u "java/lang/Object")] 113

def k0c0 : Code := { maxStack := 0, maxLocals := 1, code := object_method_1_code, exceptionTable := #[], attributes := #[] }
def k0m0 : Method := { name := "<init>", desc := "()V", sig := { parameters := [], returnType := none }, accessFlags := 1, code := some k0c0 }
/-- java/lang/Object -/
def k0 : Class := { plain "java/lang/Object" none with
  accessFlags := 33
  interfaces := #[]
  cf := some (fileOf pool0 8 #[] #[{ accessFlags := 1, nameIndex := 5, descriptorIndex := 6, attributes := #[] }] 33 0 #[] #[])
  fields := #[]
  methods := #[k0m0]
  instanceTypes := #[]
  staticTypes := #[]
  resolved := Array.replicate 124 none
  statics := none }

def pool1 : Array CpInfo := pool [(2, .class_ 4), (0, .nameAndType 5 6), (0, u "java/lang/Object"), (0, u "<init>"), (0, u "()V"), (0, .fieldref 8 9), (0, .class_ 10), (0, .nameAndType 11 12), (0, u "com/example/done_by_xor/donebyxor/runtime/Tuple"), (0, u "UNTRACKED"), (0, u "[J"), (0, .class_ 14), (0, u "java/util/ArrayList"), (0, .methodref 13 3), (0, .methodref 8 17), (0, .nameAndType 5 18), (0, u "(Ljava/util/List;[JJ)V"), (0, .methodref 8 20), (0, .nameAndType 21 22), (0, u "belongsTo"), (0, u "(J)Z"), (0, .class_ 24), (0, u "com/example/done_by_xor/donebyxor/runtime/TupleBelongsToPinLaw"), (2, u "law"), (0, u "(JJJJJI)Z")] 6

def k1m0 : Method := { name := "<init>", desc := "()V", sig := { parameters := [], returnType := none }, accessFlags := 1, code := none }
def k1c1 : Code := { maxStack := 6, maxLocals := 19, code := code, exceptionTable := #[], attributes := #[] }
def k1m1 : Method := { name := "law", desc := "(JJJJJI)Z", sig := { parameters := [.long, .long, .long, .long, .long, .int], returnType := some .boolean }, accessFlags := 9, code := some k1c1 }
/-- com/example/done_by_xor/donebyxor/runtime/TupleBelongsToPinLaw -/
def k1 : Class := { plain "com/example/done_by_xor/donebyxor/runtime/TupleBelongsToPinLaw" (some 0) with
  accessFlags := 49
  interfaces := #[]
  cf := some (fileOf pool1 23 #[] #[{ accessFlags := 1, nameIndex := 5, descriptorIndex := 6, attributes := #[] }, { accessFlags := 9, nameIndex := 27, descriptorIndex := 28, attributes := #[] }] 49 2 #[] #[])
  fields := #[]
  methods := #[k1m0, k1m1]
  instanceTypes := #[]
  staticTypes := #[]
  resolved := Array.replicate 35 none
  statics := none }

def pool2 : Array CpInfo := pool [(8, .class_ 10), (1, u "java/lang/Iterable"), (24, .class_ 36), (0, u "java/lang/Object")] 25

/-- java/lang/Iterable -/
def k2 : Class := { plain "java/lang/Iterable" (some 0) with
  accessFlags := 1537
  interfaces := #[]
  cf := some (fileOf pool2 8 #[] #[] 1537 35 #[] #[])
  fields := #[]
  methods := #[]
  instanceTypes := #[]
  staticTypes := #[]
  resolved := Array.replicate 62 none
  statics := none }

def pool3 : Array CpInfo := pool [(10, .class_ 12), (1, u "java/util/Collection"), (47, .class_ 61), (0, u "java/lang/Object"), (0, .class_ 63), (0, u "java/lang/Iterable")] 51

/-- java/util/Collection -/
def k3 : Class := { plain "java/util/Collection" (some 0) with
  accessFlags := 1537
  interfaces := #[2]
  cf := some (fileOf pool3 10 #[] #[] 1537 60 #[62] #[])
  fields := #[]
  methods := #[]
  instanceTypes := #[]
  staticTypes := #[]
  resolved := Array.replicate 115 none
  statics := none }

def pool4 : Array CpInfo := pool [(1, .methodref 2 3), (0, .class_ 4), (0, .nameAndType 5 6), (0, u "java/lang/Object"), (0, u "<init>"), (0, u "()V"), (1, .class_ 10), (1, u "java/util/AbstractCollection"), (66, .class_ 78), (0, u "java/util/Collection")] 81

def k4c0 : Code := { maxStack := 1, maxLocals := 1, code := jdk_22_method_1_code, exceptionTable := #[], attributes := #[] }
def k4m0 : Method := { name := "<init>", desc := "()V", sig := { parameters := [], returnType := none }, accessFlags := 4, code := some k4c0 }
/-- java/util/AbstractCollection -/
def k4 : Class := { plain "java/util/AbstractCollection" (some 0) with
  accessFlags := 1057
  interfaces := #[3]
  cf := some (fileOf pool4 8 #[] #[{ accessFlags := 4, nameIndex := 5, descriptorIndex := 6, attributes := #[] }] 1057 2 #[77] #[])
  fields := #[]
  methods := #[k4m0]
  instanceTypes := #[]
  staticTypes := #[]
  resolved := Array.replicate 160 none
  statics := none }

def pool5 : Array CpInfo := pool [(8, .class_ 10), (1, u "java/util/SequencedCollection"), (15, .class_ 27), (0, u "java/lang/Object"), (0, .class_ 29), (0, u "java/util/Collection")] 27

/-- java/util/SequencedCollection -/
def k5 : Class := { plain "java/util/SequencedCollection" (some 0) with
  accessFlags := 1537
  interfaces := #[3]
  cf := some (fileOf pool5 8 #[] #[] 1537 26 #[28] #[])
  fields := #[]
  methods := #[]
  instanceTypes := #[]
  staticTypes := #[]
  resolved := Array.replicate 57 none
  statics := none }

def pool6 : Array CpInfo := pool [(8, .class_ 10), (1, u "java/util/List"), (92, .class_ 104), (0, u "java/lang/Object"), (15, .class_ 121), (0, u "java/util/SequencedCollection")] 129

/-- java/util/List -/
def k6 : Class := { plain "java/util/List" (some 0) with
  accessFlags := 1537
  interfaces := #[5]
  cf := some (fileOf pool6 8 #[] #[] 1537 103 #[120] #[])
  fields := #[]
  methods := #[]
  instanceTypes := #[]
  staticTypes := #[]
  resolved := Array.replicate 251 none
  statics := none }

def pool7 : Array CpInfo := pool [(1, .methodref 2 3), (0, .class_ 4), (0, .nameAndType 5 6), (0, u "java/util/AbstractCollection"), (0, u "<init>"), (0, u "()V"), (0, .fieldref 8 9), (0, .class_ 10), (0, .nameAndType 11 12), (0, u "java/util/AbstractList"), (0, u "modCount"), (0, u "I"), (64, .class_ 78), (0, u "java/util/AbstractList$Itr"), (3, .class_ 83), (0, u "java/util/AbstractList$ListItr"), (9, .class_ 94), (0, u "java/util/AbstractList$RandomAccessSubList"), (3, .class_ 99), (0, u "java/util/AbstractList$SubList"), (33, .class_ 134), (0, u "java/util/List"), (73, .class_ 209), (0, u "java/util/AbstractList$SubList$1"), (0, .class_ 211), (0, u "java/util/AbstractList$RandomAccessSpliterator")] 6

def k7c0 : Code := { maxStack := 2, maxLocals := 1, code := jdk_39_method_1_code, exceptionTable := #[], attributes := #[] }
def k7m0 : Method := { name := "<init>", desc := "()V", sig := { parameters := [], returnType := none }, accessFlags := 4, code := some k7c0 }
/-- java/util/AbstractList -/
def k7 : Class := { plain "java/util/AbstractList" (some 4) with
  accessFlags := 1057
  interfaces := #[6]
  cf := some (fileOf pool7 8 #[.nestMembers #[93, 98, 208, 210, 82, 77]] #[{ accessFlags := 4, nameIndex := 5, descriptorIndex := 6, attributes := #[] }] 1057 2 #[133] #[{ accessFlags := 132, nameIndex := 11, descriptorIndex := 12, attributes := #[] }])
  fields := #[{ name := "modCount", type := .int, accessFlags := 132, slot := 0, constantValue := 0 }]
  methods := #[k7m0]
  instanceTypes := #[.int]
  staticTypes := #[]
  resolved := Array.replicate 218 none
  statics := none }

def pool8 : Array CpInfo := pool [(1, .class_ 2), (0, u "java/util/RandomAccess"), (0, .class_ 4), (0, u "java/lang/Object")] 2

/-- java/util/RandomAccess -/
def k8 : Class := { plain "java/util/RandomAccess" (some 0) with
  accessFlags := 1537
  interfaces := #[]
  cf := some (fileOf pool8 1 #[] #[] 1537 3 #[] #[])
  fields := #[]
  methods := #[]
  instanceTypes := #[]
  staticTypes := #[]
  resolved := Array.replicate 7 none
  statics := none }

def pool9 : Array CpInfo := pool [(1, .class_ 2), (0, u "java/lang/Cloneable"), (0, .class_ 4), (0, u "java/lang/Object")] 2

/-- java/lang/Cloneable -/
def k9 : Class := { plain "java/lang/Cloneable" (some 0) with
  accessFlags := 1537
  interfaces := #[]
  cf := some (fileOf pool9 1 #[] #[] 1537 3 #[] #[])
  fields := #[]
  methods := #[]
  instanceTypes := #[]
  staticTypes := #[]
  resolved := Array.replicate 7 none
  statics := none }

def pool10 : Array CpInfo := pool [(1, .class_ 2), (0, u "java/io/Serializable"), (0, .class_ 4), (0, u "java/lang/Object")] 2

/-- java/io/Serializable -/
def k10 : Class := { plain "java/io/Serializable" (some 0) with
  accessFlags := 1537
  interfaces := #[]
  cf := some (fileOf pool10 1 #[] #[] 1537 3 #[] #[])
  fields := #[]
  methods := #[]
  instanceTypes := #[]
  staticTypes := #[]
  resolved := Array.replicate 7 none
  statics := none }

def pool11 : Array CpInfo := pool [(1, .methodref 2 3), (0, .class_ 4), (0, .nameAndType 5 6), (0, u "java/util/AbstractList"), (0, u "<init>"), (0, u "()V"), (2, .fieldref 10 11), (0, .class_ 12), (0, .nameAndType 13 14), (0, u "java/util/ArrayList"), (0, u "elementData"), (0, u "[Ljava/lang/Object;"), (2, u "EMPTY_ELEMENTDATA"), (21, .fieldref 10 40), (0, .nameAndType 41 14), (0, u "DEFAULTCAPACITY_EMPTY_ELEMENTDATA"), (8, u "size"), (0, u "I"), (96, .class_ 149), (0, u "java/util/List"), (112, .class_ 263), (0, u "java/util/ArrayList$ListItr"), (3, .class_ 268), (0, u "java/util/ArrayList$Itr"), (7, .class_ 277), (0, u "java/util/ArrayList$SubList"), (12, .class_ 291), (0, u "java/util/ArrayList$ArrayListSpliterator"), (37, .class_ 330), (0, u "java/util/RandomAccess"), (0, .class_ 332), (0, u "java/lang/Cloneable"), (0, .class_ 334), (0, u "java/io/Serializable"), (0, u "serialVersionUID"), (0, u "J"), (3, u "DEFAULT_CAPACITY"), (159, .class_ 501), (0, u "java/util/ArrayList$SubList$2"), (0, .class_ 503), (0, u "java/util/ArrayList$SubList$1")] 5

def k11c0 : Code := { maxStack := 2, maxLocals := 1, code := jdk_38_method_2_code, exceptionTable := #[], attributes := #[] }
def k11m0 : Method := { name := "<init>", desc := "()V", sig := { parameters := [], returnType := none }, accessFlags := 1, code := some k11c0 }
/-- java/util/ArrayList -/
def k11 : Class := { plain "java/util/ArrayList" (some 7) with
  accessFlags := 33
  interfaces := #[6, 8, 9, 10]
  cf := some (fileOf pool11 10 #[.nestMembers #[290, 276, 500, 502, 262, 267]] #[{ accessFlags := 1, nameIndex := 5, descriptorIndex := 6, attributes := #[] }] 33 2 #[148, 329, 331, 333] #[{ accessFlags := 26, nameIndex := 335, descriptorIndex := 336, attributes := #[] }, { accessFlags := 26, nameIndex := 340, descriptorIndex := 51, attributes := #[] }, { accessFlags := 26, nameIndex := 17, descriptorIndex := 14, attributes := #[] }, { accessFlags := 26, nameIndex := 41, descriptorIndex := 14, attributes := #[] }, { accessFlags := 128, nameIndex := 13, descriptorIndex := 14, attributes := #[] }, { accessFlags := 2, nameIndex := 50, descriptorIndex := 51, attributes := #[] }])
  fields := #[{ name := "serialVersionUID", type := .long, accessFlags := 26, slot := 0, constantValue := 0 }, { name := "DEFAULT_CAPACITY", type := .int, accessFlags := 26, slot := 1, constantValue := 0 }, { name := "EMPTY_ELEMENTDATA", type := (.array (.object "java/lang/Object")), accessFlags := 26, slot := 2, constantValue := 0 }, { name := "DEFAULTCAPACITY_EMPTY_ELEMENTDATA", type := (.array (.object "java/lang/Object")), accessFlags := 26, slot := 3, constantValue := 0 }, { name := "elementData", type := (.array (.object "java/lang/Object")), accessFlags := 128, slot := 1, constantValue := 0 }, { name := "size", type := .int, accessFlags := 2, slot := 2, constantValue := 0 }]
  methods := #[k11m0]
  instanceTypes := #[.int, (.array (.object "java/lang/Object")), .int]
  staticTypes := #[.long, .int, (.array (.object "java/lang/Object")), (.array (.object "java/lang/Object"))]
  resolved := Array.replicate 509 none
  statics := some 0 }

def pool12 : Array CpInfo := pool [(1, .methodref 2 3), (0, .class_ 4), (0, .nameAndType 5 6), (0, u "java/lang/Object"), (0, u "<init>"), (0, u "()V"), (0, .fieldref 8 9), (0, .class_ 10), (0, .nameAndType 11 12), (0, u "com/example/done_by_xor/donebyxor/runtime/Tuple"), (0, u "values"), (0, u "Ljava/util/List;"), (0, .fieldref 8 14), (0, .nameAndType 15 16), (0, u "roots"), (0, u "[J"), (0, .fieldref 8 18), (0, .nameAndType 19 16), (0, u "ackValues"), (0, .methodref 21 22), (0, .class_ 23), (0, .nameAndType 24 25), (0, u "java/util/Arrays"), (0, u "fill"), (0, u "([JJ)V"), (2, u "ended"), (0, u "Z"), (66, u "UNTRACKED"), (2, u "(Ljava/util/List;[JJ)V"), (6, u "belongsTo"), (0, u "(J)Z")] 41

def k12c0 : Code := { maxStack := 3, maxLocals := 5, code := prog_13_method_1_code, exceptionTable := #[], attributes := #[] }
def k12m0 : Method := { name := "<init>", desc := "(Ljava/util/List;[JJ)V", sig := { parameters := [(.object "java/util/List"), (.array .long), .long], returnType := none }, accessFlags := 0, code := some k12c0 }
def k12c1 : Code := { maxStack := 4, maxLocals := 8, code := prog_13_method_4_code, exceptionTable := #[], attributes := #[] }
def k12m1 : Method := { name := "belongsTo", desc := "(J)Z", sig := { parameters := [.long], returnType := some .boolean }, accessFlags := 0, code := some k12c1 }
/-- com/example/done_by_xor/donebyxor/runtime/Tuple -/
def k12 : Class := { plain "com/example/done_by_xor/donebyxor/runtime/Tuple" (some 0) with
  accessFlags := 49
  interfaces := #[]
  cf := some (fileOf pool12 8 #[] #[{ accessFlags := 0, nameIndex := 5, descriptorIndex := 99, attributes := #[] }, { accessFlags := 0, nameIndex := 106, descriptorIndex := 107, attributes := #[] }] 49 2 #[] #[{ accessFlags := 24, nameIndex := 96, descriptorIndex := 16, attributes := #[] }, { accessFlags := 18, nameIndex := 11, descriptorIndex := 12, attributes := #[] }, { accessFlags := 18, nameIndex := 15, descriptorIndex := 16, attributes := #[] }, { accessFlags := 18, nameIndex := 19, descriptorIndex := 16, attributes := #[] }, { accessFlags := 2, nameIndex := 28, descriptorIndex := 29, attributes := #[] }])
  fields := #[{ name := "UNTRACKED", type := (.array .long), accessFlags := 24, slot := 0, constantValue := 0 }, { name := "values", type := (.object "java/util/List"), accessFlags := 18, slot := 0, constantValue := 0 }, { name := "roots", type := (.array .long), accessFlags := 18, slot := 1, constantValue := 0 }, { name := "ackValues", type := (.array .long), accessFlags := 18, slot := 2, constantValue := 0 }, { name := "ended", type := .boolean, accessFlags := 2, slot := 3, constantValue := 0 }]
  methods := #[k12m0, k12m1]
  instanceTypes := #[(.object "java/util/List"), (.array .long), (.array .long), .boolean]
  staticTypes := #[(.array .long)]
  resolved := Array.replicate 149 none
  statics := some 1 }

def pool13 : Array CpInfo := pool [(2, .class_ 4), (1, u "java/lang/Object"), (0, u "<init>"), (0, u "()V"), (7, .class_ 16), (1, u "java/util/Arrays"), (57, .class_ 76), (1, u "java/util/Arrays$NaturalOrder"), (36, .class_ 115), (1, u "java/util/Arrays$LegacyMergeSort"), (1, u "Z"), (257, .class_ 376), (0, u "java/util/Arrays$ArrayList"), (68, u "$assertionsDisabled"), (269, u "MIN_ARRAY_SORT_GRAN"), (0, u "I"), (2, u "INSERTIONSORT_THRESHOLD"), (120, u "fill"), (0, u "([JJ)V"), (133, .class_ 976), (0, u "java/util/Arrays$ArrayItr")] 52

def k13m0 : Method := { name := "<init>", desc := "()V", sig := { parameters := [], returnType := none }, accessFlags := 2, code := none }
def k13c1 : Code := { maxStack := 4, maxLocals := 5, code := jdk_65_method_101_code, exceptionTable := #[], attributes := #[] }
def k13m1 : Method := { name := "fill", desc := "([JJ)V", sig := { parameters := [(.array .long), .long], returnType := none }, accessFlags := 9, code := some k13c1 }
/-- java/util/Arrays -/
def k13 : Class := { plain "java/util/Arrays" (some 0) with
  accessFlags := 49
  interfaces := #[]
  cf := some (fileOf pool13 14 #[.nestMembers #[975, 375, 113, 74]] #[{ accessFlags := 2, nameIndex := 5, descriptorIndex := 6, attributes := #[] }, { accessFlags := 9, nameIndex := 840, descriptorIndex := 841, attributes := #[] }] 49 2 #[] #[{ accessFlags := 26, nameIndex := 715, descriptorIndex := 716, attributes := #[] }, { accessFlags := 26, nameIndex := 719, descriptorIndex := 716, attributes := #[] }, { accessFlags := 4120, nameIndex := 445, descriptorIndex := 117, attributes := #[] }])
  fields := #[{ name := "MIN_ARRAY_SORT_GRAN", type := .int, accessFlags := 26, slot := 0, constantValue := 0 }, { name := "INSERTIONSORT_THRESHOLD", type := .int, accessFlags := 26, slot := 1, constantValue := 0 }, { name := "$assertionsDisabled", type := .boolean, accessFlags := 4120, slot := 2, constantValue := 0 }]
  methods := #[k13m0, k13m1]
  instanceTypes := #[]
  staticTypes := #[.int, .int, .boolean]
  resolved := Array.replicate 1029 none
  statics := none }

/-- the primitive byte -/
def k14 : Class := { plain "byte" none with kind := .primitive 'B', accessFlags := 0x411 }
/-- [B -/
def k15 : Class := { plain "[B" (some 0) with kind := .array 14 .byte, interfaces := #[9, 10], accessFlags := 1041 }

/-- the primitive int -/
def k16 : Class := { plain "int" none with kind := .primitive 'I', accessFlags := 0x411 }
/-- [I -/
def k17 : Class := { plain "[I" (some 0) with kind := .array 16 .int, interfaces := #[9, 10], accessFlags := 1041 }

/-- the primitive long -/
def k18 : Class := { plain "long" none with kind := .primitive 'J', accessFlags := 0x411 }
/-- [J -/
def k19 : Class := { plain "[J" (some 0) with kind := .array 18 .long, interfaces := #[9, 10], accessFlags := 1041 }

/-- [Ljava/lang/Object; -/
def k20 : Class := { plain "[Ljava/lang/Object;" (some 0) with kind := .array 0 (.object "java/lang/Object"), interfaces := #[9, 10], accessFlags := 1041 }

def heap : Heap := #[{ cls := 11, slots := #[.long 0, .int 0, .ref 3, .ref 4], vm := .statics 11 },
  { cls := 12, slots := #[.ref 2], vm := .statics 12 },
  { cls := 19, slots := #[], vm := .none },
  { cls := 20, slots := #[], vm := .none },
  { cls := 20, slots := #[], vm := .none }]
def classes : Array Class := #[k0, k1, k2, k3, k4, k5, k6, k7, k8, k9, k10, k11, k12, k13, k14, k15, k16, k17, k18, k19, k20]
def interned : List (Array UInt16 × Addr) := []
def slotsUsed : Nat := 5
def theMethod : MethodId := ⟨1, 1⟩
def args0 : Array Value := #[.long 5, .long 7, .long 9, .long 1, .long 2, .int 1]
def aboutOver (below : List Frame) : State where
  vm := { classes := classes, interned := interned.toArray }
  heap := heap
  slotsUsed := slotsUsed
  threads := #[{ frames := .invoking theMethod args0 :: below }]
def below0 : List Frame := [.native { method := ⟨0, 0⟩, args := #[] }]
def about1 : State := aboutOver below0
def p0 : Program := .bare "" "" ""
def e0 : Env := launch0.env 0 0 0
theorem w_frames : about1.frames = Frame.invoking theMethod args0 :: below0 := rfl
set_option maxRecDepth 65536 in
theorem w_args : argsFit about1.vm theMethod args0 = true := by decide +kernel
set_option maxRecDepth 65536 in
theorem w_heap : heapFits about1 = true := by decide +kernel
set_option maxRecDepth 65536 in
theorem w_runnable : about1.curStatus? = some .runnable := by decide +kernel
set_option maxRecDepth 65536 in
theorem w_alone : about1.alone = true := by decide +kernel
set_option maxRecDepth 65536 in
theorem w_named : about1.methodNamed? x = some theMethod := by decide +kernel
set_option maxRecDepth 65536 in
theorem w_hears : about1.hears theMethod below0 = true := by decide +kernel
set_option maxRecDepth 65536 in
theorem w_ripe : about1.ripe theMethod args0 below0 = true := by decide +kernel
theorem w_running : about1.status = .running := rfl
set_option maxRecDepth 65536 in
theorem w_room : about1.hasRoom e0.platform room_1 = true :=
  launch0.hasRoom_least _ room_1 (by decide +kernel) (by decide +kernel) (by decide +kernel) (by decide +kernel) (by decide +kernel) (by decide +kernel)
theorem allAtoms_all (ts : List Jvm.Cond) (a : Array Jvm.Value) (st : Jvm.State) : (allAtoms ts).before a st = ts.all (fun c => c.before a st) := by
  induction ts with
  | nil => rfl
  | cons c t ih =>
    show (Jvm.Cond.and c (allAtoms t)).before a st = _
    rw [Jvm.Cond.before_and, ih, List.all_cons]
def words1 : List Jvm.Cond := Jvm.Cond.code x code maxLocals ret :: tables_1
/-- a 'code' word, met by the world's own term for the bytes: nothing is compared byte by byte -/
theorem code_word {y : MethodName} {bytes : ByteArray} {mx : Nat} {rt : Option FieldType} {a : Array Value} {s : State} {m : MethodId} {meth : Method} {c : Code} (h1 : s.methodNamed? y = some m) (h2 : s.vm.method? m = some meth) (h3 : meth.code = some c) (h4 : c.code = bytes)
    (h5 : (c.maxLocals == mx && c.exceptionTable.isEmpty && decide (c.maxStack ≤ mostOperands) && decide (meth.sig.returnType = rt) && !meth.locks && decide (parseMethodDescriptor y.desc = some meth.sig)) = true) : (Jvm.Cond.code y bytes mx rt).before a s = true := by
  simp only [Bool.and_eq_true, beq_iff_eq, Bool.not_eq_true', decide_eq_true_eq] at h5
  obtain ⟨⟨⟨⟨⟨g1, g2⟩, g3⟩, g4⟩, g5⟩, g6⟩ := h5
  simp [Cond.before, Cond.holds, Cond.value, h1, h2, h3, h4, g1, g2, g3, g4, g5, g6]
def isCode : Jvm.Cond → Bool
  | .code _ _ _ _ => true
  | _ => false
theorem all_split {L : List Jvm.Cond} {P : Jvm.Cond → Bool} (h1 : L.all (fun c => isCode c || P c) = true) (h2 : ∀ c ∈ L.filter isCode, P c = true) : L.all P = true := by
  refine List.all_eq_true.mpr fun c hc => ?_
  have h := List.all_eq_true.mp h1 c hc
  rcases Bool.eq_false_or_eq_true (isCode c) with hi | hi
  · exact h2 c (List.mem_filter.mpr ⟨hc, hi⟩)
  · simpa [hi] using h
set_option maxRecDepth 65536 in
theorem w_c0 : (Jvm.Cond.code x code maxLocals ret).before args0 about1 = true := code_word (m := ⟨1, 1⟩) (meth := k1m1) (c := k1c1) (by decide +kernel) rfl rfl rfl (by decide +kernel)
set_option maxRecDepth 65536 in
theorem w_c1 : (Jvm.Cond.code ({ cls := "java/util/ArrayList", name := "<init>", desc := "()V" } : Jvm.MethodName) jdk_38_method_2_code (1 : Nat) (Option.none : Option Jvm.ClassFile.FieldType)).before args0 about1 = true := code_word (m := ⟨11, 0⟩) (meth := k11m0) (c := k11c0) (by decide +kernel) rfl rfl rfl (by decide +kernel)
set_option maxRecDepth 65536 in
theorem w_c2 : (Jvm.Cond.code ({ cls := "java/util/AbstractList", name := "<init>", desc := "()V" } : Jvm.MethodName) jdk_39_method_1_code (1 : Nat) (Option.none : Option Jvm.ClassFile.FieldType)).before args0 about1 = true := code_word (m := ⟨7, 0⟩) (meth := k7m0) (c := k7c0) (by decide +kernel) rfl rfl rfl (by decide +kernel)
set_option maxRecDepth 65536 in
theorem w_c3 : (Jvm.Cond.code ({ cls := "java/util/AbstractCollection", name := "<init>", desc := "()V" } : Jvm.MethodName) jdk_22_method_1_code (1 : Nat) (Option.none : Option Jvm.ClassFile.FieldType)).before args0 about1 = true := code_word (m := ⟨4, 0⟩) (meth := k4m0) (c := k4c0) (by decide +kernel) rfl rfl rfl (by decide +kernel)
set_option maxRecDepth 65536 in
theorem w_c4 : (Jvm.Cond.code ({ cls := "java/lang/Object", name := "<init>", desc := "()V" } : Jvm.MethodName) object_method_1_code (1 : Nat) (Option.none : Option Jvm.ClassFile.FieldType)).before args0 about1 = true := code_word (m := ⟨0, 0⟩) (meth := k0m0) (c := k0c0) (by decide +kernel) rfl rfl rfl (by decide +kernel)
set_option maxRecDepth 65536 in
theorem w_c5 : (Jvm.Cond.code ({ cls := "com/example/done_by_xor/donebyxor/runtime/Tuple", name := "<init>", desc := "(Ljava/util/List;[JJ)V" } : Jvm.MethodName) prog_13_method_1_code (5 : Nat) (Option.none : Option Jvm.ClassFile.FieldType)).before args0 about1 = true := code_word (m := ⟨12, 0⟩) (meth := k12m0) (c := k12c0) (by decide +kernel) rfl rfl rfl (by decide +kernel)
set_option maxRecDepth 65536 in
theorem w_c6 : (Jvm.Cond.code ({ cls := "java/util/Arrays", name := "fill", desc := "([JJ)V" } : Jvm.MethodName) jdk_65_method_101_code (5 : Nat) (Option.none : Option Jvm.ClassFile.FieldType)).before args0 about1 = true := code_word (m := ⟨13, 1⟩) (meth := k13m1) (c := k13c1) (by decide +kernel) rfl rfl rfl (by decide +kernel)
set_option maxRecDepth 65536 in
theorem w_c7 : (Jvm.Cond.code ({ cls := "com/example/done_by_xor/donebyxor/runtime/Tuple", name := "belongsTo", desc := "(J)Z" } : Jvm.MethodName) prog_13_method_4_code (8 : Nat) (Option.some Jvm.ClassFile.FieldType.boolean)).before args0 about1 = true := code_word (m := ⟨12, 1⟩) (meth := k12m1) (c := k12c1) (by decide +kernel) rfl rfl rfl (by decide +kernel)
def codes1 : List Jvm.Cond := [Jvm.Cond.code x code maxLocals ret, Jvm.Cond.code ({ cls := "java/util/ArrayList", name := "<init>", desc := "()V" } : Jvm.MethodName) jdk_38_method_2_code (1 : Nat) (Option.none : Option Jvm.ClassFile.FieldType), Jvm.Cond.code ({ cls := "java/util/AbstractList", name := "<init>", desc := "()V" } : Jvm.MethodName) jdk_39_method_1_code (1 : Nat) (Option.none : Option Jvm.ClassFile.FieldType), Jvm.Cond.code ({ cls := "java/util/AbstractCollection", name := "<init>", desc := "()V" } : Jvm.MethodName) jdk_22_method_1_code (1 : Nat) (Option.none : Option Jvm.ClassFile.FieldType), Jvm.Cond.code ({ cls := "java/lang/Object", name := "<init>", desc := "()V" } : Jvm.MethodName) object_method_1_code (1 : Nat) (Option.none : Option Jvm.ClassFile.FieldType), Jvm.Cond.code ({ cls := "com/example/done_by_xor/donebyxor/runtime/Tuple", name := "<init>", desc := "(Ljava/util/List;[JJ)V" } : Jvm.MethodName) prog_13_method_1_code (5 : Nat) (Option.none : Option Jvm.ClassFile.FieldType), Jvm.Cond.code ({ cls := "java/util/Arrays", name := "fill", desc := "([JJ)V" } : Jvm.MethodName) jdk_65_method_101_code (5 : Nat) (Option.none : Option Jvm.ClassFile.FieldType), Jvm.Cond.code ({ cls := "com/example/done_by_xor/donebyxor/runtime/Tuple", name := "belongsTo", desc := "(J)Z" } : Jvm.MethodName) prog_13_method_4_code (8 : Nat) (Option.some Jvm.ClassFile.FieldType.boolean)]
set_option maxRecDepth 65536 in
theorem codes_eq : words1.filter isCode = codes1 := rfl
theorem w_codes : ∀ c ∈ words1.filter isCode, c.before args0 about1 = true := by
  rw [codes_eq]
  intro c hc
  simp only [codes1, List.mem_cons, List.not_mem_nil, or_false] at hc
  rcases hc with rfl | rfl | rfl | rfl | rfl | rfl | rfl | rfl
  · exact w_c0
  · exact w_c1
  · exact w_c2
  · exact w_c3
  · exact w_c4
  · exact w_c5
  · exact w_c6
  · exact w_c7
set_option maxRecDepth 65536 in
theorem w_t1 : (words1.take 24).all (fun c => isCode c || c.before args0 about1) = true := by decide +kernel
set_option maxRecDepth 65536 in
theorem w_t2 : ((words1.drop 24).take 24).all (fun c => isCode c || c.before args0 about1) = true := by decide +kernel
set_option maxRecDepth 65536 in
theorem w_t3 : ((words1.drop 24).drop 24).all (fun c => isCode c || c.before args0 about1) = true := by decide +kernel
theorem w_tables : (allAtoms (Jvm.Cond.code x code maxLocals ret :: tables_1)).before args0 about1 = true := by
  rw [allAtoms_all]
  show words1.all (fun c => c.before args0 about1) = true
  refine all_split ?_ w_codes
  rw [← List.take_append_drop 24 words1, List.all_append, w_t1, ← List.take_append_drop 24 (words1.drop 24), List.all_append, w_t2, w_t3]
  rfl
set_option maxRecDepth 65536 in
theorem w_rest : rest_1_c.before args0 about1 = true := by decide +kernel
set_option maxRecDepth 65536 in
theorem w_case : (Jvm.Cond.and given_1 narrow_1).before args0 about1 = true := by decide +kernel
theorem w_applies : (headSpec (Jvm.Cond.code x code maxLocals ret :: tables_1) room_1).applies x e0.platform about1 = true :=
  (Spec.applies_iff w_frames).mpr ⟨w_running, w_runnable, w_alone, w_named, w_hears, w_ripe, w_room, w_tables⟩
theorem atStart : AtStart classFile x code maxLocals ret World_1 tables_1 room_1 Calls_1 rest_1 Pre_1 launch0 p0 e0 about1 theMethod args0 below0 :=
  ⟨lists_1, trivial, launch0.admits_env _ _ _, launch0.least_env, fairChoices_fair.cas, fairChoices_fair.clock, w_frames, w_args, w_heap, w_applies, trivial, w_rest, w_case⟩
end start1
theorem witness_1 : WitnessClaimed_1 := ⟨start1.p0, start1.e0, start1.about1, start1.theMethod, start1.args0, start1.below0, start1.atStart⟩
end Jvm.Pilot.@@N@@
