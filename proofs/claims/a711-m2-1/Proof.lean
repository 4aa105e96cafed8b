import JvmDerived
import JvmDerived.Pilot.@@N@@Statement
import JvmDerived.Pilot.@@N@@Code
set_option linter.unusedVariables false
set_option linter.unusedSimpArgs false
namespace Jvm.RoadKit
open Sem ClassFile Op Lib Jvm.Stand Jvm.Free Jvm.LawKit
section New
variable {p : Program} {l : Launch} {e : Env} {R : Room} {s : State} {m : MethodId} {args : Array Value} {below : List Frame} {meth : Method} {c : Code} {T : State} {locs : List Loc} {cells slots : Nat}
theorem retI (X : Stand p l e R s m args below meth c T locs cells slots) (hx : p.tables.exec = Jvm.exec) {pc : Nat} {Ls : Array Slot} {z : Int32} {rest : List Value} (hret : meth.sig.returnType = some .int) (hd : decode c.code pc = .ok (.ireturn, 1)) {fs : List Frame}
    (hl : ∀ (f : JFrame) (acts : List Action), f.method = m → f.locked = none → f.entered = [] → (doReturn e (T.setTop f) acts (some (.int z))).1 = T.setFrames fs) : Steps p.tables e below (T.setTop (mkF m pc Ls (.int z :: rest))) (T.setFrames fs) := by
  have hm' : T.vm.method? m = some meth := X.method'
  have hn : narrow .int (.int z) = .int z := rfl
  show Steps p.tables e below (T.setTop { method := m, pc := pc, locals := Ls, stack := _ :: rest, locked := none }) _
  jvm_step X.here [X.here.top, hx, hd, hm', hret, hn]
  first | (intro acts; rw [hl _ acts rfl rfl rfl]) | rw [hl _ _ rfl rfl rfl]
  exact Steps.refl _
end New
end Jvm.RoadKit
namespace Jvm.Pilot.@@N@@
open Jvm Jvm.ClassFile Sem Op Lib Jvm.Free Jvm.Stand Jvm.LawKit Jvm.RoadKit Bundle Jvm.Pilot.@@N@@.Jvm.D

theorem own_nb {b : Int32} (h : b = 0 ∨ b = 1) : narrow .boolean (.int b) = .int b := by rcases h with rfl | rfl <;> rfl
theorem own_fb {b : Int32} (h : b = 0 ∨ b = 1) : fits .boolean (.int b) = true := by rcases h with rfl | rfl <;> decide
theorem own_nar {b : Int32} (h : b = 0 ∨ b = 1) : nar .boolean b = b := by rcases h with rfl | rfl <;> decide
theorem own_01 (c : Prop) [Decidable c] : (if c then (0 : Int32) else (1 : Int32)) = 0 ∨ (if c then (0 : Int32) else (1 : Int32)) = 1 := by split <;> simp
theorem d1_0 : decode prog_46_method_1_code 0 = .ok (.aload_n 0, 1) := by decide +kernel
theorem d1_1 : decode prog_46_method_1_code 1 = .ok (.invokespecial 1, 3) := by decide +kernel
theorem d1_4 : decode prog_46_method_1_code 4 = .ok (.aload_n 0, 1) := by decide +kernel
theorem d1_5 : decode prog_46_method_1_code 5 = .ok (.lload_n 1, 1) := by decide +kernel
theorem d1_6 : decode prog_46_method_1_code 6 = .ok (.putfield 7, 3) := by decide +kernel
theorem d1_9 : decode prog_46_method_1_code 9 = .ok (.aload_n 0, 1) := by decide +kernel
theorem d1_10 : decode prog_46_method_1_code 10 = .ok (.iload_n 3, 1) := by decide +kernel
theorem d1_11 : decode prog_46_method_1_code 11 = .ok (.putfield 13, 3) := by decide +kernel
theorem d1_14 : decode prog_46_method_1_code 14 = .ok (.aload_n 0, 1) := by decide +kernel
theorem d1_15 : decode prog_46_method_1_code 15 = .ok (.iload 4, 2) := by decide +kernel
theorem d1_17 : decode prog_46_method_1_code 17 = .ok (.putfield 17, 3) := by decide +kernel
theorem d1_20 : decode prog_46_method_1_code 20 = .ok (.aload_n 0, 1) := by decide +kernel
theorem d1_21 : decode prog_46_method_1_code 21 = .ok (.iload 5, 2) := by decide +kernel
theorem d1_23 : decode prog_46_method_1_code 23 = .ok (.putfield 20, 3) := by decide +kernel
theorem d1_26 : decode prog_46_method_1_code 26 = .ok (.aload_n 0, 1) := by decide +kernel
theorem d1_27 : decode prog_46_method_1_code 27 = .ok (.iload 6, 2) := by decide +kernel
theorem d1_29 : decode prog_46_method_1_code 29 = .ok (.putfield 23, 3) := by decide +kernel
theorem d1_32 : decode prog_46_method_1_code 32 = .ok (.aload_n 0, 1) := by decide +kernel
theorem d1_33 : decode prog_46_method_1_code 33 = .ok (.iload 7, 2) := by decide +kernel
theorem d1_35 : decode prog_46_method_1_code 35 = .ok (.putfield 26, 3) := by decide +kernel
theorem d1_38 : decode prog_46_method_1_code 38 = .ok (.aload_n 0, 1) := by decide +kernel
theorem d1_39 : decode prog_46_method_1_code 39 = .ok (.iload 8, 2) := by decide +kernel
theorem d1_41 : decode prog_46_method_1_code 41 = .ok (.putfield 29, 3) := by decide +kernel
theorem d1_44 : decode prog_46_method_1_code 44 = .ok (.return_, 1) := by decide +kernel
theorem ef_d1_ (m : MethodId) (a1 : Addr) (q2 : Int64) (p3 : Int32) (p4 : Int32) (p5 : Int32) (p6 : Int32) (p7 : Int32) (p8 : Int32) : entryFrame m #[(.ref a1), (.long q2), (.int p3), (.int p4), (.int p5), (.int p6), (.int p7), (.int p8)] 9 = mkF m 0 #[.val (.ref a1), .val (.long q2), .second, .val (.int p3), .val (.int p4), .val (.int p5), .val (.int p6), .val (.int p7), .val (.int p8)] [] := by first | (simp [entryFrame, mkF, argsToLocals, Value.category]; done) | rfl
def Q_rm1 (Z : State) (a1 : Addr) (q2 : Int64) (p3 : Int32) (p4 : Int32) (p5 : Int32) (p6 : Int32) (p7 : Int32) (p8 : Int32)  (h0 : Heap) (n0 : Nat) (v : Option Value) (h : Heap) (L : List Loc) : Prop := v = none ∧ Fr n0 L ∧ Keep h0 h [a1] ∧ Exa Z h a1 "com/example/cairn/cairn/view/Freshness" ∧ Fld Z h a1 "com/example/cairn/cairn/view/Freshness" "version" "J" (.long q2) ∧ Fld Z h a1 "com/example/cairn/cairn/view/Freshness" "recorded" "Z" (.int p4) ∧ Fld Z h a1 "com/example/cairn/cairn/view/Freshness" "uncounted" "Z" (.int p5) ∧ Fld Z h a1 "com/example/cairn/cairn/view/Freshness" "changed" "Z" (.int p6)
theorem pn_rm1 : plainName "com/example/cairn/cairn/view/Freshness" = true := by first | (simp [plainName, overriddenIn]; done) | decide +kernel
set_option maxRecDepth 65536 in
set_option maxHeartbeats 40000000 in
theorem rm1 (l : Launch) (Z : State) (a0 : Array Value) (hw : ∀ d ∈ tables_1, d.before a0 Z = true) (ws : List Jvm.Cond) (a1 : Addr) (q2 : Int64) (p3 : Int32) (p4 : Int32) (p5 : Int32) (p6 : Int32) (p7 : Int32) (p8 : Int32)  (h0 : Heap) (n0 : Nat) (Z0 : n0 ≤ h0.size) (E : Exa Z h0 a1 "com/example/cairn/cairn/view/Freshness") (F_version : Fld Z h0 a1 "com/example/cairn/cairn/view/Freshness" "version" "J" (.long (0 : Int64))) (F_readable : Fld Z h0 a1 "com/example/cairn/cairn/view/Freshness" "readable" "Z" (.int (0 : Int32))) (F_recorded : Fld Z h0 a1 "com/example/cairn/cairn/view/Freshness" "recorded" "Z" (.int (0 : Int32))) (F_uncounted : Fld Z h0 a1 "com/example/cairn/cairn/view/Freshness" "uncounted" "Z" (.int (0 : Int32))) (F_changed : Fld Z h0 a1 "com/example/cairn/cairn/view/Freshness" "changed" "Z" (.int (0 : Int32))) (F_resolved : Fld Z h0 a1 "com/example/cairn/cairn/view/Freshness" "resolved" "Z" (.int (0 : Int32))) (F_permitted : Fld Z h0 a1 "com/example/cairn/cairn/view/Freshness" "permitted" "Z" (.int (0 : Int32))) (ga : n0 ≤ a1) (hbp3 : p3 = 0 ∨ p3 = 1) (hbp4 : p4 = 0 ∨ p4 = 1) (hbp5 : p5 = 0 ∨ p5 = 1) (hbp6 : p6 = 0 ∨ p6 = 1) (hbp7 : p7 = 0 ∨ p7 = 1) (hbp8 : p8 = 0 ∨ p8 = 1) :
    MetFree l (⟨"com/example/cairn/cairn/view/Freshness", "<init>", "(JZZZZZZ)V"⟩ : MethodName) (head1 (Jvm.Cond.code (⟨"com/example/cairn/cairn/view/Freshness", "<init>", "(JZZZZZZ)V"⟩ : MethodName) prog_46_method_1_code 9 none :: ws) ({ frames := 1, cells := 0, slots := 0, locals := 12 } : Room)) (fun a U => a = #[(.ref a1), (.long q2), (.int p3), (.int p4), (.int p5), (.int p6), (.int p7), (.int p8)] ∧ Z.Warmed39 U.vm ∧ U.heap = h0) (fun _ _ _ _ _ => True) (fun _ U o U' => ∃ v L, o = .returned v ∧ Q_rm1 Z a1 q2 p3 p4 p5 p6 p7 p8  h0 n0 v U'.heap L ∧ FrameEnd U o U' L ({ frames := 1, cells := 0, slots := 0, locals := 12 } : Room).cells ({ frames := 1, cells := 0, slots := 0, locals := 12 } : Room).slots) := by
  refine MetFree.of_bodySF (plainFor_of_name pn_rm1) hisR ?_
  intro p e s m args below meth c s₁ Bd hml0 hP hK
  obtain ⟨rfl, hZ, hh⟩ := hP
  have hx := Bd.exec
  have hby := Bd.bytes
  have hml : c.maxLocals = 9 := hml0
  have hown : s.vm.findClass "com/example/cairn/cairn/view/Freshness" = some m.cls := findClass_of_methodNamed Bd.named
  have hnm := (name_of_methodNamed Bd.named Bd.method).1
  have X0 : Stand p l e ({ frames := 1, cells := 0, slots := 0, locals := 12 } : Room) s m #[(.ref a1), (.long q2), (.int p3), (.int p4), (.int p5), (.int p6), (.int p7), (.int p8)] below meth c s₁ [] 0 0 := Stand.of_body Bd
  have e0 : s₁.heap = h0 := by rw [← hh, Bd.state]; rfl
  have N0 := Fr.nil n0
  have pre0 : ∀ t, Steps p.tables e below (s₁.setTop (mkF m 0 #[.val (.ref a1), .val (.long q2), .second, .val (.int p3), .val (.int p4), .val (.int p5), .val (.int p6), .val (.int p7), .val (.int p8)] [])) t → Steps p.tables e below (s₁.setTop (entryFrame m #[(.ref a1), (.long q2), (.int p3), (.int p4), (.int p5), (.int p6), (.int p7), (.int p8)] 9)) t := fun t k => castTop (ef_d1_ m a1 q2 p3 p4 p5 p6 p7 p8) k
  obtain ⟨T1, X1, e1, st1⟩ := initO X0 hx hZ hown (hw _ (List.mem_of_getElem? (i := 6) rfl)) (hw _ (List.mem_of_getElem? (i := 7) rfl)) (hw _ (List.mem_of_getElem? (i := 8) rfl)) e0 (g := (mkF m 1 #[.val (.ref a1), .val (.long q2), .second, .val (.int p3), .val (.int p4), .val (.int p5), .val (.int p6), .val (.int p7), .val (.int p8)] [(.ref a1)])) rfl (by rw [hml]; rfl) rfl (hb hby d1_1) (by decide) (W := 0) (by show 2 * 0 + _ ≤ _; exact Nat.le_of_eq rfl) (by decide)
  obtain ⟨T2, h2, X2, e2, W2, st2⟩ := putF X1 hx hZ hown (host := "") (Or.inl (hw _ (List.mem_of_getElem? (i := 9) rfl))) Via.refl e1 F_version E (Or.inr ⟨(hw _ (List.mem_of_getElem? (i := 10) rfl)), rfl, hnm⟩) (hw _ (List.mem_of_getElem? (i := 1) rfl)) (ty := .long) (by decide) rfl rfl (g := (mkF m 6 #[.val (.ref a1), .val (.long q2), .second, .val (.int p3), .val (.int p4), .val (.int p5), .val (.int p6), .val (.int p7), .val (.int p8)] [(.long q2), (.ref a1)])) rfl rfl (hb hby d1_6)
  have F_version_2 := F_version.same W2
  have F_readable_2 := F_readable.other W2 (Or.inr (slot_ne (Or.inr (hw _ (List.mem_of_getElem? (i := 12) rfl))) (Or.inr (hw _ (List.mem_of_getElem? (i := 10) rfl))) (by decide) (t := .boolean) (t' := .long) (by decide) (by decide)))
  have F_recorded_2 := F_recorded.other W2 (Or.inr (slot_ne (Or.inr (hw _ (List.mem_of_getElem? (i := 14) rfl))) (Or.inr (hw _ (List.mem_of_getElem? (i := 10) rfl))) (by decide) (t := .boolean) (t' := .long) (by decide) (by decide)))
  have F_uncounted_2 := F_uncounted.other W2 (Or.inr (slot_ne (Or.inr (hw _ (List.mem_of_getElem? (i := 16) rfl))) (Or.inr (hw _ (List.mem_of_getElem? (i := 10) rfl))) (by decide) (t := .boolean) (t' := .long) (by decide) (by decide)))
  have F_changed_2 := F_changed.other W2 (Or.inr (slot_ne (Or.inr (hw _ (List.mem_of_getElem? (i := 18) rfl))) (Or.inr (hw _ (List.mem_of_getElem? (i := 10) rfl))) (by decide) (t := .boolean) (t' := .long) (by decide) (by decide)))
  have F_resolved_2 := F_resolved.other W2 (Or.inr (slot_ne (Or.inr (hw _ (List.mem_of_getElem? (i := 20) rfl))) (Or.inr (hw _ (List.mem_of_getElem? (i := 10) rfl))) (by decide) (t := .boolean) (t' := .long) (by decide) (by decide)))
  have F_permitted_2 := F_permitted.other W2 (Or.inr (slot_ne (Or.inr (hw _ (List.mem_of_getElem? (i := 22) rfl))) (Or.inr (hw _ (List.mem_of_getElem? (i := 10) rfl))) (by decide) (t := .boolean) (t' := .long) (by decide) (by decide)))
  have E_2 := E.wr W2
  have K_2 : Keep h0 h2 [a1] := (Keep.refl h0 [a1]).wr W2 (Or.inl (List.mem_of_getElem? (i := 0) rfl))
  have M_2 := Fr.snoc X2 N0 ga
  obtain ⟨T3, h3, X3, e3, W3, st3⟩ := putF X2 hx hZ hown (host := "") (Or.inl (hw _ (List.mem_of_getElem? (i := 11) rfl))) Via.refl e2 F_readable_2 E_2 (Or.inr ⟨(hw _ (List.mem_of_getElem? (i := 12) rfl)), rfl, hnm⟩) (hw _ (List.mem_of_getElem? (i := 1) rfl)) (ty := .boolean) (by decide) (own_nb hbp3) (own_fb hbp3) (g := (mkF m 11 #[.val (.ref a1), .val (.long q2), .second, .val (.int p3), .val (.int p4), .val (.int p5), .val (.int p6), .val (.int p7), .val (.int p8)] [(.int p3), (.ref a1)])) rfl rfl (hb hby d1_11)
  have F_version_3 := F_version_2.other W3 (Or.inr (slot_ne (Or.inr (hw _ (List.mem_of_getElem? (i := 10) rfl))) (Or.inr (hw _ (List.mem_of_getElem? (i := 12) rfl))) (by decide) (t := .long) (t' := .boolean) (by decide) (by decide)))
  have F_readable_3 := F_readable_2.same W3
  have F_recorded_3 := F_recorded_2.other W3 (Or.inr (slot_ne (Or.inr (hw _ (List.mem_of_getElem? (i := 14) rfl))) (Or.inr (hw _ (List.mem_of_getElem? (i := 12) rfl))) (by decide) (t := .boolean) (t' := .boolean) (by decide) (by decide)))
  have F_uncounted_3 := F_uncounted_2.other W3 (Or.inr (slot_ne (Or.inr (hw _ (List.mem_of_getElem? (i := 16) rfl))) (Or.inr (hw _ (List.mem_of_getElem? (i := 12) rfl))) (by decide) (t := .boolean) (t' := .boolean) (by decide) (by decide)))
  have F_changed_3 := F_changed_2.other W3 (Or.inr (slot_ne (Or.inr (hw _ (List.mem_of_getElem? (i := 18) rfl))) (Or.inr (hw _ (List.mem_of_getElem? (i := 12) rfl))) (by decide) (t := .boolean) (t' := .boolean) (by decide) (by decide)))
  have F_resolved_3 := F_resolved_2.other W3 (Or.inr (slot_ne (Or.inr (hw _ (List.mem_of_getElem? (i := 20) rfl))) (Or.inr (hw _ (List.mem_of_getElem? (i := 12) rfl))) (by decide) (t := .boolean) (t' := .boolean) (by decide) (by decide)))
  have F_permitted_3 := F_permitted_2.other W3 (Or.inr (slot_ne (Or.inr (hw _ (List.mem_of_getElem? (i := 22) rfl))) (Or.inr (hw _ (List.mem_of_getElem? (i := 12) rfl))) (by decide) (t := .boolean) (t' := .boolean) (by decide) (by decide)))
  have E_3 := E_2.wr W3
  have K_3 : Keep h0 h3 [a1] := K_2.wr W3 (Or.inl (List.mem_of_getElem? (i := 0) rfl))
  have M_3 := Fr.snoc X3 M_2 ga
  obtain ⟨T4, h4, X4, e4, W4, st4⟩ := putF X3 hx hZ hown (host := "") (Or.inl (hw _ (List.mem_of_getElem? (i := 13) rfl))) Via.refl e3 F_recorded_3 E_3 (Or.inr ⟨(hw _ (List.mem_of_getElem? (i := 14) rfl)), rfl, hnm⟩) (hw _ (List.mem_of_getElem? (i := 1) rfl)) (ty := .boolean) (by decide) (own_nb hbp4) (own_fb hbp4) (g := (mkF m 17 #[.val (.ref a1), .val (.long q2), .second, .val (.int p3), .val (.int p4), .val (.int p5), .val (.int p6), .val (.int p7), .val (.int p8)] [(.int p4), (.ref a1)])) rfl rfl (hb hby d1_17)
  have F_version_4 := F_version_3.other W4 (Or.inr (slot_ne (Or.inr (hw _ (List.mem_of_getElem? (i := 10) rfl))) (Or.inr (hw _ (List.mem_of_getElem? (i := 14) rfl))) (by decide) (t := .long) (t' := .boolean) (by decide) (by decide)))
  have F_recorded_4 := F_recorded_3.same W4
  have F_uncounted_4 := F_uncounted_3.other W4 (Or.inr (slot_ne (Or.inr (hw _ (List.mem_of_getElem? (i := 16) rfl))) (Or.inr (hw _ (List.mem_of_getElem? (i := 14) rfl))) (by decide) (t := .boolean) (t' := .boolean) (by decide) (by decide)))
  have F_changed_4 := F_changed_3.other W4 (Or.inr (slot_ne (Or.inr (hw _ (List.mem_of_getElem? (i := 18) rfl))) (Or.inr (hw _ (List.mem_of_getElem? (i := 14) rfl))) (by decide) (t := .boolean) (t' := .boolean) (by decide) (by decide)))
  have F_resolved_4 := F_resolved_3.other W4 (Or.inr (slot_ne (Or.inr (hw _ (List.mem_of_getElem? (i := 20) rfl))) (Or.inr (hw _ (List.mem_of_getElem? (i := 14) rfl))) (by decide) (t := .boolean) (t' := .boolean) (by decide) (by decide)))
  have F_permitted_4 := F_permitted_3.other W4 (Or.inr (slot_ne (Or.inr (hw _ (List.mem_of_getElem? (i := 22) rfl))) (Or.inr (hw _ (List.mem_of_getElem? (i := 14) rfl))) (by decide) (t := .boolean) (t' := .boolean) (by decide) (by decide)))
  have E_4 := E_3.wr W4
  have K_4 : Keep h0 h4 [a1] := K_3.wr W4 (Or.inl (List.mem_of_getElem? (i := 0) rfl))
  have M_4 := Fr.snoc X4 M_3 ga
  obtain ⟨T5, h5, X5, e5, W5, st5⟩ := putF X4 hx hZ hown (host := "") (Or.inl (hw _ (List.mem_of_getElem? (i := 15) rfl))) Via.refl e4 F_uncounted_4 E_4 (Or.inr ⟨(hw _ (List.mem_of_getElem? (i := 16) rfl)), rfl, hnm⟩) (hw _ (List.mem_of_getElem? (i := 1) rfl)) (ty := .boolean) (by decide) (own_nb hbp5) (own_fb hbp5) (g := (mkF m 23 #[.val (.ref a1), .val (.long q2), .second, .val (.int p3), .val (.int p4), .val (.int p5), .val (.int p6), .val (.int p7), .val (.int p8)] [(.int p5), (.ref a1)])) rfl rfl (hb hby d1_23)
  have F_version_5 := F_version_4.other W5 (Or.inr (slot_ne (Or.inr (hw _ (List.mem_of_getElem? (i := 10) rfl))) (Or.inr (hw _ (List.mem_of_getElem? (i := 16) rfl))) (by decide) (t := .long) (t' := .boolean) (by decide) (by decide)))
  have F_recorded_5 := F_recorded_4.other W5 (Or.inr (slot_ne (Or.inr (hw _ (List.mem_of_getElem? (i := 14) rfl))) (Or.inr (hw _ (List.mem_of_getElem? (i := 16) rfl))) (by decide) (t := .boolean) (t' := .boolean) (by decide) (by decide)))
  have F_uncounted_5 := F_uncounted_4.same W5
  have F_changed_5 := F_changed_4.other W5 (Or.inr (slot_ne (Or.inr (hw _ (List.mem_of_getElem? (i := 18) rfl))) (Or.inr (hw _ (List.mem_of_getElem? (i := 16) rfl))) (by decide) (t := .boolean) (t' := .boolean) (by decide) (by decide)))
  have F_resolved_5 := F_resolved_4.other W5 (Or.inr (slot_ne (Or.inr (hw _ (List.mem_of_getElem? (i := 20) rfl))) (Or.inr (hw _ (List.mem_of_getElem? (i := 16) rfl))) (by decide) (t := .boolean) (t' := .boolean) (by decide) (by decide)))
  have F_permitted_5 := F_permitted_4.other W5 (Or.inr (slot_ne (Or.inr (hw _ (List.mem_of_getElem? (i := 22) rfl))) (Or.inr (hw _ (List.mem_of_getElem? (i := 16) rfl))) (by decide) (t := .boolean) (t' := .boolean) (by decide) (by decide)))
  have E_5 := E_4.wr W5
  have K_5 : Keep h0 h5 [a1] := K_4.wr W5 (Or.inl (List.mem_of_getElem? (i := 0) rfl))
  have M_5 := Fr.snoc X5 M_4 ga
  obtain ⟨T6, h6, X6, e6, W6, st6⟩ := putF X5 hx hZ hown (host := "") (Or.inl (hw _ (List.mem_of_getElem? (i := 17) rfl))) Via.refl e5 F_changed_5 E_5 (Or.inr ⟨(hw _ (List.mem_of_getElem? (i := 18) rfl)), rfl, hnm⟩) (hw _ (List.mem_of_getElem? (i := 1) rfl)) (ty := .boolean) (by decide) (own_nb hbp6) (own_fb hbp6) (g := (mkF m 29 #[.val (.ref a1), .val (.long q2), .second, .val (.int p3), .val (.int p4), .val (.int p5), .val (.int p6), .val (.int p7), .val (.int p8)] [(.int p6), (.ref a1)])) rfl rfl (hb hby d1_29)
  have F_version_6 := F_version_5.other W6 (Or.inr (slot_ne (Or.inr (hw _ (List.mem_of_getElem? (i := 10) rfl))) (Or.inr (hw _ (List.mem_of_getElem? (i := 18) rfl))) (by decide) (t := .long) (t' := .boolean) (by decide) (by decide)))
  have F_recorded_6 := F_recorded_5.other W6 (Or.inr (slot_ne (Or.inr (hw _ (List.mem_of_getElem? (i := 14) rfl))) (Or.inr (hw _ (List.mem_of_getElem? (i := 18) rfl))) (by decide) (t := .boolean) (t' := .boolean) (by decide) (by decide)))
  have F_uncounted_6 := F_uncounted_5.other W6 (Or.inr (slot_ne (Or.inr (hw _ (List.mem_of_getElem? (i := 16) rfl))) (Or.inr (hw _ (List.mem_of_getElem? (i := 18) rfl))) (by decide) (t := .boolean) (t' := .boolean) (by decide) (by decide)))
  have F_changed_6 := F_changed_5.same W6
  have F_resolved_6 := F_resolved_5.other W6 (Or.inr (slot_ne (Or.inr (hw _ (List.mem_of_getElem? (i := 20) rfl))) (Or.inr (hw _ (List.mem_of_getElem? (i := 18) rfl))) (by decide) (t := .boolean) (t' := .boolean) (by decide) (by decide)))
  have F_permitted_6 := F_permitted_5.other W6 (Or.inr (slot_ne (Or.inr (hw _ (List.mem_of_getElem? (i := 22) rfl))) (Or.inr (hw _ (List.mem_of_getElem? (i := 18) rfl))) (by decide) (t := .boolean) (t' := .boolean) (by decide) (by decide)))
  have E_6 := E_5.wr W6
  have K_6 : Keep h0 h6 [a1] := K_5.wr W6 (Or.inl (List.mem_of_getElem? (i := 0) rfl))
  have M_6 := Fr.snoc X6 M_5 ga
  obtain ⟨T7, h7, X7, e7, W7, st7⟩ := putF X6 hx hZ hown (host := "") (Or.inl (hw _ (List.mem_of_getElem? (i := 19) rfl))) Via.refl e6 F_resolved_6 E_6 (Or.inr ⟨(hw _ (List.mem_of_getElem? (i := 20) rfl)), rfl, hnm⟩) (hw _ (List.mem_of_getElem? (i := 1) rfl)) (ty := .boolean) (by decide) (own_nb hbp7) (own_fb hbp7) (g := (mkF m 35 #[.val (.ref a1), .val (.long q2), .second, .val (.int p3), .val (.int p4), .val (.int p5), .val (.int p6), .val (.int p7), .val (.int p8)] [(.int p7), (.ref a1)])) rfl rfl (hb hby d1_35)
  have F_version_7 := F_version_6.other W7 (Or.inr (slot_ne (Or.inr (hw _ (List.mem_of_getElem? (i := 10) rfl))) (Or.inr (hw _ (List.mem_of_getElem? (i := 20) rfl))) (by decide) (t := .long) (t' := .boolean) (by decide) (by decide)))
  have F_recorded_7 := F_recorded_6.other W7 (Or.inr (slot_ne (Or.inr (hw _ (List.mem_of_getElem? (i := 14) rfl))) (Or.inr (hw _ (List.mem_of_getElem? (i := 20) rfl))) (by decide) (t := .boolean) (t' := .boolean) (by decide) (by decide)))
  have F_uncounted_7 := F_uncounted_6.other W7 (Or.inr (slot_ne (Or.inr (hw _ (List.mem_of_getElem? (i := 16) rfl))) (Or.inr (hw _ (List.mem_of_getElem? (i := 20) rfl))) (by decide) (t := .boolean) (t' := .boolean) (by decide) (by decide)))
  have F_changed_7 := F_changed_6.other W7 (Or.inr (slot_ne (Or.inr (hw _ (List.mem_of_getElem? (i := 18) rfl))) (Or.inr (hw _ (List.mem_of_getElem? (i := 20) rfl))) (by decide) (t := .boolean) (t' := .boolean) (by decide) (by decide)))
  have F_resolved_7 := F_resolved_6.same W7
  have F_permitted_7 := F_permitted_6.other W7 (Or.inr (slot_ne (Or.inr (hw _ (List.mem_of_getElem? (i := 22) rfl))) (Or.inr (hw _ (List.mem_of_getElem? (i := 20) rfl))) (by decide) (t := .boolean) (t' := .boolean) (by decide) (by decide)))
  have E_7 := E_6.wr W7
  have K_7 : Keep h0 h7 [a1] := K_6.wr W7 (Or.inl (List.mem_of_getElem? (i := 0) rfl))
  have M_7 := Fr.snoc X7 M_6 ga
  obtain ⟨T8, h8, X8, e8, W8, st8⟩ := putF X7 hx hZ hown (host := "") (Or.inl (hw _ (List.mem_of_getElem? (i := 21) rfl))) Via.refl e7 F_permitted_7 E_7 (Or.inr ⟨(hw _ (List.mem_of_getElem? (i := 22) rfl)), rfl, hnm⟩) (hw _ (List.mem_of_getElem? (i := 1) rfl)) (ty := .boolean) (by decide) (own_nb hbp8) (own_fb hbp8) (g := (mkF m 41 #[.val (.ref a1), .val (.long q2), .second, .val (.int p3), .val (.int p4), .val (.int p5), .val (.int p6), .val (.int p7), .val (.int p8)] [(.int p8), (.ref a1)])) rfl rfl (hb hby d1_41)
  have F_version_8 := F_version_7.other W8 (Or.inr (slot_ne (Or.inr (hw _ (List.mem_of_getElem? (i := 10) rfl))) (Or.inr (hw _ (List.mem_of_getElem? (i := 22) rfl))) (by decide) (t := .long) (t' := .boolean) (by decide) (by decide)))
  have F_recorded_8 := F_recorded_7.other W8 (Or.inr (slot_ne (Or.inr (hw _ (List.mem_of_getElem? (i := 14) rfl))) (Or.inr (hw _ (List.mem_of_getElem? (i := 22) rfl))) (by decide) (t := .boolean) (t' := .boolean) (by decide) (by decide)))
  have F_uncounted_8 := F_uncounted_7.other W8 (Or.inr (slot_ne (Or.inr (hw _ (List.mem_of_getElem? (i := 16) rfl))) (Or.inr (hw _ (List.mem_of_getElem? (i := 22) rfl))) (by decide) (t := .boolean) (t' := .boolean) (by decide) (by decide)))
  have F_changed_8 := F_changed_7.other W8 (Or.inr (slot_ne (Or.inr (hw _ (List.mem_of_getElem? (i := 18) rfl))) (Or.inr (hw _ (List.mem_of_getElem? (i := 22) rfl))) (by decide) (t := .boolean) (t' := .boolean) (by decide) (by decide)))
  have F_permitted_8 := F_permitted_7.same W8
  have E_8 := E_7.wr W8
  have K_8 : Keep h0 h8 [a1] := K_7.wr W8 (Or.inl (List.mem_of_getElem? (i := 0) rfl))
  have M_8 := Fr.snoc X8 M_7 ga
  obtain ⟨fs, hr, hrun, hended, hW, hsame⟩ := X8.leave (v := none) (fun _ => rfl)
  refine ⟨_, _, pre0 _ ?_, hrun, hended, _, _, rfl, ?_, ⟨_, rfl⟩, hW, hsame.mono (by decide) (by decide)⟩
  · show Steps p.tables e below (s₁.setTop (mkF m 0 #[.val (.ref a1), .val (.long q2), .second, .val (.int p3), .val (.int p4), .val (.int p5), .val (.int p6), .val (.int p7), .val (.int p8)] [])) _
    refine XS.aloadN X0.here hx rfl (hb hby d1_0) rfl rfl ?_
    show Steps p.tables e below (s₁.setTop (mkF m 1 #[.val (.ref a1), .val (.long q2), .second, .val (.int p3), .val (.int p4), .val (.int p5), .val (.int p6), .val (.int p7), .val (.int p8)] [(.ref a1)])) _
    refine st1 _ ?_
    show Steps p.tables e below (T1.setTop (mkF m 4 #[.val (.ref a1), .val (.long q2), .second, .val (.int p3), .val (.int p4), .val (.int p5), .val (.int p6), .val (.int p7), .val (.int p8)] [])) _
    refine XS.aloadN X1.here hx rfl (hb hby d1_4) rfl rfl ?_
    show Steps p.tables e below (T1.setTop (mkF m 5 #[.val (.ref a1), .val (.long q2), .second, .val (.int p3), .val (.int p4), .val (.int p5), .val (.int p6), .val (.int p7), .val (.int p8)] [(.ref a1)])) _
    refine XS.lloadN X1.here hx rfl (hb hby d1_5) rfl ?_
    show Steps p.tables e below (T1.setTop (mkF m 6 #[.val (.ref a1), .val (.long q2), .second, .val (.int p3), .val (.int p4), .val (.int p5), .val (.int p6), .val (.int p7), .val (.int p8)] [(.long q2), (.ref a1)])) _
    refine st2 _ ?_
    show Steps p.tables e below (T2.setTop (mkF m 9 #[.val (.ref a1), .val (.long q2), .second, .val (.int p3), .val (.int p4), .val (.int p5), .val (.int p6), .val (.int p7), .val (.int p8)] [])) _
    refine XS.aloadN X2.here hx rfl (hb hby d1_9) rfl rfl ?_
    show Steps p.tables e below (T2.setTop (mkF m 10 #[.val (.ref a1), .val (.long q2), .second, .val (.int p3), .val (.int p4), .val (.int p5), .val (.int p6), .val (.int p7), .val (.int p8)] [(.ref a1)])) _
    refine XS.iloadN X2.here hx rfl (hb hby d1_10) rfl ?_
    show Steps p.tables e below (T2.setTop (mkF m 11 #[.val (.ref a1), .val (.long q2), .second, .val (.int p3), .val (.int p4), .val (.int p5), .val (.int p6), .val (.int p7), .val (.int p8)] [(.int p3), (.ref a1)])) _
    refine st3 _ ?_
    show Steps p.tables e below (T3.setTop (mkF m 14 #[.val (.ref a1), .val (.long q2), .second, .val (.int p3), .val (.int p4), .val (.int p5), .val (.int p6), .val (.int p7), .val (.int p8)] [])) _
    refine XS.aloadN X3.here hx rfl (hb hby d1_14) rfl rfl ?_
    show Steps p.tables e below (T3.setTop (mkF m 15 #[.val (.ref a1), .val (.long q2), .second, .val (.int p3), .val (.int p4), .val (.int p5), .val (.int p6), .val (.int p7), .val (.int p8)] [(.ref a1)])) _
    refine XS.iload X3.here hx rfl (hb hby d1_15) rfl ?_
    show Steps p.tables e below (T3.setTop (mkF m 17 #[.val (.ref a1), .val (.long q2), .second, .val (.int p3), .val (.int p4), .val (.int p5), .val (.int p6), .val (.int p7), .val (.int p8)] [(.int p4), (.ref a1)])) _
    refine st4 _ ?_
    show Steps p.tables e below (T4.setTop (mkF m 20 #[.val (.ref a1), .val (.long q2), .second, .val (.int p3), .val (.int p4), .val (.int p5), .val (.int p6), .val (.int p7), .val (.int p8)] [])) _
    refine XS.aloadN X4.here hx rfl (hb hby d1_20) rfl rfl ?_
    show Steps p.tables e below (T4.setTop (mkF m 21 #[.val (.ref a1), .val (.long q2), .second, .val (.int p3), .val (.int p4), .val (.int p5), .val (.int p6), .val (.int p7), .val (.int p8)] [(.ref a1)])) _
    refine XS.iload X4.here hx rfl (hb hby d1_21) rfl ?_
    show Steps p.tables e below (T4.setTop (mkF m 23 #[.val (.ref a1), .val (.long q2), .second, .val (.int p3), .val (.int p4), .val (.int p5), .val (.int p6), .val (.int p7), .val (.int p8)] [(.int p5), (.ref a1)])) _
    refine st5 _ ?_
    show Steps p.tables e below (T5.setTop (mkF m 26 #[.val (.ref a1), .val (.long q2), .second, .val (.int p3), .val (.int p4), .val (.int p5), .val (.int p6), .val (.int p7), .val (.int p8)] [])) _
    refine XS.aloadN X5.here hx rfl (hb hby d1_26) rfl rfl ?_
    show Steps p.tables e below (T5.setTop (mkF m 27 #[.val (.ref a1), .val (.long q2), .second, .val (.int p3), .val (.int p4), .val (.int p5), .val (.int p6), .val (.int p7), .val (.int p8)] [(.ref a1)])) _
    refine XS.iload X5.here hx rfl (hb hby d1_27) rfl ?_
    show Steps p.tables e below (T5.setTop (mkF m 29 #[.val (.ref a1), .val (.long q2), .second, .val (.int p3), .val (.int p4), .val (.int p5), .val (.int p6), .val (.int p7), .val (.int p8)] [(.int p6), (.ref a1)])) _
    refine st6 _ ?_
    show Steps p.tables e below (T6.setTop (mkF m 32 #[.val (.ref a1), .val (.long q2), .second, .val (.int p3), .val (.int p4), .val (.int p5), .val (.int p6), .val (.int p7), .val (.int p8)] [])) _
    refine XS.aloadN X6.here hx rfl (hb hby d1_32) rfl rfl ?_
    show Steps p.tables e below (T6.setTop (mkF m 33 #[.val (.ref a1), .val (.long q2), .second, .val (.int p3), .val (.int p4), .val (.int p5), .val (.int p6), .val (.int p7), .val (.int p8)] [(.ref a1)])) _
    refine XS.iload X6.here hx rfl (hb hby d1_33) rfl ?_
    show Steps p.tables e below (T6.setTop (mkF m 35 #[.val (.ref a1), .val (.long q2), .second, .val (.int p3), .val (.int p4), .val (.int p5), .val (.int p6), .val (.int p7), .val (.int p8)] [(.int p7), (.ref a1)])) _
    refine st7 _ ?_
    show Steps p.tables e below (T7.setTop (mkF m 38 #[.val (.ref a1), .val (.long q2), .second, .val (.int p3), .val (.int p4), .val (.int p5), .val (.int p6), .val (.int p7), .val (.int p8)] [])) _
    refine XS.aloadN X7.here hx rfl (hb hby d1_38) rfl rfl ?_
    show Steps p.tables e below (T7.setTop (mkF m 39 #[.val (.ref a1), .val (.long q2), .second, .val (.int p3), .val (.int p4), .val (.int p5), .val (.int p6), .val (.int p7), .val (.int p8)] [(.ref a1)])) _
    refine XS.iload X7.here hx rfl (hb hby d1_39) rfl ?_
    show Steps p.tables e below (T7.setTop (mkF m 41 #[.val (.ref a1), .val (.long q2), .second, .val (.int p3), .val (.int p4), .val (.int p5), .val (.int p6), .val (.int p7), .val (.int p8)] [(.int p8), (.ref a1)])) _
    refine st8 _ ?_
    show Steps p.tables e below (T8.setTop (mkF m 44 #[.val (.ref a1), .val (.long q2), .second, .val (.int p3), .val (.int p4), .val (.int p5), .val (.int p6), .val (.int p7), .val (.int p8)] [])) _
    exact X8.returnOut hx Bd.returns (hb hby d1_44) hr
  · show Q_rm1 Z a1 q2 p3 p4 p5 p6 p7 p8 h0 n0 _ T8.heap _
    rw [e8]
    exact ⟨rfl, M_8, K_8, E_8, F_version_8, F_recorded_8, F_uncounted_8, F_changed_8⟩

theorem d8_0 : decode prog_46_method_8_code 0 = .ok (.aload_n 0, 1) := by decide +kernel
theorem d8_1 : decode prog_46_method_8_code 1 = .ok (.getfield 7, 3) := by decide +kernel
theorem d8_4 : decode prog_46_method_8_code 4 = .ok (.lconst 0, 1) := by decide +kernel
theorem d8_5 : decode prog_46_method_8_code 5 = .ok (.lcmp, 1) := by decide +kernel
theorem d8_6 : decode prog_46_method_8_code 6 = .ok (.ifCond .le 28, 3) := by decide +kernel
theorem d8_9 : decode prog_46_method_8_code 9 = .ok (.aload_n 0, 1) := by decide +kernel
theorem d8_10 : decode prog_46_method_8_code 10 = .ok (.getfield 17, 3) := by decide +kernel
theorem d8_13 : decode prog_46_method_8_code 13 = .ok (.ifCond .eq 21, 3) := by decide +kernel
theorem d8_16 : decode prog_46_method_8_code 16 = .ok (.aload_n 0, 1) := by decide +kernel
theorem d8_17 : decode prog_46_method_8_code 17 = .ok (.getfield 20, 3) := by decide +kernel
theorem d8_20 : decode prog_46_method_8_code 20 = .ok (.ifCond .ne 14, 3) := by decide +kernel
theorem d8_23 : decode prog_46_method_8_code 23 = .ok (.aload_n 0, 1) := by decide +kernel
theorem d8_24 : decode prog_46_method_8_code 24 = .ok (.getfield 23, 3) := by decide +kernel
theorem d8_27 : decode prog_46_method_8_code 27 = .ok (.ifCond .ne 7, 3) := by decide +kernel
theorem d8_30 : decode prog_46_method_8_code 30 = .ok (.iconst 1, 1) := by decide +kernel
theorem d8_31 : decode prog_46_method_8_code 31 = .ok (.goto 4, 3) := by decide +kernel
theorem d8_34 : decode prog_46_method_8_code 34 = .ok (.iconst 0, 1) := by decide +kernel
theorem d8_35 : decode prog_46_method_8_code 35 = .ok (.ireturn, 1) := by decide +kernel
theorem ef_d8_ (m : MethodId) (a1 : Addr) : entryFrame m #[(.ref a1)] 1 = mkF m 0 #[.val (.ref a1)] [] := by first | (simp [entryFrame, mkF, argsToLocals, Value.category]; done) | rfl
def Q_rm8 (Z : State) (a1 : Addr) (q2 : Int64) (p4 : Int32) (p5 : Int32) (p6 : Int32) (h0 : Heap) (n0 : Nat) (v : Option Value) (h : Heap) (L : List Loc) : Prop := v = some (.int (if (0 : Int32) < (lcmpW q2 (0 : Int64)) then (if p4 = (0 : Int32) then (0 : Int32) else (if p5 = (0 : Int32) then (if p6 = (0 : Int32) then (1 : Int32) else (0 : Int32)) else (0 : Int32))) else (0 : Int32))) ∧ Fr n0 L ∧ h = h0
theorem pn_rm8 : plainName "com/example/cairn/cairn/view/Freshness" = true := by first | (simp [plainName, overriddenIn]; done) | decide +kernel
set_option maxRecDepth 65536 in
set_option maxHeartbeats 40000000 in
theorem rm8 (l : Launch) (Z : State) (a0 : Array Value) (hw : ∀ d ∈ tables_1, d.before a0 Z = true) (ws : List Jvm.Cond) (a1 : Addr) (q2 : Int64) (p4 : Int32) (p5 : Int32) (p6 : Int32) (h0 : Heap) (n0 : Nat) (Z0 : n0 ≤ h0.size) (F1 : Fld Z h0 a1 "com/example/cairn/cairn/view/Freshness" "version" "J" (.long q2)) (F2 : Fld Z h0 a1 "com/example/cairn/cairn/view/Freshness" "recorded" "Z" (.int p4)) (F3 : Fld Z h0 a1 "com/example/cairn/cairn/view/Freshness" "uncounted" "Z" (.int p5)) (F4 : Fld Z h0 a1 "com/example/cairn/cairn/view/Freshness" "changed" "Z" (.int p6)) :
    MetFree l (⟨"com/example/cairn/cairn/view/Freshness", "fresh", "()Z"⟩ : MethodName) (head1 (Jvm.Cond.code (⟨"com/example/cairn/cairn/view/Freshness", "fresh", "()Z"⟩ : MethodName) prog_46_method_8_code 1 (some .boolean) :: ws) ({ frames := 0, cells := 0, slots := 0, locals := 0 } : Room)) (fun a U => a = #[(.ref a1)] ∧ Z.Warmed39 U.vm ∧ U.heap = h0) (fun _ _ _ _ _ => True) (fun _ U o U' => ∃ v L, o = .returned v ∧ Q_rm8 Z a1 q2  p4  p5  p6  h0 n0 v U'.heap L ∧ FrameEnd U o U' L ({ frames := 0, cells := 0, slots := 0, locals := 0 } : Room).cells ({ frames := 0, cells := 0, slots := 0, locals := 0 } : Room).slots) := by
  refine MetFree.of_bodySF (plainFor_of_name pn_rm8) hisR ?_
  intro p e s m args below meth c s₁ Bd hml0 hP hK
  obtain ⟨rfl, hZ, hh⟩ := hP
  have hx := Bd.exec
  have hby := Bd.bytes
  have hml : c.maxLocals = 1 := hml0
  have hown : s.vm.findClass "com/example/cairn/cairn/view/Freshness" = some m.cls := findClass_of_methodNamed Bd.named
  have hnm := (name_of_methodNamed Bd.named Bd.method).1
  have X0 : Stand p l e ({ frames := 0, cells := 0, slots := 0, locals := 0 } : Room) s m #[(.ref a1)] below meth c s₁ [] 0 0 := Stand.of_body Bd
  have e0 : s₁.heap = h0 := by rw [← hh, Bd.state]; rfl
  have N0 := Fr.nil n0
  have pre0 : ∀ t, Steps p.tables e below (s₁.setTop (mkF m 0 #[.val (.ref a1)] [])) t → Steps p.tables e below (s₁.setTop (entryFrame m #[(.ref a1)] 1)) t := fun t k => castTop (ef_d8_ m a1) k
  rcases Classical.em ((0 : Int32) < (lcmpW q2 (0 : Int64))) with c0 | c0
  · skip
    rcases Classical.em (p4 = (0 : Int32)) with c1 | c1
    · skip
      obtain ⟨T1, X1, e1, st1⟩ := getF X0 hx hZ hown (host := "") (Or.inl (hw _ (List.mem_of_getElem? (i := 9) rfl))) Via.refl e0 F1 (g := (mkF m 1 #[.val (.ref a1)] [(.ref a1)])) rfl rfl (hb hby d8_1)
      obtain ⟨T2, X2, e2, st2⟩ := getF X1 hx hZ hown (host := "") (Or.inl (hw _ (List.mem_of_getElem? (i := 13) rfl))) Via.refl e1 F2 (g := (mkF m 10 #[.val (.ref a1)] [(.ref a1)])) rfl rfl (hb hby d8_10)
      obtain ⟨fs, hr, hrun, hended, hW, hsame⟩ := X2.leave (v := some (.int (0 : Int32))) (fun h => by rw [Bd.returns] at h; cases h)
      refine ⟨_, _, pre0 _ ?_, hrun, hended, _, _, rfl, ?_, ⟨_, rfl⟩, hW, hsame.mono (by decide) (by decide)⟩
      · show Steps p.tables e below (s₁.setTop (mkF m 0 #[.val (.ref a1)] [])) _
        refine XS.aloadN X0.here hx rfl (hb hby d8_0) rfl rfl ?_
        show Steps p.tables e below (s₁.setTop (mkF m 1 #[.val (.ref a1)] [(.ref a1)])) _
        refine st1 _ ?_
        show Steps p.tables e below (T1.setTop (mkF m 4 #[.val (.ref a1)] [(.long q2)])) _
        refine XS.lconst X1.here hx rfl (hb hby d8_4) ?_
        show Steps p.tables e below (T1.setTop (mkF m 5 #[.val (.ref a1)] [(.long (0 : Int64)), (.long q2)])) _
        refine XS.lcmp X1.here hx rfl (hb hby d8_5) rfl ?_
        show Steps p.tables e below (T1.setTop (mkF m 6 #[.val (.ref a1)] [(.int (lcmpW q2 (0 : Int64)))])) _
        refine XS.ifNo X1.here hx rfl (hb hby d8_6) rfl ((if0 _ _).trans (tlt c0).2.2.2) ?_
        show Steps p.tables e below (T1.setTop (mkF m 9 #[.val (.ref a1)] [])) _
        refine XS.aloadN X1.here hx rfl (hb hby d8_9) rfl rfl ?_
        show Steps p.tables e below (T1.setTop (mkF m 10 #[.val (.ref a1)] [(.ref a1)])) _
        refine st2 _ ?_
        show Steps p.tables e below (T2.setTop (mkF m 13 #[.val (.ref a1)] [(.int p4)])) _
        refine XS.ifYes X2.here hx rfl (pc0 := 13) (pc' := 34) rfl (hb hby d8_13) rfl ((if0 _ _).trans (teq c1).1) (by decide) (by decide) ?_
        show Steps p.tables e below (T2.setTop (mkF m 34 #[.val (.ref a1)] [])) _
        refine XS.iconst X2.here hx rfl (hb hby d8_34) ?_
        show Steps p.tables e below (T2.setTop (mkF m 35 #[.val (.ref a1)] [(.int (0 : Int32))])) _
        exact retN X2 hx (t := .boolean) Bd.returns (by simp) (hb hby d8_35) hr
      · show Q_rm8 Z a1 q2 p4 p5 p6 h0 n0 _ T2.heap _
        rw [e2]
        exact ⟨by simp only [if_pos c0, if_pos c1], N0, rfl⟩
    · skip
      rcases Classical.em (p5 = (0 : Int32)) with c2 | c2
      · skip
        rcases Classical.em (p6 = (0 : Int32)) with c3 | c3
        · skip
          obtain ⟨T1, X1, e1, st1⟩ := getF X0 hx hZ hown (host := "") (Or.inl (hw _ (List.mem_of_getElem? (i := 9) rfl))) Via.refl e0 F1 (g := (mkF m 1 #[.val (.ref a1)] [(.ref a1)])) rfl rfl (hb hby d8_1)
          obtain ⟨T2, X2, e2, st2⟩ := getF X1 hx hZ hown (host := "") (Or.inl (hw _ (List.mem_of_getElem? (i := 13) rfl))) Via.refl e1 F2 (g := (mkF m 10 #[.val (.ref a1)] [(.ref a1)])) rfl rfl (hb hby d8_10)
          obtain ⟨T3, X3, e3, st3⟩ := getF X2 hx hZ hown (host := "") (Or.inl (hw _ (List.mem_of_getElem? (i := 15) rfl))) Via.refl e2 F3 (g := (mkF m 17 #[.val (.ref a1)] [(.ref a1)])) rfl rfl (hb hby d8_17)
          obtain ⟨T4, X4, e4, st4⟩ := getF X3 hx hZ hown (host := "") (Or.inl (hw _ (List.mem_of_getElem? (i := 17) rfl))) Via.refl e3 F4 (g := (mkF m 24 #[.val (.ref a1)] [(.ref a1)])) rfl rfl (hb hby d8_24)
          obtain ⟨fs, hr, hrun, hended, hW, hsame⟩ := X4.leave (v := some (.int (1 : Int32))) (fun h => by rw [Bd.returns] at h; cases h)
          refine ⟨_, _, pre0 _ ?_, hrun, hended, _, _, rfl, ?_, ⟨_, rfl⟩, hW, hsame.mono (by decide) (by decide)⟩
          · show Steps p.tables e below (s₁.setTop (mkF m 0 #[.val (.ref a1)] [])) _
            refine XS.aloadN X0.here hx rfl (hb hby d8_0) rfl rfl ?_
            show Steps p.tables e below (s₁.setTop (mkF m 1 #[.val (.ref a1)] [(.ref a1)])) _
            refine st1 _ ?_
            show Steps p.tables e below (T1.setTop (mkF m 4 #[.val (.ref a1)] [(.long q2)])) _
            refine XS.lconst X1.here hx rfl (hb hby d8_4) ?_
            show Steps p.tables e below (T1.setTop (mkF m 5 #[.val (.ref a1)] [(.long (0 : Int64)), (.long q2)])) _
            refine XS.lcmp X1.here hx rfl (hb hby d8_5) rfl ?_
            show Steps p.tables e below (T1.setTop (mkF m 6 #[.val (.ref a1)] [(.int (lcmpW q2 (0 : Int64)))])) _
            refine XS.ifNo X1.here hx rfl (hb hby d8_6) rfl ((if0 _ _).trans (tlt c0).2.2.2) ?_
            show Steps p.tables e below (T1.setTop (mkF m 9 #[.val (.ref a1)] [])) _
            refine XS.aloadN X1.here hx rfl (hb hby d8_9) rfl rfl ?_
            show Steps p.tables e below (T1.setTop (mkF m 10 #[.val (.ref a1)] [(.ref a1)])) _
            refine st2 _ ?_
            show Steps p.tables e below (T2.setTop (mkF m 13 #[.val (.ref a1)] [(.int p4)])) _
            refine XS.ifNo X2.here hx rfl (hb hby d8_13) rfl ((if0 _ _).trans (feq c1).1) ?_
            show Steps p.tables e below (T2.setTop (mkF m 16 #[.val (.ref a1)] [])) _
            refine XS.aloadN X2.here hx rfl (hb hby d8_16) rfl rfl ?_
            show Steps p.tables e below (T2.setTop (mkF m 17 #[.val (.ref a1)] [(.ref a1)])) _
            refine st3 _ ?_
            show Steps p.tables e below (T3.setTop (mkF m 20 #[.val (.ref a1)] [(.int p5)])) _
            refine XS.ifNo X3.here hx rfl (hb hby d8_20) rfl ((if0 _ _).trans (teq c2).2) ?_
            show Steps p.tables e below (T3.setTop (mkF m 23 #[.val (.ref a1)] [])) _
            refine XS.aloadN X3.here hx rfl (hb hby d8_23) rfl rfl ?_
            show Steps p.tables e below (T3.setTop (mkF m 24 #[.val (.ref a1)] [(.ref a1)])) _
            refine st4 _ ?_
            show Steps p.tables e below (T4.setTop (mkF m 27 #[.val (.ref a1)] [(.int p6)])) _
            refine XS.ifNo X4.here hx rfl (hb hby d8_27) rfl ((if0 _ _).trans (teq c3).2) ?_
            show Steps p.tables e below (T4.setTop (mkF m 30 #[.val (.ref a1)] [])) _
            refine XS.iconst X4.here hx rfl (hb hby d8_30) ?_
            show Steps p.tables e below (T4.setTop (mkF m 31 #[.val (.ref a1)] [(.int (1 : Int32))])) _
            refine XS.goto X4.here hx rfl (pc0 := 31) (pc' := 35) rfl (hb hby d8_31) (by decide) (by decide) ?_
            show Steps p.tables e below (T4.setTop (mkF m 35 #[.val (.ref a1)] [(.int (1 : Int32))])) _
            exact retN X4 hx (t := .boolean) Bd.returns (by simp) (hb hby d8_35) hr
          · show Q_rm8 Z a1 q2 p4 p5 p6 h0 n0 _ T4.heap _
            rw [e4]
            exact ⟨by simp only [if_pos c0, if_neg c1, if_pos c2, if_pos c3], N0, rfl⟩
        · skip
          obtain ⟨T1, X1, e1, st1⟩ := getF X0 hx hZ hown (host := "") (Or.inl (hw _ (List.mem_of_getElem? (i := 9) rfl))) Via.refl e0 F1 (g := (mkF m 1 #[.val (.ref a1)] [(.ref a1)])) rfl rfl (hb hby d8_1)
          obtain ⟨T2, X2, e2, st2⟩ := getF X1 hx hZ hown (host := "") (Or.inl (hw _ (List.mem_of_getElem? (i := 13) rfl))) Via.refl e1 F2 (g := (mkF m 10 #[.val (.ref a1)] [(.ref a1)])) rfl rfl (hb hby d8_10)
          obtain ⟨T3, X3, e3, st3⟩ := getF X2 hx hZ hown (host := "") (Or.inl (hw _ (List.mem_of_getElem? (i := 15) rfl))) Via.refl e2 F3 (g := (mkF m 17 #[.val (.ref a1)] [(.ref a1)])) rfl rfl (hb hby d8_17)
          obtain ⟨T4, X4, e4, st4⟩ := getF X3 hx hZ hown (host := "") (Or.inl (hw _ (List.mem_of_getElem? (i := 17) rfl))) Via.refl e3 F4 (g := (mkF m 24 #[.val (.ref a1)] [(.ref a1)])) rfl rfl (hb hby d8_24)
          obtain ⟨fs, hr, hrun, hended, hW, hsame⟩ := X4.leave (v := some (.int (0 : Int32))) (fun h => by rw [Bd.returns] at h; cases h)
          refine ⟨_, _, pre0 _ ?_, hrun, hended, _, _, rfl, ?_, ⟨_, rfl⟩, hW, hsame.mono (by decide) (by decide)⟩
          · show Steps p.tables e below (s₁.setTop (mkF m 0 #[.val (.ref a1)] [])) _
            refine XS.aloadN X0.here hx rfl (hb hby d8_0) rfl rfl ?_
            show Steps p.tables e below (s₁.setTop (mkF m 1 #[.val (.ref a1)] [(.ref a1)])) _
            refine st1 _ ?_
            show Steps p.tables e below (T1.setTop (mkF m 4 #[.val (.ref a1)] [(.long q2)])) _
            refine XS.lconst X1.here hx rfl (hb hby d8_4) ?_
            show Steps p.tables e below (T1.setTop (mkF m 5 #[.val (.ref a1)] [(.long (0 : Int64)), (.long q2)])) _
            refine XS.lcmp X1.here hx rfl (hb hby d8_5) rfl ?_
            show Steps p.tables e below (T1.setTop (mkF m 6 #[.val (.ref a1)] [(.int (lcmpW q2 (0 : Int64)))])) _
            refine XS.ifNo X1.here hx rfl (hb hby d8_6) rfl ((if0 _ _).trans (tlt c0).2.2.2) ?_
            show Steps p.tables e below (T1.setTop (mkF m 9 #[.val (.ref a1)] [])) _
            refine XS.aloadN X1.here hx rfl (hb hby d8_9) rfl rfl ?_
            show Steps p.tables e below (T1.setTop (mkF m 10 #[.val (.ref a1)] [(.ref a1)])) _
            refine st2 _ ?_
            show Steps p.tables e below (T2.setTop (mkF m 13 #[.val (.ref a1)] [(.int p4)])) _
            refine XS.ifNo X2.here hx rfl (hb hby d8_13) rfl ((if0 _ _).trans (feq c1).1) ?_
            show Steps p.tables e below (T2.setTop (mkF m 16 #[.val (.ref a1)] [])) _
            refine XS.aloadN X2.here hx rfl (hb hby d8_16) rfl rfl ?_
            show Steps p.tables e below (T2.setTop (mkF m 17 #[.val (.ref a1)] [(.ref a1)])) _
            refine st3 _ ?_
            show Steps p.tables e below (T3.setTop (mkF m 20 #[.val (.ref a1)] [(.int p5)])) _
            refine XS.ifNo X3.here hx rfl (hb hby d8_20) rfl ((if0 _ _).trans (teq c2).2) ?_
            show Steps p.tables e below (T3.setTop (mkF m 23 #[.val (.ref a1)] [])) _
            refine XS.aloadN X3.here hx rfl (hb hby d8_23) rfl rfl ?_
            show Steps p.tables e below (T3.setTop (mkF m 24 #[.val (.ref a1)] [(.ref a1)])) _
            refine st4 _ ?_
            show Steps p.tables e below (T4.setTop (mkF m 27 #[.val (.ref a1)] [(.int p6)])) _
            refine XS.ifYes X4.here hx rfl (pc0 := 27) (pc' := 34) rfl (hb hby d8_27) rfl ((if0 _ _).trans (feq c3).2) (by decide) (by decide) ?_
            show Steps p.tables e below (T4.setTop (mkF m 34 #[.val (.ref a1)] [])) _
            refine XS.iconst X4.here hx rfl (hb hby d8_34) ?_
            show Steps p.tables e below (T4.setTop (mkF m 35 #[.val (.ref a1)] [(.int (0 : Int32))])) _
            exact retN X4 hx (t := .boolean) Bd.returns (by simp) (hb hby d8_35) hr
          · show Q_rm8 Z a1 q2 p4 p5 p6 h0 n0 _ T4.heap _
            rw [e4]
            exact ⟨by simp only [if_pos c0, if_neg c1, if_pos c2, if_neg c3], N0, rfl⟩
      · skip
        obtain ⟨T1, X1, e1, st1⟩ := getF X0 hx hZ hown (host := "") (Or.inl (hw _ (List.mem_of_getElem? (i := 9) rfl))) Via.refl e0 F1 (g := (mkF m 1 #[.val (.ref a1)] [(.ref a1)])) rfl rfl (hb hby d8_1)
        obtain ⟨T2, X2, e2, st2⟩ := getF X1 hx hZ hown (host := "") (Or.inl (hw _ (List.mem_of_getElem? (i := 13) rfl))) Via.refl e1 F2 (g := (mkF m 10 #[.val (.ref a1)] [(.ref a1)])) rfl rfl (hb hby d8_10)
        obtain ⟨T3, X3, e3, st3⟩ := getF X2 hx hZ hown (host := "") (Or.inl (hw _ (List.mem_of_getElem? (i := 15) rfl))) Via.refl e2 F3 (g := (mkF m 17 #[.val (.ref a1)] [(.ref a1)])) rfl rfl (hb hby d8_17)
        obtain ⟨fs, hr, hrun, hended, hW, hsame⟩ := X3.leave (v := some (.int (0 : Int32))) (fun h => by rw [Bd.returns] at h; cases h)
        refine ⟨_, _, pre0 _ ?_, hrun, hended, _, _, rfl, ?_, ⟨_, rfl⟩, hW, hsame.mono (by decide) (by decide)⟩
        · show Steps p.tables e below (s₁.setTop (mkF m 0 #[.val (.ref a1)] [])) _
          refine XS.aloadN X0.here hx rfl (hb hby d8_0) rfl rfl ?_
          show Steps p.tables e below (s₁.setTop (mkF m 1 #[.val (.ref a1)] [(.ref a1)])) _
          refine st1 _ ?_
          show Steps p.tables e below (T1.setTop (mkF m 4 #[.val (.ref a1)] [(.long q2)])) _
          refine XS.lconst X1.here hx rfl (hb hby d8_4) ?_
          show Steps p.tables e below (T1.setTop (mkF m 5 #[.val (.ref a1)] [(.long (0 : Int64)), (.long q2)])) _
          refine XS.lcmp X1.here hx rfl (hb hby d8_5) rfl ?_
          show Steps p.tables e below (T1.setTop (mkF m 6 #[.val (.ref a1)] [(.int (lcmpW q2 (0 : Int64)))])) _
          refine XS.ifNo X1.here hx rfl (hb hby d8_6) rfl ((if0 _ _).trans (tlt c0).2.2.2) ?_
          show Steps p.tables e below (T1.setTop (mkF m 9 #[.val (.ref a1)] [])) _
          refine XS.aloadN X1.here hx rfl (hb hby d8_9) rfl rfl ?_
          show Steps p.tables e below (T1.setTop (mkF m 10 #[.val (.ref a1)] [(.ref a1)])) _
          refine st2 _ ?_
          show Steps p.tables e below (T2.setTop (mkF m 13 #[.val (.ref a1)] [(.int p4)])) _
          refine XS.ifNo X2.here hx rfl (hb hby d8_13) rfl ((if0 _ _).trans (feq c1).1) ?_
          show Steps p.tables e below (T2.setTop (mkF m 16 #[.val (.ref a1)] [])) _
          refine XS.aloadN X2.here hx rfl (hb hby d8_16) rfl rfl ?_
          show Steps p.tables e below (T2.setTop (mkF m 17 #[.val (.ref a1)] [(.ref a1)])) _
          refine st3 _ ?_
          show Steps p.tables e below (T3.setTop (mkF m 20 #[.val (.ref a1)] [(.int p5)])) _
          refine XS.ifYes X3.here hx rfl (pc0 := 20) (pc' := 34) rfl (hb hby d8_20) rfl ((if0 _ _).trans (feq c2).2) (by decide) (by decide) ?_
          show Steps p.tables e below (T3.setTop (mkF m 34 #[.val (.ref a1)] [])) _
          refine XS.iconst X3.here hx rfl (hb hby d8_34) ?_
          show Steps p.tables e below (T3.setTop (mkF m 35 #[.val (.ref a1)] [(.int (0 : Int32))])) _
          exact retN X3 hx (t := .boolean) Bd.returns (by simp) (hb hby d8_35) hr
        · show Q_rm8 Z a1 q2 p4 p5 p6 h0 n0 _ T3.heap _
          rw [e3]
          exact ⟨by simp only [if_pos c0, if_neg c1, if_neg c2], N0, rfl⟩
  · skip
    obtain ⟨T1, X1, e1, st1⟩ := getF X0 hx hZ hown (host := "") (Or.inl (hw _ (List.mem_of_getElem? (i := 9) rfl))) Via.refl e0 F1 (g := (mkF m 1 #[.val (.ref a1)] [(.ref a1)])) rfl rfl (hb hby d8_1)
    obtain ⟨fs, hr, hrun, hended, hW, hsame⟩ := X1.leave (v := some (.int (0 : Int32))) (fun h => by rw [Bd.returns] at h; cases h)
    refine ⟨_, _, pre0 _ ?_, hrun, hended, _, _, rfl, ?_, ⟨_, rfl⟩, hW, hsame.mono (by decide) (by decide)⟩
    · show Steps p.tables e below (s₁.setTop (mkF m 0 #[.val (.ref a1)] [])) _
      refine XS.aloadN X0.here hx rfl (hb hby d8_0) rfl rfl ?_
      show Steps p.tables e below (s₁.setTop (mkF m 1 #[.val (.ref a1)] [(.ref a1)])) _
      refine st1 _ ?_
      show Steps p.tables e below (T1.setTop (mkF m 4 #[.val (.ref a1)] [(.long q2)])) _
      refine XS.lconst X1.here hx rfl (hb hby d8_4) ?_
      show Steps p.tables e below (T1.setTop (mkF m 5 #[.val (.ref a1)] [(.long (0 : Int64)), (.long q2)])) _
      refine XS.lcmp X1.here hx rfl (hb hby d8_5) rfl ?_
      show Steps p.tables e below (T1.setTop (mkF m 6 #[.val (.ref a1)] [(.int (lcmpW q2 (0 : Int64)))])) _
      refine XS.ifYes X1.here hx rfl (pc0 := 6) (pc' := 34) rfl (hb hby d8_6) rfl ((if0 _ _).trans (flt c0).2.2.2) (by decide) (by decide) ?_
      show Steps p.tables e below (T1.setTop (mkF m 34 #[.val (.ref a1)] [])) _
      refine XS.iconst X1.here hx rfl (hb hby d8_34) ?_
      show Steps p.tables e below (T1.setTop (mkF m 35 #[.val (.ref a1)] [(.int (0 : Int32))])) _
      exact retN X1 hx (t := .boolean) Bd.returns (by simp) (hb hby d8_35) hr
    · show Q_rm8 Z a1 q2 p4 p5 p6 h0 n0 _ T1.heap _
      rw [e1]
      exact ⟨by simp only [if_neg c0], N0, rfl⟩

theorem pd_at__JZZZZZZ_V : parseMethodDescriptor "(JZZZZZZ)V" = some ⟨[.long, .boolean, .boolean, .boolean, .boolean, .boolean, .boolean], none⟩ := by decide +kernel
theorem pd_at___Z : parseMethodDescriptor "()Z" = some ⟨[], some .boolean⟩ := by decide +kernel
theorem ef_at_ (m : MethodId) (q1 : Int64) (p2 : Int32) : entryFrame m #[(.long q1), (.int p2)] maxLocals = mkF m 0 #[.val (.long q1), .second, .val (.int p2), .unset, .unset, .unset, .unset, .unset, .unset, .unset, .unset] [] := by first | (simp [entryFrame, mkF, argsToLocals, Value.category, maxLocals]; done) | rfl
def Q_rm0 (Z : State) (q1 : Int64) (p2 : Int32)  (h0 : Heap) (n0 : Nat) (v : Option Value) (h : Heap) (L : List Loc) : Prop := v = some (.int (1 : Int32)) ∧ Fr n0 L
theorem pn_rm0 : plainName "com/example/cairn/cairn/view/FreshnessFreshPinLaw" = true := by first | (simp [plainName, overriddenIn]; done) | decide +kernel
set_option maxRecDepth 65536 in
set_option maxHeartbeats 40000000 in
theorem rm0 (l : Launch) (Z : State) (a0 : Array Value) (hw : ∀ d ∈ tables_1, d.before a0 Z = true) (ws : List Jvm.Cond) (q1 : Int64) (p2 : Int32)  (h0 : Heap) (n0 : Nat) (Z0 : n0 ≤ h0.size)  :
    MetFree l x (head1 (Jvm.Cond.code x code maxLocals ret :: ws) room_1) (fun a U => a = #[(.long q1), (.int p2)] ∧ Z.Warmed39 U.vm ∧ U.heap = h0) (fun _ _ _ _ _ => True) (fun _ U o U' => ∃ v L, o = .returned v ∧ Q_rm0 Z q1 p2  h0 n0 v U'.heap L ∧ FrameEnd U o U' L room_1.cells room_1.slots) := by
  refine MetFree.of_bodySF (plainFor_of_name pn_rm0) hisR ?_
  intro p e s m args below meth c s₁ Bd hml0 hP hK
  obtain ⟨rfl, hZ, hh⟩ := hP
  have hx := Bd.exec
  have hby := Bd.bytes
  have hml : c.maxLocals = 11 := hml0
  have hown : s.vm.findClass "com/example/cairn/cairn/view/FreshnessFreshPinLaw" = some m.cls := findClass_of_methodNamed Bd.named
  have hnm := (name_of_methodNamed Bd.named Bd.method).1
  have X0 : Stand p l e room_1 s m #[(.long q1), (.int p2)] below meth c s₁ [] 0 0 := Stand.of_body Bd
  have e0 : s₁.heap = h0 := by rw [← hh, Bd.state]; rfl
  have N0 := Fr.nil n0
  have pre0 : ∀ t, Steps p.tables e below (s₁.setTop (mkF m 0 #[.val (.long q1), .second, .val (.int p2), .unset, .unset, .unset, .unset, .unset, .unset, .unset, .unset] [])) t → Steps p.tables e below (s₁.setTop (entryFrame m #[(.long q1), (.int p2)] maxLocals)) t := fun t k => castTop (ef_at_ m q1 p2) k
  obtain ⟨f1, h_f1⟩ : ∃ z : Int32, z = (if (p2 &&& (1 : Int32)) = (0 : Int32) then (0 : Int32) else (1 : Int32)) := ⟨_, rfl⟩
  have hb1 : f1 = 0 ∨ f1 = 1 := by rw [h_f1]; exact own_01 _
  obtain ⟨f2, h_f2⟩ : ∃ z : Int32, z = (if (p2 &&& (2 : Int32)) = (0 : Int32) then (0 : Int32) else (1 : Int32)) := ⟨_, rfl⟩
  have hb2 : f2 = 0 ∨ f2 = 1 := by rw [h_f2]; exact own_01 _
  obtain ⟨f3, h_f3⟩ : ∃ z : Int32, z = (if (p2 &&& (4 : Int32)) = (0 : Int32) then (0 : Int32) else (1 : Int32)) := ⟨_, rfl⟩
  have hb3 : f3 = 0 ∨ f3 = 1 := by rw [h_f3]; exact own_01 _
  obtain ⟨f4, h_f4⟩ : ∃ z : Int32, z = (if (p2 &&& (8 : Int32)) = (0 : Int32) then (0 : Int32) else (1 : Int32)) := ⟨_, rfl⟩
  have hb4 : f4 = 0 ∨ f4 = 1 := by rw [h_f4]; exact own_01 _
  obtain ⟨f5, h_f5⟩ : ∃ z : Int32, z = (if (p2 &&& (16 : Int32)) = (0 : Int32) then (0 : Int32) else (1 : Int32)) := ⟨_, rfl⟩
  have hb5 : f5 = 0 ∨ f5 = 1 := by rw [h_f5]; exact own_01 _
  obtain ⟨f6, h_f6⟩ : ∃ z : Int32, z = (if (p2 &&& (32 : Int32)) = (0 : Int32) then (0 : Int32) else (1 : Int32)) := ⟨_, rfl⟩
  have hb6 : f6 = 0 ∨ f6 = 1 := by rw [h_f6]; exact own_01 _
  obtain ⟨T1, h1, X1, e1, E1, A1, D1, -, st1⟩ := newO X0 hx hZ hown (hw _ (List.mem_of_getElem? (i := 0) rfl)) (hw _ (List.mem_of_getElem? (i := 1) rfl)) (hw _ (List.mem_of_getElem? (i := 2) rfl)) e0 (g := (mkF m 80 #[.val (.long q1), .second, .val (.int p2), .val (.int f1), .val (.int f2), .val (.int f3), .val (.int f4), .val (.int f5), .val (.int f6), .unset, .unset] [])) rfl (hb hby at_80) (by decide) (by decide)
  obtain ⟨b1, g1⟩ : ∃ z, z = h0.size := ⟨_, rfl⟩
  rw [← g1] at A1 D1 st1
  have F_version_b1 : Fld Z h1 b1 "com/example/cairn/cairn/view/Freshness" "version" "J" (.long (0 : Int64)) := D1 (Or.inr (hw _ (List.mem_of_getElem? (i := 10) rfl))) (ty := .long) (by decide)
  have F_readable_b1 : Fld Z h1 b1 "com/example/cairn/cairn/view/Freshness" "readable" "Z" (.int (0 : Int32)) := D1 (Or.inr (hw _ (List.mem_of_getElem? (i := 12) rfl))) (ty := .boolean) (by decide)
  have F_recorded_b1 : Fld Z h1 b1 "com/example/cairn/cairn/view/Freshness" "recorded" "Z" (.int (0 : Int32)) := D1 (Or.inr (hw _ (List.mem_of_getElem? (i := 14) rfl))) (ty := .boolean) (by decide)
  have F_uncounted_b1 : Fld Z h1 b1 "com/example/cairn/cairn/view/Freshness" "uncounted" "Z" (.int (0 : Int32)) := D1 (Or.inr (hw _ (List.mem_of_getElem? (i := 16) rfl))) (ty := .boolean) (by decide)
  have F_changed_b1 : Fld Z h1 b1 "com/example/cairn/cairn/view/Freshness" "changed" "Z" (.int (0 : Int32)) := D1 (Or.inr (hw _ (List.mem_of_getElem? (i := 18) rfl))) (ty := .boolean) (by decide)
  have F_resolved_b1 : Fld Z h1 b1 "com/example/cairn/cairn/view/Freshness" "resolved" "Z" (.int (0 : Int32)) := D1 (Or.inr (hw _ (List.mem_of_getElem? (i := 20) rfl))) (ty := .boolean) (by decide)
  have F_permitted_b1 : Fld Z h1 b1 "com/example/cairn/cairn/view/Freshness" "permitted" "Z" (.int (0 : Int32)) := D1 (Or.inr (hw _ (List.mem_of_getElem? (i := 22) rfl))) (ty := .boolean) (by decide)
  have gb : n0 ≤ b1 := Nat.le_trans Z0 (Nat.le_of_eq g1.symm)
  obtain ⟨_, _, ⟨T2, L2, k2, n2⟩, -, X2, ⟨Lc2, hQ2, l2, y2, z2⟩, st2⟩ := X1.specialBack hx (y := (⟨"com/example/cairn/cairn/view/Freshness", "<init>", "(JZZZZZZ)V"⟩ : MethodName)) rfl hown (mvT hZ (hw _ (List.mem_of_getElem? (i := 3) rfl))) (mvT hZ (hw _ (List.mem_of_getElem? (i := 4) rfl))) (mvT hZ (hw _ (List.mem_of_getElem? (i := 5) rfl))) (by decide) (backOf (W := 1) (rm1 l Z a0 hw [] b1 q1 f1 f2 f3 f4 f5 f6 h1 n0 (Nat.le_trans Z0 E1.1) A1 F_version_b1 F_readable_b1 F_recorded_b1 F_uncounted_b1 F_changed_b1 F_resolved_b1 F_permitted_b1 gb hb1 hb2 hb3 hb4 hb5 hb6) hZ (hw _ (List.mem_of_getElem? (i := 5) rfl)) (hw _ (List.mem_of_getElem? (i := 2) rfl)) (by decide) (by decide)) (g := (mkF m 96 #[.val (.long q1), .second, .val (.int p2), .val (.int f1), .val (.int f2), .val (.int f3), .val (.int f4), .val (.int f5), .val (.int f6), .unset, .unset] [(.int f6), (.int f5), (.int f4), (.int f3), (.int f2), (.int f1), (.long q1), (.ref b1), (.ref b1)])) rfl (by rw [hml]; rfl) (Steps.refl _) (a := b1) (argsL := [(.long q1), (.int f1), (.int f2), (.int f3), (.int f4), (.int f5), (.int f6)]) (rest := [(.ref b1)]) (lenOf pd_at__JZZZZZZ_V rfl) rfl (by show 2 * 0 + _ ≤ _; exact Nat.le_of_eq rfl) (hb hby at_96) (fun _ _ => ⟨rfl, e1, (by decide : 1 + 0 ≤ _), (by decide : 7 + 0 ≤ _)⟩)
  dsimp only [Pt.U, Pt.locs, Pt.cells, Pt.slots] at X2 l2 y2 z2 st2 hQ2
  subst l2 y2 z2
  obtain ⟨rfl, N2q, K2, E2, Fv2, Fr2, Fu2, Fc2⟩ := hQ2
  have N2 := Fr.app N0 N2q
  obtain ⟨cq3, kq3, q3a, q3b, q3c⟩ := isOf hZ rfl E2
  obtain ⟨_, _, ⟨T3, L3, k3, n3⟩, -, X3, ⟨Lc3, hQ3, l3, y3, z3⟩, st3⟩ := X2.virtualBack hx (y := (⟨"com/example/cairn/cairn/view/Freshness", "fresh", "()Z"⟩ : MethodName)) (z := (⟨"com/example/cairn/cairn/view/Freshness", "fresh", "()Z"⟩ : MethodName)) hown (mvT hZ (hw _ (List.mem_of_getElem? (i := 23) rfl))) (mvT hZ (hw _ (List.mem_of_getElem? (i := 24) rfl))) (notFace_of_selects (args := #[]) (mvT hZ (hw _ (List.mem_of_getElem? (i := 26) rfl)))) (mvT hZ (hw _ (List.mem_of_getElem? (i := 26) rfl))) (mvT hZ (hw _ (List.mem_of_getElem? (i := 25) rfl))) (by decide) (backOf (W := 0) (rm8 l Z a0 hw [] b1 q1 f2 f3 f4 T2.heap n0 (Nat.le_trans (Nat.le_trans Z0 E1.1) K2.1) Fv2 Fr2 Fu2 Fc2) hZ (hw _ (List.mem_of_getElem? (i := 27) rfl)) (hw _ (List.mem_of_getElem? (i := 2) rfl)) (by decide) (by decide)) q3a q3c (g := (mkF m 151 #[.val (.long q1), .second, .val (.int p2), .val (.int f1), .val (.int f2), .val (.int f3), .val (.int f4), .val (.int f5), .val (.int f6), .val (.ref b1), .val (.int (if (0 : Int32) < (lcmpW q1 (0 : Int64)) then (if f2 = (0 : Int32) then (0 : Int32) else (if f3 = (0 : Int32) then (if f4 = (0 : Int32) then (1 : Int32) else (0 : Int32)) else (0 : Int32))) else (0 : Int32)))] [(.ref b1)])) rfl (by rw [hml]; rfl) (Steps.refl _) (argsL := []) (rest := []) (lenOf pd_at___Z rfl) rfl (by show 2 * 0 + _ ≤ _; exact Nat.le_of_eq rfl) (hb hby at_151) (fun _ _ => ⟨rfl, rfl, (by decide : 1 + 0 ≤ _), (by decide : 7 + 0 ≤ _)⟩)
  dsimp only [Pt.U, Pt.locs, Pt.cells, Pt.slots] at X3 l3 y3 z3 st3 hQ3
  subst l3 y3 z3
  obtain ⟨rfl, N3q, e3⟩ := hQ3
  have N3 := Fr.app N2 N3q
  obtain ⟨fs, hr, hrun, hended, hW, hsame⟩ := X3.leave (v := some (.int (1 : Int32))) (fun h => by rw [Bd.returns] at h; cases h)
  refine ⟨_, _, pre0 _ ?_, hrun, hended, _, _, rfl, ?_, ⟨_, rfl⟩, hW, hsame.mono (by decide) (by decide)⟩
  · show Steps p.tables e below (s₁.setTop (mkF m 0 #[.val (.long q1), .second, .val (.int p2), .unset, .unset, .unset, .unset, .unset, .unset, .unset, .unset] [])) _
    refine XS.iloadN X0.here hx rfl (hb hby at_0) rfl ?_
    show Steps p.tables e below (s₁.setTop (mkF m 1 #[.val (.long q1), .second, .val (.int p2), .unset, .unset, .unset, .unset, .unset, .unset, .unset, .unset] [(.int p2)])) _
    refine XS.iconst X0.here hx rfl (hb hby at_1) ?_
    show Steps p.tables e below (s₁.setTop (mkF m 2 #[.val (.long q1), .second, .val (.int p2), .unset, .unset, .unset, .unset, .unset, .unset, .unset, .unset] [(.int (1 : Int32)), (.int p2)])) _
    refine XS.iand X0.here hx rfl (hb hby at_2) rfl ?_
    show Steps p.tables e below (s₁.setTop (mkF m 3 #[.val (.long q1), .second, .val (.int p2), .unset, .unset, .unset, .unset, .unset, .unset, .unset, .unset] [(.int (p2 &&& (1 : Int32)))])) _
    have sg3 : ∀ target, Steps p.tables e below (s₁.setTop (mkF m 11 #[.val (.long q1), .second, .val (.int p2), .unset, .unset, .unset, .unset, .unset, .unset, .unset, .unset] [(.int (if (p2 &&& (1 : Int32)) = (0 : Int32) then (0 : Int32) else (1 : Int32)))])) target → Steps p.tables e below (s₁.setTop (mkF m 3 #[.val (.long q1), .second, .val (.int p2), .unset, .unset, .unset, .unset, .unset, .unset, .unset, .unset] [(.int (p2 &&& (1 : Int32)))])) target := by
      intro target kt
      rcases Classical.em ((p2 &&& (1 : Int32)) = (0 : Int32)) with hr3_0 | hr3_0
      · (try simp only [if_pos hr3_0] at kt)
        refine XS.ifYes X0.here hx rfl (pc0 := 3) (pc' := 10) rfl (hb hby at_3) rfl ((if0 _ _).trans (teq hr3_0).1) (by decide) (by decide) ?_
        show Steps p.tables e below (s₁.setTop (mkF m 10 #[.val (.long q1), .second, .val (.int p2), .unset, .unset, .unset, .unset, .unset, .unset, .unset, .unset] [])) _
        refine XS.iconst X0.here hx rfl (hb hby at_10) ?_
        show Steps p.tables e below (s₁.setTop (mkF m 11 #[.val (.long q1), .second, .val (.int p2), .unset, .unset, .unset, .unset, .unset, .unset, .unset, .unset] [(.int (0 : Int32))])) _
        exact kt
      · (try simp only [if_neg hr3_0] at kt)
        refine XS.ifNo X0.here hx rfl (hb hby at_3) rfl ((if0 _ _).trans (feq hr3_0).1) ?_
        show Steps p.tables e below (s₁.setTop (mkF m 6 #[.val (.long q1), .second, .val (.int p2), .unset, .unset, .unset, .unset, .unset, .unset, .unset, .unset] [])) _
        refine XS.iconst X0.here hx rfl (hb hby at_6) ?_
        show Steps p.tables e below (s₁.setTop (mkF m 7 #[.val (.long q1), .second, .val (.int p2), .unset, .unset, .unset, .unset, .unset, .unset, .unset, .unset] [(.int (1 : Int32))])) _
        refine XS.goto X0.here hx rfl (pc0 := 7) (pc' := 11) rfl (hb hby at_7) (by decide) (by decide) ?_
        show Steps p.tables e below (s₁.setTop (mkF m 11 #[.val (.long q1), .second, .val (.int p2), .unset, .unset, .unset, .unset, .unset, .unset, .unset, .unset] [(.int (1 : Int32))])) _
        exact kt
    refine sg3 _ ?_
    show Steps p.tables e below (s₁.setTop (mkF m 11 #[.val (.long q1), .second, .val (.int p2), .unset, .unset, .unset, .unset, .unset, .unset, .unset, .unset] [(.int (if (p2 &&& (1 : Int32)) = (0 : Int32) then (0 : Int32) else (1 : Int32)))])) _
    rw [← h_f1]
    show Steps p.tables e below (s₁.setTop (mkF m 11 #[.val (.long q1), .second, .val (.int p2), .unset, .unset, .unset, .unset, .unset, .unset, .unset, .unset] [(.int f1)])) _
    refine XS.istoreN X0.here hx rfl (hb hby at_11) rfl (l' := #[.val (.long q1), .second, .val (.int p2), .val (.int f1), .unset, .unset, .unset, .unset, .unset, .unset, .unset]) rfl ?_
    show Steps p.tables e below (s₁.setTop (mkF m 12 #[.val (.long q1), .second, .val (.int p2), .val (.int f1), .unset, .unset, .unset, .unset, .unset, .unset, .unset] [])) _
    refine XS.iloadN X0.here hx rfl (hb hby at_12) rfl ?_
    show Steps p.tables e below (s₁.setTop (mkF m 13 #[.val (.long q1), .second, .val (.int p2), .val (.int f1), .unset, .unset, .unset, .unset, .unset, .unset, .unset] [(.int p2)])) _
    refine XS.iconst X0.here hx rfl (hb hby at_13) ?_
    show Steps p.tables e below (s₁.setTop (mkF m 14 #[.val (.long q1), .second, .val (.int p2), .val (.int f1), .unset, .unset, .unset, .unset, .unset, .unset, .unset] [(.int (2 : Int32)), (.int p2)])) _
    refine XS.iand X0.here hx rfl (hb hby at_14) rfl ?_
    show Steps p.tables e below (s₁.setTop (mkF m 15 #[.val (.long q1), .second, .val (.int p2), .val (.int f1), .unset, .unset, .unset, .unset, .unset, .unset, .unset] [(.int (p2 &&& (2 : Int32)))])) _
    have sg15 : ∀ target, Steps p.tables e below (s₁.setTop (mkF m 23 #[.val (.long q1), .second, .val (.int p2), .val (.int f1), .unset, .unset, .unset, .unset, .unset, .unset, .unset] [(.int (if (p2 &&& (2 : Int32)) = (0 : Int32) then (0 : Int32) else (1 : Int32)))])) target → Steps p.tables e below (s₁.setTop (mkF m 15 #[.val (.long q1), .second, .val (.int p2), .val (.int f1), .unset, .unset, .unset, .unset, .unset, .unset, .unset] [(.int (p2 &&& (2 : Int32)))])) target := by
      intro target kt
      rcases Classical.em ((p2 &&& (2 : Int32)) = (0 : Int32)) with hr15_0 | hr15_0
      · (try simp only [if_pos hr15_0] at kt)
        refine XS.ifYes X0.here hx rfl (pc0 := 15) (pc' := 22) rfl (hb hby at_15) rfl ((if0 _ _).trans (teq hr15_0).1) (by decide) (by decide) ?_
        show Steps p.tables e below (s₁.setTop (mkF m 22 #[.val (.long q1), .second, .val (.int p2), .val (.int f1), .unset, .unset, .unset, .unset, .unset, .unset, .unset] [])) _
        refine XS.iconst X0.here hx rfl (hb hby at_22) ?_
        show Steps p.tables e below (s₁.setTop (mkF m 23 #[.val (.long q1), .second, .val (.int p2), .val (.int f1), .unset, .unset, .unset, .unset, .unset, .unset, .unset] [(.int (0 : Int32))])) _
        exact kt
      · (try simp only [if_neg hr15_0] at kt)
        refine XS.ifNo X0.here hx rfl (hb hby at_15) rfl ((if0 _ _).trans (feq hr15_0).1) ?_
        show Steps p.tables e below (s₁.setTop (mkF m 18 #[.val (.long q1), .second, .val (.int p2), .val (.int f1), .unset, .unset, .unset, .unset, .unset, .unset, .unset] [])) _
        refine XS.iconst X0.here hx rfl (hb hby at_18) ?_
        show Steps p.tables e below (s₁.setTop (mkF m 19 #[.val (.long q1), .second, .val (.int p2), .val (.int f1), .unset, .unset, .unset, .unset, .unset, .unset, .unset] [(.int (1 : Int32))])) _
        refine XS.goto X0.here hx rfl (pc0 := 19) (pc' := 23) rfl (hb hby at_19) (by decide) (by decide) ?_
        show Steps p.tables e below (s₁.setTop (mkF m 23 #[.val (.long q1), .second, .val (.int p2), .val (.int f1), .unset, .unset, .unset, .unset, .unset, .unset, .unset] [(.int (1 : Int32))])) _
        exact kt
    refine sg15 _ ?_
    show Steps p.tables e below (s₁.setTop (mkF m 23 #[.val (.long q1), .second, .val (.int p2), .val (.int f1), .unset, .unset, .unset, .unset, .unset, .unset, .unset] [(.int (if (p2 &&& (2 : Int32)) = (0 : Int32) then (0 : Int32) else (1 : Int32)))])) _
    rw [← h_f2]
    show Steps p.tables e below (s₁.setTop (mkF m 23 #[.val (.long q1), .second, .val (.int p2), .val (.int f1), .unset, .unset, .unset, .unset, .unset, .unset, .unset] [(.int f2)])) _
    refine XS.istore X0.here hx rfl (hb hby at_23) rfl (l' := #[.val (.long q1), .second, .val (.int p2), .val (.int f1), .val (.int f2), .unset, .unset, .unset, .unset, .unset, .unset]) rfl ?_
    show Steps p.tables e below (s₁.setTop (mkF m 25 #[.val (.long q1), .second, .val (.int p2), .val (.int f1), .val (.int f2), .unset, .unset, .unset, .unset, .unset, .unset] [])) _
    refine XS.iloadN X0.here hx rfl (hb hby at_25) rfl ?_
    show Steps p.tables e below (s₁.setTop (mkF m 26 #[.val (.long q1), .second, .val (.int p2), .val (.int f1), .val (.int f2), .unset, .unset, .unset, .unset, .unset, .unset] [(.int p2)])) _
    refine XS.iconst X0.here hx rfl (hb hby at_26) ?_
    show Steps p.tables e below (s₁.setTop (mkF m 27 #[.val (.long q1), .second, .val (.int p2), .val (.int f1), .val (.int f2), .unset, .unset, .unset, .unset, .unset, .unset] [(.int (4 : Int32)), (.int p2)])) _
    refine XS.iand X0.here hx rfl (hb hby at_27) rfl ?_
    show Steps p.tables e below (s₁.setTop (mkF m 28 #[.val (.long q1), .second, .val (.int p2), .val (.int f1), .val (.int f2), .unset, .unset, .unset, .unset, .unset, .unset] [(.int (p2 &&& (4 : Int32)))])) _
    have sg28 : ∀ target, Steps p.tables e below (s₁.setTop (mkF m 36 #[.val (.long q1), .second, .val (.int p2), .val (.int f1), .val (.int f2), .unset, .unset, .unset, .unset, .unset, .unset] [(.int (if (p2 &&& (4 : Int32)) = (0 : Int32) then (0 : Int32) else (1 : Int32)))])) target → Steps p.tables e below (s₁.setTop (mkF m 28 #[.val (.long q1), .second, .val (.int p2), .val (.int f1), .val (.int f2), .unset, .unset, .unset, .unset, .unset, .unset] [(.int (p2 &&& (4 : Int32)))])) target := by
      intro target kt
      rcases Classical.em ((p2 &&& (4 : Int32)) = (0 : Int32)) with hr28_0 | hr28_0
      · (try simp only [if_pos hr28_0] at kt)
        refine XS.ifYes X0.here hx rfl (pc0 := 28) (pc' := 35) rfl (hb hby at_28) rfl ((if0 _ _).trans (teq hr28_0).1) (by decide) (by decide) ?_
        show Steps p.tables e below (s₁.setTop (mkF m 35 #[.val (.long q1), .second, .val (.int p2), .val (.int f1), .val (.int f2), .unset, .unset, .unset, .unset, .unset, .unset] [])) _
        refine XS.iconst X0.here hx rfl (hb hby at_35) ?_
        show Steps p.tables e below (s₁.setTop (mkF m 36 #[.val (.long q1), .second, .val (.int p2), .val (.int f1), .val (.int f2), .unset, .unset, .unset, .unset, .unset, .unset] [(.int (0 : Int32))])) _
        exact kt
      · (try simp only [if_neg hr28_0] at kt)
        refine XS.ifNo X0.here hx rfl (hb hby at_28) rfl ((if0 _ _).trans (feq hr28_0).1) ?_
        show Steps p.tables e below (s₁.setTop (mkF m 31 #[.val (.long q1), .second, .val (.int p2), .val (.int f1), .val (.int f2), .unset, .unset, .unset, .unset, .unset, .unset] [])) _
        refine XS.iconst X0.here hx rfl (hb hby at_31) ?_
        show Steps p.tables e below (s₁.setTop (mkF m 32 #[.val (.long q1), .second, .val (.int p2), .val (.int f1), .val (.int f2), .unset, .unset, .unset, .unset, .unset, .unset] [(.int (1 : Int32))])) _
        refine XS.goto X0.here hx rfl (pc0 := 32) (pc' := 36) rfl (hb hby at_32) (by decide) (by decide) ?_
        show Steps p.tables e below (s₁.setTop (mkF m 36 #[.val (.long q1), .second, .val (.int p2), .val (.int f1), .val (.int f2), .unset, .unset, .unset, .unset, .unset, .unset] [(.int (1 : Int32))])) _
        exact kt
    refine sg28 _ ?_
    show Steps p.tables e below (s₁.setTop (mkF m 36 #[.val (.long q1), .second, .val (.int p2), .val (.int f1), .val (.int f2), .unset, .unset, .unset, .unset, .unset, .unset] [(.int (if (p2 &&& (4 : Int32)) = (0 : Int32) then (0 : Int32) else (1 : Int32)))])) _
    rw [← h_f3]
    show Steps p.tables e below (s₁.setTop (mkF m 36 #[.val (.long q1), .second, .val (.int p2), .val (.int f1), .val (.int f2), .unset, .unset, .unset, .unset, .unset, .unset] [(.int f3)])) _
    refine XS.istore X0.here hx rfl (hb hby at_36) rfl (l' := #[.val (.long q1), .second, .val (.int p2), .val (.int f1), .val (.int f2), .val (.int f3), .unset, .unset, .unset, .unset, .unset]) rfl ?_
    show Steps p.tables e below (s₁.setTop (mkF m 38 #[.val (.long q1), .second, .val (.int p2), .val (.int f1), .val (.int f2), .val (.int f3), .unset, .unset, .unset, .unset, .unset] [])) _
    refine XS.iloadN X0.here hx rfl (hb hby at_38) rfl ?_
    show Steps p.tables e below (s₁.setTop (mkF m 39 #[.val (.long q1), .second, .val (.int p2), .val (.int f1), .val (.int f2), .val (.int f3), .unset, .unset, .unset, .unset, .unset] [(.int p2)])) _
    refine XS.bipush X0.here hx rfl (hb hby at_39) ?_
    show Steps p.tables e below (s₁.setTop (mkF m 41 #[.val (.long q1), .second, .val (.int p2), .val (.int f1), .val (.int f2), .val (.int f3), .unset, .unset, .unset, .unset, .unset] [(.int (8 : Int32)), (.int p2)])) _
    refine XS.iand X0.here hx rfl (hb hby at_41) rfl ?_
    show Steps p.tables e below (s₁.setTop (mkF m 42 #[.val (.long q1), .second, .val (.int p2), .val (.int f1), .val (.int f2), .val (.int f3), .unset, .unset, .unset, .unset, .unset] [(.int (p2 &&& (8 : Int32)))])) _
    have sg42 : ∀ target, Steps p.tables e below (s₁.setTop (mkF m 50 #[.val (.long q1), .second, .val (.int p2), .val (.int f1), .val (.int f2), .val (.int f3), .unset, .unset, .unset, .unset, .unset] [(.int (if (p2 &&& (8 : Int32)) = (0 : Int32) then (0 : Int32) else (1 : Int32)))])) target → Steps p.tables e below (s₁.setTop (mkF m 42 #[.val (.long q1), .second, .val (.int p2), .val (.int f1), .val (.int f2), .val (.int f3), .unset, .unset, .unset, .unset, .unset] [(.int (p2 &&& (8 : Int32)))])) target := by
      intro target kt
      rcases Classical.em ((p2 &&& (8 : Int32)) = (0 : Int32)) with hr42_0 | hr42_0
      · (try simp only [if_pos hr42_0] at kt)
        refine XS.ifYes X0.here hx rfl (pc0 := 42) (pc' := 49) rfl (hb hby at_42) rfl ((if0 _ _).trans (teq hr42_0).1) (by decide) (by decide) ?_
        show Steps p.tables e below (s₁.setTop (mkF m 49 #[.val (.long q1), .second, .val (.int p2), .val (.int f1), .val (.int f2), .val (.int f3), .unset, .unset, .unset, .unset, .unset] [])) _
        refine XS.iconst X0.here hx rfl (hb hby at_49) ?_
        show Steps p.tables e below (s₁.setTop (mkF m 50 #[.val (.long q1), .second, .val (.int p2), .val (.int f1), .val (.int f2), .val (.int f3), .unset, .unset, .unset, .unset, .unset] [(.int (0 : Int32))])) _
        exact kt
      · (try simp only [if_neg hr42_0] at kt)
        refine XS.ifNo X0.here hx rfl (hb hby at_42) rfl ((if0 _ _).trans (feq hr42_0).1) ?_
        show Steps p.tables e below (s₁.setTop (mkF m 45 #[.val (.long q1), .second, .val (.int p2), .val (.int f1), .val (.int f2), .val (.int f3), .unset, .unset, .unset, .unset, .unset] [])) _
        refine XS.iconst X0.here hx rfl (hb hby at_45) ?_
        show Steps p.tables e below (s₁.setTop (mkF m 46 #[.val (.long q1), .second, .val (.int p2), .val (.int f1), .val (.int f2), .val (.int f3), .unset, .unset, .unset, .unset, .unset] [(.int (1 : Int32))])) _
        refine XS.goto X0.here hx rfl (pc0 := 46) (pc' := 50) rfl (hb hby at_46) (by decide) (by decide) ?_
        show Steps p.tables e below (s₁.setTop (mkF m 50 #[.val (.long q1), .second, .val (.int p2), .val (.int f1), .val (.int f2), .val (.int f3), .unset, .unset, .unset, .unset, .unset] [(.int (1 : Int32))])) _
        exact kt
    refine sg42 _ ?_
    show Steps p.tables e below (s₁.setTop (mkF m 50 #[.val (.long q1), .second, .val (.int p2), .val (.int f1), .val (.int f2), .val (.int f3), .unset, .unset, .unset, .unset, .unset] [(.int (if (p2 &&& (8 : Int32)) = (0 : Int32) then (0 : Int32) else (1 : Int32)))])) _
    rw [← h_f4]
    show Steps p.tables e below (s₁.setTop (mkF m 50 #[.val (.long q1), .second, .val (.int p2), .val (.int f1), .val (.int f2), .val (.int f3), .unset, .unset, .unset, .unset, .unset] [(.int f4)])) _
    refine XS.istore X0.here hx rfl (hb hby at_50) rfl (l' := #[.val (.long q1), .second, .val (.int p2), .val (.int f1), .val (.int f2), .val (.int f3), .val (.int f4), .unset, .unset, .unset, .unset]) rfl ?_
    show Steps p.tables e below (s₁.setTop (mkF m 52 #[.val (.long q1), .second, .val (.int p2), .val (.int f1), .val (.int f2), .val (.int f3), .val (.int f4), .unset, .unset, .unset, .unset] [])) _
    refine XS.iloadN X0.here hx rfl (hb hby at_52) rfl ?_
    show Steps p.tables e below (s₁.setTop (mkF m 53 #[.val (.long q1), .second, .val (.int p2), .val (.int f1), .val (.int f2), .val (.int f3), .val (.int f4), .unset, .unset, .unset, .unset] [(.int p2)])) _
    refine XS.bipush X0.here hx rfl (hb hby at_53) ?_
    show Steps p.tables e below (s₁.setTop (mkF m 55 #[.val (.long q1), .second, .val (.int p2), .val (.int f1), .val (.int f2), .val (.int f3), .val (.int f4), .unset, .unset, .unset, .unset] [(.int (16 : Int32)), (.int p2)])) _
    refine XS.iand X0.here hx rfl (hb hby at_55) rfl ?_
    show Steps p.tables e below (s₁.setTop (mkF m 56 #[.val (.long q1), .second, .val (.int p2), .val (.int f1), .val (.int f2), .val (.int f3), .val (.int f4), .unset, .unset, .unset, .unset] [(.int (p2 &&& (16 : Int32)))])) _
    have sg56 : ∀ target, Steps p.tables e below (s₁.setTop (mkF m 64 #[.val (.long q1), .second, .val (.int p2), .val (.int f1), .val (.int f2), .val (.int f3), .val (.int f4), .unset, .unset, .unset, .unset] [(.int (if (p2 &&& (16 : Int32)) = (0 : Int32) then (0 : Int32) else (1 : Int32)))])) target → Steps p.tables e below (s₁.setTop (mkF m 56 #[.val (.long q1), .second, .val (.int p2), .val (.int f1), .val (.int f2), .val (.int f3), .val (.int f4), .unset, .unset, .unset, .unset] [(.int (p2 &&& (16 : Int32)))])) target := by
      intro target kt
      rcases Classical.em ((p2 &&& (16 : Int32)) = (0 : Int32)) with hr56_0 | hr56_0
      · (try simp only [if_pos hr56_0] at kt)
        refine XS.ifYes X0.here hx rfl (pc0 := 56) (pc' := 63) rfl (hb hby at_56) rfl ((if0 _ _).trans (teq hr56_0).1) (by decide) (by decide) ?_
        show Steps p.tables e below (s₁.setTop (mkF m 63 #[.val (.long q1), .second, .val (.int p2), .val (.int f1), .val (.int f2), .val (.int f3), .val (.int f4), .unset, .unset, .unset, .unset] [])) _
        refine XS.iconst X0.here hx rfl (hb hby at_63) ?_
        show Steps p.tables e below (s₁.setTop (mkF m 64 #[.val (.long q1), .second, .val (.int p2), .val (.int f1), .val (.int f2), .val (.int f3), .val (.int f4), .unset, .unset, .unset, .unset] [(.int (0 : Int32))])) _
        exact kt
      · (try simp only [if_neg hr56_0] at kt)
        refine XS.ifNo X0.here hx rfl (hb hby at_56) rfl ((if0 _ _).trans (feq hr56_0).1) ?_
        show Steps p.tables e below (s₁.setTop (mkF m 59 #[.val (.long q1), .second, .val (.int p2), .val (.int f1), .val (.int f2), .val (.int f3), .val (.int f4), .unset, .unset, .unset, .unset] [])) _
        refine XS.iconst X0.here hx rfl (hb hby at_59) ?_
        show Steps p.tables e below (s₁.setTop (mkF m 60 #[.val (.long q1), .second, .val (.int p2), .val (.int f1), .val (.int f2), .val (.int f3), .val (.int f4), .unset, .unset, .unset, .unset] [(.int (1 : Int32))])) _
        refine XS.goto X0.here hx rfl (pc0 := 60) (pc' := 64) rfl (hb hby at_60) (by decide) (by decide) ?_
        show Steps p.tables e below (s₁.setTop (mkF m 64 #[.val (.long q1), .second, .val (.int p2), .val (.int f1), .val (.int f2), .val (.int f3), .val (.int f4), .unset, .unset, .unset, .unset] [(.int (1 : Int32))])) _
        exact kt
    refine sg56 _ ?_
    show Steps p.tables e below (s₁.setTop (mkF m 64 #[.val (.long q1), .second, .val (.int p2), .val (.int f1), .val (.int f2), .val (.int f3), .val (.int f4), .unset, .unset, .unset, .unset] [(.int (if (p2 &&& (16 : Int32)) = (0 : Int32) then (0 : Int32) else (1 : Int32)))])) _
    rw [← h_f5]
    show Steps p.tables e below (s₁.setTop (mkF m 64 #[.val (.long q1), .second, .val (.int p2), .val (.int f1), .val (.int f2), .val (.int f3), .val (.int f4), .unset, .unset, .unset, .unset] [(.int f5)])) _
    refine XS.istore X0.here hx rfl (hb hby at_64) rfl (l' := #[.val (.long q1), .second, .val (.int p2), .val (.int f1), .val (.int f2), .val (.int f3), .val (.int f4), .val (.int f5), .unset, .unset, .unset]) rfl ?_
    show Steps p.tables e below (s₁.setTop (mkF m 66 #[.val (.long q1), .second, .val (.int p2), .val (.int f1), .val (.int f2), .val (.int f3), .val (.int f4), .val (.int f5), .unset, .unset, .unset] [])) _
    refine XS.iloadN X0.here hx rfl (hb hby at_66) rfl ?_
    show Steps p.tables e below (s₁.setTop (mkF m 67 #[.val (.long q1), .second, .val (.int p2), .val (.int f1), .val (.int f2), .val (.int f3), .val (.int f4), .val (.int f5), .unset, .unset, .unset] [(.int p2)])) _
    refine XS.bipush X0.here hx rfl (hb hby at_67) ?_
    show Steps p.tables e below (s₁.setTop (mkF m 69 #[.val (.long q1), .second, .val (.int p2), .val (.int f1), .val (.int f2), .val (.int f3), .val (.int f4), .val (.int f5), .unset, .unset, .unset] [(.int (32 : Int32)), (.int p2)])) _
    refine XS.iand X0.here hx rfl (hb hby at_69) rfl ?_
    show Steps p.tables e below (s₁.setTop (mkF m 70 #[.val (.long q1), .second, .val (.int p2), .val (.int f1), .val (.int f2), .val (.int f3), .val (.int f4), .val (.int f5), .unset, .unset, .unset] [(.int (p2 &&& (32 : Int32)))])) _
    have sg70 : ∀ target, Steps p.tables e below (s₁.setTop (mkF m 78 #[.val (.long q1), .second, .val (.int p2), .val (.int f1), .val (.int f2), .val (.int f3), .val (.int f4), .val (.int f5), .unset, .unset, .unset] [(.int (if (p2 &&& (32 : Int32)) = (0 : Int32) then (0 : Int32) else (1 : Int32)))])) target → Steps p.tables e below (s₁.setTop (mkF m 70 #[.val (.long q1), .second, .val (.int p2), .val (.int f1), .val (.int f2), .val (.int f3), .val (.int f4), .val (.int f5), .unset, .unset, .unset] [(.int (p2 &&& (32 : Int32)))])) target := by
      intro target kt
      rcases Classical.em ((p2 &&& (32 : Int32)) = (0 : Int32)) with hr70_0 | hr70_0
      · (try simp only [if_pos hr70_0] at kt)
        refine XS.ifYes X0.here hx rfl (pc0 := 70) (pc' := 77) rfl (hb hby at_70) rfl ((if0 _ _).trans (teq hr70_0).1) (by decide) (by decide) ?_
        show Steps p.tables e below (s₁.setTop (mkF m 77 #[.val (.long q1), .second, .val (.int p2), .val (.int f1), .val (.int f2), .val (.int f3), .val (.int f4), .val (.int f5), .unset, .unset, .unset] [])) _
        refine XS.iconst X0.here hx rfl (hb hby at_77) ?_
        show Steps p.tables e below (s₁.setTop (mkF m 78 #[.val (.long q1), .second, .val (.int p2), .val (.int f1), .val (.int f2), .val (.int f3), .val (.int f4), .val (.int f5), .unset, .unset, .unset] [(.int (0 : Int32))])) _
        exact kt
      · (try simp only [if_neg hr70_0] at kt)
        refine XS.ifNo X0.here hx rfl (hb hby at_70) rfl ((if0 _ _).trans (feq hr70_0).1) ?_
        show Steps p.tables e below (s₁.setTop (mkF m 73 #[.val (.long q1), .second, .val (.int p2), .val (.int f1), .val (.int f2), .val (.int f3), .val (.int f4), .val (.int f5), .unset, .unset, .unset] [])) _
        refine XS.iconst X0.here hx rfl (hb hby at_73) ?_
        show Steps p.tables e below (s₁.setTop (mkF m 74 #[.val (.long q1), .second, .val (.int p2), .val (.int f1), .val (.int f2), .val (.int f3), .val (.int f4), .val (.int f5), .unset, .unset, .unset] [(.int (1 : Int32))])) _
        refine XS.goto X0.here hx rfl (pc0 := 74) (pc' := 78) rfl (hb hby at_74) (by decide) (by decide) ?_
        show Steps p.tables e below (s₁.setTop (mkF m 78 #[.val (.long q1), .second, .val (.int p2), .val (.int f1), .val (.int f2), .val (.int f3), .val (.int f4), .val (.int f5), .unset, .unset, .unset] [(.int (1 : Int32))])) _
        exact kt
    refine sg70 _ ?_
    show Steps p.tables e below (s₁.setTop (mkF m 78 #[.val (.long q1), .second, .val (.int p2), .val (.int f1), .val (.int f2), .val (.int f3), .val (.int f4), .val (.int f5), .unset, .unset, .unset] [(.int (if (p2 &&& (32 : Int32)) = (0 : Int32) then (0 : Int32) else (1 : Int32)))])) _
    rw [← h_f6]
    show Steps p.tables e below (s₁.setTop (mkF m 78 #[.val (.long q1), .second, .val (.int p2), .val (.int f1), .val (.int f2), .val (.int f3), .val (.int f4), .val (.int f5), .unset, .unset, .unset] [(.int f6)])) _
    refine XS.istore X0.here hx rfl (hb hby at_78) rfl (l' := #[.val (.long q1), .second, .val (.int p2), .val (.int f1), .val (.int f2), .val (.int f3), .val (.int f4), .val (.int f5), .val (.int f6), .unset, .unset]) rfl ?_
    show Steps p.tables e below (s₁.setTop (mkF m 80 #[.val (.long q1), .second, .val (.int p2), .val (.int f1), .val (.int f2), .val (.int f3), .val (.int f4), .val (.int f5), .val (.int f6), .unset, .unset] [])) _
    refine st1 _ ?_
    show Steps p.tables e below (T1.setTop (mkF m 83 #[.val (.long q1), .second, .val (.int p2), .val (.int f1), .val (.int f2), .val (.int f3), .val (.int f4), .val (.int f5), .val (.int f6), .unset, .unset] [(.ref b1)])) _
    refine XS.dup X1.here hx rfl (hb hby at_83) rfl rfl ?_
    show Steps p.tables e below (T1.setTop (mkF m 84 #[.val (.long q1), .second, .val (.int p2), .val (.int f1), .val (.int f2), .val (.int f3), .val (.int f4), .val (.int f5), .val (.int f6), .unset, .unset] [(.ref b1), (.ref b1)])) _
    refine XS.lloadN X1.here hx rfl (hb hby at_84) rfl ?_
    show Steps p.tables e below (T1.setTop (mkF m 85 #[.val (.long q1), .second, .val (.int p2), .val (.int f1), .val (.int f2), .val (.int f3), .val (.int f4), .val (.int f5), .val (.int f6), .unset, .unset] [(.long q1), (.ref b1), (.ref b1)])) _
    refine XS.iloadN X1.here hx rfl (hb hby at_85) rfl ?_
    show Steps p.tables e below (T1.setTop (mkF m 86 #[.val (.long q1), .second, .val (.int p2), .val (.int f1), .val (.int f2), .val (.int f3), .val (.int f4), .val (.int f5), .val (.int f6), .unset, .unset] [(.int f1), (.long q1), (.ref b1), (.ref b1)])) _
    refine XS.iload X1.here hx rfl (hb hby at_86) rfl ?_
    show Steps p.tables e below (T1.setTop (mkF m 88 #[.val (.long q1), .second, .val (.int p2), .val (.int f1), .val (.int f2), .val (.int f3), .val (.int f4), .val (.int f5), .val (.int f6), .unset, .unset] [(.int f2), (.int f1), (.long q1), (.ref b1), (.ref b1)])) _
    refine XS.iload X1.here hx rfl (hb hby at_88) rfl ?_
    show Steps p.tables e below (T1.setTop (mkF m 90 #[.val (.long q1), .second, .val (.int p2), .val (.int f1), .val (.int f2), .val (.int f3), .val (.int f4), .val (.int f5), .val (.int f6), .unset, .unset] [(.int f3), (.int f2), (.int f1), (.long q1), (.ref b1), (.ref b1)])) _
    refine XS.iload X1.here hx rfl (hb hby at_90) rfl ?_
    show Steps p.tables e below (T1.setTop (mkF m 92 #[.val (.long q1), .second, .val (.int p2), .val (.int f1), .val (.int f2), .val (.int f3), .val (.int f4), .val (.int f5), .val (.int f6), .unset, .unset] [(.int f4), (.int f3), (.int f2), (.int f1), (.long q1), (.ref b1), (.ref b1)])) _
    refine XS.iload X1.here hx rfl (hb hby at_92) rfl ?_
    show Steps p.tables e below (T1.setTop (mkF m 94 #[.val (.long q1), .second, .val (.int p2), .val (.int f1), .val (.int f2), .val (.int f3), .val (.int f4), .val (.int f5), .val (.int f6), .unset, .unset] [(.int f5), (.int f4), (.int f3), (.int f2), (.int f1), (.long q1), (.ref b1), (.ref b1)])) _
    refine XS.iload X1.here hx rfl (hb hby at_94) rfl ?_
    show Steps p.tables e below (T1.setTop (mkF m 96 #[.val (.long q1), .second, .val (.int p2), .val (.int f1), .val (.int f2), .val (.int f3), .val (.int f4), .val (.int f5), .val (.int f6), .unset, .unset] [(.int f6), (.int f5), (.int f4), (.int f3), (.int f2), (.int f1), (.long q1), (.ref b1), (.ref b1)])) _
    refine st2.trans ?_
    show Steps p.tables e below (T2.setTop (mkF m 99 #[.val (.long q1), .second, .val (.int p2), .val (.int f1), .val (.int f2), .val (.int f3), .val (.int f4), .val (.int f5), .val (.int f6), .unset, .unset] [(.ref b1)])) _
    refine XS.astore X2.here hx rfl (hb hby at_99) rfl rfl (l' := #[.val (.long q1), .second, .val (.int p2), .val (.int f1), .val (.int f2), .val (.int f3), .val (.int f4), .val (.int f5), .val (.int f6), .val (.ref b1), .unset]) rfl ?_
    show Steps p.tables e below (T2.setTop (mkF m 101 #[.val (.long q1), .second, .val (.int p2), .val (.int f1), .val (.int f2), .val (.int f3), .val (.int f4), .val (.int f5), .val (.int f6), .val (.ref b1), .unset] [])) _
    refine XS.lloadN X2.here hx rfl (hb hby at_101) rfl ?_
    show Steps p.tables e below (T2.setTop (mkF m 102 #[.val (.long q1), .second, .val (.int p2), .val (.int f1), .val (.int f2), .val (.int f3), .val (.int f4), .val (.int f5), .val (.int f6), .val (.ref b1), .unset] [(.long q1)])) _
    refine XS.lconst X2.here hx rfl (hb hby at_102) ?_
    show Steps p.tables e below (T2.setTop (mkF m 103 #[.val (.long q1), .second, .val (.int p2), .val (.int f1), .val (.int f2), .val (.int f3), .val (.int f4), .val (.int f5), .val (.int f6), .val (.ref b1), .unset] [(.long (0 : Int64)), (.long q1)])) _
    refine XS.lcmp X2.here hx rfl (hb hby at_103) rfl ?_
    show Steps p.tables e below (T2.setTop (mkF m 104 #[.val (.long q1), .second, .val (.int p2), .val (.int f1), .val (.int f2), .val (.int f3), .val (.int f4), .val (.int f5), .val (.int f6), .val (.ref b1), .unset] [(.int (lcmpW q1 (0 : Int64)))])) _
    have sg104 : ∀ target, Steps p.tables e below (T2.setTop (mkF m 149 #[.val (.long q1), .second, .val (.int p2), .val (.int f1), .val (.int f2), .val (.int f3), .val (.int f4), .val (.int f5), .val (.int f6), .val (.ref b1), .val (.int (if (0 : Int32) < (lcmpW q1 (0 : Int64)) then (if f2 = (0 : Int32) then (0 : Int32) else (if f3 = (0 : Int32) then (if f4 = (0 : Int32) then (1 : Int32) else (0 : Int32)) else (0 : Int32))) else (0 : Int32)))] [])) target → Steps p.tables e below (T2.setTop (mkF m 104 #[.val (.long q1), .second, .val (.int p2), .val (.int f1), .val (.int f2), .val (.int f3), .val (.int f4), .val (.int f5), .val (.int f6), .val (.ref b1), .unset] [(.int (lcmpW q1 (0 : Int64)))])) target := by
      intro target kt
      rcases Classical.em ((0 : Int32) < (lcmpW q1 (0 : Int64))) with hr104_0 | hr104_0
      · (try simp only [if_pos hr104_0] at kt)
        refine XS.ifYes X2.here hx rfl (pc0 := 104) (pc' := 113) rfl (hb hby at_104) rfl ((if0 _ _).trans (tlt hr104_0).2.2.1) (by decide) (by decide) ?_
        show Steps p.tables e below (T2.setTop (mkF m 113 #[.val (.long q1), .second, .val (.int p2), .val (.int f1), .val (.int f2), .val (.int f3), .val (.int f4), .val (.int f5), .val (.int f6), .val (.ref b1), .unset] [])) _
        refine XS.iload X2.here hx rfl (hb hby at_113) rfl ?_
        show Steps p.tables e below (T2.setTop (mkF m 115 #[.val (.long q1), .second, .val (.int p2), .val (.int f1), .val (.int f2), .val (.int f3), .val (.int f4), .val (.int f5), .val (.int f6), .val (.ref b1), .unset] [(.int f2)])) _
        rcases Classical.em (f2 = (0 : Int32)) with hr115_1 | hr115_1
        · (try simp only [if_pos hr115_1] at kt)
          refine XS.ifNo X2.here hx rfl (hb hby at_115) rfl ((if0 _ _).trans (teq hr115_1).2) ?_
          show Steps p.tables e below (T2.setTop (mkF m 118 #[.val (.long q1), .second, .val (.int p2), .val (.int f1), .val (.int f2), .val (.int f3), .val (.int f4), .val (.int f5), .val (.int f6), .val (.ref b1), .unset] [])) _
          refine XS.iconst X2.here hx rfl (hb hby at_118) ?_
          show Steps p.tables e below (T2.setTop (mkF m 119 #[.val (.long q1), .second, .val (.int p2), .val (.int f1), .val (.int f2), .val (.int f3), .val (.int f4), .val (.int f5), .val (.int f6), .val (.ref b1), .unset] [(.int (0 : Int32))])) _
          refine XS.istore X2.here hx rfl (hb hby at_119) rfl (l' := #[.val (.long q1), .second, .val (.int p2), .val (.int f1), .val (.int f2), .val (.int f3), .val (.int f4), .val (.int f5), .val (.int f6), .val (.ref b1), .val (.int (0 : Int32))]) rfl ?_
          show Steps p.tables e below (T2.setTop (mkF m 121 #[.val (.long q1), .second, .val (.int p2), .val (.int f1), .val (.int f2), .val (.int f3), .val (.int f4), .val (.int f5), .val (.int f6), .val (.ref b1), .val (.int (0 : Int32))] [])) _
          refine XS.goto X2.here hx rfl (pc0 := 121) (pc' := 149) rfl (hb hby at_121) (by decide) (by decide) ?_
          show Steps p.tables e below (T2.setTop (mkF m 149 #[.val (.long q1), .second, .val (.int p2), .val (.int f1), .val (.int f2), .val (.int f3), .val (.int f4), .val (.int f5), .val (.int f6), .val (.ref b1), .val (.int (0 : Int32))] [])) _
          exact kt
        · (try simp only [if_neg hr115_1] at kt)
          refine XS.ifYes X2.here hx rfl (pc0 := 115) (pc' := 124) rfl (hb hby at_115) rfl ((if0 _ _).trans (feq hr115_1).2) (by decide) (by decide) ?_
          show Steps p.tables e below (T2.setTop (mkF m 124 #[.val (.long q1), .second, .val (.int p2), .val (.int f1), .val (.int f2), .val (.int f3), .val (.int f4), .val (.int f5), .val (.int f6), .val (.ref b1), .unset] [])) _
          refine XS.iload X2.here hx rfl (hb hby at_124) rfl ?_
          show Steps p.tables e below (T2.setTop (mkF m 126 #[.val (.long q1), .second, .val (.int p2), .val (.int f1), .val (.int f2), .val (.int f3), .val (.int f4), .val (.int f5), .val (.int f6), .val (.ref b1), .unset] [(.int f3)])) _
          rcases Classical.em (f3 = (0 : Int32)) with hr126_2 | hr126_2
          · (try simp only [if_pos hr126_2] at kt)
            refine XS.ifYes X2.here hx rfl (pc0 := 126) (pc' := 135) rfl (hb hby at_126) rfl ((if0 _ _).trans (teq hr126_2).1) (by decide) (by decide) ?_
            show Steps p.tables e below (T2.setTop (mkF m 135 #[.val (.long q1), .second, .val (.int p2), .val (.int f1), .val (.int f2), .val (.int f3), .val (.int f4), .val (.int f5), .val (.int f6), .val (.ref b1), .unset] [])) _
            refine XS.iload X2.here hx rfl (hb hby at_135) rfl ?_
            show Steps p.tables e below (T2.setTop (mkF m 137 #[.val (.long q1), .second, .val (.int p2), .val (.int f1), .val (.int f2), .val (.int f3), .val (.int f4), .val (.int f5), .val (.int f6), .val (.ref b1), .unset] [(.int f4)])) _
            rcases Classical.em (f4 = (0 : Int32)) with hr137_3 | hr137_3
            · (try simp only [if_pos hr137_3] at kt)
              refine XS.ifYes X2.here hx rfl (pc0 := 137) (pc' := 146) rfl (hb hby at_137) rfl ((if0 _ _).trans (teq hr137_3).1) (by decide) (by decide) ?_
              show Steps p.tables e below (T2.setTop (mkF m 146 #[.val (.long q1), .second, .val (.int p2), .val (.int f1), .val (.int f2), .val (.int f3), .val (.int f4), .val (.int f5), .val (.int f6), .val (.ref b1), .unset] [])) _
              refine XS.iconst X2.here hx rfl (hb hby at_146) ?_
              show Steps p.tables e below (T2.setTop (mkF m 147 #[.val (.long q1), .second, .val (.int p2), .val (.int f1), .val (.int f2), .val (.int f3), .val (.int f4), .val (.int f5), .val (.int f6), .val (.ref b1), .unset] [(.int (1 : Int32))])) _
              refine XS.istore X2.here hx rfl (hb hby at_147) rfl (l' := #[.val (.long q1), .second, .val (.int p2), .val (.int f1), .val (.int f2), .val (.int f3), .val (.int f4), .val (.int f5), .val (.int f6), .val (.ref b1), .val (.int (1 : Int32))]) rfl ?_
              show Steps p.tables e below (T2.setTop (mkF m 149 #[.val (.long q1), .second, .val (.int p2), .val (.int f1), .val (.int f2), .val (.int f3), .val (.int f4), .val (.int f5), .val (.int f6), .val (.ref b1), .val (.int (1 : Int32))] [])) _
              exact kt
            · (try simp only [if_neg hr137_3] at kt)
              refine XS.ifNo X2.here hx rfl (hb hby at_137) rfl ((if0 _ _).trans (feq hr137_3).1) ?_
              show Steps p.tables e below (T2.setTop (mkF m 140 #[.val (.long q1), .second, .val (.int p2), .val (.int f1), .val (.int f2), .val (.int f3), .val (.int f4), .val (.int f5), .val (.int f6), .val (.ref b1), .unset] [])) _
              refine XS.iconst X2.here hx rfl (hb hby at_140) ?_
              show Steps p.tables e below (T2.setTop (mkF m 141 #[.val (.long q1), .second, .val (.int p2), .val (.int f1), .val (.int f2), .val (.int f3), .val (.int f4), .val (.int f5), .val (.int f6), .val (.ref b1), .unset] [(.int (0 : Int32))])) _
              refine XS.istore X2.here hx rfl (hb hby at_141) rfl (l' := #[.val (.long q1), .second, .val (.int p2), .val (.int f1), .val (.int f2), .val (.int f3), .val (.int f4), .val (.int f5), .val (.int f6), .val (.ref b1), .val (.int (0 : Int32))]) rfl ?_
              show Steps p.tables e below (T2.setTop (mkF m 143 #[.val (.long q1), .second, .val (.int p2), .val (.int f1), .val (.int f2), .val (.int f3), .val (.int f4), .val (.int f5), .val (.int f6), .val (.ref b1), .val (.int (0 : Int32))] [])) _
              refine XS.goto X2.here hx rfl (pc0 := 143) (pc' := 149) rfl (hb hby at_143) (by decide) (by decide) ?_
              show Steps p.tables e below (T2.setTop (mkF m 149 #[.val (.long q1), .second, .val (.int p2), .val (.int f1), .val (.int f2), .val (.int f3), .val (.int f4), .val (.int f5), .val (.int f6), .val (.ref b1), .val (.int (0 : Int32))] [])) _
              exact kt
          · (try simp only [if_neg hr126_2] at kt)
            refine XS.ifNo X2.here hx rfl (hb hby at_126) rfl ((if0 _ _).trans (feq hr126_2).1) ?_
            show Steps p.tables e below (T2.setTop (mkF m 129 #[.val (.long q1), .second, .val (.int p2), .val (.int f1), .val (.int f2), .val (.int f3), .val (.int f4), .val (.int f5), .val (.int f6), .val (.ref b1), .unset] [])) _
            refine XS.iconst X2.here hx rfl (hb hby at_129) ?_
            show Steps p.tables e below (T2.setTop (mkF m 130 #[.val (.long q1), .second, .val (.int p2), .val (.int f1), .val (.int f2), .val (.int f3), .val (.int f4), .val (.int f5), .val (.int f6), .val (.ref b1), .unset] [(.int (0 : Int32))])) _
            refine XS.istore X2.here hx rfl (hb hby at_130) rfl (l' := #[.val (.long q1), .second, .val (.int p2), .val (.int f1), .val (.int f2), .val (.int f3), .val (.int f4), .val (.int f5), .val (.int f6), .val (.ref b1), .val (.int (0 : Int32))]) rfl ?_
            show Steps p.tables e below (T2.setTop (mkF m 132 #[.val (.long q1), .second, .val (.int p2), .val (.int f1), .val (.int f2), .val (.int f3), .val (.int f4), .val (.int f5), .val (.int f6), .val (.ref b1), .val (.int (0 : Int32))] [])) _
            refine XS.goto X2.here hx rfl (pc0 := 132) (pc' := 149) rfl (hb hby at_132) (by decide) (by decide) ?_
            show Steps p.tables e below (T2.setTop (mkF m 149 #[.val (.long q1), .second, .val (.int p2), .val (.int f1), .val (.int f2), .val (.int f3), .val (.int f4), .val (.int f5), .val (.int f6), .val (.ref b1), .val (.int (0 : Int32))] [])) _
            exact kt
      · (try simp only [if_neg hr104_0] at kt)
        refine XS.ifNo X2.here hx rfl (hb hby at_104) rfl ((if0 _ _).trans (flt hr104_0).2.2.1) ?_
        show Steps p.tables e below (T2.setTop (mkF m 107 #[.val (.long q1), .second, .val (.int p2), .val (.int f1), .val (.int f2), .val (.int f3), .val (.int f4), .val (.int f5), .val (.int f6), .val (.ref b1), .unset] [])) _
        refine XS.iconst X2.here hx rfl (hb hby at_107) ?_
        show Steps p.tables e below (T2.setTop (mkF m 108 #[.val (.long q1), .second, .val (.int p2), .val (.int f1), .val (.int f2), .val (.int f3), .val (.int f4), .val (.int f5), .val (.int f6), .val (.ref b1), .unset] [(.int (0 : Int32))])) _
        refine XS.istore X2.here hx rfl (hb hby at_108) rfl (l' := #[.val (.long q1), .second, .val (.int p2), .val (.int f1), .val (.int f2), .val (.int f3), .val (.int f4), .val (.int f5), .val (.int f6), .val (.ref b1), .val (.int (0 : Int32))]) rfl ?_
        show Steps p.tables e below (T2.setTop (mkF m 110 #[.val (.long q1), .second, .val (.int p2), .val (.int f1), .val (.int f2), .val (.int f3), .val (.int f4), .val (.int f5), .val (.int f6), .val (.ref b1), .val (.int (0 : Int32))] [])) _
        refine XS.goto X2.here hx rfl (pc0 := 110) (pc' := 149) rfl (hb hby at_110) (by decide) (by decide) ?_
        show Steps p.tables e below (T2.setTop (mkF m 149 #[.val (.long q1), .second, .val (.int p2), .val (.int f1), .val (.int f2), .val (.int f3), .val (.int f4), .val (.int f5), .val (.int f6), .val (.ref b1), .val (.int (0 : Int32))] [])) _
        exact kt
    refine sg104 _ ?_
    show Steps p.tables e below (T2.setTop (mkF m 149 #[.val (.long q1), .second, .val (.int p2), .val (.int f1), .val (.int f2), .val (.int f3), .val (.int f4), .val (.int f5), .val (.int f6), .val (.ref b1), .val (.int (if (0 : Int32) < (lcmpW q1 (0 : Int64)) then (if f2 = (0 : Int32) then (0 : Int32) else (if f3 = (0 : Int32) then (if f4 = (0 : Int32) then (1 : Int32) else (0 : Int32)) else (0 : Int32))) else (0 : Int32)))] [])) _
    refine XS.aload X2.here hx rfl (hb hby at_149) rfl rfl ?_
    show Steps p.tables e below (T2.setTop (mkF m 151 #[.val (.long q1), .second, .val (.int p2), .val (.int f1), .val (.int f2), .val (.int f3), .val (.int f4), .val (.int f5), .val (.int f6), .val (.ref b1), .val (.int (if (0 : Int32) < (lcmpW q1 (0 : Int64)) then (if f2 = (0 : Int32) then (0 : Int32) else (if f3 = (0 : Int32) then (if f4 = (0 : Int32) then (1 : Int32) else (0 : Int32)) else (0 : Int32))) else (0 : Int32)))] [(.ref b1)])) _
    refine st3.trans ?_
    show Steps p.tables e below (T3.setTop (mkF m 154 #[.val (.long q1), .second, .val (.int p2), .val (.int f1), .val (.int f2), .val (.int f3), .val (.int f4), .val (.int f5), .val (.int f6), .val (.ref b1), .val (.int (if (0 : Int32) < (lcmpW q1 (0 : Int64)) then (if f2 = (0 : Int32) then (0 : Int32) else (if f3 = (0 : Int32) then (if f4 = (0 : Int32) then (1 : Int32) else (0 : Int32)) else (0 : Int32))) else (0 : Int32)))] [(.int (if (0 : Int32) < (lcmpW q1 (0 : Int64)) then (if f2 = (0 : Int32) then (0 : Int32) else (if f3 = (0 : Int32) then (if f4 = (0 : Int32) then (1 : Int32) else (0 : Int32)) else (0 : Int32))) else (0 : Int32)))])) _
    refine XS.iload X3.here hx rfl (hb hby at_154) rfl ?_
    show Steps p.tables e below (T3.setTop (mkF m 156 #[.val (.long q1), .second, .val (.int p2), .val (.int f1), .val (.int f2), .val (.int f3), .val (.int f4), .val (.int f5), .val (.int f6), .val (.ref b1), .val (.int (if (0 : Int32) < (lcmpW q1 (0 : Int64)) then (if f2 = (0 : Int32) then (0 : Int32) else (if f3 = (0 : Int32) then (if f4 = (0 : Int32) then (1 : Int32) else (0 : Int32)) else (0 : Int32))) else (0 : Int32)))] [(.int (if (0 : Int32) < (lcmpW q1 (0 : Int64)) then (if f2 = (0 : Int32) then (0 : Int32) else (if f3 = (0 : Int32) then (if f4 = (0 : Int32) then (1 : Int32) else (0 : Int32)) else (0 : Int32))) else (0 : Int32))), (.int (if (0 : Int32) < (lcmpW q1 (0 : Int64)) then (if f2 = (0 : Int32) then (0 : Int32) else (if f3 = (0 : Int32) then (if f4 = (0 : Int32) then (1 : Int32) else (0 : Int32)) else (0 : Int32))) else (0 : Int32)))])) _
    refine XS.icmpNo X3.here hx rfl (hb hby at_156) rfl (teq (rfl : (if (0 : Int32) < (lcmpW q1 (0 : Int64)) then (if f2 = (0 : Int32) then (0 : Int32) else (if f3 = (0 : Int32) then (if f4 = (0 : Int32) then (1 : Int32) else (0 : Int32)) else (0 : Int32))) else (0 : Int32)) = (if (0 : Int32) < (lcmpW q1 (0 : Int64)) then (if f2 = (0 : Int32) then (0 : Int32) else (if f3 = (0 : Int32) then (if f4 = (0 : Int32) then (1 : Int32) else (0 : Int32)) else (0 : Int32))) else (0 : Int32)))).2 ?_
    show Steps p.tables e below (T3.setTop (mkF m 159 #[.val (.long q1), .second, .val (.int p2), .val (.int f1), .val (.int f2), .val (.int f3), .val (.int f4), .val (.int f5), .val (.int f6), .val (.ref b1), .val (.int (if (0 : Int32) < (lcmpW q1 (0 : Int64)) then (if f2 = (0 : Int32) then (0 : Int32) else (if f3 = (0 : Int32) then (if f4 = (0 : Int32) then (1 : Int32) else (0 : Int32)) else (0 : Int32))) else (0 : Int32)))] [])) _
    refine XS.iconst X3.here hx rfl (hb hby at_159) ?_
    show Steps p.tables e below (T3.setTop (mkF m 160 #[.val (.long q1), .second, .val (.int p2), .val (.int f1), .val (.int f2), .val (.int f3), .val (.int f4), .val (.int f5), .val (.int f6), .val (.ref b1), .val (.int (if (0 : Int32) < (lcmpW q1 (0 : Int64)) then (if f2 = (0 : Int32) then (0 : Int32) else (if f3 = (0 : Int32) then (if f4 = (0 : Int32) then (1 : Int32) else (0 : Int32)) else (0 : Int32))) else (0 : Int32)))] [(.int (1 : Int32))])) _
    refine XS.goto X3.here hx rfl (pc0 := 160) (pc' := 164) rfl (hb hby at_160) (by decide) (by decide) ?_
    show Steps p.tables e below (T3.setTop (mkF m 164 #[.val (.long q1), .second, .val (.int p2), .val (.int f1), .val (.int f2), .val (.int f3), .val (.int f4), .val (.int f5), .val (.int f6), .val (.ref b1), .val (.int (if (0 : Int32) < (lcmpW q1 (0 : Int64)) then (if f2 = (0 : Int32) then (0 : Int32) else (if f3 = (0 : Int32) then (if f4 = (0 : Int32) then (1 : Int32) else (0 : Int32)) else (0 : Int32))) else (0 : Int32)))] [(.int (1 : Int32))])) _
    exact retN X3 hx (t := .boolean) Bd.returns (by simp) (hb hby at_164) hr
  · show Q_rm0 Z q1 p2 h0 n0 _ T3.heap _
    rw [e3]
    exact ⟨rfl, N3⟩

set_option maxRecDepth 65536 in
set_option maxHeartbeats 40000000 in
theorem comes_1 {Post : Tables → Env → Array Value → State → Outcome → State → Prop} (hpost : ∀ tb e args s v u, (limb_1_1.after args s (.returned v) u = true ∧ limb_1_2.after args s (.returned v) u = true ∧ True) → FrameEnd s (.returned v) u (Jvm.fieldLocs frame_1_writes args s ++ Jvm.arrayLocs frame_1_arrays args s ++ Jvm.staticLocs frame_1_statics s) 16 128 → Post tb e args s (.returned v) u) :
    ArmFor flags0 classFile x code maxLocals ret World_1 tables_1 room_1 Calls_1 rest_1 Pre_1 Post := by
  intro l hfl _ _ p e ha hc hk s m args below hf hA hF happ hP
  obtain ⟨hcalls, hrest, hpre⟩ := hP
  obtain ⟨-, -, -, hnamed, -, -, -, hat⟩ := (Spec.applies_iff hf).mp happ
  obtain ⟨hg, hn⟩ := and_e (Cond.before_iff.mp (show (Jvm.Cond.and given_1 narrow_1).before args s = true from hpre))
  obtain ⟨gc, g0⟩ := and_e hg
  obtain ⟨ga0, g1⟩ := and_e g0
  obtain ⟨w0, w1, rfl⟩ : ∃ w0 w1 : Value, args = #[w0, w1] := by
    have hs : args.size = 2 := by simpa [Cond.value, given_1] using gc
    obtain ⟨L⟩ := args
    match L, hs with
    | [w0, w1], _ => exact ⟨w0, w1, rfl⟩
  have hw := fun d (hd : d ∈ tables_1) => atoms_spec (ws := Jvm.Cond.code x code maxLocals ret :: tables_1) hat d (List.mem_cons_of_mem _ hd)
  have hfit : Fit s := fun {y c} hc i hi => by
    obtain ⟨ha, rfl⟩ := Array.getElem?_eq_some_iff.mp hc
    have q := List.all_eq_true.mp ((Array.all_eq_true_iff_forall_mem.mp hF) _ (Array.getElem_mem ha)) i (List.mem_range.mpr hi)
    simpa [Array.getElem?_eq_getElem hi] using q
  obtain ⟨i0, ei0⟩ := isL_v ga0
  obtain rfl : w0 = (.long i0) := Option.some.inj ei0
  obtain ⟨i1, ei1⟩ := is_v g1
  obtain rfl : w1 = (.int i1) := Option.some.inj ei1
  obtain ⟨n, o, h1, h2, h3, _, L, rfl, ⟨rfl, N⟩, hq⟩ := rm0 l s _ hw tables_1 i0 i1 s.heap s.heap.size (Nat.le_refl _)  p e ha hc hk s m _ below hf ((Spec.applies_iff_loose hf).mp happ).1 ⟨rfl, State.Warmed39.refl s, rfl⟩ trivial
  refine ⟨n, _, h1, h2, h3, hpost _ _ _ _ _ _ ⟨Cond.after_iff.mpr rfl, Cond.after_iff.mpr (eq_i res_at (Term.int_eval (1)) rfl), trivial⟩ ⟨hq.1, hq.2.1, (hq.2.2.sift fun y hy => Or.inr (N y hy)).mono (by decide) (by decide)⟩⟩
theorem main_1_1 : Claimed_1_1 := comes_1 fun _ _ _ _ _ _ h hF => ⟨h.1, hF⟩
theorem main_1_2 : Claimed_1_2 := comes_1 fun _ _ _ _ _ _ h hF => ⟨h.2.1, hF⟩

end Jvm.Pilot.@@N@@
namespace Jvm.Pilot.@@N@@
open Jvm Jvm.ClassFile Sem Op Lib Jvm.Free Jvm.Stand Jvm.Pilot.@@N@@.Jvm.D
/-! MADE BY PROGRAM (witnessworld.py) out of the Statement's table words and the real class files: 9 classes; the members and pool entries that the words name. The judged class is class 1, her method 1. -/
namespace start1
open Jvm.ClassFile
def u (s : String) : CpInfo := .utf8 (stringToUtf16 s)
/-- a pool by its gaps: so many unusable entries, then the entry; so many at the end -/
def gap : Nat → List CpInfo → List CpInfo
  | 0, r => r
  | n + 1, r => .unusable :: gap n r
def poolList (es : List (Nat × CpInfo)) (last : Nat) : List CpInfo := es.foldr (fun e r => gap e.1 (e.2 :: r)) (gap last [])
def pool (es : List (Nat × CpInfo)) (last : Nat) : Array CpInfo := ⟨poolList es last⟩
def fileOf (pool : Array CpInfo) (this : Nat) (attrs : Array Attribute := #[]) (ms : Array MethodInfo := #[]) (fl : Nat := 33) (sup : Nat := 0) (ifs : Array Nat := #[]) (fds : Array FieldInfo := #[]) : ClassFile where
  minorVersion := 0
  majorVersion := 65
  constantPool := pool
  accessFlags := fl
  thisClass := this
  superClass := sup
  interfaces := ifs
  fields := fds
  methods := ms
  attributes := attrs
def plain (name : String) (sup : Option ClassId) : Class where
  name := name
  kind := .ordinary
  loader := none
  accessFlags := 33
  super := sup
  interfaces := #[]
  cf := none
  fields := #[]
  methods := #[]
  instanceTypes := #[]
  staticTypes := #[]
  resolved := #[]
  callSites := []
  init := .initialized
  statics := none
  mirror := none

def pool0 : Array CpInfo := pool [(5, u "<init>"), (0, u "()V"), (1, .class_ 10), (1, u "java/lang/Object")] 113

def k0c0 : Code := { maxStack := 0, maxLocals := 1, code := object_method_1_code, exceptionTable := #[], attributes := #[] }
def k0m0 : Method := { name := "<init>", desc := "()V", sig := { parameters := [], returnType := none }, accessFlags := 1, code := some k0c0 }
/-- java/lang/Object -/
def k0 : Class := { plain "java/lang/Object" none with
  accessFlags := 33
  interfaces := #[]
  cf := some (fileOf pool0 8 #[] #[{ accessFlags := 1, nameIndex := 5, descriptorIndex := 6, attributes := #[] }] 33 0 #[] #[])
  fields := #[]
  methods := #[k0m0]
  instanceTypes := #[]
  staticTypes := #[]
  resolved := Array.replicate 124 none
  statics := none }

def pool1 : Array CpInfo := pool [(2, .class_ 4), (1, u "java/lang/Object"), (0, u "<init>"), (0, u "()V"), (0, .class_ 8), (0, u "com/example/cairn/cairn/view/Freshness"), (0, .methodref 7 10), (0, .nameAndType 5 11), (0, u "(JZZZZZZ)V"), (0, .methodref 7 13), (0, .nameAndType 14 15), (0, u "fresh"), (0, u "()Z"), (0, .class_ 17), (0, u "com/example/cairn/cairn/view/FreshnessFreshPinLaw"), (2, u "law"), (0, u "(JI)Z")] 3

def k1m0 : Method := { name := "<init>", desc := "()V", sig := { parameters := [], returnType := none }, accessFlags := 1, code := none }
def k1c1 : Code := { maxStack := 10, maxLocals := 11, code := code, exceptionTable := #[], attributes := #[] }
def k1m1 : Method := { name := "law", desc := "(JI)Z", sig := { parameters := [.long, .int], returnType := some .boolean }, accessFlags := 9, code := some k1c1 }
/-- com/example/cairn/cairn/view/FreshnessFreshPinLaw -/
def k1 : Class := { plain "com/example/cairn/cairn/view/FreshnessFreshPinLaw" (some 0) with
  accessFlags := 49
  interfaces := #[]
  cf := some (fileOf pool1 16 #[] #[{ accessFlags := 1, nameIndex := 5, descriptorIndex := 6, attributes := #[] }, { accessFlags := 9, nameIndex := 20, descriptorIndex := 21, attributes := #[] }] 49 2 #[] #[])
  fields := #[]
  methods := #[k1m0, k1m1]
  instanceTypes := #[]
  staticTypes := #[]
  resolved := Array.replicate 25 none
  statics := none }

def pool2 : Array CpInfo := pool [(1, .methodref 2 3), (0, .class_ 4), (0, .nameAndType 5 6), (0, u "java/lang/Object"), (0, u "<init>"), (0, u "()V"), (0, .fieldref 8 9), (0, .class_ 10), (0, .nameAndType 11 12), (0, u "com/example/cairn/cairn/view/Freshness"), (0, u "version"), (0, u "J"), (0, .fieldref 8 14), (0, .nameAndType 15 16), (0, u "readable"), (0, u "Z"), (0, .fieldref 8 18), (0, .nameAndType 19 16), (0, u "recorded"), (0, .fieldref 8 21), (0, .nameAndType 22 16), (0, u "uncounted"), (0, .fieldref 8 24), (0, .nameAndType 25 16), (0, u "changed"), (0, .fieldref 8 27), (0, .nameAndType 28 16), (0, u "resolved"), (0, .fieldref 8 30), (0, .nameAndType 31 16), (0, u "permitted"), (0, u "(JZZZZZZ)V"), (3, u "()Z"), (0, u "fresh")] 3

def k2c0 : Code := { maxStack := 3, maxLocals := 9, code := prog_46_method_1_code, exceptionTable := #[], attributes := #[] }
def k2m0 : Method := { name := "<init>", desc := "(JZZZZZZ)V", sig := { parameters := [.long, .boolean, .boolean, .boolean, .boolean, .boolean, .boolean], returnType := none }, accessFlags := 0, code := some k2c0 }
def k2c1 : Code := { maxStack := 4, maxLocals := 1, code := prog_46_method_8_code, exceptionTable := #[], attributes := #[] }
def k2m1 : Method := { name := "fresh", desc := "()Z", sig := { parameters := [], returnType := some .boolean }, accessFlags := 0, code := some k2c1 }
/-- com/example/cairn/cairn/view/Freshness -/
def k2 : Class := { plain "com/example/cairn/cairn/view/Freshness" (some 0) with
  accessFlags := 48
  interfaces := #[]
  cf := some (fileOf pool2 8 #[] #[{ accessFlags := 0, nameIndex := 5, descriptorIndex := 32, attributes := #[] }, { accessFlags := 0, nameIndex := 37, descriptorIndex := 36, attributes := #[] }] 48 2 #[] #[{ accessFlags := 18, nameIndex := 11, descriptorIndex := 12, attributes := #[] }, { accessFlags := 18, nameIndex := 15, descriptorIndex := 16, attributes := #[] }, { accessFlags := 18, nameIndex := 19, descriptorIndex := 16, attributes := #[] }, { accessFlags := 18, nameIndex := 22, descriptorIndex := 16, attributes := #[] }, { accessFlags := 18, nameIndex := 25, descriptorIndex := 16, attributes := #[] }, { accessFlags := 18, nameIndex := 28, descriptorIndex := 16, attributes := #[] }, { accessFlags := 18, nameIndex := 31, descriptorIndex := 16, attributes := #[] }])
  fields := #[{ name := "version", type := .long, accessFlags := 18, slot := 0, constantValue := 0 }, { name := "readable", type := .boolean, accessFlags := 18, slot := 1, constantValue := 0 }, { name := "recorded", type := .boolean, accessFlags := 18, slot := 2, constantValue := 0 }, { name := "uncounted", type := .boolean, accessFlags := 18, slot := 3, constantValue := 0 }, { name := "changed", type := .boolean, accessFlags := 18, slot := 4, constantValue := 0 }, { name := "resolved", type := .boolean, accessFlags := 18, slot := 5, constantValue := 0 }, { name := "permitted", type := .boolean, accessFlags := 18, slot := 6, constantValue := 0 }]
  methods := #[k2m0, k2m1]
  instanceTypes := #[.long, .boolean, .boolean, .boolean, .boolean, .boolean, .boolean]
  staticTypes := #[]
  resolved := Array.replicate 41 none
  statics := none }

def pool3 : Array CpInfo := pool [(1, u "java/lang/Cloneable"), (0, .class_ 1), (0, u "java/lang/Object"), (0, .class_ 3)] 3

/-- java/lang/Cloneable -/
def k3 : Class := { plain "java/lang/Cloneable" (some 0) with
  accessFlags := 1537
  interfaces := #[]
  cf := some (fileOf pool3 2 #[] #[] 1537 4 #[] #[])
  fields := #[]
  methods := #[]
  instanceTypes := #[]
  staticTypes := #[]
  resolved := Array.replicate 8 none
  statics := none }

def pool4 : Array CpInfo := pool [(1, u "java/io/Serializable"), (0, .class_ 1), (0, u "java/lang/Object"), (0, .class_ 3)] 3

/-- java/io/Serializable -/
def k4 : Class := { plain "java/io/Serializable" (some 0) with
  accessFlags := 1537
  interfaces := #[]
  cf := some (fileOf pool4 2 #[] #[] 1537 4 #[] #[])
  fields := #[]
  methods := #[]
  instanceTypes := #[]
  staticTypes := #[]
  resolved := Array.replicate 8 none
  statics := none }

/-- the primitive byte -/
def k5 : Class := { plain "byte" none with kind := .primitive 'B', accessFlags := 0x411 }
/-- [B -/
def k6 : Class := { plain "[B" (some 0) with kind := .array 5 .byte, interfaces := #[3, 4], accessFlags := 1041 }

/-- the primitive int -/
def k7 : Class := { plain "int" none with kind := .primitive 'I', accessFlags := 0x411 }
/-- [I -/
def k8 : Class := { plain "[I" (some 0) with kind := .array 7 .int, interfaces := #[3, 4], accessFlags := 1041 }

def heap : Heap := #[]
def classes : Array Class := #[k0, k1, k2, k3, k4, k5, k6, k7, k8]
def interned : List (Array UInt16 × Addr) := []
def slotsUsed : Nat := 0
def theMethod : MethodId := ⟨1, 1⟩
def args0 : Array Value := #[.long 5, .int 7]
def aboutOver (below : List Frame) : State where
  vm := { classes := classes, interned := interned.toArray }
  heap := heap
  slotsUsed := slotsUsed
  threads := #[{ frames := .invoking theMethod args0 :: below }]
def below0 : List Frame := [.native { method := ⟨0, 0⟩, args := #[] }]
def about1 : State := aboutOver below0
def p0 : Program := .bare "" "" ""
def e0 : Env := launch0.env 0 0 0
theorem w_frames : about1.frames = Frame.invoking theMethod args0 :: below0 := rfl
set_option maxRecDepth 65536 in
theorem w_args : argsFit about1.vm theMethod args0 = true := by decide +kernel
set_option maxRecDepth 65536 in
theorem w_heap : heapFits about1 = true := by decide +kernel
set_option maxRecDepth 65536 in
theorem w_runnable : about1.curStatus? = some .runnable := by decide +kernel
set_option maxRecDepth 65536 in
theorem w_alone : about1.alone = true := by decide +kernel
set_option maxRecDepth 65536 in
theorem w_named : about1.methodNamed? x = some theMethod := by decide +kernel
set_option maxRecDepth 65536 in
theorem w_hears : about1.hears theMethod below0 = true := by decide +kernel
set_option maxRecDepth 65536 in
theorem w_ripe : about1.ripe theMethod args0 below0 = true := by decide +kernel
theorem w_running : about1.status = .running := rfl
set_option maxRecDepth 65536 in
theorem w_room : about1.hasRoom e0.platform room_1 = true :=
  launch0.hasRoom_least _ room_1 (by decide +kernel) (by decide +kernel) (by decide +kernel) (by decide +kernel) (by decide +kernel) (by decide +kernel)
theorem allAtoms_all (ts : List Jvm.Cond) (a : Array Jvm.Value) (st : Jvm.State) : (allAtoms ts).before a st = ts.all (fun c => c.before a st) := by
  induction ts with
  | nil => rfl
  | cons c t ih =>
    show (Jvm.Cond.and c (allAtoms t)).before a st = _
    rw [Jvm.Cond.before_and, ih, List.all_cons]
def words1 : List Jvm.Cond := Jvm.Cond.code x code maxLocals ret :: tables_1
/-- a 'code' word, met by the world's own term for the bytes: nothing is compared byte by byte -/
theorem code_word {y : MethodName} {bytes : ByteArray} {mx : Nat} {rt : Option FieldType} {a : Array Value} {s : State} {m : MethodId} {meth : Method} {c : Code} (h1 : s.methodNamed? y = some m) (h2 : s.vm.method? m = some meth) (h3 : meth.code = some c) (h4 : c.code = bytes)
    (h5 : (c.maxLocals == mx && c.exceptionTable.isEmpty && decide (c.maxStack ≤ mostOperands) && decide (meth.sig.returnType = rt) && !meth.locks && decide (parseMethodDescriptor y.desc = some meth.sig)) = true) : (Jvm.Cond.code y bytes mx rt).before a s = true := by
  simp only [Bool.and_eq_true, beq_iff_eq, Bool.not_eq_true', decide_eq_true_eq] at h5
  obtain ⟨⟨⟨⟨⟨g1, g2⟩, g3⟩, g4⟩, g5⟩, g6⟩ := h5
  simp [Cond.before, Cond.holds, Cond.value, h1, h2, h3, h4, g1, g2, g3, g4, g5, g6]
def isCode : Jvm.Cond → Bool
  | .code _ _ _ _ => true
  | _ => false
theorem all_split {L : List Jvm.Cond} {P : Jvm.Cond → Bool} (h1 : L.all (fun c => isCode c || P c) = true) (h2 : ∀ c ∈ L.filter isCode, P c = true) : L.all P = true := by
  refine List.all_eq_true.mpr fun c hc => ?_
  have h := List.all_eq_true.mp h1 c hc
  rcases Bool.eq_false_or_eq_true (isCode c) with hi | hi
  · exact h2 c (List.mem_filter.mpr ⟨hc, hi⟩)
  · simpa [hi] using h
set_option maxRecDepth 65536 in
theorem w_c0 : (Jvm.Cond.code x code maxLocals ret).before args0 about1 = true := code_word (m := ⟨1, 1⟩) (meth := k1m1) (c := k1c1) (by decide +kernel) rfl rfl rfl (by decide +kernel)
set_option maxRecDepth 65536 in
theorem w_c1 : (Jvm.Cond.code ({ cls := "com/example/cairn/cairn/view/Freshness", name := "<init>", desc := "(JZZZZZZ)V" } : Jvm.MethodName) prog_46_method_1_code (9 : Nat) (Option.none : Option Jvm.ClassFile.FieldType)).before args0 about1 = true := code_word (m := ⟨2, 0⟩) (meth := k2m0) (c := k2c0) (by decide +kernel) rfl rfl rfl (by decide +kernel)
set_option maxRecDepth 65536 in
theorem w_c2 : (Jvm.Cond.code ({ cls := "java/lang/Object", name := "<init>", desc := "()V" } : Jvm.MethodName) object_method_1_code (1 : Nat) (Option.none : Option Jvm.ClassFile.FieldType)).before args0 about1 = true := code_word (m := ⟨0, 0⟩) (meth := k0m0) (c := k0c0) (by decide +kernel) rfl rfl rfl (by decide +kernel)
set_option maxRecDepth 65536 in
theorem w_c3 : (Jvm.Cond.code ({ cls := "com/example/cairn/cairn/view/Freshness", name := "fresh", desc := "()Z" } : Jvm.MethodName) prog_46_method_8_code (1 : Nat) (Option.some Jvm.ClassFile.FieldType.boolean)).before args0 about1 = true := code_word (m := ⟨2, 1⟩) (meth := k2m1) (c := k2c1) (by decide +kernel) rfl rfl rfl (by decide +kernel)
def codes1 : List Jvm.Cond := [Jvm.Cond.code x code maxLocals ret, Jvm.Cond.code ({ cls := "com/example/cairn/cairn/view/Freshness", name := "<init>", desc := "(JZZZZZZ)V" } : Jvm.MethodName) prog_46_method_1_code (9 : Nat) (Option.none : Option Jvm.ClassFile.FieldType), Jvm.Cond.code ({ cls := "java/lang/Object", name := "<init>", desc := "()V" } : Jvm.MethodName) object_method_1_code (1 : Nat) (Option.none : Option Jvm.ClassFile.FieldType), Jvm.Cond.code ({ cls := "com/example/cairn/cairn/view/Freshness", name := "fresh", desc := "()Z" } : Jvm.MethodName) prog_46_method_8_code (1 : Nat) (Option.some Jvm.ClassFile.FieldType.boolean)]
set_option maxRecDepth 65536 in
theorem codes_eq : words1.filter isCode = codes1 := rfl
theorem w_codes : ∀ c ∈ words1.filter isCode, c.before args0 about1 = true := by
  rw [codes_eq]
  intro c hc
  simp only [codes1, List.mem_cons, List.not_mem_nil, or_false] at hc
  rcases hc with rfl | rfl | rfl | rfl
  · exact w_c0
  · exact w_c1
  · exact w_c2
  · exact w_c3
set_option maxRecDepth 65536 in
theorem w_t1 : (words1.take 24).all (fun c => isCode c || c.before args0 about1) = true := by decide +kernel
set_option maxRecDepth 65536 in
theorem w_t2 : (words1.drop 24).all (fun c => isCode c || c.before args0 about1) = true := by decide +kernel
theorem w_tables : (allAtoms (Jvm.Cond.code x code maxLocals ret :: tables_1)).before args0 about1 = true := by
  rw [allAtoms_all]
  show words1.all (fun c => c.before args0 about1) = true
  refine all_split ?_ w_codes
  rw [← List.take_append_drop 24 words1, List.all_append, w_t1, w_t2]
  rfl
set_option maxRecDepth 65536 in
theorem w_case : (Jvm.Cond.and given_1 narrow_1).before args0 about1 = true := by decide +kernel
theorem w_applies : (headSpec (Jvm.Cond.code x code maxLocals ret :: tables_1) room_1).applies x e0.platform about1 = true :=
  (Spec.applies_iff w_frames).mpr ⟨w_running, w_runnable, w_alone, w_named, w_hears, w_ripe, w_room, w_tables⟩
theorem atStart : AtStart classFile x code maxLocals ret World_1 tables_1 room_1 Calls_1 rest_1 Pre_1 launch0 p0 e0 about1 theMethod args0 below0 :=
  ⟨lists_1, trivial, launch0.admits_env _ _ _, launch0.least_env, fairChoices_fair.cas, fairChoices_fair.clock, w_frames, w_args, w_heap, w_applies, trivial, trivial, w_case⟩
end start1
theorem witness_1 : WitnessClaimed_1 := ⟨start1.p0, start1.e0, start1.about1, start1.theMethod, start1.args0, start1.below0, start1.atStart⟩
end Jvm.Pilot.@@N@@
