import JvmDerived
import JvmDerived.Pilot.@@N@@Statement
import JvmDerived.Pilot.@@N@@Code
set_option linter.unusedVariables false
set_option linter.unusedSimpArgs false
namespace Jvm.RoadKit
open Sem ClassFile Op Lib Jvm.Stand Jvm.Free Jvm.LawKit
section New
variable {p : Program} {l : Launch} {e : Env} {R : Room} {s : State} {m : MethodId} {args : Array Value} {below : List Frame} {meth : Method} {c : Code} {T : State} {locs : List Loc} {cells slots : Nat}
theorem retI (X : Stand p l e R s m args below meth c T locs cells slots) (hx : p.tables.exec = Jvm.exec) {pc : Nat} {Ls : Array Slot} {z : Int32} {rest : List Value} (hret : meth.sig.returnType = some .int) (hd : decode c.code pc = .ok (.ireturn, 1)) {fs : List Frame}
    (hl : ∀ (f : JFrame) (acts : List Action), f.method = m → f.locked = none → f.entered = [] → (doReturn e (T.setTop f) acts (some (.int z))).1 = T.setFrames fs) : Steps p.tables e below (T.setTop (mkF m pc Ls (.int z :: rest))) (T.setFrames fs) := by
  have hm' : T.vm.method? m = some meth := X.method'
  have hn : narrow .int (.int z) = .int z := rfl
  show Steps p.tables e below (T.setTop { method := m, pc := pc, locals := Ls, stack := _ :: rest, locked := none }) _
  jvm_step X.here [X.here.top, hx, hd, hm', hret, hn]
  first | (intro acts; rw [hl _ acts rfl rfl rfl]) | rw [hl _ _ rfl rfl rfl]
  exact Steps.refl _
end New
end Jvm.RoadKit
namespace Jvm.Pilot.@@N@@
open Jvm Jvm.ClassFile Sem Op Lib Jvm.Free Jvm.Stand Jvm.LawKit Jvm.RoadKit Bundle Jvm.Pilot.@@N@@.Jvm.D

abbrev own_lt (w : Int64) (b : Int32) : Prop := (lcmpW ((1 : Int64) <<< (b &&& 0x3f).toInt64) w) < (0 : Int32)
def own_loop (w : Int64) : Nat → Int32 → Int32
  | 0, b => b
  | n + 1, b => if b < (21 : Int32) then (if own_lt w b then own_loop w n (b + (1 : Int32)) else b) else b
theorem own_up (b : Int32) (h : b < (21 : Int32)) : (b + (1 : Int32)).toInt = b.toInt + 1 := by
  have k : (21 : Int32).toInt = 21 := by decide
  have k1 : (1 : Int32).toInt = 1 := by decide
  rw [Int32.lt_iff_toInt_lt, k] at h
  have e := c_iadd b 1
  have r := rng32 b
  have r2 := rng32 (b + 1)
  omega
theorem own_law (w : Int64) : ∀ (n : Nat) (b : Int32), 8 ≤ b.toInt → b.toInt ≤ 21 → 21 - b.toInt ≤ n → (b = (8 : Int32) ∨ own_lt w (b - (1 : Int32))) →
    (8 ≤ (own_loop w n b).toInt ∧ (own_loop w n b).toInt ≤ 21) ∧ (own_loop w n b = (21 : Int32) ∨ ¬ own_lt w (own_loop w n b)) ∧ (own_loop w n b = (8 : Int32) ∨ own_lt w (own_loop w n b - (1 : Int32))) := by
  have k : (21 : Int32).toInt = 21 := by decide
  intro n
  induction n with
  | zero =>
    intro b h1 h2 h3 h4
    exact ⟨⟨h1, h2⟩, Or.inl (Int32.toInt_inj.mp (by rw [k]; show b.toInt = 21; omega)), h4⟩
  | succ n ih =>
    intro b h1 h2 h3 h4
    simp only [own_loop]
    by_cases q : b < (21 : Int32)
    · rw [if_pos q]
      by_cases u : own_lt w b
      · rw [if_pos u]
        have e := own_up b q
        rw [Int32.lt_iff_toInt_lt, k] at q
        have e2 : b + (1 : Int32) - (1 : Int32) = b := Int32.add_sub_cancel b 1
        exact ih (b + 1) (by omega) (by omega) (by omega) (Or.inr (by rw [e2]; exact u))
      · rw [if_neg u]
        exact ⟨⟨h1, h2⟩, Or.inr u, h4⟩
    · rw [if_neg q]
      rw [Int32.lt_iff_toInt_lt, k] at q
      exact ⟨⟨h1, h2⟩, Or.inl (Int32.toInt_inj.mp (by rw [k]; omega)), h4⟩
theorem d5_0 : decode prog_25_method_5_code 0 = .ok (.iload_n 0, 1) := by decide +kernel
theorem d5_1 : decode prog_25_method_5_code 1 = .ok (.i2l, 1) := by decide +kernel
theorem d5_2 : decode prog_25_method_5_code 2 = .ok (.ldc2_w 75, 3) := by decide +kernel
theorem d5_5 : decode prog_25_method_5_code 5 = .ok (.lmul, 1) := by decide +kernel
theorem d5_6 : decode prog_25_method_5_code 6 = .ok (.lstore_n 1, 1) := by decide +kernel
theorem d5_7 : decode prog_25_method_5_code 7 = .ok (.bipush 8, 2) := by decide +kernel
theorem d5_9 : decode prog_25_method_5_code 9 = .ok (.istore_n 3, 1) := by decide +kernel
theorem d5_10 : decode prog_25_method_5_code 10 = .ok (.iload_n 3, 1) := by decide +kernel
theorem d5_11 : decode prog_25_method_5_code 11 = .ok (.bipush 21, 2) := by decide +kernel
theorem d5_13 : decode prog_25_method_5_code 13 = .ok (.if_icmp .ge 17, 3) := by decide +kernel
theorem d5_16 : decode prog_25_method_5_code 16 = .ok (.lconst 1, 1) := by decide +kernel
theorem d5_17 : decode prog_25_method_5_code 17 = .ok (.iload_n 3, 1) := by decide +kernel
theorem d5_18 : decode prog_25_method_5_code 18 = .ok (.lshl, 1) := by decide +kernel
theorem d5_19 : decode prog_25_method_5_code 19 = .ok (.lload_n 1, 1) := by decide +kernel
theorem d5_20 : decode prog_25_method_5_code 20 = .ok (.lcmp, 1) := by decide +kernel
theorem d5_21 : decode prog_25_method_5_code 21 = .ok (.ifCond .ge 9, 3) := by decide +kernel
theorem d5_24 : decode prog_25_method_5_code 24 = .ok (.iinc 3 1, 3) := by decide +kernel
theorem d5_27 : decode prog_25_method_5_code 27 = .ok (.goto (-17), 3) := by decide +kernel
theorem d5_30 : decode prog_25_method_5_code 30 = .ok (.iload_n 3, 1) := by decide +kernel
theorem d5_31 : decode prog_25_method_5_code 31 = .ok (.ireturn, 1) := by decide +kernel
theorem own_walk {p : Program} {l : Launch} {e : Env} {R : Room} {s : State} {m : MethodId} {args : Array Value} {below : List Frame} {meth : Method} {c : Code} {T : State} {locs : List Loc} {cells slots : Nat} (X0 : Stand p l e R s m args below meth c T locs cells slots) (hx : p.tables.exec = Jvm.exec) (hby : c.code = prog_25_method_5_code) (k : Int32) (wt : Int64) : ∀ (n : Nat) (b : Int32), 21 - b.toInt ≤ n → ∀ target, Steps p.tables e below (T.setTop (mkF m 30 #[.val (.int k), .val (.long wt), .second, .val (.int (own_loop wt n b))] [])) target → Steps p.tables e below (T.setTop (mkF m 10 #[.val (.int k), .val (.long wt), .second, .val (.int b)] [])) target := by
  have k21 : (21 : Int32).toInt = 21 := by decide
  intro n
  induction n with
  | zero =>
    intro b hn target kt
    have hz : ¬ b < (21 : Int32) := by rw [Int32.lt_iff_toInt_lt, k21]; omega
    simp only [own_loop] at kt
    show Steps p.tables e below (T.setTop (mkF m 10 #[.val (.int k), .val (.long wt), .second, .val (.int b)] [])) _
    refine XS.iloadN X0.here hx rfl (hb hby d5_10) rfl ?_
    show Steps p.tables e below (T.setTop (mkF m 11 #[.val (.int k), .val (.long wt), .second, .val (.int b)] [(.int b)])) _
    refine XS.bipush X0.here hx rfl (hb hby d5_11) ?_
    show Steps p.tables e below (T.setTop (mkF m 13 #[.val (.int k), .val (.long wt), .second, .val (.int b)] [(.int (21 : Int32)), (.int b)])) _
    refine XS.icmpYes X0.here hx rfl (pc0 := 13) (pc' := 30) rfl (hb hby d5_13) rfl (flt hz).2.1 (by decide) (by decide) ?_
    show Steps p.tables e below (T.setTop (mkF m 30 #[.val (.int k), .val (.long wt), .second, .val (.int b)] [])) _
    exact kt
  | succ n ih =>
    intro b hn target kt
    simp only [own_loop] at kt
    show Steps p.tables e below (T.setTop (mkF m 10 #[.val (.int k), .val (.long wt), .second, .val (.int b)] [])) _
    refine XS.iloadN X0.here hx rfl (hb hby d5_10) rfl ?_
    show Steps p.tables e below (T.setTop (mkF m 11 #[.val (.int k), .val (.long wt), .second, .val (.int b)] [(.int b)])) _
    refine XS.bipush X0.here hx rfl (hb hby d5_11) ?_
    show Steps p.tables e below (T.setTop (mkF m 13 #[.val (.int k), .val (.long wt), .second, .val (.int b)] [(.int (21 : Int32)), (.int b)])) _
    rcases Classical.em (b < (21 : Int32)) with hb1 | hb1
    · (try simp only [if_pos hb1] at kt)
      refine XS.icmpNo X0.here hx rfl (hb hby d5_13) rfl (tlt hb1).2.1 ?_
      show Steps p.tables e below (T.setTop (mkF m 16 #[.val (.int k), .val (.long wt), .second, .val (.int b)] [])) _
      refine XS.lconst X0.here hx rfl (hb hby d5_16) ?_
      show Steps p.tables e below (T.setTop (mkF m 17 #[.val (.int k), .val (.long wt), .second, .val (.int b)] [(.long (1 : Int64))])) _
      refine XS.iloadN X0.here hx rfl (hb hby d5_17) rfl ?_
      show Steps p.tables e below (T.setTop (mkF m 18 #[.val (.int k), .val (.long wt), .second, .val (.int b)] [(.int b), (.long (1 : Int64))])) _
      refine XS.lshl X0.here hx rfl (hb hby d5_18) rfl ?_
      show Steps p.tables e below (T.setTop (mkF m 19 #[.val (.int k), .val (.long wt), .second, .val (.int b)] [(.long ((1 : Int64) <<< (b &&& 0x3f).toInt64))])) _
      refine XS.lloadN X0.here hx rfl (hb hby d5_19) rfl ?_
      show Steps p.tables e below (T.setTop (mkF m 20 #[.val (.int k), .val (.long wt), .second, .val (.int b)] [(.long wt), (.long ((1 : Int64) <<< (b &&& 0x3f).toInt64))])) _
      refine XS.lcmp X0.here hx rfl (hb hby d5_20) rfl ?_
      show Steps p.tables e below (T.setTop (mkF m 21 #[.val (.int k), .val (.long wt), .second, .val (.int b)] [(.int (lcmpW ((1 : Int64) <<< (b &&& 0x3f).toInt64) wt))])) _
      rcases Classical.em ((lcmpW ((1 : Int64) <<< (b &&& 0x3f).toInt64) wt) < (0 : Int32)) with hb2 | hb2
      · (try simp only [if_pos hb2] at kt)
        refine XS.ifNo X0.here hx rfl (hb hby d5_21) rfl ((if0 _ _).trans (tlt hb2).2.1) ?_
        show Steps p.tables e below (T.setTop (mkF m 24 #[.val (.int k), .val (.long wt), .second, .val (.int b)] [])) _
        refine XS.iinc X0.here hx rfl (hb hby d5_24) rfl (l' := #[.val (.int k), .val (.long wt), .second, .val (.int (b + (1 : Int32)))]) rfl ?_
        show Steps p.tables e below (T.setTop (mkF m 27 #[.val (.int k), .val (.long wt), .second, .val (.int (b + (1 : Int32)))] [])) _
        refine XS.goto X0.here hx rfl (pc0 := 27) (pc' := 10) rfl (hb hby d5_27) (by decide) (by decide) ?_
        show Steps p.tables e below (T.setTop (mkF m 10 #[.val (.int k), .val (.long wt), .second, .val (.int (b + (1 : Int32)))] [])) _
        exact ih _ (by have := own_up b hb1; omega) _ kt
      · (try simp only [if_neg hb2] at kt)
        refine XS.ifYes X0.here hx rfl (pc0 := 21) (pc' := 30) rfl (hb hby d5_21) rfl ((if0 _ _).trans (flt hb2).2.1) (by decide) (by decide) ?_
        show Steps p.tables e below (T.setTop (mkF m 30 #[.val (.int k), .val (.long wt), .second, .val (.int b)] [])) _
        exact kt
    · (try simp only [if_neg hb1] at kt)
      refine XS.icmpYes X0.here hx rfl (pc0 := 13) (pc' := 30) rfl (hb hby d5_13) rfl (flt hb1).2.1 (by decide) (by decide) ?_
      show Steps p.tables e below (T.setTop (mkF m 30 #[.val (.int k), .val (.long wt), .second, .val (.int b)] [])) _
      exact kt

theorem ef_d5_ (m : MethodId) (k : Int32) : entryFrame m #[(.int k)] 4 = mkF m 0 #[.val (.int k), .unset, .unset, .unset] [] := by first | (simp [entryFrame, mkF, argsToLocals, Value.category]; done) | rfl
def Q_rm5 (Z : State) (k : Int32)  (h0 : Heap) (n0 : Nat) (v : Option Value) (h : Heap) (L : List Loc) : Prop := v = some (.int (own_loop (k.toInt64 * (100 : Int64)) 13 (8 : Int32))) ∧ Fr n0 L ∧ h = h0
theorem pn_rm5 : plainName "com/example/sievemesh/sievemesh/qrp/RouteTable" = true := by first | (simp [plainName, overriddenIn]; done) | decide +kernel
set_option maxRecDepth 65536 in
set_option maxHeartbeats 40000000 in
theorem rm5 (l : Launch) (Z : State) (a0 : Array Value) (hw : ∀ d ∈ tables_1, d.before a0 Z = true) (ws : List Jvm.Cond) (k : Int32)  (h0 : Heap) (n0 : Nat) (Z0 : n0 ≤ h0.size)  :
    MetFree l (⟨"com/example/sievemesh/sievemesh/qrp/RouteTable", "bitsFor", "(I)I"⟩ : MethodName) (head1 (Jvm.Cond.code (⟨"com/example/sievemesh/sievemesh/qrp/RouteTable", "bitsFor", "(I)I"⟩ : MethodName) prog_25_method_5_code 4 (some .int) :: ws) ({ frames := 0, cells := 0, slots := 0, locals := 0 } : Room)) (fun a U => a = #[(.int k)] ∧ Z.Warmed39 U.vm ∧ U.heap = h0) (fun _ _ _ _ _ => True) (fun _ U o U' => ∃ v L, o = .returned v ∧ Q_rm5 Z k  h0 n0 v U'.heap L ∧ FrameEnd U o U' L ({ frames := 0, cells := 0, slots := 0, locals := 0 } : Room).cells ({ frames := 0, cells := 0, slots := 0, locals := 0 } : Room).slots) := by
  refine MetFree.of_bodySF (plainFor_of_name pn_rm5) hisR ?_
  intro p e s m args below meth c s₁ Bd hml0 hP hK
  obtain ⟨rfl, hZ, hh⟩ := hP
  have hx := Bd.exec
  have hby := Bd.bytes
  have hml : c.maxLocals = 4 := hml0
  have hown : s.vm.findClass "com/example/sievemesh/sievemesh/qrp/RouteTable" = some m.cls := findClass_of_methodNamed Bd.named
  have hnm := (name_of_methodNamed Bd.named Bd.method).1
  have X0 : Stand p l e ({ frames := 0, cells := 0, slots := 0, locals := 0 } : Room) s m #[(.int k)] below meth c s₁ [] 0 0 := Stand.of_body Bd
  have e0 : s₁.heap = h0 := by rw [← hh, Bd.state]; rfl
  have N0 := Fr.nil n0
  have pre0 : ∀ tZ, Steps p.tables e below (s₁.setTop (mkF m 0 #[.val (.int k), .unset, .unset, .unset] [])) tZ → Steps p.tables e below (s₁.setTop (entryFrame m #[(.int k)] 4)) tZ := fun tZ kZ => castTop (ef_d5_ m k) kZ
  obtain ⟨fs, hr, hrun, hended, hW, hsame⟩ := X0.leave (v := some (.int (own_loop ((k.toInt64) * (100 : Int64)) 13 (8 : Int32)))) (fun h => by rw [Bd.returns] at h; cases h)
  refine ⟨_, _, pre0 _ ?_, hrun, hended, _, _, rfl, ?_, ⟨_, rfl⟩, hW, hsame.mono (by decide) (by decide)⟩
  · show Steps p.tables e below (s₁.setTop (mkF m 0 #[.val (.int k), .unset, .unset, .unset] [])) _
    refine XS.iloadN X0.here hx rfl (hb hby d5_0) rfl ?_
    show Steps p.tables e below (s₁.setTop (mkF m 1 #[.val (.int k), .unset, .unset, .unset] [(.int k)])) _
    refine XS.i2l X0.here hx rfl (hb hby d5_1) rfl ?_
    show Steps p.tables e below (s₁.setTop (mkF m 2 #[.val (.int k), .unset, .unset, .unset] [(.long (k.toInt64))])) _
    refine X0.ldc2Long hx hown (mvT hZ (hw _ (List.mem_of_getElem? (i := 6) rfl))) (g := (mkF m 2 #[.val (.int k), .unset, .unset, .unset] [(.long (k.toInt64))])) rfl (hb hby d5_2) _ ?_
    show Steps p.tables e below (s₁.setTop (mkF m 5 #[.val (.int k), .unset, .unset, .unset] [(.long (100 : Int64)), (.long (k.toInt64))])) _
    refine XS.lmul X0.here hx rfl (hb hby d5_5) rfl ?_
    show Steps p.tables e below (s₁.setTop (mkF m 6 #[.val (.int k), .unset, .unset, .unset] [(.long ((k.toInt64) * (100 : Int64)))])) _
    refine XS.lstoreN X0.here hx rfl (hb hby d5_6) rfl (l' := #[.val (.int k), .val (.long ((k.toInt64) * (100 : Int64))), .second, .unset]) rfl ?_
    show Steps p.tables e below (s₁.setTop (mkF m 7 #[.val (.int k), .val (.long ((k.toInt64) * (100 : Int64))), .second, .unset] [])) _
    refine XS.bipush X0.here hx rfl (hb hby d5_7) ?_
    show Steps p.tables e below (s₁.setTop (mkF m 9 #[.val (.int k), .val (.long ((k.toInt64) * (100 : Int64))), .second, .unset] [(.int (8 : Int32))])) _
    refine XS.istoreN X0.here hx rfl (hb hby d5_9) rfl (l' := #[.val (.int k), .val (.long ((k.toInt64) * (100 : Int64))), .second, .val (.int (8 : Int32))]) rfl ?_
    show Steps p.tables e below (s₁.setTop (mkF m 10 #[.val (.int k), .val (.long ((k.toInt64) * (100 : Int64))), .second, .val (.int (8 : Int32))] [])) _
    refine own_walk X0 hx hby k ((k.toInt64) * (100 : Int64)) 13 (8 : Int32) (by decide) _ ?_
    show Steps p.tables e below (s₁.setTop (mkF m 30 #[.val (.int k), .val (.long ((k.toInt64) * (100 : Int64))), .second, .val (.int (own_loop ((k.toInt64) * (100 : Int64)) 13 (8 : Int32)))] [])) _
    refine XS.iloadN X0.here hx rfl (hb hby d5_30) rfl ?_
    show Steps p.tables e below (s₁.setTop (mkF m 31 #[.val (.int k), .val (.long ((k.toInt64) * (100 : Int64))), .second, .val (.int (own_loop ((k.toInt64) * (100 : Int64)) 13 (8 : Int32)))] [(.int (own_loop ((k.toInt64) * (100 : Int64)) 13 (8 : Int32)))])) _
    exact retI X0 hx Bd.returns (hb hby d5_31) hr
  · show Q_rm5 Z k h0 n0 _ s₁.heap _
    rw [e0]
    exact ⟨rfl, N0, rfl⟩

theorem pd_at__I_I : parseMethodDescriptor "(I)I" = some ⟨[.int], some .int⟩ := by decide +kernel
theorem ef_at_ (m : MethodId) (p1 : Int32) (p2 : Int32) (p3 : Int32) (p4 : Int32) : entryFrame m #[(.int p1), (.int p2), (.int p3), (.int p4)] maxLocals = mkF m 0 #[.val (.int p1), .val (.int p2), .val (.int p3), .val (.int p4), .unset, .unset, .unset, .unset, .unset, .unset] [] := by first | (simp [entryFrame, mkF, argsToLocals, Value.category, maxLocals]; done) | rfl
def Q_rm0 (Z : State) (p1 : Int32) (p2 : Int32) (p3 : Int32) (p4 : Int32)  (h0 : Heap) (n0 : Nat) (v : Option Value) (h : Heap) (L : List Loc) : Prop := v = some (.int (1 : Int32)) ∧ Fr n0 L
theorem pn_rm0 : plainName "com/example/sievemesh/sievemesh/qrp/RouteTableBitsForPinLaw" = true := by first | (simp [plainName, overriddenIn]; done) | decide +kernel
set_option maxRecDepth 65536 in
set_option maxHeartbeats 40000000 in
theorem rm0 (l : Launch) (Z : State) (a0 : Array Value) (hw : ∀ d ∈ tables_1, d.before a0 Z = true) (ws : List Jvm.Cond) (p1 : Int32) (p2 : Int32) (p3 : Int32) (p4 : Int32)  (h0 : Heap) (n0 : Nat) (Z0 : n0 ≤ h0.size)  :
    MetFree l x (head1 (Jvm.Cond.code x code maxLocals ret :: ws) room_1) (fun a U => a = #[(.int p1), (.int p2), (.int p3), (.int p4)] ∧ Z.Warmed39 U.vm ∧ U.heap = h0) (fun _ _ _ _ _ => True) (fun _ U o U' => ∃ v L, o = .returned v ∧ Q_rm0 Z p1 p2 p3 p4  h0 n0 v U'.heap L ∧ FrameEnd U o U' L room_1.cells room_1.slots) := by
  refine MetFree.of_bodySF (plainFor_of_name pn_rm0) hisR ?_
  intro p e s m args below meth c s₁ Bd hml0 hP hK
  obtain ⟨rfl, hZ, hh⟩ := hP
  have hx := Bd.exec
  have hby := Bd.bytes
  have hml : c.maxLocals = 10 := hml0
  have hown : s.vm.findClass "com/example/sievemesh/sievemesh/qrp/RouteTableBitsForPinLaw" = some m.cls := findClass_of_methodNamed Bd.named
  have hnm := (name_of_methodNamed Bd.named Bd.method).1
  have X0 : Stand p l e room_1 s m #[(.int p1), (.int p2), (.int p3), (.int p4)] below meth c s₁ [] 0 0 := Stand.of_body Bd
  have e0 : s₁.heap = h0 := by rw [← hh, Bd.state]; rfl
  have N0 := Fr.nil n0
  have pre0 : ∀ tZ, Steps p.tables e below (s₁.setTop (mkF m 0 #[.val (.int p1), .val (.int p2), .val (.int p3), .val (.int p4), .unset, .unset, .unset, .unset, .unset, .unset] [])) tZ → Steps p.tables e below (s₁.setTop (entryFrame m #[(.int p1), (.int p2), (.int p3), (.int p4)] maxLocals)) tZ := fun tZ kZ => castTop (ef_at_ m p1 p2 p3 p4) kZ
  rcases Classical.em ((p4 &&& (1 : Int32)) = (0 : Int32)) with c0 | c0
  · skip
    obtain ⟨_, _, ⟨T1, L1, k1, n1⟩, -, X1, ⟨Lc1, hQ1, l1, y1, z1⟩, st1⟩ := Jvm.LawKit.callS X0 hx (y := (⟨"com/example/sievemesh/sievemesh/qrp/RouteTable", "bitsFor", "(I)I"⟩ : MethodName)) hown (mvT hZ (hw _ (List.mem_of_getElem? (i := 2) rfl))) (mvT hZ (hw _ (List.mem_of_getElem? (i := 3) rfl))) (mvT hZ (hw _ (List.mem_of_getElem? (i := 4) rfl))) (mvT hZ (hw _ (List.mem_of_getElem? (i := 5) rfl))) (by decide) (backOf (W := 0) (rm5 l Z a0 hw [] p1 h0 n0 Z0) hZ (hw _ (List.mem_of_getElem? (i := 5) rfl)) (hw _ (List.mem_of_getElem? (i := 4) rfl)) (by decide) (by decide)) (g := (mkF m 40 #[.val (.int p1), .val (.int p2), .val (.int p3), .val (.int p4), .val (.int p1), .unset, .unset, .unset, .unset, .unset] [(.int p1)])) rfl (by rw [hml]; rfl) (argsL := [(.int p1)]) (rest := []) (lenOf pd_at__I_I rfl) rfl (by show 2 * 0 + _ ≤ _; exact Nat.le_of_eq rfl) (hb hby at_40) (fun _ _ => ⟨rfl, e0, (by decide : 0 + 0 ≤ _), (by decide : 0 + 0 ≤ _)⟩)
    dsimp only [Pt.U, Pt.locs, Pt.cells, Pt.slots] at X1 l1 y1 z1 st1 hQ1
    subst l1 y1 z1
    obtain ⟨rfl, N1q, e1⟩ := hQ1
    have N1 := Fr.app N0 N1q
    obtain ⟨b, h_b⟩ : ∃ z : Int32, z = (own_loop (p1.toInt64 * (100 : Int64)) 13 (8 : Int32)) := ⟨_, rfl⟩
    have hL := own_law (p1.toInt64 * (100 : Int64)) 13 (8 : Int32) (by decide) (by decide) (by decide) (Or.inl rfl)
    rw [← h_b] at hL
    obtain ⟨⟨l1, l2⟩, l3, l4⟩ := hL
    have k8 : (8 : Int32).toInt = 8 := by decide
    have k21 : (21 : Int32).toInt = 21 := by decide
    have b8 : ¬ b < (8 : Int32) := by rw [Int32.lt_iff_toInt_lt]; omega
    have b21 : ¬ (21 : Int32) < b := by rw [Int32.lt_iff_toInt_lt]; omega
    have en1 : (if b = (21 : Int32) then (1 : Int32) else (if (lcmpW ((1 : Int64) <<< (b &&& 0x3f).toInt64) ((p1.toInt64) * (100 : Int64))) < (0 : Int32) then (0 : Int32) else (1 : Int32))) = 1 := by
      rcases l3 with q | q
      · rw [if_pos q]
      · rw [if_neg q]; exact ite_self _
    have le1 : (if b = (8 : Int32) then (1 : Int32) else (if (lcmpW ((1 : Int64) <<< ((b - (1 : Int32)) &&& 0x3f).toInt64) ((p1.toInt64) * (100 : Int64))) < (0 : Int32) then (1 : Int32) else (0 : Int32))) = 1 := by
      rcases l4 with q | q
      · rw [if_pos q]
      · rw [if_pos q]; exact ite_self _
    obtain ⟨fs, hr, hrun, hended, hW, hsame⟩ := X1.leave (v := some (.int (1 : Int32))) (fun h => by rw [Bd.returns] at h; cases h)
    refine ⟨_, _, pre0 _ ?_, hrun, hended, _, _, rfl, ?_, ⟨_, rfl⟩, hW, hsame.mono (by decide) (by decide)⟩
    · show Steps p.tables e below (s₁.setTop (mkF m 0 #[.val (.int p1), .val (.int p2), .val (.int p3), .val (.int p4), .unset, .unset, .unset, .unset, .unset, .unset] [])) _
      refine XS.iloadN X0.here hx rfl (hb hby at_0) rfl ?_
      show Steps p.tables e below (s₁.setTop (mkF m 1 #[.val (.int p1), .val (.int p2), .val (.int p3), .val (.int p4), .unset, .unset, .unset, .unset, .unset, .unset] [(.int p4)])) _
      refine XS.iconst X0.here hx rfl (hb hby at_1) ?_
      show Steps p.tables e below (s₁.setTop (mkF m 2 #[.val (.int p1), .val (.int p2), .val (.int p3), .val (.int p4), .unset, .unset, .unset, .unset, .unset, .unset] [(.int (1 : Int32)), (.int p4)])) _
      refine XS.iand X0.here hx rfl (hb hby at_2) rfl ?_
      show Steps p.tables e below (s₁.setTop (mkF m 3 #[.val (.int p1), .val (.int p2), .val (.int p3), .val (.int p4), .unset, .unset, .unset, .unset, .unset, .unset] [(.int (p4 &&& (1 : Int32)))])) _
      refine XS.ifNo X0.here hx rfl (hb hby at_3) rfl ((if0 _ _).trans (teq c0).2) ?_
      show Steps p.tables e below (s₁.setTop (mkF m 6 #[.val (.int p1), .val (.int p2), .val (.int p3), .val (.int p4), .unset, .unset, .unset, .unset, .unset, .unset] [])) _
      refine XS.iloadN X0.here hx rfl (hb hby at_6) rfl ?_
      show Steps p.tables e below (s₁.setTop (mkF m 7 #[.val (.int p1), .val (.int p2), .val (.int p3), .val (.int p4), .unset, .unset, .unset, .unset, .unset, .unset] [(.int p1)])) _
      refine XS.istore X0.here hx rfl (hb hby at_7) rfl (l' := #[.val (.int p1), .val (.int p2), .val (.int p3), .val (.int p4), .val (.int p1), .unset, .unset, .unset, .unset, .unset]) rfl ?_
      show Steps p.tables e below (s₁.setTop (mkF m 9 #[.val (.int p1), .val (.int p2), .val (.int p3), .val (.int p4), .val (.int p1), .unset, .unset, .unset, .unset, .unset] [])) _
      refine XS.goto X0.here hx rfl (pc0 := 9) (pc' := 38) rfl (hb hby at_9) (by decide) (by decide) ?_
      show Steps p.tables e below (s₁.setTop (mkF m 38 #[.val (.int p1), .val (.int p2), .val (.int p3), .val (.int p4), .val (.int p1), .unset, .unset, .unset, .unset, .unset] [])) _
      refine XS.iload X0.here hx rfl (hb hby at_38) rfl ?_
      show Steps p.tables e below (s₁.setTop (mkF m 40 #[.val (.int p1), .val (.int p2), .val (.int p3), .val (.int p4), .val (.int p1), .unset, .unset, .unset, .unset, .unset] [(.int p1)])) _
      refine st1 _ ?_
      show Steps p.tables e below (T1.setTop (mkF m 43 #[.val (.int p1), .val (.int p2), .val (.int p3), .val (.int p4), .val (.int p1), .unset, .unset, .unset, .unset, .unset] [(.int (own_loop (p1.toInt64 * (100 : Int64)) 13 (8 : Int32)))])) _
      rw [← h_b]
      show Steps p.tables e below (T1.setTop (mkF m 43 #[.val (.int p1), .val (.int p2), .val (.int p3), .val (.int p4), .val (.int p1), .unset, .unset, .unset, .unset, .unset] [(.int b)])) _
      refine XS.istore X1.here hx rfl (hb hby at_43) rfl (l' := #[.val (.int p1), .val (.int p2), .val (.int p3), .val (.int p4), .val (.int p1), .val (.int b), .unset, .unset, .unset, .unset]) rfl ?_
      show Steps p.tables e below (T1.setTop (mkF m 45 #[.val (.int p1), .val (.int p2), .val (.int p3), .val (.int p4), .val (.int p1), .val (.int b), .unset, .unset, .unset, .unset] [])) _
      refine XS.iload X1.here hx rfl (hb hby at_45) rfl ?_
      show Steps p.tables e below (T1.setTop (mkF m 47 #[.val (.int p1), .val (.int p2), .val (.int p3), .val (.int p4), .val (.int p1), .val (.int b), .unset, .unset, .unset, .unset] [(.int b)])) _
      refine XS.bipush X1.here hx rfl (hb hby at_47) ?_
      show Steps p.tables e below (T1.setTop (mkF m 49 #[.val (.int p1), .val (.int p2), .val (.int p3), .val (.int p4), .val (.int p1), .val (.int b), .unset, .unset, .unset, .unset] [(.int (8 : Int32)), (.int b)])) _
      refine XS.icmpNo X1.here hx rfl (hb hby at_49) rfl (flt b8).1 ?_
      show Steps p.tables e below (T1.setTop (mkF m 52 #[.val (.int p1), .val (.int p2), .val (.int p3), .val (.int p4), .val (.int p1), .val (.int b), .unset, .unset, .unset, .unset] [])) _
      refine XS.iload X1.here hx rfl (hb hby at_52) rfl ?_
      show Steps p.tables e below (T1.setTop (mkF m 54 #[.val (.int p1), .val (.int p2), .val (.int p3), .val (.int p4), .val (.int p1), .val (.int b), .unset, .unset, .unset, .unset] [(.int b)])) _
      refine XS.bipush X1.here hx rfl (hb hby at_54) ?_
      show Steps p.tables e below (T1.setTop (mkF m 56 #[.val (.int p1), .val (.int p2), .val (.int p3), .val (.int p4), .val (.int p1), .val (.int b), .unset, .unset, .unset, .unset] [(.int (21 : Int32)), (.int b)])) _
      refine XS.icmpYes X1.here hx rfl (pc0 := 56) (pc' := 61) rfl (hb hby at_56) rfl (flt b21).2.2.2 (by decide) (by decide) ?_
      show Steps p.tables e below (T1.setTop (mkF m 61 #[.val (.int p1), .val (.int p2), .val (.int p3), .val (.int p4), .val (.int p1), .val (.int b), .unset, .unset, .unset, .unset] [])) _
      refine XS.iload X1.here hx rfl (hb hby at_61) rfl ?_
      show Steps p.tables e below (T1.setTop (mkF m 63 #[.val (.int p1), .val (.int p2), .val (.int p3), .val (.int p4), .val (.int p1), .val (.int b), .unset, .unset, .unset, .unset] [(.int p1)])) _
      refine XS.i2l X1.here hx rfl (hb hby at_63) rfl ?_
      show Steps p.tables e below (T1.setTop (mkF m 64 #[.val (.int p1), .val (.int p2), .val (.int p3), .val (.int p4), .val (.int p1), .val (.int b), .unset, .unset, .unset, .unset] [(.long (p1.toInt64))])) _
      refine X1.ldc2Long hx hown (mvT hZ (hw _ (List.mem_of_getElem? (i := 1) rfl))) (g := (mkF m 64 #[.val (.int p1), .val (.int p2), .val (.int p3), .val (.int p4), .val (.int p1), .val (.int b), .unset, .unset, .unset, .unset] [(.long (p1.toInt64))])) rfl (hb hby at_64) _ ?_
      show Steps p.tables e below (T1.setTop (mkF m 67 #[.val (.int p1), .val (.int p2), .val (.int p3), .val (.int p4), .val (.int p1), .val (.int b), .unset, .unset, .unset, .unset] [(.long (100 : Int64)), (.long (p1.toInt64))])) _
      refine XS.lmul X1.here hx rfl (hb hby at_67) rfl ?_
      show Steps p.tables e below (T1.setTop (mkF m 68 #[.val (.int p1), .val (.int p2), .val (.int p3), .val (.int p4), .val (.int p1), .val (.int b), .unset, .unset, .unset, .unset] [(.long ((p1.toInt64) * (100 : Int64)))])) _
      refine XS.lstore X1.here hx rfl (hb hby at_68) rfl (l' := #[.val (.int p1), .val (.int p2), .val (.int p3), .val (.int p4), .val (.int p1), .val (.int b), .val (.long ((p1.toInt64) * (100 : Int64))), .second, .unset, .unset]) rfl ?_
      show Steps p.tables e below (T1.setTop (mkF m 70 #[.val (.int p1), .val (.int p2), .val (.int p3), .val (.int p4), .val (.int p1), .val (.int b), .val (.long ((p1.toInt64) * (100 : Int64))), .second, .unset, .unset] [])) _
      refine XS.iload X1.here hx rfl (hb hby at_70) rfl ?_
      show Steps p.tables e below (T1.setTop (mkF m 72 #[.val (.int p1), .val (.int p2), .val (.int p3), .val (.int p4), .val (.int p1), .val (.int b), .val (.long ((p1.toInt64) * (100 : Int64))), .second, .unset, .unset] [(.int b)])) _
      refine XS.bipush X1.here hx rfl (hb hby at_72) ?_
      show Steps p.tables e below (T1.setTop (mkF m 74 #[.val (.int p1), .val (.int p2), .val (.int p3), .val (.int p4), .val (.int p1), .val (.int b), .val (.long ((p1.toInt64) * (100 : Int64))), .second, .unset, .unset] [(.int (21 : Int32)), (.int b)])) _
      have sg74 : ∀ target, Steps p.tables e below (T1.setTop (mkF m 92 #[.val (.int p1), .val (.int p2), .val (.int p3), .val (.int p4), .val (.int p1), .val (.int b), .val (.long ((p1.toInt64) * (100 : Int64))), .second, .unset, .unset] [(.int (if b = (21 : Int32) then (1 : Int32) else (if (lcmpW ((1 : Int64) <<< (b &&& 0x3f).toInt64) ((p1.toInt64) * (100 : Int64))) < (0 : Int32) then (0 : Int32) else (1 : Int32))))])) target → Steps p.tables e below (T1.setTop (mkF m 74 #[.val (.int p1), .val (.int p2), .val (.int p3), .val (.int p4), .val (.int p1), .val (.int b), .val (.long ((p1.toInt64) * (100 : Int64))), .second, .unset, .unset] [(.int (21 : Int32)), (.int b)])) target := by
        intro target kt
        rcases Classical.em (b = (21 : Int32)) with hr74_0 | hr74_0
        · (try simp only [if_pos hr74_0] at kt)
          refine XS.icmpYes X1.here hx rfl (pc0 := 74) (pc' := 87) rfl (hb hby at_74) rfl (teq hr74_0).1 (by decide) (by decide) ?_
          show Steps p.tables e below (T1.setTop (mkF m 87 #[.val (.int p1), .val (.int p2), .val (.int p3), .val (.int p4), .val (.int p1), .val (.int b), .val (.long ((p1.toInt64) * (100 : Int64))), .second, .unset, .unset] [])) _
          refine XS.iconst X1.here hx rfl (hb hby at_87) ?_
          show Steps p.tables e below (T1.setTop (mkF m 88 #[.val (.int p1), .val (.int p2), .val (.int p3), .val (.int p4), .val (.int p1), .val (.int b), .val (.long ((p1.toInt64) * (100 : Int64))), .second, .unset, .unset] [(.int (1 : Int32))])) _
          refine XS.goto X1.here hx rfl (pc0 := 88) (pc' := 92) rfl (hb hby at_88) (by decide) (by decide) ?_
          show Steps p.tables e below (T1.setTop (mkF m 92 #[.val (.int p1), .val (.int p2), .val (.int p3), .val (.int p4), .val (.int p1), .val (.int b), .val (.long ((p1.toInt64) * (100 : Int64))), .second, .unset, .unset] [(.int (1 : Int32))])) _
          exact kt
        · (try simp only [if_neg hr74_0] at kt)
          refine XS.icmpNo X1.here hx rfl (hb hby at_74) rfl (feq hr74_0).1 ?_
          show Steps p.tables e below (T1.setTop (mkF m 77 #[.val (.int p1), .val (.int p2), .val (.int p3), .val (.int p4), .val (.int p1), .val (.int b), .val (.long ((p1.toInt64) * (100 : Int64))), .second, .unset, .unset] [])) _
          refine XS.lconst X1.here hx rfl (hb hby at_77) ?_
          show Steps p.tables e below (T1.setTop (mkF m 78 #[.val (.int p1), .val (.int p2), .val (.int p3), .val (.int p4), .val (.int p1), .val (.int b), .val (.long ((p1.toInt64) * (100 : Int64))), .second, .unset, .unset] [(.long (1 : Int64))])) _
          refine XS.iload X1.here hx rfl (hb hby at_78) rfl ?_
          show Steps p.tables e below (T1.setTop (mkF m 80 #[.val (.int p1), .val (.int p2), .val (.int p3), .val (.int p4), .val (.int p1), .val (.int b), .val (.long ((p1.toInt64) * (100 : Int64))), .second, .unset, .unset] [(.int b), (.long (1 : Int64))])) _
          refine XS.lshl X1.here hx rfl (hb hby at_80) rfl ?_
          show Steps p.tables e below (T1.setTop (mkF m 81 #[.val (.int p1), .val (.int p2), .val (.int p3), .val (.int p4), .val (.int p1), .val (.int b), .val (.long ((p1.toInt64) * (100 : Int64))), .second, .unset, .unset] [(.long ((1 : Int64) <<< (b &&& 0x3f).toInt64))])) _
          refine XS.lload X1.here hx rfl (hb hby at_81) rfl ?_
          show Steps p.tables e below (T1.setTop (mkF m 83 #[.val (.int p1), .val (.int p2), .val (.int p3), .val (.int p4), .val (.int p1), .val (.int b), .val (.long ((p1.toInt64) * (100 : Int64))), .second, .unset, .unset] [(.long ((p1.toInt64) * (100 : Int64))), (.long ((1 : Int64) <<< (b &&& 0x3f).toInt64))])) _
          refine XS.lcmp X1.here hx rfl (hb hby at_83) rfl ?_
          show Steps p.tables e below (T1.setTop (mkF m 84 #[.val (.int p1), .val (.int p2), .val (.int p3), .val (.int p4), .val (.int p1), .val (.int b), .val (.long ((p1.toInt64) * (100 : Int64))), .second, .unset, .unset] [(.int (lcmpW ((1 : Int64) <<< (b &&& 0x3f).toInt64) ((p1.toInt64) * (100 : Int64))))])) _
          rcases Classical.em ((lcmpW ((1 : Int64) <<< (b &&& 0x3f).toInt64) ((p1.toInt64) * (100 : Int64))) < (0 : Int32)) with hr84_1 | hr84_1
          · (try simp only [if_pos hr84_1] at kt)
            refine XS.ifYes X1.here hx rfl (pc0 := 84) (pc' := 91) rfl (hb hby at_84) rfl ((if0 _ _).trans (tlt hr84_1).1) (by decide) (by decide) ?_
            show Steps p.tables e below (T1.setTop (mkF m 91 #[.val (.int p1), .val (.int p2), .val (.int p3), .val (.int p4), .val (.int p1), .val (.int b), .val (.long ((p1.toInt64) * (100 : Int64))), .second, .unset, .unset] [])) _
            refine XS.iconst X1.here hx rfl (hb hby at_91) ?_
            show Steps p.tables e below (T1.setTop (mkF m 92 #[.val (.int p1), .val (.int p2), .val (.int p3), .val (.int p4), .val (.int p1), .val (.int b), .val (.long ((p1.toInt64) * (100 : Int64))), .second, .unset, .unset] [(.int (0 : Int32))])) _
            exact kt
          · (try simp only [if_neg hr84_1] at kt)
            refine XS.ifNo X1.here hx rfl (hb hby at_84) rfl ((if0 _ _).trans (flt hr84_1).1) ?_
            show Steps p.tables e below (T1.setTop (mkF m 87 #[.val (.int p1), .val (.int p2), .val (.int p3), .val (.int p4), .val (.int p1), .val (.int b), .val (.long ((p1.toInt64) * (100 : Int64))), .second, .unset, .unset] [])) _
            refine XS.iconst X1.here hx rfl (hb hby at_87) ?_
            show Steps p.tables e below (T1.setTop (mkF m 88 #[.val (.int p1), .val (.int p2), .val (.int p3), .val (.int p4), .val (.int p1), .val (.int b), .val (.long ((p1.toInt64) * (100 : Int64))), .second, .unset, .unset] [(.int (1 : Int32))])) _
            refine XS.goto X1.here hx rfl (pc0 := 88) (pc' := 92) rfl (hb hby at_88) (by decide) (by decide) ?_
            show Steps p.tables e below (T1.setTop (mkF m 92 #[.val (.int p1), .val (.int p2), .val (.int p3), .val (.int p4), .val (.int p1), .val (.int b), .val (.long ((p1.toInt64) * (100 : Int64))), .second, .unset, .unset] [(.int (1 : Int32))])) _
            exact kt
      refine sg74 _ ?_
      show Steps p.tables e below (T1.setTop (mkF m 92 #[.val (.int p1), .val (.int p2), .val (.int p3), .val (.int p4), .val (.int p1), .val (.int b), .val (.long ((p1.toInt64) * (100 : Int64))), .second, .unset, .unset] [(.int (if b = (21 : Int32) then (1 : Int32) else (if (lcmpW ((1 : Int64) <<< (b &&& 0x3f).toInt64) ((p1.toInt64) * (100 : Int64))) < (0 : Int32) then (0 : Int32) else (1 : Int32))))])) _
      rw [en1]
      show Steps p.tables e below (T1.setTop (mkF m 92 #[.val (.int p1), .val (.int p2), .val (.int p3), .val (.int p4), .val (.int p1), .val (.int b), .val (.long ((p1.toInt64) * (100 : Int64))), .second, .unset, .unset] [(.int (1 : Int32))])) _
      refine XS.istore X1.here hx rfl (hb hby at_92) rfl (l' := #[.val (.int p1), .val (.int p2), .val (.int p3), .val (.int p4), .val (.int p1), .val (.int b), .val (.long ((p1.toInt64) * (100 : Int64))), .second, .val (.int (1 : Int32)), .unset]) rfl ?_
      show Steps p.tables e below (T1.setTop (mkF m 94 #[.val (.int p1), .val (.int p2), .val (.int p3), .val (.int p4), .val (.int p1), .val (.int b), .val (.long ((p1.toInt64) * (100 : Int64))), .second, .val (.int (1 : Int32)), .unset] [])) _
      refine XS.iload X1.here hx rfl (hb hby at_94) rfl ?_
      show Steps p.tables e below (T1.setTop (mkF m 96 #[.val (.int p1), .val (.int p2), .val (.int p3), .val (.int p4), .val (.int p1), .val (.int b), .val (.long ((p1.toInt64) * (100 : Int64))), .second, .val (.int (1 : Int32)), .unset] [(.int b)])) _
      refine XS.bipush X1.here hx rfl (hb hby at_96) ?_
      show Steps p.tables e below (T1.setTop (mkF m 98 #[.val (.int p1), .val (.int p2), .val (.int p3), .val (.int p4), .val (.int p1), .val (.int b), .val (.long ((p1.toInt64) * (100 : Int64))), .second, .val (.int (1 : Int32)), .unset] [(.int (8 : Int32)), (.int b)])) _
      have sg98 : ∀ target, Steps p.tables e below (T1.setTop (mkF m 118 #[.val (.int p1), .val (.int p2), .val (.int p3), .val (.int p4), .val (.int p1), .val (.int b), .val (.long ((p1.toInt64) * (100 : Int64))), .second, .val (.int (1 : Int32)), .unset] [(.int (if b = (8 : Int32) then (1 : Int32) else (if (lcmpW ((1 : Int64) <<< ((b - (1 : Int32)) &&& 0x3f).toInt64) ((p1.toInt64) * (100 : Int64))) < (0 : Int32) then (1 : Int32) else (0 : Int32))))])) target → Steps p.tables e below (T1.setTop (mkF m 98 #[.val (.int p1), .val (.int p2), .val (.int p3), .val (.int p4), .val (.int p1), .val (.int b), .val (.long ((p1.toInt64) * (100 : Int64))), .second, .val (.int (1 : Int32)), .unset] [(.int (8 : Int32)), (.int b)])) target := by
        intro target kt
        rcases Classical.em (b = (8 : Int32)) with hr98_0 | hr98_0
        · (try simp only [if_pos hr98_0] at kt)
          refine XS.icmpYes X1.here hx rfl (pc0 := 98) (pc' := 113) rfl (hb hby at_98) rfl (teq hr98_0).1 (by decide) (by decide) ?_
          show Steps p.tables e below (T1.setTop (mkF m 113 #[.val (.int p1), .val (.int p2), .val (.int p3), .val (.int p4), .val (.int p1), .val (.int b), .val (.long ((p1.toInt64) * (100 : Int64))), .second, .val (.int (1 : Int32)), .unset] [])) _
          refine XS.iconst X1.here hx rfl (hb hby at_113) ?_
          show Steps p.tables e below (T1.setTop (mkF m 114 #[.val (.int p1), .val (.int p2), .val (.int p3), .val (.int p4), .val (.int p1), .val (.int b), .val (.long ((p1.toInt64) * (100 : Int64))), .second, .val (.int (1 : Int32)), .unset] [(.int (1 : Int32))])) _
          refine XS.goto X1.here hx rfl (pc0 := 114) (pc' := 118) rfl (hb hby at_114) (by decide) (by decide) ?_
          show Steps p.tables e below (T1.setTop (mkF m 118 #[.val (.int p1), .val (.int p2), .val (.int p3), .val (.int p4), .val (.int p1), .val (.int b), .val (.long ((p1.toInt64) * (100 : Int64))), .second, .val (.int (1 : Int32)), .unset] [(.int (1 : Int32))])) _
          exact kt
        · (try simp only [if_neg hr98_0] at kt)
          refine XS.icmpNo X1.here hx rfl (hb hby at_98) rfl (feq hr98_0).1 ?_
          show Steps p.tables e below (T1.setTop (mkF m 101 #[.val (.int p1), .val (.int p2), .val (.int p3), .val (.int p4), .val (.int p1), .val (.int b), .val (.long ((p1.toInt64) * (100 : Int64))), .second, .val (.int (1 : Int32)), .unset] [])) _
          refine XS.lconst X1.here hx rfl (hb hby at_101) ?_
          show Steps p.tables e below (T1.setTop (mkF m 102 #[.val (.int p1), .val (.int p2), .val (.int p3), .val (.int p4), .val (.int p1), .val (.int b), .val (.long ((p1.toInt64) * (100 : Int64))), .second, .val (.int (1 : Int32)), .unset] [(.long (1 : Int64))])) _
          refine XS.iload X1.here hx rfl (hb hby at_102) rfl ?_
          show Steps p.tables e below (T1.setTop (mkF m 104 #[.val (.int p1), .val (.int p2), .val (.int p3), .val (.int p4), .val (.int p1), .val (.int b), .val (.long ((p1.toInt64) * (100 : Int64))), .second, .val (.int (1 : Int32)), .unset] [(.int b), (.long (1 : Int64))])) _
          refine XS.iconst X1.here hx rfl (hb hby at_104) ?_
          show Steps p.tables e below (T1.setTop (mkF m 105 #[.val (.int p1), .val (.int p2), .val (.int p3), .val (.int p4), .val (.int p1), .val (.int b), .val (.long ((p1.toInt64) * (100 : Int64))), .second, .val (.int (1 : Int32)), .unset] [(.int (1 : Int32)), (.int b), (.long (1 : Int64))])) _
          refine XS.isub X1.here hx rfl (hb hby at_105) rfl ?_
          show Steps p.tables e below (T1.setTop (mkF m 106 #[.val (.int p1), .val (.int p2), .val (.int p3), .val (.int p4), .val (.int p1), .val (.int b), .val (.long ((p1.toInt64) * (100 : Int64))), .second, .val (.int (1 : Int32)), .unset] [(.int (b - (1 : Int32))), (.long (1 : Int64))])) _
          refine XS.lshl X1.here hx rfl (hb hby at_106) rfl ?_
          show Steps p.tables e below (T1.setTop (mkF m 107 #[.val (.int p1), .val (.int p2), .val (.int p3), .val (.int p4), .val (.int p1), .val (.int b), .val (.long ((p1.toInt64) * (100 : Int64))), .second, .val (.int (1 : Int32)), .unset] [(.long ((1 : Int64) <<< ((b - (1 : Int32)) &&& 0x3f).toInt64))])) _
          refine XS.lload X1.here hx rfl (hb hby at_107) rfl ?_
          show Steps p.tables e below (T1.setTop (mkF m 109 #[.val (.int p1), .val (.int p2), .val (.int p3), .val (.int p4), .val (.int p1), .val (.int b), .val (.long ((p1.toInt64) * (100 : Int64))), .second, .val (.int (1 : Int32)), .unset] [(.long ((p1.toInt64) * (100 : Int64))), (.long ((1 : Int64) <<< ((b - (1 : Int32)) &&& 0x3f).toInt64))])) _
          refine XS.lcmp X1.here hx rfl (hb hby at_109) rfl ?_
          show Steps p.tables e below (T1.setTop (mkF m 110 #[.val (.int p1), .val (.int p2), .val (.int p3), .val (.int p4), .val (.int p1), .val (.int b), .val (.long ((p1.toInt64) * (100 : Int64))), .second, .val (.int (1 : Int32)), .unset] [(.int (lcmpW ((1 : Int64) <<< ((b - (1 : Int32)) &&& 0x3f).toInt64) ((p1.toInt64) * (100 : Int64))))])) _
          rcases Classical.em ((lcmpW ((1 : Int64) <<< ((b - (1 : Int32)) &&& 0x3f).toInt64) ((p1.toInt64) * (100 : Int64))) < (0 : Int32)) with hr110_1 | hr110_1
          · (try simp only [if_pos hr110_1] at kt)
            refine XS.ifNo X1.here hx rfl (hb hby at_110) rfl ((if0 _ _).trans (tlt hr110_1).2.1) ?_
            show Steps p.tables e below (T1.setTop (mkF m 113 #[.val (.int p1), .val (.int p2), .val (.int p3), .val (.int p4), .val (.int p1), .val (.int b), .val (.long ((p1.toInt64) * (100 : Int64))), .second, .val (.int (1 : Int32)), .unset] [])) _
            refine XS.iconst X1.here hx rfl (hb hby at_113) ?_
            show Steps p.tables e below (T1.setTop (mkF m 114 #[.val (.int p1), .val (.int p2), .val (.int p3), .val (.int p4), .val (.int p1), .val (.int b), .val (.long ((p1.toInt64) * (100 : Int64))), .second, .val (.int (1 : Int32)), .unset] [(.int (1 : Int32))])) _
            refine XS.goto X1.here hx rfl (pc0 := 114) (pc' := 118) rfl (hb hby at_114) (by decide) (by decide) ?_
            show Steps p.tables e below (T1.setTop (mkF m 118 #[.val (.int p1), .val (.int p2), .val (.int p3), .val (.int p4), .val (.int p1), .val (.int b), .val (.long ((p1.toInt64) * (100 : Int64))), .second, .val (.int (1 : Int32)), .unset] [(.int (1 : Int32))])) _
            exact kt
          · (try simp only [if_neg hr110_1] at kt)
            refine XS.ifYes X1.here hx rfl (pc0 := 110) (pc' := 117) rfl (hb hby at_110) rfl ((if0 _ _).trans (flt hr110_1).2.1) (by decide) (by decide) ?_
            show Steps p.tables e below (T1.setTop (mkF m 117 #[.val (.int p1), .val (.int p2), .val (.int p3), .val (.int p4), .val (.int p1), .val (.int b), .val (.long ((p1.toInt64) * (100 : Int64))), .second, .val (.int (1 : Int32)), .unset] [])) _
            refine XS.iconst X1.here hx rfl (hb hby at_117) ?_
            show Steps p.tables e below (T1.setTop (mkF m 118 #[.val (.int p1), .val (.int p2), .val (.int p3), .val (.int p4), .val (.int p1), .val (.int b), .val (.long ((p1.toInt64) * (100 : Int64))), .second, .val (.int (1 : Int32)), .unset] [(.int (0 : Int32))])) _
            exact kt
      refine sg98 _ ?_
      show Steps p.tables e below (T1.setTop (mkF m 118 #[.val (.int p1), .val (.int p2), .val (.int p3), .val (.int p4), .val (.int p1), .val (.int b), .val (.long ((p1.toInt64) * (100 : Int64))), .second, .val (.int (1 : Int32)), .unset] [(.int (if b = (8 : Int32) then (1 : Int32) else (if (lcmpW ((1 : Int64) <<< ((b - (1 : Int32)) &&& 0x3f).toInt64) ((p1.toInt64) * (100 : Int64))) < (0 : Int32) then (1 : Int32) else (0 : Int32))))])) _
      rw [le1]
      show Steps p.tables e below (T1.setTop (mkF m 118 #[.val (.int p1), .val (.int p2), .val (.int p3), .val (.int p4), .val (.int p1), .val (.int b), .val (.long ((p1.toInt64) * (100 : Int64))), .second, .val (.int (1 : Int32)), .unset] [(.int (1 : Int32))])) _
      refine XS.istore X1.here hx rfl (hb hby at_118) rfl (l' := #[.val (.int p1), .val (.int p2), .val (.int p3), .val (.int p4), .val (.int p1), .val (.int b), .val (.long ((p1.toInt64) * (100 : Int64))), .second, .val (.int (1 : Int32)), .val (.int (1 : Int32))]) rfl ?_
      show Steps p.tables e below (T1.setTop (mkF m 120 #[.val (.int p1), .val (.int p2), .val (.int p3), .val (.int p4), .val (.int p1), .val (.int b), .val (.long ((p1.toInt64) * (100 : Int64))), .second, .val (.int (1 : Int32)), .val (.int (1 : Int32))] [])) _
      refine XS.iload X1.here hx rfl (hb hby at_120) rfl ?_
      show Steps p.tables e below (T1.setTop (mkF m 122 #[.val (.int p1), .val (.int p2), .val (.int p3), .val (.int p4), .val (.int p1), .val (.int b), .val (.long ((p1.toInt64) * (100 : Int64))), .second, .val (.int (1 : Int32)), .val (.int (1 : Int32))] [(.int (1 : Int32))])) _
      refine XS.ifNo X1.here hx rfl (hb hby at_122) rfl ((if0 _ _).trans (feq (by decide : ¬ (1 : Int32) = 0)).1) ?_
      show Steps p.tables e below (T1.setTop (mkF m 125 #[.val (.int p1), .val (.int p2), .val (.int p3), .val (.int p4), .val (.int p1), .val (.int b), .val (.long ((p1.toInt64) * (100 : Int64))), .second, .val (.int (1 : Int32)), .val (.int (1 : Int32))] [])) _
      refine XS.iload X1.here hx rfl (hb hby at_125) rfl ?_
      show Steps p.tables e below (T1.setTop (mkF m 127 #[.val (.int p1), .val (.int p2), .val (.int p3), .val (.int p4), .val (.int p1), .val (.int b), .val (.long ((p1.toInt64) * (100 : Int64))), .second, .val (.int (1 : Int32)), .val (.int (1 : Int32))] [(.int (1 : Int32))])) _
      refine XS.ifNo X1.here hx rfl (hb hby at_127) rfl ((if0 _ _).trans (feq (by decide : ¬ (1 : Int32) = 0)).1) ?_
      show Steps p.tables e below (T1.setTop (mkF m 130 #[.val (.int p1), .val (.int p2), .val (.int p3), .val (.int p4), .val (.int p1), .val (.int b), .val (.long ((p1.toInt64) * (100 : Int64))), .second, .val (.int (1 : Int32)), .val (.int (1 : Int32))] [])) _
      refine XS.iconst X1.here hx rfl (hb hby at_130) ?_
      show Steps p.tables e below (T1.setTop (mkF m 131 #[.val (.int p1), .val (.int p2), .val (.int p3), .val (.int p4), .val (.int p1), .val (.int b), .val (.long ((p1.toInt64) * (100 : Int64))), .second, .val (.int (1 : Int32)), .val (.int (1 : Int32))] [(.int (1 : Int32))])) _
      refine XS.goto X1.here hx rfl (pc0 := 131) (pc' := 135) rfl (hb hby at_131) (by decide) (by decide) ?_
      show Steps p.tables e below (T1.setTop (mkF m 135 #[.val (.int p1), .val (.int p2), .val (.int p3), .val (.int p4), .val (.int p1), .val (.int b), .val (.long ((p1.toInt64) * (100 : Int64))), .second, .val (.int (1 : Int32)), .val (.int (1 : Int32))] [(.int (1 : Int32))])) _
      exact retN X1 hx (t := .boolean) Bd.returns (by simp) (hb hby at_135) hr
    · show Q_rm0 Z p1 p2 p3 p4 h0 n0 _ T1.heap _
      rw [e1]
      exact ⟨rfl, N1⟩
  · skip
    obtain ⟨kw, h_kw⟩ : ∃ z : Int32, z = (((((1 : Int64) <<< (((p2 &&& (2147483647 : Int32)) % (24 : Int32)) &&& 0x3f).toInt64) / (100 : Int64)).toInt32) + ((p3 &&& (3 : Int32)) - (1 : Int32))) := ⟨_, rfl⟩
    obtain ⟨_, _, ⟨T1, L1, k1, n1⟩, -, X1, ⟨Lc1, hQ1, l1, y1, z1⟩, st1⟩ := Jvm.LawKit.callS X0 hx (y := (⟨"com/example/sievemesh/sievemesh/qrp/RouteTable", "bitsFor", "(I)I"⟩ : MethodName)) hown (mvT hZ (hw _ (List.mem_of_getElem? (i := 2) rfl))) (mvT hZ (hw _ (List.mem_of_getElem? (i := 3) rfl))) (mvT hZ (hw _ (List.mem_of_getElem? (i := 4) rfl))) (mvT hZ (hw _ (List.mem_of_getElem? (i := 5) rfl))) (by decide) (backOf (W := 0) (rm5 l Z a0 hw [] kw h0 n0 Z0) hZ (hw _ (List.mem_of_getElem? (i := 5) rfl)) (hw _ (List.mem_of_getElem? (i := 4) rfl)) (by decide) (by decide)) (g := (mkF m 40 #[.val (.int p1), .val (.int p2), .val (.int p3), .val (.int p4), .val (.int kw), .val (.int ((p2 &&& (2147483647 : Int32)) % (24 : Int32))), .unset, .unset, .unset, .unset] [(.int kw)])) rfl (by rw [hml]; rfl) (argsL := [(.int kw)]) (rest := []) (lenOf pd_at__I_I rfl) rfl (by show 2 * 0 + _ ≤ _; exact Nat.le_of_eq rfl) (hb hby at_40) (fun _ _ => ⟨rfl, e0, (by decide : 0 + 0 ≤ _), (by decide : 0 + 0 ≤ _)⟩)
    dsimp only [Pt.U, Pt.locs, Pt.cells, Pt.slots] at X1 l1 y1 z1 st1 hQ1
    subst l1 y1 z1
    obtain ⟨rfl, N1q, e1⟩ := hQ1
    have N1 := Fr.app N0 N1q
    obtain ⟨b, h_b⟩ : ∃ z : Int32, z = (own_loop (kw.toInt64 * (100 : Int64)) 13 (8 : Int32)) := ⟨_, rfl⟩
    have hL := own_law (kw.toInt64 * (100 : Int64)) 13 (8 : Int32) (by decide) (by decide) (by decide) (Or.inl rfl)
    rw [← h_b] at hL
    obtain ⟨⟨l1, l2⟩, l3, l4⟩ := hL
    have k8 : (8 : Int32).toInt = 8 := by decide
    have k21 : (21 : Int32).toInt = 21 := by decide
    have b8 : ¬ b < (8 : Int32) := by rw [Int32.lt_iff_toInt_lt]; omega
    have b21 : ¬ (21 : Int32) < b := by rw [Int32.lt_iff_toInt_lt]; omega
    have en1 : (if b = (21 : Int32) then (1 : Int32) else (if (lcmpW ((1 : Int64) <<< (b &&& 0x3f).toInt64) ((kw.toInt64) * (100 : Int64))) < (0 : Int32) then (0 : Int32) else (1 : Int32))) = 1 := by
      rcases l3 with q | q
      · rw [if_pos q]
      · rw [if_neg q]; exact ite_self _
    have le1 : (if b = (8 : Int32) then (1 : Int32) else (if (lcmpW ((1 : Int64) <<< ((b - (1 : Int32)) &&& 0x3f).toInt64) ((kw.toInt64) * (100 : Int64))) < (0 : Int32) then (1 : Int32) else (0 : Int32))) = 1 := by
      rcases l4 with q | q
      · rw [if_pos q]
      · rw [if_pos q]; exact ite_self _
    obtain ⟨fs, hr, hrun, hended, hW, hsame⟩ := X1.leave (v := some (.int (1 : Int32))) (fun h => by rw [Bd.returns] at h; cases h)
    refine ⟨_, _, pre0 _ ?_, hrun, hended, _, _, rfl, ?_, ⟨_, rfl⟩, hW, hsame.mono (by decide) (by decide)⟩
    · show Steps p.tables e below (s₁.setTop (mkF m 0 #[.val (.int p1), .val (.int p2), .val (.int p3), .val (.int p4), .unset, .unset, .unset, .unset, .unset, .unset] [])) _
      refine XS.iloadN X0.here hx rfl (hb hby at_0) rfl ?_
      show Steps p.tables e below (s₁.setTop (mkF m 1 #[.val (.int p1), .val (.int p2), .val (.int p3), .val (.int p4), .unset, .unset, .unset, .unset, .unset, .unset] [(.int p4)])) _
      refine XS.iconst X0.here hx rfl (hb hby at_1) ?_
      show Steps p.tables e below (s₁.setTop (mkF m 2 #[.val (.int p1), .val (.int p2), .val (.int p3), .val (.int p4), .unset, .unset, .unset, .unset, .unset, .unset] [(.int (1 : Int32)), (.int p4)])) _
      refine XS.iand X0.here hx rfl (hb hby at_2) rfl ?_
      show Steps p.tables e below (s₁.setTop (mkF m 3 #[.val (.int p1), .val (.int p2), .val (.int p3), .val (.int p4), .unset, .unset, .unset, .unset, .unset, .unset] [(.int (p4 &&& (1 : Int32)))])) _
      refine XS.ifYes X0.here hx rfl (pc0 := 3) (pc' := 12) rfl (hb hby at_3) rfl ((if0 _ _).trans (feq c0).2) (by decide) (by decide) ?_
      show Steps p.tables e below (s₁.setTop (mkF m 12 #[.val (.int p1), .val (.int p2), .val (.int p3), .val (.int p4), .unset, .unset, .unset, .unset, .unset, .unset] [])) _
      refine XS.iloadN X0.here hx rfl (hb hby at_12) rfl ?_
      show Steps p.tables e below (s₁.setTop (mkF m 13 #[.val (.int p1), .val (.int p2), .val (.int p3), .val (.int p4), .unset, .unset, .unset, .unset, .unset, .unset] [(.int p2)])) _
      refine X0.ldcInt hx hown (mvT hZ (hw _ (List.mem_of_getElem? (i := 0) rfl))) (g := (mkF m 13 #[.val (.int p1), .val (.int p2), .val (.int p3), .val (.int p4), .unset, .unset, .unset, .unset, .unset, .unset] [(.int p2)])) rfl (hb hby at_13) _ ?_
      show Steps p.tables e below (s₁.setTop (mkF m 15 #[.val (.int p1), .val (.int p2), .val (.int p3), .val (.int p4), .unset, .unset, .unset, .unset, .unset, .unset] [(.int (2147483647 : Int32)), (.int p2)])) _
      refine XS.iand X0.here hx rfl (hb hby at_15) rfl ?_
      show Steps p.tables e below (s₁.setTop (mkF m 16 #[.val (.int p1), .val (.int p2), .val (.int p3), .val (.int p4), .unset, .unset, .unset, .unset, .unset, .unset] [(.int (p2 &&& (2147483647 : Int32)))])) _
      refine XS.bipush X0.here hx rfl (hb hby at_16) ?_
      show Steps p.tables e below (s₁.setTop (mkF m 18 #[.val (.int p1), .val (.int p2), .val (.int p3), .val (.int p4), .unset, .unset, .unset, .unset, .unset, .unset] [(.int (24 : Int32)), (.int (p2 &&& (2147483647 : Int32)))])) _
      refine iremM X0 hx rfl (hb hby at_18) rfl (by decide) ?_
      show Steps p.tables e below (s₁.setTop (mkF m 19 #[.val (.int p1), .val (.int p2), .val (.int p3), .val (.int p4), .unset, .unset, .unset, .unset, .unset, .unset] [(.int ((p2 &&& (2147483647 : Int32)) % (24 : Int32)))])) _
      refine XS.istore X0.here hx rfl (hb hby at_19) rfl (l' := #[.val (.int p1), .val (.int p2), .val (.int p3), .val (.int p4), .unset, .val (.int ((p2 &&& (2147483647 : Int32)) % (24 : Int32))), .unset, .unset, .unset, .unset]) rfl ?_
      show Steps p.tables e below (s₁.setTop (mkF m 21 #[.val (.int p1), .val (.int p2), .val (.int p3), .val (.int p4), .unset, .val (.int ((p2 &&& (2147483647 : Int32)) % (24 : Int32))), .unset, .unset, .unset, .unset] [])) _
      refine XS.lconst X0.here hx rfl (hb hby at_21) ?_
      show Steps p.tables e below (s₁.setTop (mkF m 22 #[.val (.int p1), .val (.int p2), .val (.int p3), .val (.int p4), .unset, .val (.int ((p2 &&& (2147483647 : Int32)) % (24 : Int32))), .unset, .unset, .unset, .unset] [(.long (1 : Int64))])) _
      refine XS.iload X0.here hx rfl (hb hby at_22) rfl ?_
      show Steps p.tables e below (s₁.setTop (mkF m 24 #[.val (.int p1), .val (.int p2), .val (.int p3), .val (.int p4), .unset, .val (.int ((p2 &&& (2147483647 : Int32)) % (24 : Int32))), .unset, .unset, .unset, .unset] [(.int ((p2 &&& (2147483647 : Int32)) % (24 : Int32))), (.long (1 : Int64))])) _
      refine XS.lshl X0.here hx rfl (hb hby at_24) rfl ?_
      show Steps p.tables e below (s₁.setTop (mkF m 25 #[.val (.int p1), .val (.int p2), .val (.int p3), .val (.int p4), .unset, .val (.int ((p2 &&& (2147483647 : Int32)) % (24 : Int32))), .unset, .unset, .unset, .unset] [(.long ((1 : Int64) <<< (((p2 &&& (2147483647 : Int32)) % (24 : Int32)) &&& 0x3f).toInt64))])) _
      refine X0.ldc2Long hx hown (mvT hZ (hw _ (List.mem_of_getElem? (i := 1) rfl))) (g := (mkF m 25 #[.val (.int p1), .val (.int p2), .val (.int p3), .val (.int p4), .unset, .val (.int ((p2 &&& (2147483647 : Int32)) % (24 : Int32))), .unset, .unset, .unset, .unset] [(.long ((1 : Int64) <<< (((p2 &&& (2147483647 : Int32)) % (24 : Int32)) &&& 0x3f).toInt64))])) rfl (hb hby at_25) _ ?_
      show Steps p.tables e below (s₁.setTop (mkF m 28 #[.val (.int p1), .val (.int p2), .val (.int p3), .val (.int p4), .unset, .val (.int ((p2 &&& (2147483647 : Int32)) % (24 : Int32))), .unset, .unset, .unset, .unset] [(.long (100 : Int64)), (.long ((1 : Int64) <<< (((p2 &&& (2147483647 : Int32)) % (24 : Int32)) &&& 0x3f).toInt64))])) _
      refine XS.ldiv X0.here hx rfl (hb hby at_28) rfl (by decide) ?_
      show Steps p.tables e below (s₁.setTop (mkF m 29 #[.val (.int p1), .val (.int p2), .val (.int p3), .val (.int p4), .unset, .val (.int ((p2 &&& (2147483647 : Int32)) % (24 : Int32))), .unset, .unset, .unset, .unset] [(.long (((1 : Int64) <<< (((p2 &&& (2147483647 : Int32)) % (24 : Int32)) &&& 0x3f).toInt64) / (100 : Int64)))])) _
      refine XS.l2i X0.here hx rfl (hb hby at_29) rfl ?_
      show Steps p.tables e below (s₁.setTop (mkF m 30 #[.val (.int p1), .val (.int p2), .val (.int p3), .val (.int p4), .unset, .val (.int ((p2 &&& (2147483647 : Int32)) % (24 : Int32))), .unset, .unset, .unset, .unset] [(.int ((((1 : Int64) <<< (((p2 &&& (2147483647 : Int32)) % (24 : Int32)) &&& 0x3f).toInt64) / (100 : Int64)).toInt32))])) _
      refine XS.iloadN X0.here hx rfl (hb hby at_30) rfl ?_
      show Steps p.tables e below (s₁.setTop (mkF m 31 #[.val (.int p1), .val (.int p2), .val (.int p3), .val (.int p4), .unset, .val (.int ((p2 &&& (2147483647 : Int32)) % (24 : Int32))), .unset, .unset, .unset, .unset] [(.int p3), (.int ((((1 : Int64) <<< (((p2 &&& (2147483647 : Int32)) % (24 : Int32)) &&& 0x3f).toInt64) / (100 : Int64)).toInt32))])) _
      refine XS.iconst X0.here hx rfl (hb hby at_31) ?_
      show Steps p.tables e below (s₁.setTop (mkF m 32 #[.val (.int p1), .val (.int p2), .val (.int p3), .val (.int p4), .unset, .val (.int ((p2 &&& (2147483647 : Int32)) % (24 : Int32))), .unset, .unset, .unset, .unset] [(.int (3 : Int32)), (.int p3), (.int ((((1 : Int64) <<< (((p2 &&& (2147483647 : Int32)) % (24 : Int32)) &&& 0x3f).toInt64) / (100 : Int64)).toInt32))])) _
      refine XS.iand X0.here hx rfl (hb hby at_32) rfl ?_
      show Steps p.tables e below (s₁.setTop (mkF m 33 #[.val (.int p1), .val (.int p2), .val (.int p3), .val (.int p4), .unset, .val (.int ((p2 &&& (2147483647 : Int32)) % (24 : Int32))), .unset, .unset, .unset, .unset] [(.int (p3 &&& (3 : Int32))), (.int ((((1 : Int64) <<< (((p2 &&& (2147483647 : Int32)) % (24 : Int32)) &&& 0x3f).toInt64) / (100 : Int64)).toInt32))])) _
      refine XS.iconst X0.here hx rfl (hb hby at_33) ?_
      show Steps p.tables e below (s₁.setTop (mkF m 34 #[.val (.int p1), .val (.int p2), .val (.int p3), .val (.int p4), .unset, .val (.int ((p2 &&& (2147483647 : Int32)) % (24 : Int32))), .unset, .unset, .unset, .unset] [(.int (1 : Int32)), (.int (p3 &&& (3 : Int32))), (.int ((((1 : Int64) <<< (((p2 &&& (2147483647 : Int32)) % (24 : Int32)) &&& 0x3f).toInt64) / (100 : Int64)).toInt32))])) _
      refine XS.isub X0.here hx rfl (hb hby at_34) rfl ?_
      show Steps p.tables e below (s₁.setTop (mkF m 35 #[.val (.int p1), .val (.int p2), .val (.int p3), .val (.int p4), .unset, .val (.int ((p2 &&& (2147483647 : Int32)) % (24 : Int32))), .unset, .unset, .unset, .unset] [(.int ((p3 &&& (3 : Int32)) - (1 : Int32))), (.int ((((1 : Int64) <<< (((p2 &&& (2147483647 : Int32)) % (24 : Int32)) &&& 0x3f).toInt64) / (100 : Int64)).toInt32))])) _
      refine XS.iadd X0.here hx rfl (hb hby at_35) rfl ?_
      show Steps p.tables e below (s₁.setTop (mkF m 36 #[.val (.int p1), .val (.int p2), .val (.int p3), .val (.int p4), .unset, .val (.int ((p2 &&& (2147483647 : Int32)) % (24 : Int32))), .unset, .unset, .unset, .unset] [(.int (((((1 : Int64) <<< (((p2 &&& (2147483647 : Int32)) % (24 : Int32)) &&& 0x3f).toInt64) / (100 : Int64)).toInt32) + ((p3 &&& (3 : Int32)) - (1 : Int32))))])) _
      refine XS.istore X0.here hx rfl (hb hby at_36) rfl (l' := #[.val (.int p1), .val (.int p2), .val (.int p3), .val (.int p4), .val (.int (((((1 : Int64) <<< (((p2 &&& (2147483647 : Int32)) % (24 : Int32)) &&& 0x3f).toInt64) / (100 : Int64)).toInt32) + ((p3 &&& (3 : Int32)) - (1 : Int32)))), .val (.int ((p2 &&& (2147483647 : Int32)) % (24 : Int32))), .unset, .unset, .unset, .unset]) rfl ?_
      show Steps p.tables e below (s₁.setTop (mkF m 38 #[.val (.int p1), .val (.int p2), .val (.int p3), .val (.int p4), .val (.int (((((1 : Int64) <<< (((p2 &&& (2147483647 : Int32)) % (24 : Int32)) &&& 0x3f).toInt64) / (100 : Int64)).toInt32) + ((p3 &&& (3 : Int32)) - (1 : Int32)))), .val (.int ((p2 &&& (2147483647 : Int32)) % (24 : Int32))), .unset, .unset, .unset, .unset] [])) _
      rw [← h_kw]
      show Steps p.tables e below (s₁.setTop (mkF m 38 #[.val (.int p1), .val (.int p2), .val (.int p3), .val (.int p4), .val (.int kw), .val (.int ((p2 &&& (2147483647 : Int32)) % (24 : Int32))), .unset, .unset, .unset, .unset] [])) _
      refine XS.iload X0.here hx rfl (hb hby at_38) rfl ?_
      show Steps p.tables e below (s₁.setTop (mkF m 40 #[.val (.int p1), .val (.int p2), .val (.int p3), .val (.int p4), .val (.int kw), .val (.int ((p2 &&& (2147483647 : Int32)) % (24 : Int32))), .unset, .unset, .unset, .unset] [(.int kw)])) _
      refine st1 _ ?_
      show Steps p.tables e below (T1.setTop (mkF m 43 #[.val (.int p1), .val (.int p2), .val (.int p3), .val (.int p4), .val (.int kw), .val (.int ((p2 &&& (2147483647 : Int32)) % (24 : Int32))), .unset, .unset, .unset, .unset] [(.int (own_loop (kw.toInt64 * (100 : Int64)) 13 (8 : Int32)))])) _
      rw [← h_b]
      show Steps p.tables e below (T1.setTop (mkF m 43 #[.val (.int p1), .val (.int p2), .val (.int p3), .val (.int p4), .val (.int kw), .val (.int ((p2 &&& (2147483647 : Int32)) % (24 : Int32))), .unset, .unset, .unset, .unset] [(.int b)])) _
      refine XS.istore X1.here hx rfl (hb hby at_43) rfl (l' := #[.val (.int p1), .val (.int p2), .val (.int p3), .val (.int p4), .val (.int kw), .val (.int b), .unset, .unset, .unset, .unset]) rfl ?_
      show Steps p.tables e below (T1.setTop (mkF m 45 #[.val (.int p1), .val (.int p2), .val (.int p3), .val (.int p4), .val (.int kw), .val (.int b), .unset, .unset, .unset, .unset] [])) _
      refine XS.iload X1.here hx rfl (hb hby at_45) rfl ?_
      show Steps p.tables e below (T1.setTop (mkF m 47 #[.val (.int p1), .val (.int p2), .val (.int p3), .val (.int p4), .val (.int kw), .val (.int b), .unset, .unset, .unset, .unset] [(.int b)])) _
      refine XS.bipush X1.here hx rfl (hb hby at_47) ?_
      show Steps p.tables e below (T1.setTop (mkF m 49 #[.val (.int p1), .val (.int p2), .val (.int p3), .val (.int p4), .val (.int kw), .val (.int b), .unset, .unset, .unset, .unset] [(.int (8 : Int32)), (.int b)])) _
      refine XS.icmpNo X1.here hx rfl (hb hby at_49) rfl (flt b8).1 ?_
      show Steps p.tables e below (T1.setTop (mkF m 52 #[.val (.int p1), .val (.int p2), .val (.int p3), .val (.int p4), .val (.int kw), .val (.int b), .unset, .unset, .unset, .unset] [])) _
      refine XS.iload X1.here hx rfl (hb hby at_52) rfl ?_
      show Steps p.tables e below (T1.setTop (mkF m 54 #[.val (.int p1), .val (.int p2), .val (.int p3), .val (.int p4), .val (.int kw), .val (.int b), .unset, .unset, .unset, .unset] [(.int b)])) _
      refine XS.bipush X1.here hx rfl (hb hby at_54) ?_
      show Steps p.tables e below (T1.setTop (mkF m 56 #[.val (.int p1), .val (.int p2), .val (.int p3), .val (.int p4), .val (.int kw), .val (.int b), .unset, .unset, .unset, .unset] [(.int (21 : Int32)), (.int b)])) _
      refine XS.icmpYes X1.here hx rfl (pc0 := 56) (pc' := 61) rfl (hb hby at_56) rfl (flt b21).2.2.2 (by decide) (by decide) ?_
      show Steps p.tables e below (T1.setTop (mkF m 61 #[.val (.int p1), .val (.int p2), .val (.int p3), .val (.int p4), .val (.int kw), .val (.int b), .unset, .unset, .unset, .unset] [])) _
      refine XS.iload X1.here hx rfl (hb hby at_61) rfl ?_
      show Steps p.tables e below (T1.setTop (mkF m 63 #[.val (.int p1), .val (.int p2), .val (.int p3), .val (.int p4), .val (.int kw), .val (.int b), .unset, .unset, .unset, .unset] [(.int kw)])) _
      refine XS.i2l X1.here hx rfl (hb hby at_63) rfl ?_
      show Steps p.tables e below (T1.setTop (mkF m 64 #[.val (.int p1), .val (.int p2), .val (.int p3), .val (.int p4), .val (.int kw), .val (.int b), .unset, .unset, .unset, .unset] [(.long (kw.toInt64))])) _
      refine X1.ldc2Long hx hown (mvT hZ (hw _ (List.mem_of_getElem? (i := 1) rfl))) (g := (mkF m 64 #[.val (.int p1), .val (.int p2), .val (.int p3), .val (.int p4), .val (.int kw), .val (.int b), .unset, .unset, .unset, .unset] [(.long (kw.toInt64))])) rfl (hb hby at_64) _ ?_
      show Steps p.tables e below (T1.setTop (mkF m 67 #[.val (.int p1), .val (.int p2), .val (.int p3), .val (.int p4), .val (.int kw), .val (.int b), .unset, .unset, .unset, .unset] [(.long (100 : Int64)), (.long (kw.toInt64))])) _
      refine XS.lmul X1.here hx rfl (hb hby at_67) rfl ?_
      show Steps p.tables e below (T1.setTop (mkF m 68 #[.val (.int p1), .val (.int p2), .val (.int p3), .val (.int p4), .val (.int kw), .val (.int b), .unset, .unset, .unset, .unset] [(.long ((kw.toInt64) * (100 : Int64)))])) _
      refine XS.lstore X1.here hx rfl (hb hby at_68) rfl (l' := #[.val (.int p1), .val (.int p2), .val (.int p3), .val (.int p4), .val (.int kw), .val (.int b), .val (.long ((kw.toInt64) * (100 : Int64))), .second, .unset, .unset]) rfl ?_
      show Steps p.tables e below (T1.setTop (mkF m 70 #[.val (.int p1), .val (.int p2), .val (.int p3), .val (.int p4), .val (.int kw), .val (.int b), .val (.long ((kw.toInt64) * (100 : Int64))), .second, .unset, .unset] [])) _
      refine XS.iload X1.here hx rfl (hb hby at_70) rfl ?_
      show Steps p.tables e below (T1.setTop (mkF m 72 #[.val (.int p1), .val (.int p2), .val (.int p3), .val (.int p4), .val (.int kw), .val (.int b), .val (.long ((kw.toInt64) * (100 : Int64))), .second, .unset, .unset] [(.int b)])) _
      refine XS.bipush X1.here hx rfl (hb hby at_72) ?_
      show Steps p.tables e below (T1.setTop (mkF m 74 #[.val (.int p1), .val (.int p2), .val (.int p3), .val (.int p4), .val (.int kw), .val (.int b), .val (.long ((kw.toInt64) * (100 : Int64))), .second, .unset, .unset] [(.int (21 : Int32)), (.int b)])) _
      have sg74 : ∀ target, Steps p.tables e below (T1.setTop (mkF m 92 #[.val (.int p1), .val (.int p2), .val (.int p3), .val (.int p4), .val (.int kw), .val (.int b), .val (.long ((kw.toInt64) * (100 : Int64))), .second, .unset, .unset] [(.int (if b = (21 : Int32) then (1 : Int32) else (if (lcmpW ((1 : Int64) <<< (b &&& 0x3f).toInt64) ((kw.toInt64) * (100 : Int64))) < (0 : Int32) then (0 : Int32) else (1 : Int32))))])) target → Steps p.tables e below (T1.setTop (mkF m 74 #[.val (.int p1), .val (.int p2), .val (.int p3), .val (.int p4), .val (.int kw), .val (.int b), .val (.long ((kw.toInt64) * (100 : Int64))), .second, .unset, .unset] [(.int (21 : Int32)), (.int b)])) target := by
        intro target kt
        rcases Classical.em (b = (21 : Int32)) with hr74_0 | hr74_0
        · (try simp only [if_pos hr74_0] at kt)
          refine XS.icmpYes X1.here hx rfl (pc0 := 74) (pc' := 87) rfl (hb hby at_74) rfl (teq hr74_0).1 (by decide) (by decide) ?_
          show Steps p.tables e below (T1.setTop (mkF m 87 #[.val (.int p1), .val (.int p2), .val (.int p3), .val (.int p4), .val (.int kw), .val (.int b), .val (.long ((kw.toInt64) * (100 : Int64))), .second, .unset, .unset] [])) _
          refine XS.iconst X1.here hx rfl (hb hby at_87) ?_
          show Steps p.tables e below (T1.setTop (mkF m 88 #[.val (.int p1), .val (.int p2), .val (.int p3), .val (.int p4), .val (.int kw), .val (.int b), .val (.long ((kw.toInt64) * (100 : Int64))), .second, .unset, .unset] [(.int (1 : Int32))])) _
          refine XS.goto X1.here hx rfl (pc0 := 88) (pc' := 92) rfl (hb hby at_88) (by decide) (by decide) ?_
          show Steps p.tables e below (T1.setTop (mkF m 92 #[.val (.int p1), .val (.int p2), .val (.int p3), .val (.int p4), .val (.int kw), .val (.int b), .val (.long ((kw.toInt64) * (100 : Int64))), .second, .unset, .unset] [(.int (1 : Int32))])) _
          exact kt
        · (try simp only [if_neg hr74_0] at kt)
          refine XS.icmpNo X1.here hx rfl (hb hby at_74) rfl (feq hr74_0).1 ?_
          show Steps p.tables e below (T1.setTop (mkF m 77 #[.val (.int p1), .val (.int p2), .val (.int p3), .val (.int p4), .val (.int kw), .val (.int b), .val (.long ((kw.toInt64) * (100 : Int64))), .second, .unset, .unset] [])) _
          refine XS.lconst X1.here hx rfl (hb hby at_77) ?_
          show Steps p.tables e below (T1.setTop (mkF m 78 #[.val (.int p1), .val (.int p2), .val (.int p3), .val (.int p4), .val (.int kw), .val (.int b), .val (.long ((kw.toInt64) * (100 : Int64))), .second, .unset, .unset] [(.long (1 : Int64))])) _
          refine XS.iload X1.here hx rfl (hb hby at_78) rfl ?_
          show Steps p.tables e below (T1.setTop (mkF m 80 #[.val (.int p1), .val (.int p2), .val (.int p3), .val (.int p4), .val (.int kw), .val (.int b), .val (.long ((kw.toInt64) * (100 : Int64))), .second, .unset, .unset] [(.int b), (.long (1 : Int64))])) _
          refine XS.lshl X1.here hx rfl (hb hby at_80) rfl ?_
          show Steps p.tables e below (T1.setTop (mkF m 81 #[.val (.int p1), .val (.int p2), .val (.int p3), .val (.int p4), .val (.int kw), .val (.int b), .val (.long ((kw.toInt64) * (100 : Int64))), .second, .unset, .unset] [(.long ((1 : Int64) <<< (b &&& 0x3f).toInt64))])) _
          refine XS.lload X1.here hx rfl (hb hby at_81) rfl ?_
          show Steps p.tables e below (T1.setTop (mkF m 83 #[.val (.int p1), .val (.int p2), .val (.int p3), .val (.int p4), .val (.int kw), .val (.int b), .val (.long ((kw.toInt64) * (100 : Int64))), .second, .unset, .unset] [(.long ((kw.toInt64) * (100 : Int64))), (.long ((1 : Int64) <<< (b &&& 0x3f).toInt64))])) _
          refine XS.lcmp X1.here hx rfl (hb hby at_83) rfl ?_
          show Steps p.tables e below (T1.setTop (mkF m 84 #[.val (.int p1), .val (.int p2), .val (.int p3), .val (.int p4), .val (.int kw), .val (.int b), .val (.long ((kw.toInt64) * (100 : Int64))), .second, .unset, .unset] [(.int (lcmpW ((1 : Int64) <<< (b &&& 0x3f).toInt64) ((kw.toInt64) * (100 : Int64))))])) _
          rcases Classical.em ((lcmpW ((1 : Int64) <<< (b &&& 0x3f).toInt64) ((kw.toInt64) * (100 : Int64))) < (0 : Int32)) with hr84_1 | hr84_1
          · (try simp only [if_pos hr84_1] at kt)
            refine XS.ifYes X1.here hx rfl (pc0 := 84) (pc' := 91) rfl (hb hby at_84) rfl ((if0 _ _).trans (tlt hr84_1).1) (by decide) (by decide) ?_
            show Steps p.tables e below (T1.setTop (mkF m 91 #[.val (.int p1), .val (.int p2), .val (.int p3), .val (.int p4), .val (.int kw), .val (.int b), .val (.long ((kw.toInt64) * (100 : Int64))), .second, .unset, .unset] [])) _
            refine XS.iconst X1.here hx rfl (hb hby at_91) ?_
            show Steps p.tables e below (T1.setTop (mkF m 92 #[.val (.int p1), .val (.int p2), .val (.int p3), .val (.int p4), .val (.int kw), .val (.int b), .val (.long ((kw.toInt64) * (100 : Int64))), .second, .unset, .unset] [(.int (0 : Int32))])) _
            exact kt
          · (try simp only [if_neg hr84_1] at kt)
            refine XS.ifNo X1.here hx rfl (hb hby at_84) rfl ((if0 _ _).trans (flt hr84_1).1) ?_
            show Steps p.tables e below (T1.setTop (mkF m 87 #[.val (.int p1), .val (.int p2), .val (.int p3), .val (.int p4), .val (.int kw), .val (.int b), .val (.long ((kw.toInt64) * (100 : Int64))), .second, .unset, .unset] [])) _
            refine XS.iconst X1.here hx rfl (hb hby at_87) ?_
            show Steps p.tables e below (T1.setTop (mkF m 88 #[.val (.int p1), .val (.int p2), .val (.int p3), .val (.int p4), .val (.int kw), .val (.int b), .val (.long ((kw.toInt64) * (100 : Int64))), .second, .unset, .unset] [(.int (1 : Int32))])) _
            refine XS.goto X1.here hx rfl (pc0 := 88) (pc' := 92) rfl (hb hby at_88) (by decide) (by decide) ?_
            show Steps p.tables e below (T1.setTop (mkF m 92 #[.val (.int p1), .val (.int p2), .val (.int p3), .val (.int p4), .val (.int kw), .val (.int b), .val (.long ((kw.toInt64) * (100 : Int64))), .second, .unset, .unset] [(.int (1 : Int32))])) _
            exact kt
      refine sg74 _ ?_
      show Steps p.tables e below (T1.setTop (mkF m 92 #[.val (.int p1), .val (.int p2), .val (.int p3), .val (.int p4), .val (.int kw), .val (.int b), .val (.long ((kw.toInt64) * (100 : Int64))), .second, .unset, .unset] [(.int (if b = (21 : Int32) then (1 : Int32) else (if (lcmpW ((1 : Int64) <<< (b &&& 0x3f).toInt64) ((kw.toInt64) * (100 : Int64))) < (0 : Int32) then (0 : Int32) else (1 : Int32))))])) _
      rw [en1]
      show Steps p.tables e below (T1.setTop (mkF m 92 #[.val (.int p1), .val (.int p2), .val (.int p3), .val (.int p4), .val (.int kw), .val (.int b), .val (.long ((kw.toInt64) * (100 : Int64))), .second, .unset, .unset] [(.int (1 : Int32))])) _
      refine XS.istore X1.here hx rfl (hb hby at_92) rfl (l' := #[.val (.int p1), .val (.int p2), .val (.int p3), .val (.int p4), .val (.int kw), .val (.int b), .val (.long ((kw.toInt64) * (100 : Int64))), .second, .val (.int (1 : Int32)), .unset]) rfl ?_
      show Steps p.tables e below (T1.setTop (mkF m 94 #[.val (.int p1), .val (.int p2), .val (.int p3), .val (.int p4), .val (.int kw), .val (.int b), .val (.long ((kw.toInt64) * (100 : Int64))), .second, .val (.int (1 : Int32)), .unset] [])) _
      refine XS.iload X1.here hx rfl (hb hby at_94) rfl ?_
      show Steps p.tables e below (T1.setTop (mkF m 96 #[.val (.int p1), .val (.int p2), .val (.int p3), .val (.int p4), .val (.int kw), .val (.int b), .val (.long ((kw.toInt64) * (100 : Int64))), .second, .val (.int (1 : Int32)), .unset] [(.int b)])) _
      refine XS.bipush X1.here hx rfl (hb hby at_96) ?_
      show Steps p.tables e below (T1.setTop (mkF m 98 #[.val (.int p1), .val (.int p2), .val (.int p3), .val (.int p4), .val (.int kw), .val (.int b), .val (.long ((kw.toInt64) * (100 : Int64))), .second, .val (.int (1 : Int32)), .unset] [(.int (8 : Int32)), (.int b)])) _
      have sg98 : ∀ target, Steps p.tables e below (T1.setTop (mkF m 118 #[.val (.int p1), .val (.int p2), .val (.int p3), .val (.int p4), .val (.int kw), .val (.int b), .val (.long ((kw.toInt64) * (100 : Int64))), .second, .val (.int (1 : Int32)), .unset] [(.int (if b = (8 : Int32) then (1 : Int32) else (if (lcmpW ((1 : Int64) <<< ((b - (1 : Int32)) &&& 0x3f).toInt64) ((kw.toInt64) * (100 : Int64))) < (0 : Int32) then (1 : Int32) else (0 : Int32))))])) target → Steps p.tables e below (T1.setTop (mkF m 98 #[.val (.int p1), .val (.int p2), .val (.int p3), .val (.int p4), .val (.int kw), .val (.int b), .val (.long ((kw.toInt64) * (100 : Int64))), .second, .val (.int (1 : Int32)), .unset] [(.int (8 : Int32)), (.int b)])) target := by
        intro target kt
        rcases Classical.em (b = (8 : Int32)) with hr98_0 | hr98_0
        · (try simp only [if_pos hr98_0] at kt)
          refine XS.icmpYes X1.here hx rfl (pc0 := 98) (pc' := 113) rfl (hb hby at_98) rfl (teq hr98_0).1 (by decide) (by decide) ?_
          show Steps p.tables e below (T1.setTop (mkF m 113 #[.val (.int p1), .val (.int p2), .val (.int p3), .val (.int p4), .val (.int kw), .val (.int b), .val (.long ((kw.toInt64) * (100 : Int64))), .second, .val (.int (1 : Int32)), .unset] [])) _
          refine XS.iconst X1.here hx rfl (hb hby at_113) ?_
          show Steps p.tables e below (T1.setTop (mkF m 114 #[.val (.int p1), .val (.int p2), .val (.int p3), .val (.int p4), .val (.int kw), .val (.int b), .val (.long ((kw.toInt64) * (100 : Int64))), .second, .val (.int (1 : Int32)), .unset] [(.int (1 : Int32))])) _
          refine XS.goto X1.here hx rfl (pc0 := 114) (pc' := 118) rfl (hb hby at_114) (by decide) (by decide) ?_
          show Steps p.tables e below (T1.setTop (mkF m 118 #[.val (.int p1), .val (.int p2), .val (.int p3), .val (.int p4), .val (.int kw), .val (.int b), .val (.long ((kw.toInt64) * (100 : Int64))), .second, .val (.int (1 : Int32)), .unset] [(.int (1 : Int32))])) _
          exact kt
        · (try simp only [if_neg hr98_0] at kt)
          refine XS.icmpNo X1.here hx rfl (hb hby at_98) rfl (feq hr98_0).1 ?_
          show Steps p.tables e below (T1.setTop (mkF m 101 #[.val (.int p1), .val (.int p2), .val (.int p3), .val (.int p4), .val (.int kw), .val (.int b), .val (.long ((kw.toInt64) * (100 : Int64))), .second, .val (.int (1 : Int32)), .unset] [])) _
          refine XS.lconst X1.here hx rfl (hb hby at_101) ?_
          show Steps p.tables e below (T1.setTop (mkF m 102 #[.val (.int p1), .val (.int p2), .val (.int p3), .val (.int p4), .val (.int kw), .val (.int b), .val (.long ((kw.toInt64) * (100 : Int64))), .second, .val (.int (1 : Int32)), .unset] [(.long (1 : Int64))])) _
          refine XS.iload X1.here hx rfl (hb hby at_102) rfl ?_
          show Steps p.tables e below (T1.setTop (mkF m 104 #[.val (.int p1), .val (.int p2), .val (.int p3), .val (.int p4), .val (.int kw), .val (.int b), .val (.long ((kw.toInt64) * (100 : Int64))), .second, .val (.int (1 : Int32)), .unset] [(.int b), (.long (1 : Int64))])) _
          refine XS.iconst X1.here hx rfl (hb hby at_104) ?_
          show Steps p.tables e below (T1.setTop (mkF m 105 #[.val (.int p1), .val (.int p2), .val (.int p3), .val (.int p4), .val (.int kw), .val (.int b), .val (.long ((kw.toInt64) * (100 : Int64))), .second, .val (.int (1 : Int32)), .unset] [(.int (1 : Int32)), (.int b), (.long (1 : Int64))])) _
          refine XS.isub X1.here hx rfl (hb hby at_105) rfl ?_
          show Steps p.tables e below (T1.setTop (mkF m 106 #[.val (.int p1), .val (.int p2), .val (.int p3), .val (.int p4), .val (.int kw), .val (.int b), .val (.long ((kw.toInt64) * (100 : Int64))), .second, .val (.int (1 : Int32)), .unset] [(.int (b - (1 : Int32))), (.long (1 : Int64))])) _
          refine XS.lshl X1.here hx rfl (hb hby at_106) rfl ?_
          show Steps p.tables e below (T1.setTop (mkF m 107 #[.val (.int p1), .val (.int p2), .val (.int p3), .val (.int p4), .val (.int kw), .val (.int b), .val (.long ((kw.toInt64) * (100 : Int64))), .second, .val (.int (1 : Int32)), .unset] [(.long ((1 : Int64) <<< ((b - (1 : Int32)) &&& 0x3f).toInt64))])) _
          refine XS.lload X1.here hx rfl (hb hby at_107) rfl ?_
          show Steps p.tables e below (T1.setTop (mkF m 109 #[.val (.int p1), .val (.int p2), .val (.int p3), .val (.int p4), .val (.int kw), .val (.int b), .val (.long ((kw.toInt64) * (100 : Int64))), .second, .val (.int (1 : Int32)), .unset] [(.long ((kw.toInt64) * (100 : Int64))), (.long ((1 : Int64) <<< ((b - (1 : Int32)) &&& 0x3f).toInt64))])) _
          refine XS.lcmp X1.here hx rfl (hb hby at_109) rfl ?_
          show Steps p.tables e below (T1.setTop (mkF m 110 #[.val (.int p1), .val (.int p2), .val (.int p3), .val (.int p4), .val (.int kw), .val (.int b), .val (.long ((kw.toInt64) * (100 : Int64))), .second, .val (.int (1 : Int32)), .unset] [(.int (lcmpW ((1 : Int64) <<< ((b - (1 : Int32)) &&& 0x3f).toInt64) ((kw.toInt64) * (100 : Int64))))])) _
          rcases Classical.em ((lcmpW ((1 : Int64) <<< ((b - (1 : Int32)) &&& 0x3f).toInt64) ((kw.toInt64) * (100 : Int64))) < (0 : Int32)) with hr110_1 | hr110_1
          · (try simp only [if_pos hr110_1] at kt)
            refine XS.ifNo X1.here hx rfl (hb hby at_110) rfl ((if0 _ _).trans (tlt hr110_1).2.1) ?_
            show Steps p.tables e below (T1.setTop (mkF m 113 #[.val (.int p1), .val (.int p2), .val (.int p3), .val (.int p4), .val (.int kw), .val (.int b), .val (.long ((kw.toInt64) * (100 : Int64))), .second, .val (.int (1 : Int32)), .unset] [])) _
            refine XS.iconst X1.here hx rfl (hb hby at_113) ?_
            show Steps p.tables e below (T1.setTop (mkF m 114 #[.val (.int p1), .val (.int p2), .val (.int p3), .val (.int p4), .val (.int kw), .val (.int b), .val (.long ((kw.toInt64) * (100 : Int64))), .second, .val (.int (1 : Int32)), .unset] [(.int (1 : Int32))])) _
            refine XS.goto X1.here hx rfl (pc0 := 114) (pc' := 118) rfl (hb hby at_114) (by decide) (by decide) ?_
            show Steps p.tables e below (T1.setTop (mkF m 118 #[.val (.int p1), .val (.int p2), .val (.int p3), .val (.int p4), .val (.int kw), .val (.int b), .val (.long ((kw.toInt64) * (100 : Int64))), .second, .val (.int (1 : Int32)), .unset] [(.int (1 : Int32))])) _
            exact kt
          · (try simp only [if_neg hr110_1] at kt)
            refine XS.ifYes X1.here hx rfl (pc0 := 110) (pc' := 117) rfl (hb hby at_110) rfl ((if0 _ _).trans (flt hr110_1).2.1) (by decide) (by decide) ?_
            show Steps p.tables e below (T1.setTop (mkF m 117 #[.val (.int p1), .val (.int p2), .val (.int p3), .val (.int p4), .val (.int kw), .val (.int b), .val (.long ((kw.toInt64) * (100 : Int64))), .second, .val (.int (1 : Int32)), .unset] [])) _
            refine XS.iconst X1.here hx rfl (hb hby at_117) ?_
            show Steps p.tables e below (T1.setTop (mkF m 118 #[.val (.int p1), .val (.int p2), .val (.int p3), .val (.int p4), .val (.int kw), .val (.int b), .val (.long ((kw.toInt64) * (100 : Int64))), .second, .val (.int (1 : Int32)), .unset] [(.int (0 : Int32))])) _
            exact kt
      refine sg98 _ ?_
      show Steps p.tables e below (T1.setTop (mkF m 118 #[.val (.int p1), .val (.int p2), .val (.int p3), .val (.int p4), .val (.int kw), .val (.int b), .val (.long ((kw.toInt64) * (100 : Int64))), .second, .val (.int (1 : Int32)), .unset] [(.int (if b = (8 : Int32) then (1 : Int32) else (if (lcmpW ((1 : Int64) <<< ((b - (1 : Int32)) &&& 0x3f).toInt64) ((kw.toInt64) * (100 : Int64))) < (0 : Int32) then (1 : Int32) else (0 : Int32))))])) _
      rw [le1]
      show Steps p.tables e below (T1.setTop (mkF m 118 #[.val (.int p1), .val (.int p2), .val (.int p3), .val (.int p4), .val (.int kw), .val (.int b), .val (.long ((kw.toInt64) * (100 : Int64))), .second, .val (.int (1 : Int32)), .unset] [(.int (1 : Int32))])) _
      refine XS.istore X1.here hx rfl (hb hby at_118) rfl (l' := #[.val (.int p1), .val (.int p2), .val (.int p3), .val (.int p4), .val (.int kw), .val (.int b), .val (.long ((kw.toInt64) * (100 : Int64))), .second, .val (.int (1 : Int32)), .val (.int (1 : Int32))]) rfl ?_
      show Steps p.tables e below (T1.setTop (mkF m 120 #[.val (.int p1), .val (.int p2), .val (.int p3), .val (.int p4), .val (.int kw), .val (.int b), .val (.long ((kw.toInt64) * (100 : Int64))), .second, .val (.int (1 : Int32)), .val (.int (1 : Int32))] [])) _
      refine XS.iload X1.here hx rfl (hb hby at_120) rfl ?_
      show Steps p.tables e below (T1.setTop (mkF m 122 #[.val (.int p1), .val (.int p2), .val (.int p3), .val (.int p4), .val (.int kw), .val (.int b), .val (.long ((kw.toInt64) * (100 : Int64))), .second, .val (.int (1 : Int32)), .val (.int (1 : Int32))] [(.int (1 : Int32))])) _
      refine XS.ifNo X1.here hx rfl (hb hby at_122) rfl ((if0 _ _).trans (feq (by decide : ¬ (1 : Int32) = 0)).1) ?_
      show Steps p.tables e below (T1.setTop (mkF m 125 #[.val (.int p1), .val (.int p2), .val (.int p3), .val (.int p4), .val (.int kw), .val (.int b), .val (.long ((kw.toInt64) * (100 : Int64))), .second, .val (.int (1 : Int32)), .val (.int (1 : Int32))] [])) _
      refine XS.iload X1.here hx rfl (hb hby at_125) rfl ?_
      show Steps p.tables e below (T1.setTop (mkF m 127 #[.val (.int p1), .val (.int p2), .val (.int p3), .val (.int p4), .val (.int kw), .val (.int b), .val (.long ((kw.toInt64) * (100 : Int64))), .second, .val (.int (1 : Int32)), .val (.int (1 : Int32))] [(.int (1 : Int32))])) _
      refine XS.ifNo X1.here hx rfl (hb hby at_127) rfl ((if0 _ _).trans (feq (by decide : ¬ (1 : Int32) = 0)).1) ?_
      show Steps p.tables e below (T1.setTop (mkF m 130 #[.val (.int p1), .val (.int p2), .val (.int p3), .val (.int p4), .val (.int kw), .val (.int b), .val (.long ((kw.toInt64) * (100 : Int64))), .second, .val (.int (1 : Int32)), .val (.int (1 : Int32))] [])) _
      refine XS.iconst X1.here hx rfl (hb hby at_130) ?_
      show Steps p.tables e below (T1.setTop (mkF m 131 #[.val (.int p1), .val (.int p2), .val (.int p3), .val (.int p4), .val (.int kw), .val (.int b), .val (.long ((kw.toInt64) * (100 : Int64))), .second, .val (.int (1 : Int32)), .val (.int (1 : Int32))] [(.int (1 : Int32))])) _
      refine XS.goto X1.here hx rfl (pc0 := 131) (pc' := 135) rfl (hb hby at_131) (by decide) (by decide) ?_
      show Steps p.tables e below (T1.setTop (mkF m 135 #[.val (.int p1), .val (.int p2), .val (.int p3), .val (.int p4), .val (.int kw), .val (.int b), .val (.long ((kw.toInt64) * (100 : Int64))), .second, .val (.int (1 : Int32)), .val (.int (1 : Int32))] [(.int (1 : Int32))])) _
      exact retN X1 hx (t := .boolean) Bd.returns (by simp) (hb hby at_135) hr
    · show Q_rm0 Z p1 p2 p3 p4 h0 n0 _ T1.heap _
      rw [e1]
      exact ⟨rfl, N1⟩

set_option maxRecDepth 65536 in
set_option maxHeartbeats 40000000 in
theorem comes_1 {Post : Tables → Env → Array Value → State → Outcome → State → Prop} (hpost : ∀ tb e args s v u, (limb_1_1.after args s (.returned v) u = true ∧ limb_1_2.after args s (.returned v) u = true ∧ True) → FrameEnd s (.returned v) u (Jvm.fieldLocs frame_1_writes args s ++ Jvm.arrayLocs frame_1_arrays args s ++ Jvm.staticLocs frame_1_statics s) 0 0 → Post tb e args s (.returned v) u) :
    ArmFor flags0 classFile x code maxLocals ret World_1 tables_1 room_1 Calls_1 rest_1 Pre_1 Post := by
  intro l hfl _ _ p e ha hc hk s m args below hf hA hF happ hP
  obtain ⟨hcalls, hrest, hpre⟩ := hP
  obtain ⟨-, -, -, hnamed, -, -, -, hat⟩ := (Spec.applies_iff hf).mp happ
  obtain ⟨hg, hn⟩ := and_e (Cond.before_iff.mp (show (Jvm.Cond.and given_1 narrow_1).before args s = true from hpre))
  obtain ⟨gc, g0⟩ := and_e hg
  obtain ⟨ga0, g1⟩ := and_e g0
  obtain ⟨ga1, g2⟩ := and_e g1
  obtain ⟨ga2, g3⟩ := and_e g2
  obtain ⟨w0, w1, w2, w3, rfl⟩ : ∃ w0 w1 w2 w3 : Value, args = #[w0, w1, w2, w3] := by
    have hs : args.size = 4 := by simpa [Cond.value, given_1] using gc
    obtain ⟨L⟩ := args
    match L, hs with
    | [w0, w1, w2, w3], _ => exact ⟨w0, w1, w2, w3, rfl⟩
  have hw := fun d (hd : d ∈ tables_1) => atoms_spec (ws := Jvm.Cond.code x code maxLocals ret :: tables_1) hat d (List.mem_cons_of_mem _ hd)
  have hfit : Fit s := fun {y c} hc i hi => by
    obtain ⟨ha, rfl⟩ := Array.getElem?_eq_some_iff.mp hc
    have q := List.all_eq_true.mp ((Array.all_eq_true_iff_forall_mem.mp hF) _ (Array.getElem_mem ha)) i (List.mem_range.mpr hi)
    simpa [Array.getElem?_eq_getElem hi] using q
  obtain ⟨i0, ei0⟩ := is_v ga0
  obtain rfl : w0 = (.int i0) := Option.some.inj ei0
  obtain ⟨i1, ei1⟩ := is_v ga1
  obtain rfl : w1 = (.int i1) := Option.some.inj ei1
  obtain ⟨i2, ei2⟩ := is_v ga2
  obtain rfl : w2 = (.int i2) := Option.some.inj ei2
  obtain ⟨i3, ei3⟩ := is_v g3
  obtain rfl : w3 = (.int i3) := Option.some.inj ei3
  obtain ⟨n, o, h1, h2, h3, _, L, rfl, ⟨rfl, N⟩, hq⟩ := rm0 l s _ hw tables_1 i0 i1 i2 i3 s.heap s.heap.size (Nat.le_refl _)  p e ha hc hk s m _ below hf ((Spec.applies_iff_loose hf).mp happ).1 ⟨rfl, State.Warmed39.refl s, rfl⟩ trivial
  refine ⟨n, _, h1, h2, h3, hpost _ _ _ _ _ _ ⟨Cond.after_iff.mpr rfl, Cond.after_iff.mpr (eq_i res_at (Term.int_eval (1)) rfl), trivial⟩ ⟨hq.1, hq.2.1, (hq.2.2.sift fun y hy => Or.inr (N y hy)).mono (by decide) (by decide)⟩⟩
theorem main_1_1 : Claimed_1_1 := comes_1 fun _ _ _ _ _ _ h hF => ⟨h.1, hF⟩
theorem main_1_2 : Claimed_1_2 := comes_1 fun _ _ _ _ _ _ h hF => ⟨h.2.1, hF⟩

end Jvm.Pilot.@@N@@
namespace Jvm.Pilot.@@N@@
open Jvm Jvm.ClassFile Sem Op Lib Jvm.Free Jvm.Stand Jvm.Pilot.@@N@@.Jvm.D
/-! MADE BY PROGRAM (witnessworld.py) out of the Statement's table words and the real class files: 9 classes; the members and pool entries that the words name. The judged class is class 1, her method 1. -/
namespace start1
open Jvm.ClassFile
def u (s : String) : CpInfo := .utf8 (stringToUtf16 s)
/-- a pool by its gaps: so many unusable entries, then the entry; so many at the end -/
def gap : Nat → List CpInfo → List CpInfo
  | 0, r => r
  | n + 1, r => .unusable :: gap n r
def poolList (es : List (Nat × CpInfo)) (last : Nat) : List CpInfo := es.foldr (fun e r => gap e.1 (e.2 :: r)) (gap last [])
def pool (es : List (Nat × CpInfo)) (last : Nat) : Array CpInfo := ⟨poolList es last⟩
def fileOf (pool : Array CpInfo) (this : Nat) (attrs : Array Attribute := #[]) (ms : Array MethodInfo := #[]) (fl : Nat := 33) (sup : Nat := 0) (ifs : Array Nat := #[]) (fds : Array FieldInfo := #[]) : ClassFile where
  minorVersion := 0
  majorVersion := 65
  constantPool := pool
  accessFlags := fl
  thisClass := this
  superClass := sup
  interfaces := ifs
  fields := fds
  methods := ms
  attributes := attrs
def plain (name : String) (sup : Option ClassId) : Class where
  name := name
  kind := .ordinary
  loader := none
  accessFlags := 33
  super := sup
  interfaces := #[]
  cf := none
  fields := #[]
  methods := #[]
  instanceTypes := #[]
  staticTypes := #[]
  resolved := #[]
  callSites := []
  init := .initialized
  statics := none
  mirror := none

def pool0 : Array CpInfo := pool [(5, u "<init>"), (0, u "()V"), (1, .class_ 10), (1, u "java/lang/Object")] 113

def k0m0 : Method := { name := "<init>", desc := "()V", sig := { parameters := [], returnType := none }, accessFlags := 1, code := none }
/-- java/lang/Object -/
def k0 : Class := { plain "java/lang/Object" none with
  accessFlags := 33
  interfaces := #[]
  cf := some (fileOf pool0 8 #[] #[{ accessFlags := 1, nameIndex := 5, descriptorIndex := 6, attributes := #[] }] 33 0 #[] #[])
  fields := #[]
  methods := #[k0m0]
  instanceTypes := #[]
  staticTypes := #[]
  resolved := Array.replicate 124 none
  statics := none }

def pool1 : Array CpInfo := pool [(2, .class_ 4), (1, u "java/lang/Object"), (0, u "<init>"), (0, u "()V"), (0, .integer 2147483647), (0, .long 100), (1, .methodref 11 12), (0, .class_ 13), (0, .nameAndType 14 15), (0, u "com/example/sievemesh/sievemesh/qrp/RouteTable"), (0, u "bitsFor"), (0, u "(I)I"), (0, .class_ 17), (0, u "com/example/sievemesh/sievemesh/qrp/RouteTableBitsForPinLaw"), (2, u "law"), (0, u "(IIII)Z")] 3

def k1m0 : Method := { name := "<init>", desc := "()V", sig := { parameters := [], returnType := none }, accessFlags := 2, code := none }
def k1c1 : Code := { maxStack := 4, maxLocals := 10, code := code, exceptionTable := #[], attributes := #[] }
def k1m1 : Method := { name := "law", desc := "(IIII)Z", sig := { parameters := [.int, .int, .int, .int], returnType := some .boolean }, accessFlags := 9, code := some k1c1 }
/-- com/example/sievemesh/sievemesh/qrp/RouteTableBitsForPinLaw -/
def k1 : Class := { plain "com/example/sievemesh/sievemesh/qrp/RouteTableBitsForPinLaw" (some 0) with
  accessFlags := 49
  interfaces := #[]
  cf := some (fileOf pool1 16 #[] #[{ accessFlags := 2, nameIndex := 5, descriptorIndex := 6, attributes := #[] }, { accessFlags := 9, nameIndex := 20, descriptorIndex := 21, attributes := #[] }] 49 2 #[] #[])
  fields := #[]
  methods := #[k1m0, k1m1]
  instanceTypes := #[]
  staticTypes := #[]
  resolved := Array.replicate 25 none
  statics := none }

def pool2 : Array CpInfo := pool [(2, .class_ 4), (1, u "java/lang/Object"), (9, .class_ 16), (1, u "com/example/sievemesh/sievemesh/qrp/RouteTable"), (1, u "(I)I"), (2, u "bits"), (19, u "I"), (2, u "infinity"), (2, u "values"), (0, u "[B"), (2, u "codes"), (0, u "Lcom/example/sievemesh/sievemesh/qrp/PackedCodes;"), (21, u "bitsFor"), (0, .long 100), (107, u "MIN_BITS"), (2, u "MAX_BITS"), (1, u "MIN_CHOSEN_BITS"), (1, u "MAX_CHOSEN_BITS"), (1, u "ENTRIES_PER_KEYWORD"), (1, u "ONE_HOP"), (23, .class_ 219), (0, u "com/example/sievemesh/sievemesh/qrp/RouteTable$Builder")] 22

def k2c0 : Code := { maxStack := 4, maxLocals := 4, code := prog_25_method_5_code, exceptionTable := #[], attributes := #[] }
def k2m0 : Method := { name := "bitsFor", desc := "(I)I", sig := { parameters := [.int], returnType := some .int }, accessFlags := 9, code := some k2c0 }
/-- com/example/sievemesh/sievemesh/qrp/RouteTable -/
def k2 : Class := { plain "com/example/sievemesh/sievemesh/qrp/RouteTable" (some 0) with
  accessFlags := 49
  interfaces := #[]
  cf := some (fileOf pool2 14 #[.nestMembers #[218]] #[{ accessFlags := 9, nameIndex := 74, descriptorIndex := 18, attributes := #[] }] 49 2 #[] #[{ accessFlags := 25, nameIndex := 183, descriptorIndex := 41, attributes := #[] }, { accessFlags := 25, nameIndex := 186, descriptorIndex := 41, attributes := #[] }, { accessFlags := 25, nameIndex := 188, descriptorIndex := 41, attributes := #[] }, { accessFlags := 25, nameIndex := 190, descriptorIndex := 41, attributes := #[] }, { accessFlags := 25, nameIndex := 192, descriptorIndex := 41, attributes := #[] }, { accessFlags := 25, nameIndex := 194, descriptorIndex := 41, attributes := #[] }, { accessFlags := 18, nameIndex := 21, descriptorIndex := 41, attributes := #[] }, { accessFlags := 18, nameIndex := 44, descriptorIndex := 41, attributes := #[] }, { accessFlags := 18, nameIndex := 47, descriptorIndex := 48, attributes := #[] }, { accessFlags := 18, nameIndex := 51, descriptorIndex := 52, attributes := #[] }])
  fields := #[{ name := "MIN_BITS", type := .int, accessFlags := 25, slot := 0, constantValue := 0 }, { name := "MAX_BITS", type := .int, accessFlags := 25, slot := 1, constantValue := 0 }, { name := "MIN_CHOSEN_BITS", type := .int, accessFlags := 25, slot := 2, constantValue := 0 }, { name := "MAX_CHOSEN_BITS", type := .int, accessFlags := 25, slot := 3, constantValue := 0 }, { name := "ENTRIES_PER_KEYWORD", type := .int, accessFlags := 25, slot := 4, constantValue := 0 }, { name := "ONE_HOP", type := .int, accessFlags := 25, slot := 5, constantValue := 0 }, { name := "bits", type := .int, accessFlags := 18, slot := 0, constantValue := 0 }, { name := "infinity", type := .int, accessFlags := 18, slot := 1, constantValue := 0 }, { name := "values", type := (.array .byte), accessFlags := 18, slot := 2, constantValue := 0 }, { name := "codes", type := (.object "com/example/sievemesh/sievemesh/qrp/PackedCodes"), accessFlags := 18, slot := 3, constantValue := 0 }]
  methods := #[k2m0]
  instanceTypes := #[.int, .int, (.array .byte), (.object "com/example/sievemesh/sievemesh/qrp/PackedCodes")]
  staticTypes := #[.int, .int, .int, .int, .int, .int]
  resolved := Array.replicate 242 none
  statics := none }

def pool3 : Array CpInfo := pool [(1, u "java/lang/Cloneable"), (0, .class_ 1), (0, u "java/lang/Object"), (0, .class_ 3)] 3

/-- java/lang/Cloneable -/
def k3 : Class := { plain "java/lang/Cloneable" (some 0) with
  accessFlags := 1537
  interfaces := #[]
  cf := some (fileOf pool3 2 #[] #[] 1537 4 #[] #[])
  fields := #[]
  methods := #[]
  instanceTypes := #[]
  staticTypes := #[]
  resolved := Array.replicate 8 none
  statics := none }

def pool4 : Array CpInfo := pool [(1, u "java/io/Serializable"), (0, .class_ 1), (0, u "java/lang/Object"), (0, .class_ 3)] 3

/-- java/io/Serializable -/
def k4 : Class := { plain "java/io/Serializable" (some 0) with
  accessFlags := 1537
  interfaces := #[]
  cf := some (fileOf pool4 2 #[] #[] 1537 4 #[] #[])
  fields := #[]
  methods := #[]
  instanceTypes := #[]
  staticTypes := #[]
  resolved := Array.replicate 8 none
  statics := none }

/-- the primitive byte -/
def k5 : Class := { plain "byte" none with kind := .primitive 'B', accessFlags := 0x411 }
/-- [B -/
def k6 : Class := { plain "[B" (some 0) with kind := .array 5 .byte, interfaces := #[3, 4], accessFlags := 1041 }

/-- the primitive int -/
def k7 : Class := { plain "int" none with kind := .primitive 'I', accessFlags := 0x411 }
/-- [I -/
def k8 : Class := { plain "[I" (some 0) with kind := .array 7 .int, interfaces := #[3, 4], accessFlags := 1041 }

def heap : Heap := #[]
def classes : Array Class := #[k0, k1, k2, k3, k4, k5, k6, k7, k8]
def interned : List (Array UInt16 × Addr) := []
def slotsUsed : Nat := 0
def theMethod : MethodId := ⟨1, 1⟩
def args0 : Array Value := #[.int 5, .int 7, .int 9, .int 1]
def aboutOver (below : List Frame) : State where
  vm := { classes := classes, interned := interned.toArray }
  heap := heap
  slotsUsed := slotsUsed
  threads := #[{ frames := .invoking theMethod args0 :: below }]
def below0 : List Frame := [.native { method := ⟨0, 0⟩, args := #[] }]
def about1 : State := aboutOver below0
def p0 : Program := .bare "" "" ""
def e0 : Env := launch0.env 0 0 0
theorem w_frames : about1.frames = Frame.invoking theMethod args0 :: below0 := rfl
set_option maxRecDepth 65536 in
theorem w_args : argsFit about1.vm theMethod args0 = true := by decide +kernel
set_option maxRecDepth 65536 in
theorem w_heap : heapFits about1 = true := by decide +kernel
set_option maxRecDepth 65536 in
theorem w_runnable : about1.curStatus? = some .runnable := by decide +kernel
set_option maxRecDepth 65536 in
theorem w_alone : about1.alone = true := by decide +kernel
set_option maxRecDepth 65536 in
theorem w_named : about1.methodNamed? x = some theMethod := by decide +kernel
set_option maxRecDepth 65536 in
theorem w_hears : about1.hears theMethod below0 = true := by decide +kernel
set_option maxRecDepth 65536 in
theorem w_ripe : about1.ripe theMethod args0 below0 = true := by decide +kernel
theorem w_running : about1.status = .running := rfl
set_option maxRecDepth 65536 in
theorem w_room : about1.hasRoom e0.platform room_1 = true :=
  launch0.hasRoom_least _ room_1 (by decide +kernel) (by decide +kernel) (by decide +kernel) (by decide +kernel) (by decide +kernel) (by decide +kernel)
theorem allAtoms_all (ts : List Jvm.Cond) (a : Array Jvm.Value) (st : Jvm.State) : (allAtoms ts).before a st = ts.all (fun c => c.before a st) := by
  induction ts with
  | nil => rfl
  | cons c t ih =>
    show (Jvm.Cond.and c (allAtoms t)).before a st = _
    rw [Jvm.Cond.before_and, ih, List.all_cons]
def words1 : List Jvm.Cond := Jvm.Cond.code x code maxLocals ret :: tables_1
/-- a 'code' word, met by the world's own term for the bytes: nothing is compared byte by byte -/
theorem code_word {y : MethodName} {bytes : ByteArray} {mx : Nat} {rt : Option FieldType} {a : Array Value} {s : State} {m : MethodId} {meth : Method} {c : Code} (h1 : s.methodNamed? y = some m) (h2 : s.vm.method? m = some meth) (h3 : meth.code = some c) (h4 : c.code = bytes)
    (h5 : (c.maxLocals == mx && c.exceptionTable.isEmpty && decide (c.maxStack ≤ mostOperands) && decide (meth.sig.returnType = rt) && !meth.locks && decide (parseMethodDescriptor y.desc = some meth.sig)) = true) : (Jvm.Cond.code y bytes mx rt).before a s = true := by
  simp only [Bool.and_eq_true, beq_iff_eq, Bool.not_eq_true', decide_eq_true_eq] at h5
  obtain ⟨⟨⟨⟨⟨g1, g2⟩, g3⟩, g4⟩, g5⟩, g6⟩ := h5
  simp [Cond.before, Cond.holds, Cond.value, h1, h2, h3, h4, g1, g2, g3, g4, g5, g6]
def isCode : Jvm.Cond → Bool
  | .code _ _ _ _ => true
  | _ => false
theorem all_split {L : List Jvm.Cond} {P : Jvm.Cond → Bool} (h1 : L.all (fun c => isCode c || P c) = true) (h2 : ∀ c ∈ L.filter isCode, P c = true) : L.all P = true := by
  refine List.all_eq_true.mpr fun c hc => ?_
  have h := List.all_eq_true.mp h1 c hc
  rcases Bool.eq_false_or_eq_true (isCode c) with hi | hi
  · exact h2 c (List.mem_filter.mpr ⟨hc, hi⟩)
  · simpa [hi] using h
set_option maxRecDepth 65536 in
theorem w_c0 : (Jvm.Cond.code x code maxLocals ret).before args0 about1 = true := code_word (m := ⟨1, 1⟩) (meth := k1m1) (c := k1c1) (by decide +kernel) rfl rfl rfl (by decide +kernel)
set_option maxRecDepth 65536 in
theorem w_c1 : (Jvm.Cond.code ({ cls := "com/example/sievemesh/sievemesh/qrp/RouteTable", name := "bitsFor", desc := "(I)I" } : Jvm.MethodName) prog_25_method_5_code (4 : Nat) (Option.some Jvm.ClassFile.FieldType.int)).before args0 about1 = true := code_word (m := ⟨2, 0⟩) (meth := k2m0) (c := k2c0) (by decide +kernel) rfl rfl rfl (by decide +kernel)
def codes1 : List Jvm.Cond := [Jvm.Cond.code x code maxLocals ret, Jvm.Cond.code ({ cls := "com/example/sievemesh/sievemesh/qrp/RouteTable", name := "bitsFor", desc := "(I)I" } : Jvm.MethodName) prog_25_method_5_code (4 : Nat) (Option.some Jvm.ClassFile.FieldType.int)]
set_option maxRecDepth 65536 in
theorem codes_eq : words1.filter isCode = codes1 := rfl
theorem w_codes : ∀ c ∈ words1.filter isCode, c.before args0 about1 = true := by
  rw [codes_eq]
  intro c hc
  simp only [codes1, List.mem_cons, List.not_mem_nil, or_false] at hc
  rcases hc with rfl | rfl
  · exact w_c0
  · exact w_c1
set_option maxRecDepth 65536 in
theorem w_t1 : words1.all (fun c => isCode c || c.before args0 about1) = true := by decide +kernel
theorem w_tables : (allAtoms (Jvm.Cond.code x code maxLocals ret :: tables_1)).before args0 about1 = true := by
  rw [allAtoms_all]
  show words1.all (fun c => c.before args0 about1) = true
  refine all_split ?_ w_codes
  rw [w_t1]
set_option maxRecDepth 65536 in
theorem w_case : (Jvm.Cond.and given_1 narrow_1).before args0 about1 = true := by decide +kernel
theorem w_applies : (headSpec (Jvm.Cond.code x code maxLocals ret :: tables_1) room_1).applies x e0.platform about1 = true :=
  (Spec.applies_iff w_frames).mpr ⟨w_running, w_runnable, w_alone, w_named, w_hears, w_ripe, w_room, w_tables⟩
theorem atStart : AtStart classFile x code maxLocals ret World_1 tables_1 room_1 Calls_1 rest_1 Pre_1 launch0 p0 e0 about1 theMethod args0 below0 :=
  ⟨lists_1, trivial, launch0.admits_env _ _ _, launch0.least_env, fairChoices_fair.cas, fairChoices_fair.clock, w_frames, w_args, w_heap, w_applies, trivial, trivial, w_case⟩
end start1
theorem witness_1 : WitnessClaimed_1 := ⟨start1.p0, start1.e0, start1.about1, start1.theMethod, start1.args0, start1.below0, start1.atStart⟩
end Jvm.Pilot.@@N@@
