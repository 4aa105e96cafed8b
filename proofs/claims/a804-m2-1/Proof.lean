import JvmDerived
import JvmDerived.Pilot.@@N@@Statement
import JvmDerived.Pilot.@@N@@Code
set_option linter.unusedVariables false
set_option linter.unusedSimpArgs false
namespace Jvm.RoadKit
open Sem ClassFile Op Lib Jvm.Stand Jvm.Free Jvm.LawKit
section New
variable {p : Program} {l : Launch} {e : Env} {R : Room} {s : State} {m : MethodId} {args : Array Value} {below : List Frame} {meth : Method} {c : Code} {T : State} {locs : List Loc} {cells slots : Nat}
theorem retI (X : Stand p l e R s m args below meth c T locs cells slots) (hx : p.tables.exec = Jvm.exec) {pc : Nat} {Ls : Array Slot} {z : Int32} {rest : List Value} (hret : meth.sig.returnType = some .int) (hd : decode c.code pc = .ok (.ireturn, 1)) {fs : List Frame}
    (hl : ∀ (f : JFrame) (acts : List Action), f.method = m → f.locked = none → f.entered = [] → (doReturn e (T.setTop f) acts (some (.int z))).1 = T.setFrames fs) : Steps p.tables e below (T.setTop (mkF m pc Ls (.int z :: rest))) (T.setFrames fs) := by
  have hm' : T.vm.method? m = some meth := X.method'
  have hn : narrow .int (.int z) = .int z := rfl
  show Steps p.tables e below (T.setTop { method := m, pc := pc, locals := Ls, stack := _ :: rest, locked := none }) _
  jvm_step X.here [X.here.top, hx, hd, hm', hret, hn]
  first | (intro acts; rw [hl _ acts rfl rfl rfl]) | rw [hl _ _ rfl rfl rfl]
  exact Steps.refl _
end New
end Jvm.RoadKit
namespace Jvm.Pilot.@@N@@
open Jvm Jvm.ClassFile Sem Op Lib Jvm.Free Jvm.Stand Jvm.LawKit Jvm.RoadKit Bundle Jvm.Pilot.@@N@@.Jvm.D

theorem own_nar {b : Int32} (h : b = 0 ∨ b = 1) : nar .boolean b = b := by rcases h with rfl | rfl <;> decide
def own_by : List Int32 := [(48 : Int32), (49 : Int32), (50 : Int32), (51 : Int32), (52 : Int32), (53 : Int32), (54 : Int32), (55 : Int32), (56 : Int32), (57 : Int32), (65 : Int32), (66 : Int32), (67 : Int32), (68 : Int32), (69 : Int32), (70 : Int32)]
def own_vs : List Value := [(.int (48 : Int32)), (.int (49 : Int32)), (.int (50 : Int32)), (.int (51 : Int32)), (.int (52 : Int32)), (.int (53 : Int32)), (.int (54 : Int32)), (.int (55 : Int32)), (.int (56 : Int32)), (.int (57 : Int32)), (.int (65 : Int32)), (.int (66 : Int32)), (.int (67 : Int32)), (.int (68 : Int32)), (.int (69 : Int32)), (.int (70 : Int32))]
def own_find : List Int32 → Int32 → Int32 → Int32
  | [], _, _ => (-1 : Int32)
  | x :: xs, b, i => if x = b then i else own_find xs b (i + (1 : Int32))
def own_can (c : Int32) : Int32 := if c < (0 : Int32) then (0 : Int32) else if (255 : Int32) < c then (0 : Int32) else (1 : Int32)
theorem own_c01 (c : Int32) : own_can c = 0 ∨ own_can c = 1 := by unfold own_can; repeat' split
                                                                  all_goals simp
def own_idx (c : Int32) : Int32 := if own_can c = (0 : Int32) then (-1 : Int32) else own_find own_by (c.toInt8.toInt32) (0 : Int32)
def own_esc (c : Int32) : Int32 := if c = (37 : Int32) then (1 : Int32) else if own_idx c < (0 : Int32) then (0 : Int32) else (1 : Int32)
theorem dce_0 : decode jdk_43_method_4_code 0 = .ok (.iload_n 0, 1) := by decide +kernel
theorem dce_1 : decode jdk_43_method_4_code 1 = .ok (.ifCond .lt 14, 3) := by decide +kernel
theorem dce_4 : decode jdk_43_method_4_code 4 = .ok (.iload_n 0, 1) := by decide +kernel
theorem dce_5 : decode jdk_43_method_4_code 5 = .ok (.sipush 255, 3) := by decide +kernel
theorem dce_8 : decode jdk_43_method_4_code 8 = .ok (.if_icmp .gt 7, 3) := by decide +kernel
theorem dce_11 : decode jdk_43_method_4_code 11 = .ok (.iconst 1, 1) := by decide +kernel
theorem dce_12 : decode jdk_43_method_4_code 12 = .ok (.goto 4, 3) := by decide +kernel
theorem dce_15 : decode jdk_43_method_4_code 15 = .ok (.iconst 0, 1) := by decide +kernel
theorem dce_16 : decode jdk_43_method_4_code 16 = .ok (.ireturn, 1) := by decide +kernel
theorem ef_dce_ (m : MethodId) (c1 : Int32) : entryFrame m #[(.int c1)] 1 = mkF m 0 #[.val (.int c1)] [] := by first | (simp [entryFrame, mkF, argsToLocals, Value.category]; done) | rfl
def Q_rmCE (Z : State) (c1 : Int32)  (h0 : Heap) (n0 : Nat) (v : Option Value) (h : Heap) (L : List Loc) : Prop := v = some (.int (own_can c1)) ∧ Fr n0 L ∧ h = h0
theorem pn_rmCE : plainName "java/lang/StringLatin1" = true := by first | (simp [plainName, overriddenIn]; done) | decide +kernel
set_option maxRecDepth 65536 in
set_option maxHeartbeats 40000000 in
theorem rmCE (l : Launch) (Z : State) (a0 : Array Value) (hw : ∀ d ∈ tables_1, d.before a0 Z = true) (ws : List Jvm.Cond) (c1 : Int32)  (h0 : Heap) (n0 : Nat) (Z0 : n0 ≤ h0.size)  :
    MetFree l (⟨"java/lang/StringLatin1", "canEncode", "(I)Z"⟩ : MethodName) (head1 (Jvm.Cond.code (⟨"java/lang/StringLatin1", "canEncode", "(I)Z"⟩ : MethodName) jdk_43_method_4_code 1 (some .boolean) :: ws) ({ frames := 0, cells := 0, slots := 0, locals := 0 } : Room)) (fun aZ U => aZ = #[(.int c1)] ∧ Z.Warmed39 U.vm ∧ U.heap = h0) (fun _ _ _ _ _ => True) (fun _ U o U' => ∃ v L, o = .returned v ∧ Q_rmCE Z c1  h0 n0 v U'.heap L ∧ FrameEnd U o U' L ({ frames := 0, cells := 0, slots := 0, locals := 0 } : Room).cells ({ frames := 0, cells := 0, slots := 0, locals := 0 } : Room).slots) := by
  refine MetFree.of_bodySF (plainFor_of_name pn_rmCE) hisR ?_
  intro p e s m args below meth c s₁ Bd hml0 hP hK
  obtain ⟨rfl, hZ, hh⟩ := hP
  have hx := Bd.exec
  have hby := Bd.bytes
  have hml : c.maxLocals = 1 := hml0
  have hown : s.vm.findClass "java/lang/StringLatin1" = some m.cls := findClass_of_methodNamed Bd.named
  have hnm := (name_of_methodNamed Bd.named Bd.method).1
  have X0 : Stand p l e ({ frames := 0, cells := 0, slots := 0, locals := 0 } : Room) s m #[(.int c1)] below meth c s₁ [] 0 0 := Stand.of_body Bd
  have e0 : s₁.heap = h0 := by rw [← hh, Bd.state]; rfl
  have N0 := Fr.nil n0
  have pre0 : ∀ tZ, Steps p.tables e below (s₁.setTop (mkF m 0 #[.val (.int c1)] [])) tZ → Steps p.tables e below (s₁.setTop (entryFrame m #[(.int c1)] 1)) tZ := fun tZ kZ => castTop (ef_dce_ m c1) kZ
  obtain ⟨fs, hr, hrun, hended, hW, hsame⟩ := X0.leave (v := some (.int (nar .boolean (if c1 < (0 : Int32) then (0 : Int32) else (if (255 : Int32) < c1 then (0 : Int32) else (1 : Int32)))))) (fun h => by rw [Bd.returns] at h; cases h)
  refine ⟨_, _, pre0 _ ?_, hrun, hended, _, _, rfl, ?_, ⟨_, rfl⟩, hW, hsame.mono (by decide) (by decide)⟩
  · show Steps p.tables e below (s₁.setTop (mkF m 0 #[.val (.int c1)] [])) _
    refine XS.iloadN X0.here hx rfl (hb hby dce_0) rfl ?_
    show Steps p.tables e below (s₁.setTop (mkF m 1 #[.val (.int c1)] [(.int c1)])) _
    have sg1 : ∀ target, Steps p.tables e below (s₁.setTop (mkF m 16 #[.val (.int c1)] [(.int (if c1 < (0 : Int32) then (0 : Int32) else (if (255 : Int32) < c1 then (0 : Int32) else (1 : Int32))))])) target → Steps p.tables e below (s₁.setTop (mkF m 1 #[.val (.int c1)] [(.int c1)])) target := by
      intro target kt
      rcases Classical.em (c1 < (0 : Int32)) with hr1_0 | hr1_0
      · (try simp only [if_pos hr1_0] at kt)
        refine XS.ifYes X0.here hx rfl (pc0 := 1) (pc' := 15) rfl (hb hby dce_1) rfl ((if0 _ _).trans (tlt hr1_0).1) (by decide) (by decide) ?_
        show Steps p.tables e below (s₁.setTop (mkF m 15 #[.val (.int c1)] [])) _
        refine XS.iconst X0.here hx rfl (hb hby dce_15) ?_
        show Steps p.tables e below (s₁.setTop (mkF m 16 #[.val (.int c1)] [(.int (0 : Int32))])) _
        exact kt
      · (try simp only [if_neg hr1_0] at kt)
        refine XS.ifNo X0.here hx rfl (hb hby dce_1) rfl ((if0 _ _).trans (flt hr1_0).1) ?_
        show Steps p.tables e below (s₁.setTop (mkF m 4 #[.val (.int c1)] [])) _
        refine XS.iloadN X0.here hx rfl (hb hby dce_4) rfl ?_
        show Steps p.tables e below (s₁.setTop (mkF m 5 #[.val (.int c1)] [(.int c1)])) _
        refine XS.sipush X0.here hx rfl (hb hby dce_5) ?_
        show Steps p.tables e below (s₁.setTop (mkF m 8 #[.val (.int c1)] [(.int (255 : Int32)), (.int c1)])) _
        rcases Classical.em ((255 : Int32) < c1) with hr8_1 | hr8_1
        · (try simp only [if_pos hr8_1] at kt)
          refine XS.icmpYes X0.here hx rfl (pc0 := 8) (pc' := 15) rfl (hb hby dce_8) rfl (tlt hr8_1).2.2.1 (by decide) (by decide) ?_
          show Steps p.tables e below (s₁.setTop (mkF m 15 #[.val (.int c1)] [])) _
          refine XS.iconst X0.here hx rfl (hb hby dce_15) ?_
          show Steps p.tables e below (s₁.setTop (mkF m 16 #[.val (.int c1)] [(.int (0 : Int32))])) _
          exact kt
        · (try simp only [if_neg hr8_1] at kt)
          refine XS.icmpNo X0.here hx rfl (hb hby dce_8) rfl (flt hr8_1).2.2.1 ?_
          show Steps p.tables e below (s₁.setTop (mkF m 11 #[.val (.int c1)] [])) _
          refine XS.iconst X0.here hx rfl (hb hby dce_11) ?_
          show Steps p.tables e below (s₁.setTop (mkF m 12 #[.val (.int c1)] [(.int (1 : Int32))])) _
          refine XS.goto X0.here hx rfl (pc0 := 12) (pc' := 16) rfl (hb hby dce_12) (by decide) (by decide) ?_
          show Steps p.tables e below (s₁.setTop (mkF m 16 #[.val (.int c1)] [(.int (1 : Int32))])) _
          exact kt
    refine sg1 _ ?_
    show Steps p.tables e below (s₁.setTop (mkF m 16 #[.val (.int c1)] [(.int (if c1 < (0 : Int32) then (0 : Int32) else (if (255 : Int32) < c1 then (0 : Int32) else (1 : Int32))))])) _
    exact retN X0 hx (t := .boolean) Bd.returns (by simp) (hb hby dce_16) hr
  · show Q_rmCE Z c1 h0 n0 _ s₁.heap _
    rw [e0]
    exact ⟨by rw [own_nar (show (if c1 < (0 : Int32) then (0 : Int32) else (if (255 : Int32) < c1 then (0 : Int32) else (1 : Int32))) = 0 ∨ (if c1 < (0 : Int32) then (0 : Int32) else (if (255 : Int32) < c1 then (0 : Int32) else (1 : Int32))) = 1 from own_c01 c1)]; rfl, N0, rfl⟩

theorem dmx_0 : decode jdk_29_method_65_code 0 = .ok (.iload_n 0, 1) := by decide +kernel
theorem dmx_1 : decode jdk_29_method_65_code 1 = .ok (.iload_n 1, 1) := by decide +kernel
theorem dmx_2 : decode jdk_29_method_65_code 2 = .ok (.if_icmp .lt 7, 3) := by decide +kernel
theorem dmx_5 : decode jdk_29_method_65_code 5 = .ok (.iload_n 0, 1) := by decide +kernel
theorem dmx_6 : decode jdk_29_method_65_code 6 = .ok (.goto 4, 3) := by decide +kernel
theorem dmx_10 : decode jdk_29_method_65_code 10 = .ok (.ireturn, 1) := by decide +kernel
theorem ef_dmx_ (m : MethodId) (a1 : Int32) (b1 : Int32) : entryFrame m #[(.int a1), (.int b1)] 2 = mkF m 0 #[.val (.int a1), .val (.int b1)] [] := by first | (simp [entryFrame, mkF, argsToLocals, Value.category]; done) | rfl
def Q_rm_max (Z : State) (a1 : Int32) (b1 : Int32)  (h0 : Heap) (n0 : Nat) (v : Option Value) (h : Heap) (L : List Loc) : Prop := v = some (.int a1) ∧ Fr n0 L ∧ h = h0
set_option maxRecDepth 65536 in
set_option maxHeartbeats 40000000 in
theorem rm_max (l : Launch) (Z : State) (a0 : Array Value) (hw : ∀ d ∈ tables_1, d.before a0 Z = true) (ws : List Jvm.Cond) (a1 : Int32) (b1 : Int32)  (h0 : Heap) (n0 : Nat) (Z0 : n0 ≤ h0.size) (hc : ¬ a1 < b1) :
    MetFree l (⟨"java/lang/Math", "max", "(II)I"⟩ : MethodName) (head1 (Jvm.Cond.code (⟨"java/lang/Math", "max", "(II)I"⟩ : MethodName) jdk_29_method_65_code 2 (some .int) :: ws) ({ frames := 0, cells := 0, slots := 0, locals := 0 } : Room)) (fun aZ U => aZ = #[(.int a1), (.int b1)] ∧ Z.Warmed39 U.vm ∧ U.heap = h0) (fun _ _ _ _ _ => True) (fun _ U o U' => ∃ v L, o = .returned v ∧ Q_rm_max Z a1 b1  h0 n0 v U'.heap L ∧ FrameEnd U o U' L ({ frames := 0, cells := 0, slots := 0, locals := 0 } : Room).cells ({ frames := 0, cells := 0, slots := 0, locals := 0 } : Room).slots) := by
  refine MetFree.of_bodySF (Jvm.Free.JP.mathPlain rfl (by decide +kernel)) hisR ?_
  intro p e s m args below meth c s₁ Bd hml0 hP hK
  obtain ⟨rfl, hZ, hh⟩ := hP
  have hx := Bd.exec
  have hby := Bd.bytes
  have hml : c.maxLocals = 2 := hml0
  have hown : s.vm.findClass "java/lang/Math" = some m.cls := findClass_of_methodNamed Bd.named
  have hnm := (name_of_methodNamed Bd.named Bd.method).1
  have X0 : Stand p l e ({ frames := 0, cells := 0, slots := 0, locals := 0 } : Room) s m #[(.int a1), (.int b1)] below meth c s₁ [] 0 0 := Stand.of_body Bd
  have e0 : s₁.heap = h0 := by rw [← hh, Bd.state]; rfl
  have N0 := Fr.nil n0
  have pre0 : ∀ tZ, Steps p.tables e below (s₁.setTop (mkF m 0 #[.val (.int a1), .val (.int b1)] [])) tZ → Steps p.tables e below (s₁.setTop (entryFrame m #[(.int a1), (.int b1)] 2)) tZ := fun tZ kZ => castTop (ef_dmx_ m a1 b1) kZ
  obtain ⟨fs, hr, hrun, hended, hW, hsame⟩ := X0.leave (v := some (.int a1)) (fun h => by rw [Bd.returns] at h; cases h)
  refine ⟨_, _, pre0 _ ?_, hrun, hended, _, _, rfl, ?_, ⟨_, rfl⟩, hW, hsame.mono (by decide) (by decide)⟩
  · show Steps p.tables e below (s₁.setTop (mkF m 0 #[.val (.int a1), .val (.int b1)] [])) _
    refine XS.iloadN X0.here hx rfl (hb hby dmx_0) rfl ?_
    show Steps p.tables e below (s₁.setTop (mkF m 1 #[.val (.int a1), .val (.int b1)] [(.int a1)])) _
    refine XS.iloadN X0.here hx rfl (hb hby dmx_1) rfl ?_
    show Steps p.tables e below (s₁.setTop (mkF m 2 #[.val (.int a1), .val (.int b1)] [(.int b1), (.int a1)])) _
    refine XS.icmpNo X0.here hx rfl (hb hby dmx_2) rfl (flt hc).1 ?_
    show Steps p.tables e below (s₁.setTop (mkF m 5 #[.val (.int a1), .val (.int b1)] [])) _
    refine XS.iloadN X0.here hx rfl (hb hby dmx_5) rfl ?_
    show Steps p.tables e below (s₁.setTop (mkF m 6 #[.val (.int a1), .val (.int b1)] [(.int a1)])) _
    refine XS.goto X0.here hx rfl (pc0 := 6) (pc' := 10) rfl (hb hby dmx_6) (by decide) (by decide) ?_
    show Steps p.tables e below (s₁.setTop (mkF m 10 #[.val (.int a1), .val (.int b1)] [(.int a1)])) _
    exact retI X0 hx Bd.returns (hb hby dmx_10) hr
  · show Q_rm_max Z a1 b1 h0 n0 _ s₁.heap _
    rw [e0]
    exact ⟨rfl, N0, rfl⟩

theorem dmn_0 : decode jdk_29_method_69_code 0 = .ok (.iload_n 0, 1) := by decide +kernel
theorem dmn_1 : decode jdk_29_method_69_code 1 = .ok (.iload_n 1, 1) := by decide +kernel
theorem dmn_2 : decode jdk_29_method_69_code 2 = .ok (.if_icmp .gt 7, 3) := by decide +kernel
theorem dmn_5 : decode jdk_29_method_69_code 5 = .ok (.iload_n 0, 1) := by decide +kernel
theorem dmn_6 : decode jdk_29_method_69_code 6 = .ok (.goto 4, 3) := by decide +kernel
theorem dmn_10 : decode jdk_29_method_69_code 10 = .ok (.ireturn, 1) := by decide +kernel
theorem ef_dmn_ (m : MethodId) (a1 : Int32) (b1 : Int32) : entryFrame m #[(.int a1), (.int b1)] 2 = mkF m 0 #[.val (.int a1), .val (.int b1)] [] := by first | (simp [entryFrame, mkF, argsToLocals, Value.category]; done) | rfl
def Q_rm_min (Z : State) (a1 : Int32) (b1 : Int32)  (h0 : Heap) (n0 : Nat) (v : Option Value) (h : Heap) (L : List Loc) : Prop := v = some (.int a1) ∧ Fr n0 L ∧ h = h0
set_option maxRecDepth 65536 in
set_option maxHeartbeats 40000000 in
theorem rm_min (l : Launch) (Z : State) (a0 : Array Value) (hw : ∀ d ∈ tables_1, d.before a0 Z = true) (ws : List Jvm.Cond) (a1 : Int32) (b1 : Int32)  (h0 : Heap) (n0 : Nat) (Z0 : n0 ≤ h0.size) (hc : ¬ b1 < a1) :
    MetFree l (⟨"java/lang/Math", "min", "(II)I"⟩ : MethodName) (head1 (Jvm.Cond.code (⟨"java/lang/Math", "min", "(II)I"⟩ : MethodName) jdk_29_method_69_code 2 (some .int) :: ws) ({ frames := 0, cells := 0, slots := 0, locals := 0 } : Room)) (fun aZ U => aZ = #[(.int a1), (.int b1)] ∧ Z.Warmed39 U.vm ∧ U.heap = h0) (fun _ _ _ _ _ => True) (fun _ U o U' => ∃ v L, o = .returned v ∧ Q_rm_min Z a1 b1  h0 n0 v U'.heap L ∧ FrameEnd U o U' L ({ frames := 0, cells := 0, slots := 0, locals := 0 } : Room).cells ({ frames := 0, cells := 0, slots := 0, locals := 0 } : Room).slots) := by
  refine MetFree.of_bodySF (Jvm.Free.JP.mathPlain rfl (by decide +kernel)) hisR ?_
  intro p e s m args below meth c s₁ Bd hml0 hP hK
  obtain ⟨rfl, hZ, hh⟩ := hP
  have hx := Bd.exec
  have hby := Bd.bytes
  have hml : c.maxLocals = 2 := hml0
  have hown : s.vm.findClass "java/lang/Math" = some m.cls := findClass_of_methodNamed Bd.named
  have hnm := (name_of_methodNamed Bd.named Bd.method).1
  have X0 : Stand p l e ({ frames := 0, cells := 0, slots := 0, locals := 0 } : Room) s m #[(.int a1), (.int b1)] below meth c s₁ [] 0 0 := Stand.of_body Bd
  have e0 : s₁.heap = h0 := by rw [← hh, Bd.state]; rfl
  have N0 := Fr.nil n0
  have pre0 : ∀ tZ, Steps p.tables e below (s₁.setTop (mkF m 0 #[.val (.int a1), .val (.int b1)] [])) tZ → Steps p.tables e below (s₁.setTop (entryFrame m #[(.int a1), (.int b1)] 2)) tZ := fun tZ kZ => castTop (ef_dmn_ m a1 b1) kZ
  obtain ⟨fs, hr, hrun, hended, hW, hsame⟩ := X0.leave (v := some (.int a1)) (fun h => by rw [Bd.returns] at h; cases h)
  refine ⟨_, _, pre0 _ ?_, hrun, hended, _, _, rfl, ?_, ⟨_, rfl⟩, hW, hsame.mono (by decide) (by decide)⟩
  · show Steps p.tables e below (s₁.setTop (mkF m 0 #[.val (.int a1), .val (.int b1)] [])) _
    refine XS.iloadN X0.here hx rfl (hb hby dmn_0) rfl ?_
    show Steps p.tables e below (s₁.setTop (mkF m 1 #[.val (.int a1), .val (.int b1)] [(.int a1)])) _
    refine XS.iloadN X0.here hx rfl (hb hby dmn_1) rfl ?_
    show Steps p.tables e below (s₁.setTop (mkF m 2 #[.val (.int a1), .val (.int b1)] [(.int b1), (.int a1)])) _
    refine XS.icmpNo X0.here hx rfl (hb hby dmn_2) rfl (flt hc).2.2.1 ?_
    show Steps p.tables e below (s₁.setTop (mkF m 5 #[.val (.int a1), .val (.int b1)] [])) _
    refine XS.iloadN X0.here hx rfl (hb hby dmn_5) rfl ?_
    show Steps p.tables e below (s₁.setTop (mkF m 6 #[.val (.int a1), .val (.int b1)] [(.int a1)])) _
    refine XS.goto X0.here hx rfl (pc0 := 6) (pc' := 10) rfl (hb hby dmn_6) (by decide) (by decide) ?_
    show Steps p.tables e below (s₁.setTop (mkF m 10 #[.val (.int a1), .val (.int b1)] [(.int a1)])) _
    exact retI X0 hx Bd.returns (hb hby dmn_10) hr
  · show Q_rm_min Z a1 b1 h0 n0 _ s₁.heap _
    rw [e0]
    exact ⟨rfl, N0, rfl⟩

theorem dic_0 : decode jdk_43_method_23_code 0 = .ok (.iload_n 1, 1) := by decide +kernel
theorem dic_1 : decode jdk_43_method_23_code 1 = .ok (.i2b, 1) := by decide +kernel
theorem dic_2 : decode jdk_43_method_23_code 2 = .ok (.istore 4, 2) := by decide +kernel
theorem dic_4 : decode jdk_43_method_23_code 4 = .ok (.iload_n 2, 1) := by decide +kernel
theorem dic_5 : decode jdk_43_method_23_code 5 = .ok (.istore 5, 2) := by decide +kernel
theorem dic_7 : decode jdk_43_method_23_code 7 = .ok (.iload 5, 2) := by decide +kernel
theorem dic_9 : decode jdk_43_method_23_code 9 = .ok (.iload_n 3, 1) := by decide +kernel
theorem dic_10 : decode jdk_43_method_23_code 10 = .ok (.if_icmp .ge 21, 3) := by decide +kernel
theorem dic_13 : decode jdk_43_method_23_code 13 = .ok (.aload_n 0, 1) := by decide +kernel
theorem dic_14 : decode jdk_43_method_23_code 14 = .ok (.iload 5, 2) := by decide +kernel
theorem dic_16 : decode jdk_43_method_23_code 16 = .ok (.baload, 1) := by decide +kernel
theorem dic_17 : decode jdk_43_method_23_code 17 = .ok (.iload 4, 2) := by decide +kernel
theorem dic_19 : decode jdk_43_method_23_code 19 = .ok (.if_icmp .ne 6, 3) := by decide +kernel
theorem dic_22 : decode jdk_43_method_23_code 22 = .ok (.iload 5, 2) := by decide +kernel
theorem dic_24 : decode jdk_43_method_23_code 24 = .ok (.ireturn, 1) := by decide +kernel
theorem dic_25 : decode jdk_43_method_23_code 25 = .ok (.iinc 5 1, 3) := by decide +kernel
theorem dic_28 : decode jdk_43_method_23_code 28 = .ok (.goto (-21), 3) := by decide +kernel
theorem dic_31 : decode jdk_43_method_23_code 31 = .ok (.iconst (-1), 1) := by decide +kernel
theorem dic_32 : decode jdk_43_method_23_code 32 = .ok (.ireturn, 1) := by decide +kernel
theorem own_ix : ∀ k : Fin 16, (Int32.ofNat k.1) < (16 : Int32) ∧ ¬ (Int32.ofNat k.1) < 0 ∧ (Int32.ofNat k.1).toNatClampNeg = k.1 ∧ (Int32.ofNat k.1) + (1 : Int32) = Int32.ofNat (k.1 + 1) := by decide
theorem own_walk {p : Program} {l : Launch} {e : Env} {R : Room} {s : State} {m : MethodId} {args : Array Value} {below : List Frame} {meth : Method} {c : Code} {T : State} {locs : List Loc} {cells slots : Nat} {Z : State} {h0 : Heap} (X0 : Stand p l e R s m args below meth c T locs cells slots) (hx : p.tables.exec = Jvm.exec) (hZ : Z.Warmed39 s.vm) (e0 : T.heap = h0) (hby : c.code = jdk_43_method_23_code) (a : Addr) (q b : Int32) (ca : Cell) (A : Arr Z h0 a ca .byte) (S : ca.slots.size = (16 : Int32).toNatClampNeg) (H : Has ca own_vs (.int 0)) : ∀ (xs : List Int32) (k : Nat), k + xs.length = 16 → own_by.drop k = xs →
    ∃ (pc : Nat) (Ls : Array Slot), decode c.code pc = .ok (.ireturn, 1) ∧ ∀ target, Steps p.tables e below (T.setTop (mkF m pc Ls [(.int (own_find xs b (Int32.ofNat k)))])) target → Steps p.tables e below (T.setTop (mkF m 7 #[.val (.ref a), .val (.int q), .val (.int (0 : Int32)), .val (.int (16 : Int32)), .val (.int b), .val (.int (Int32.ofNat k))] [])) target := by
  intro xs
  induction xs with
  | nil =>
    intro k hk hd
    have hk' : k = 16 := by simpa using hk
    have hnl : ¬ (Int32.ofNat k) < (16 : Int32) := by rw [hk']; decide
    refine ⟨32, #[.val (.ref a), .val (.int q), .val (.int (0 : Int32)), .val (.int (16 : Int32)), .val (.int b), .val (.int (Int32.ofNat k))], (hb hby dic_32), fun target kt => ?_⟩
    simp only [own_find] at kt
    show Steps p.tables e below (T.setTop (mkF m 7 #[.val (.ref a), .val (.int q), .val (.int (0 : Int32)), .val (.int (16 : Int32)), .val (.int b), .val (.int (Int32.ofNat k))] [])) _
    refine XS.iload X0.here hx rfl (hb hby dic_7) rfl ?_
    show Steps p.tables e below (T.setTop (mkF m 9 #[.val (.ref a), .val (.int q), .val (.int (0 : Int32)), .val (.int (16 : Int32)), .val (.int b), .val (.int (Int32.ofNat k))] [(.int (Int32.ofNat k))])) _
    refine XS.iloadN X0.here hx rfl (hb hby dic_9) rfl ?_
    show Steps p.tables e below (T.setTop (mkF m 10 #[.val (.ref a), .val (.int q), .val (.int (0 : Int32)), .val (.int (16 : Int32)), .val (.int b), .val (.int (Int32.ofNat k))] [(.int (16 : Int32)), (.int (Int32.ofNat k))])) _
    refine XS.icmpYes X0.here hx rfl (pc0 := 10) (pc' := 31) rfl (hb hby dic_10) rfl (flt hnl).2.1 (by decide) (by decide) ?_
    show Steps p.tables e below (T.setTop (mkF m 31 #[.val (.ref a), .val (.int q), .val (.int (0 : Int32)), .val (.int (16 : Int32)), .val (.int b), .val (.int (Int32.ofNat k))] [])) _
    refine XS.iconst X0.here hx rfl (hb hby dic_31) ?_
    show Steps p.tables e below (T.setTop (mkF m 32 #[.val (.ref a), .val (.int q), .val (.int (0 : Int32)), .val (.int (16 : Int32)), .val (.int b), .val (.int (Int32.ofNat k))] [(.int (-1 : Int32))])) _
    exact kt
  | cons x xs ih =>
    intro k hk hd
    have hk' : k < 16 := by simp only [List.length_cons] at hk; omega
    obtain ⟨hlt, hn0, hcl, hup⟩ := own_ix ⟨k, hk'⟩
    dsimp only at hlt hn0 hcl hup
    have hin : ¬ ((Int32.ofNat k) < 0 ∨ ca.slots.size ≤ (Int32.ofNat k).toNatClampNeg) := inb_of S ⟨hn0, hlt⟩
    have hat : own_vs.getD (Int32.ofNat k).toNatClampNeg (.int 0) = (.int x) := by
      rw [hcl]
      have e1 : own_vs = own_by.map Value.int := rfl
      have e2 : own_by[k]? = some x := by
        have := congrArg (·[0]?) hd
        simpa using this
      rw [e1, List.getD_eq_getElem?_getD, List.getElem?_map, e2]; rfl
    have hd' : own_by.drop (k + 1) = xs := by rw [← List.drop_drop, hd]; rfl
    rcases Classical.em (x = b) with hq | hq
    · refine ⟨24, #[.val (.ref a), .val (.int q), .val (.int (0 : Int32)), .val (.int (16 : Int32)), .val (.int b), .val (.int (Int32.ofNat k))], (hb hby dic_24), fun target kt => ?_⟩
      simp only [own_find, if_pos hq] at kt
      show Steps p.tables e below (T.setTop (mkF m 7 #[.val (.ref a), .val (.int q), .val (.int (0 : Int32)), .val (.int (16 : Int32)), .val (.int b), .val (.int (Int32.ofNat k))] [])) _
      refine XS.iload X0.here hx rfl (hb hby dic_7) rfl ?_
      show Steps p.tables e below (T.setTop (mkF m 9 #[.val (.ref a), .val (.int q), .val (.int (0 : Int32)), .val (.int (16 : Int32)), .val (.int b), .val (.int (Int32.ofNat k))] [(.int (Int32.ofNat k))])) _
      refine XS.iloadN X0.here hx rfl (hb hby dic_9) rfl ?_
      show Steps p.tables e below (T.setTop (mkF m 10 #[.val (.ref a), .val (.int q), .val (.int (0 : Int32)), .val (.int (16 : Int32)), .val (.int b), .val (.int (Int32.ofNat k))] [(.int (16 : Int32)), (.int (Int32.ofNat k))])) _
      refine XS.icmpNo X0.here hx rfl (hb hby dic_10) rfl (tlt hlt).2.1 ?_
      show Steps p.tables e below (T.setTop (mkF m 13 #[.val (.ref a), .val (.int q), .val (.int (0 : Int32)), .val (.int (16 : Int32)), .val (.int b), .val (.int (Int32.ofNat k))] [])) _
      refine XS.aloadN X0.here hx rfl (hb hby dic_13) rfl rfl ?_
      show Steps p.tables e below (T.setTop (mkF m 14 #[.val (.ref a), .val (.int q), .val (.int (0 : Int32)), .val (.int (16 : Int32)), .val (.int b), .val (.int (Int32.ofNat k))] [(.ref a)])) _
      refine XS.iload X0.here hx rfl (hb hby dic_14) rfl ?_
      show Steps p.tables e below (T.setTop (mkF m 16 #[.val (.ref a), .val (.int q), .val (.int (0 : Int32)), .val (.int (16 : Int32)), .val (.int b), .val (.int (Int32.ofNat k))] [(.int (Int32.ofNat k)), (.ref a)])) _
      refine X0.baloadBytes hx (j := (Int32.ofNat k)) (v := (.int x)) (by rw [e0]; exact A.1) (State.isArrayOf_alike hZ.alike A.2.1) A.2.2 hin (Has.at H hin hat) (g := (mkF m 16 #[.val (.ref a), .val (.int q), .val (.int (0 : Int32)), .val (.int (16 : Int32)), .val (.int b), .val (.int (Int32.ofNat k))] [(.int (Int32.ofNat k)), (.ref a)])) rfl rfl (hb hby dic_16) _ ?_
      show Steps p.tables e below (T.setTop (mkF m 17 #[.val (.ref a), .val (.int q), .val (.int (0 : Int32)), .val (.int (16 : Int32)), .val (.int b), .val (.int (Int32.ofNat k))] [(.int x)])) _
      refine XS.iload X0.here hx rfl (hb hby dic_17) rfl ?_
      show Steps p.tables e below (T.setTop (mkF m 19 #[.val (.ref a), .val (.int q), .val (.int (0 : Int32)), .val (.int (16 : Int32)), .val (.int b), .val (.int (Int32.ofNat k))] [(.int b), (.int x)])) _
      refine XS.icmpNo X0.here hx rfl (hb hby dic_19) rfl (teq hq).2 ?_
      show Steps p.tables e below (T.setTop (mkF m 22 #[.val (.ref a), .val (.int q), .val (.int (0 : Int32)), .val (.int (16 : Int32)), .val (.int b), .val (.int (Int32.ofNat k))] [])) _
      refine XS.iload X0.here hx rfl (hb hby dic_22) rfl ?_
      show Steps p.tables e below (T.setTop (mkF m 24 #[.val (.ref a), .val (.int q), .val (.int (0 : Int32)), .val (.int (16 : Int32)), .val (.int b), .val (.int (Int32.ofNat k))] [(.int (Int32.ofNat k))])) _
      exact kt
    · obtain ⟨pc, Ls, hdec, st⟩ := ih (k + 1) (by simp only [List.length_cons] at hk; omega) hd'
      refine ⟨pc, Ls, hdec, fun target kt => ?_⟩
      simp only [own_find, if_neg hq] at kt
      rw [hup] at kt
      show Steps p.tables e below (T.setTop (mkF m 7 #[.val (.ref a), .val (.int q), .val (.int (0 : Int32)), .val (.int (16 : Int32)), .val (.int b), .val (.int (Int32.ofNat k))] [])) _
      refine XS.iload X0.here hx rfl (hb hby dic_7) rfl ?_
      show Steps p.tables e below (T.setTop (mkF m 9 #[.val (.ref a), .val (.int q), .val (.int (0 : Int32)), .val (.int (16 : Int32)), .val (.int b), .val (.int (Int32.ofNat k))] [(.int (Int32.ofNat k))])) _
      refine XS.iloadN X0.here hx rfl (hb hby dic_9) rfl ?_
      show Steps p.tables e below (T.setTop (mkF m 10 #[.val (.ref a), .val (.int q), .val (.int (0 : Int32)), .val (.int (16 : Int32)), .val (.int b), .val (.int (Int32.ofNat k))] [(.int (16 : Int32)), (.int (Int32.ofNat k))])) _
      refine XS.icmpNo X0.here hx rfl (hb hby dic_10) rfl (tlt hlt).2.1 ?_
      show Steps p.tables e below (T.setTop (mkF m 13 #[.val (.ref a), .val (.int q), .val (.int (0 : Int32)), .val (.int (16 : Int32)), .val (.int b), .val (.int (Int32.ofNat k))] [])) _
      refine XS.aloadN X0.here hx rfl (hb hby dic_13) rfl rfl ?_
      show Steps p.tables e below (T.setTop (mkF m 14 #[.val (.ref a), .val (.int q), .val (.int (0 : Int32)), .val (.int (16 : Int32)), .val (.int b), .val (.int (Int32.ofNat k))] [(.ref a)])) _
      refine XS.iload X0.here hx rfl (hb hby dic_14) rfl ?_
      show Steps p.tables e below (T.setTop (mkF m 16 #[.val (.ref a), .val (.int q), .val (.int (0 : Int32)), .val (.int (16 : Int32)), .val (.int b), .val (.int (Int32.ofNat k))] [(.int (Int32.ofNat k)), (.ref a)])) _
      refine X0.baloadBytes hx (j := (Int32.ofNat k)) (v := (.int x)) (by rw [e0]; exact A.1) (State.isArrayOf_alike hZ.alike A.2.1) A.2.2 hin (Has.at H hin hat) (g := (mkF m 16 #[.val (.ref a), .val (.int q), .val (.int (0 : Int32)), .val (.int (16 : Int32)), .val (.int b), .val (.int (Int32.ofNat k))] [(.int (Int32.ofNat k)), (.ref a)])) rfl rfl (hb hby dic_16) _ ?_
      show Steps p.tables e below (T.setTop (mkF m 17 #[.val (.ref a), .val (.int q), .val (.int (0 : Int32)), .val (.int (16 : Int32)), .val (.int b), .val (.int (Int32.ofNat k))] [(.int x)])) _
      refine XS.iload X0.here hx rfl (hb hby dic_17) rfl ?_
      show Steps p.tables e below (T.setTop (mkF m 19 #[.val (.ref a), .val (.int q), .val (.int (0 : Int32)), .val (.int (16 : Int32)), .val (.int b), .val (.int (Int32.ofNat k))] [(.int b), (.int x)])) _
      refine XS.icmpYes X0.here hx rfl (pc0 := 19) (pc' := 25) rfl (hb hby dic_19) rfl (feq hq).2 (by decide) (by decide) ?_
      show Steps p.tables e below (T.setTop (mkF m 25 #[.val (.ref a), .val (.int q), .val (.int (0 : Int32)), .val (.int (16 : Int32)), .val (.int b), .val (.int (Int32.ofNat k))] [])) _
      refine XS.iinc X0.here hx rfl (hb hby dic_25) rfl (l' := #[.val (.ref a), .val (.int q), .val (.int (0 : Int32)), .val (.int (16 : Int32)), .val (.int b), .val (.int ((Int32.ofNat k) + (1 : Int32)))]) rfl ?_
      show Steps p.tables e below (T.setTop (mkF m 28 #[.val (.ref a), .val (.int q), .val (.int (0 : Int32)), .val (.int (16 : Int32)), .val (.int b), .val (.int ((Int32.ofNat k) + (1 : Int32)))] [])) _
      refine XS.goto X0.here hx rfl (pc0 := 28) (pc' := 7) rfl (hb hby dic_28) (by decide) (by decide) ?_
      show Steps p.tables e below (T.setTop (mkF m 7 #[.val (.ref a), .val (.int q), .val (.int (0 : Int32)), .val (.int (16 : Int32)), .val (.int b), .val (.int ((Int32.ofNat k) + (1 : Int32)))] [])) _
      rw [hup]
      exact st _ kt

theorem ef_dic_ (m : MethodId) (a : Addr) (q : Int32) (f0 : Int32) (t0 : Int32) : entryFrame m #[(.ref a), (.int q), (.int f0), (.int t0)] 6 = mkF m 0 #[.val (.ref a), .val (.int q), .val (.int f0), .val (.int t0), .unset, .unset] [] := by first | (simp [entryFrame, mkF, argsToLocals, Value.category]; done) | rfl
def Q_rmIC (Z : State) (a : Addr) (q : Int32) (f0 : Int32) (t0 : Int32) (k3 : ClassId) (h0 : Heap) (n0 : Nat) (v : Option Value) (h : Heap) (L : List Loc) : Prop := v = some (.int (own_find own_by (q.toInt8.toInt32) (0 : Int32))) ∧ Fr n0 L ∧ h = h0
theorem pn_rmIC : plainName "java/lang/StringLatin1" = true := by first | (simp [plainName, overriddenIn]; done) | decide +kernel
set_option maxRecDepth 65536 in
set_option maxHeartbeats 40000000 in
theorem rmIC (l : Launch) (Z : State) (a0 : Array Value) (hw : ∀ d ∈ tables_1, d.before a0 Z = true) (ws : List Jvm.Cond) (a : Addr) (q : Int32) (f0 : Int32) (t0 : Int32) (k3 : ClassId) (h0 : Heap) (n0 : Nat) (Z0 : n0 ≤ h0.size) (hf0 : f0 = 0) (ht0 : t0 = 16) (V : Arv Z h0 a k3 .byte (16 : Int32) own_vs (.int 0)) :
    MetFree l (⟨"java/lang/StringLatin1", "indexOfChar", "([BIII)I"⟩ : MethodName) (head1 (Jvm.Cond.code (⟨"java/lang/StringLatin1", "indexOfChar", "([BIII)I"⟩ : MethodName) jdk_43_method_23_code 6 (some .int) :: ws) ({ frames := 0, cells := 0, slots := 0, locals := 0 } : Room)) (fun aZ U => aZ = #[(.ref a), (.int q), (.int f0), (.int t0)] ∧ Z.Warmed39 U.vm ∧ U.heap = h0) (fun _ _ _ _ _ => True) (fun _ U o U' => ∃ v L, o = .returned v ∧ Q_rmIC Z a q f0 t0 k3  h0 n0 v U'.heap L ∧ FrameEnd U o U' L ({ frames := 0, cells := 0, slots := 0, locals := 0 } : Room).cells ({ frames := 0, cells := 0, slots := 0, locals := 0 } : Room).slots) := by
  refine MetFree.of_bodySF (plainFor_of_name pn_rmIC) hisR ?_
  intro p e s m args below meth c s₁ Bd hml0 hP hK
  obtain ⟨rfl, hZ, hh⟩ := hP
  have hx := Bd.exec
  have hby := Bd.bytes
  have hml : c.maxLocals = 6 := hml0
  have hown : s.vm.findClass "java/lang/StringLatin1" = some m.cls := findClass_of_methodNamed Bd.named
  have hnm := (name_of_methodNamed Bd.named Bd.method).1
  have X0 : Stand p l e ({ frames := 0, cells := 0, slots := 0, locals := 0 } : Room) s m #[(.ref a), (.int q), (.int f0), (.int t0)] below meth c s₁ [] 0 0 := Stand.of_body Bd
  have e0 : s₁.heap = h0 := by rw [← hh, Bd.state]; rfl
  have N0 := Fr.nil n0
  have pre0 : ∀ tZ, Steps p.tables e below (s₁.setTop (mkF m 0 #[.val (.ref a), .val (.int q), .val (.int f0), .val (.int t0), .unset, .unset] [])) tZ → Steps p.tables e below (s₁.setTop (entryFrame m #[(.ref a), (.int q), (.int f0), (.int t0)] 6)) tZ := fun tZ kZ => castTop (ef_dic_ m a q f0 t0) kZ
  subst hf0 ht0
  obtain ⟨ca, Av, qv, Sv, Nv, Hv, Gv⟩ := V
  obtain ⟨pcx, Lx, hdx, stx⟩ := own_walk X0 hx hZ e0 hby a q (q.toInt8.toInt32) ca Av Sv Hv own_by 0 rfl rfl
  obtain ⟨fs, hr, hrun, hended, hW, hsame⟩ := X0.leave (v := some (.int (own_find own_by (q.toInt8.toInt32) (0 : Int32)))) (fun h => by rw [Bd.returns] at h; cases h)
  refine ⟨_, _, pre0 _ ?_, hrun, hended, _, _, rfl, ?_, ⟨_, rfl⟩, hW, hsame.mono (by decide) (by decide)⟩
  · show Steps p.tables e below (s₁.setTop (mkF m 0 #[.val (.ref a), .val (.int q), .val (.int (0 : Int32)), .val (.int (16 : Int32)), .unset, .unset] [])) _
    refine XS.iloadN X0.here hx rfl (hb hby dic_0) rfl ?_
    show Steps p.tables e below (s₁.setTop (mkF m 1 #[.val (.ref a), .val (.int q), .val (.int (0 : Int32)), .val (.int (16 : Int32)), .unset, .unset] [(.int q)])) _
    refine XS.i2b X0.here hx rfl (hb hby dic_1) rfl ?_
    show Steps p.tables e below (s₁.setTop (mkF m 2 #[.val (.ref a), .val (.int q), .val (.int (0 : Int32)), .val (.int (16 : Int32)), .unset, .unset] [(.int (q.toInt8.toInt32))])) _
    refine XS.istore X0.here hx rfl (hb hby dic_2) rfl (l' := #[.val (.ref a), .val (.int q), .val (.int (0 : Int32)), .val (.int (16 : Int32)), .val (.int (q.toInt8.toInt32)), .unset]) rfl ?_
    show Steps p.tables e below (s₁.setTop (mkF m 4 #[.val (.ref a), .val (.int q), .val (.int (0 : Int32)), .val (.int (16 : Int32)), .val (.int (q.toInt8.toInt32)), .unset] [])) _
    refine XS.iloadN X0.here hx rfl (hb hby dic_4) rfl ?_
    show Steps p.tables e below (s₁.setTop (mkF m 5 #[.val (.ref a), .val (.int q), .val (.int (0 : Int32)), .val (.int (16 : Int32)), .val (.int (q.toInt8.toInt32)), .unset] [(.int (0 : Int32))])) _
    refine XS.istore X0.here hx rfl (hb hby dic_5) rfl (l' := #[.val (.ref a), .val (.int q), .val (.int (0 : Int32)), .val (.int (16 : Int32)), .val (.int (q.toInt8.toInt32)), .val (.int (0 : Int32))]) rfl ?_
    show Steps p.tables e below (s₁.setTop (mkF m 7 #[.val (.ref a), .val (.int q), .val (.int (0 : Int32)), .val (.int (16 : Int32)), .val (.int (q.toInt8.toInt32)), .val (.int (0 : Int32))] [])) _
    refine stx _ ?_
    exact retI X0 hx Bd.returns hdx hr
  · show Q_rmIC Z a q 0 16 k3 h0 n0 _ s₁.heap _
    rw [e0]
    exact ⟨rfl, N0, rfl⟩

theorem dix_0 : decode jdk_43_method_22_code 0 = .ok (.iload_n 1, 1) := by decide +kernel
theorem dix_1 : decode jdk_43_method_22_code 1 = .ok (.invokestatic 88, 3) := by decide +kernel
theorem dix_4 : decode jdk_43_method_22_code 4 = .ok (.ifCond .ne 5, 3) := by decide +kernel
theorem dix_7 : decode jdk_43_method_22_code 7 = .ok (.iconst (-1), 1) := by decide +kernel
theorem dix_8 : decode jdk_43_method_22_code 8 = .ok (.ireturn, 1) := by decide +kernel
theorem dix_9 : decode jdk_43_method_22_code 9 = .ok (.iload_n 2, 1) := by decide +kernel
theorem dix_10 : decode jdk_43_method_22_code 10 = .ok (.iconst 0, 1) := by decide +kernel
theorem dix_11 : decode jdk_43_method_22_code 11 = .ok (.invokestatic 92, 3) := by decide +kernel
theorem dix_14 : decode jdk_43_method_22_code 14 = .ok (.istore_n 2, 1) := by decide +kernel
theorem dix_15 : decode jdk_43_method_22_code 15 = .ok (.iload_n 3, 1) := by decide +kernel
theorem dix_16 : decode jdk_43_method_22_code 16 = .ok (.aload_n 0, 1) := by decide +kernel
theorem dix_17 : decode jdk_43_method_22_code 17 = .ok (.arraylength, 1) := by decide +kernel
theorem dix_18 : decode jdk_43_method_22_code 18 = .ok (.invokestatic 38, 3) := by decide +kernel
theorem dix_21 : decode jdk_43_method_22_code 21 = .ok (.istore_n 3, 1) := by decide +kernel
theorem dix_22 : decode jdk_43_method_22_code 22 = .ok (.iload_n 2, 1) := by decide +kernel
theorem dix_23 : decode jdk_43_method_22_code 23 = .ok (.iload_n 3, 1) := by decide +kernel
theorem dix_24 : decode jdk_43_method_22_code 24 = .ok (.if_icmp .lt 5, 3) := by decide +kernel
theorem dix_29 : decode jdk_43_method_22_code 29 = .ok (.aload_n 0, 1) := by decide +kernel
theorem dix_30 : decode jdk_43_method_22_code 30 = .ok (.iload_n 1, 1) := by decide +kernel
theorem dix_31 : decode jdk_43_method_22_code 31 = .ok (.iload_n 2, 1) := by decide +kernel
theorem dix_32 : decode jdk_43_method_22_code 32 = .ok (.iload_n 3, 1) := by decide +kernel
theorem dix_33 : decode jdk_43_method_22_code 33 = .ok (.invokestatic 95, 3) := by decide +kernel
theorem dix_36 : decode jdk_43_method_22_code 36 = .ok (.ireturn, 1) := by decide +kernel
theorem pd_dix__I_Z : parseMethodDescriptor "(I)Z" = some ⟨[.int], some .boolean⟩ := by decide +kernel
theorem pd_dix__II_I : parseMethodDescriptor "(II)I" = some ⟨[.int, .int], some .int⟩ := by decide +kernel
theorem pd_dix___BIII_I : parseMethodDescriptor "([BIII)I" = some ⟨[(.array .byte), .int, .int, .int], some .int⟩ := by decide +kernel
theorem ef_dix_ (m : MethodId) (a : Addr) (q : Int32) (f0 : Int32) (t0 : Int32) : entryFrame m #[(.ref a), (.int q), (.int f0), (.int t0)] 4 = mkF m 0 #[.val (.ref a), .val (.int q), .val (.int f0), .val (.int t0)] [] := by first | (simp [entryFrame, mkF, argsToLocals, Value.category]; done) | rfl
def Q_rmIX (Z : State) (a : Addr) (q : Int32) (f0 : Int32) (t0 : Int32) (k3 : ClassId) (h0 : Heap) (n0 : Nat) (v : Option Value) (h : Heap) (L : List Loc) : Prop := v = some (.int (own_idx q)) ∧ Fr n0 L ∧ h = h0
theorem pn_rmIX : plainName "java/lang/StringLatin1" = true := by first | (simp [plainName, overriddenIn]; done) | decide +kernel
set_option maxRecDepth 65536 in
set_option maxHeartbeats 40000000 in
theorem rmIX (l : Launch) (Z : State) (a0 : Array Value) (hw : ∀ d ∈ tables_1, d.before a0 Z = true) (ws : List Jvm.Cond) (a : Addr) (q : Int32) (f0 : Int32) (t0 : Int32) (k3 : ClassId) (h0 : Heap) (n0 : Nat) (Z0 : n0 ≤ h0.size) (hf0 : f0 = 0) (ht0 : t0 = 16) (V : Arv Z h0 a k3 .byte (16 : Int32) own_vs (.int 0)) :
    MetFree l (⟨"java/lang/StringLatin1", "indexOf", "([BIII)I"⟩ : MethodName) (head1 (Jvm.Cond.code (⟨"java/lang/StringLatin1", "indexOf", "([BIII)I"⟩ : MethodName) jdk_43_method_22_code 4 (some .int) :: ws) ({ frames := 1, cells := 0, slots := 0, locals := 40 } : Room)) (fun aZ U => aZ = #[(.ref a), (.int q), (.int f0), (.int t0)] ∧ Z.Warmed39 U.vm ∧ U.heap = h0) (fun _ _ _ _ _ => True) (fun _ U o U' => ∃ v L, o = .returned v ∧ Q_rmIX Z a q f0 t0 k3  h0 n0 v U'.heap L ∧ FrameEnd U o U' L ({ frames := 1, cells := 0, slots := 0, locals := 40 } : Room).cells ({ frames := 1, cells := 0, slots := 0, locals := 40 } : Room).slots) := by
  refine MetFree.of_bodySF (plainFor_of_name pn_rmIX) hisR ?_
  intro p e s m args below meth c s₁ Bd hml0 hP hK
  obtain ⟨rfl, hZ, hh⟩ := hP
  have hx := Bd.exec
  have hby := Bd.bytes
  have hml : c.maxLocals = 4 := hml0
  have hown : s.vm.findClass "java/lang/StringLatin1" = some m.cls := findClass_of_methodNamed Bd.named
  have hnm := (name_of_methodNamed Bd.named Bd.method).1
  have X0 : Stand p l e ({ frames := 1, cells := 0, slots := 0, locals := 40 } : Room) s m #[(.ref a), (.int q), (.int f0), (.int t0)] below meth c s₁ [] 0 0 := Stand.of_body Bd
  have e0 : s₁.heap = h0 := by rw [← hh, Bd.state]; rfl
  have N0 := Fr.nil n0
  have pre0 : ∀ tZ, Steps p.tables e below (s₁.setTop (mkF m 0 #[.val (.ref a), .val (.int q), .val (.int f0), .val (.int t0)] [])) tZ → Steps p.tables e below (s₁.setTop (entryFrame m #[(.ref a), (.int q), (.int f0), (.int t0)] 4)) tZ := fun tZ kZ => castTop (ef_dix_ m a q f0 t0) kZ
  subst hf0 ht0
  obtain ⟨ca, Av, qv, Sv, Nv, Hv, Gv⟩ := V
  have V' : Arv Z h0 a k3 .byte (16 : Int32) own_vs (.int 0) := ⟨ca, Av, qv, Sv, Nv, Hv, Gv⟩
  rcases Classical.em ((own_can q) = (0 : Int32)) with c0 | c0
  · skip
    obtain ⟨_, _, ⟨T1, L1, k1, n1⟩, -, X1, ⟨Lc1, hQ1, l1, y1, z1⟩, st1⟩ := Jvm.LawKit.callS X0 hx (y := (⟨"java/lang/StringLatin1", "canEncode", "(I)Z"⟩ : MethodName)) hown (mvT hZ (hw _ (List.mem_of_getElem? (i := 45) rfl))) (mvT hZ (hw _ (List.mem_of_getElem? (i := 46) rfl))) (mvT hZ (hw _ (List.mem_of_getElem? (i := 43) rfl))) (mvT hZ (hw _ (List.mem_of_getElem? (i := 47) rfl))) (by decide) (backOf (W := 0) (rmCE l Z a0 hw [] q h0 n0 Z0) hZ (hw _ (List.mem_of_getElem? (i := 47) rfl)) (hw _ (List.mem_of_getElem? (i := 43) rfl)) (by decide) (by decide)) (g := (mkF m 1 #[.val (.ref a), .val (.int q), .val (.int (0 : Int32)), .val (.int (16 : Int32))] [(.int q)])) rfl (by rw [hml]; rfl) (argsL := [(.int q)]) (rest := []) (lenOf pd_dix__I_Z rfl) rfl (by show 2 * 0 + _ ≤ _; exact Nat.le_of_eq rfl) (hb hby dix_1) (fun _ _ => ⟨rfl, e0, (by decide : 0 + 0 ≤ _), (by decide : 0 + 0 ≤ _)⟩)
    dsimp only [Pt.U, Pt.locs, Pt.cells, Pt.slots] at X1 l1 y1 z1 st1 hQ1
    subst l1 y1 z1
    obtain ⟨rfl, N1q, e1⟩ := hQ1
    have N1 := Fr.app N0 N1q
    obtain ⟨fs, hr, hrun, hended, hW, hsame⟩ := X1.leave (v := some (.int (-1 : Int32))) (fun h => by rw [Bd.returns] at h; cases h)
    refine ⟨_, _, pre0 _ ?_, hrun, hended, _, _, rfl, ?_, ⟨_, rfl⟩, hW, hsame.mono (by decide) (by decide)⟩
    · show Steps p.tables e below (s₁.setTop (mkF m 0 #[.val (.ref a), .val (.int q), .val (.int (0 : Int32)), .val (.int (16 : Int32))] [])) _
      refine XS.iloadN X0.here hx rfl (hb hby dix_0) rfl ?_
      show Steps p.tables e below (s₁.setTop (mkF m 1 #[.val (.ref a), .val (.int q), .val (.int (0 : Int32)), .val (.int (16 : Int32))] [(.int q)])) _
      refine st1 _ ?_
      show Steps p.tables e below (T1.setTop (mkF m 4 #[.val (.ref a), .val (.int q), .val (.int (0 : Int32)), .val (.int (16 : Int32))] [(.int (own_can q))])) _
      refine XS.ifNo X1.here hx rfl (hb hby dix_4) rfl ((if0 _ _).trans (teq c0).2) ?_
      show Steps p.tables e below (T1.setTop (mkF m 7 #[.val (.ref a), .val (.int q), .val (.int (0 : Int32)), .val (.int (16 : Int32))] [])) _
      refine XS.iconst X1.here hx rfl (hb hby dix_7) ?_
      show Steps p.tables e below (T1.setTop (mkF m 8 #[.val (.ref a), .val (.int q), .val (.int (0 : Int32)), .val (.int (16 : Int32))] [(.int (-1 : Int32))])) _
      exact retI X1 hx Bd.returns (hb hby dix_8) hr
    · show Q_rmIX Z a q 0 16 k3 h0 n0 _ T1.heap _
      rw [e1]
      exact ⟨by simp only [own_idx, if_pos c0], N1, rfl⟩
  · skip
    obtain ⟨_, _, ⟨T1, L1, k1, n1⟩, -, X1, ⟨Lc1, hQ1, l1, y1, z1⟩, st1⟩ := Jvm.LawKit.callS X0 hx (y := (⟨"java/lang/StringLatin1", "canEncode", "(I)Z"⟩ : MethodName)) hown (mvT hZ (hw _ (List.mem_of_getElem? (i := 45) rfl))) (mvT hZ (hw _ (List.mem_of_getElem? (i := 46) rfl))) (mvT hZ (hw _ (List.mem_of_getElem? (i := 43) rfl))) (mvT hZ (hw _ (List.mem_of_getElem? (i := 47) rfl))) (by decide) (backOf (W := 0) (rmCE l Z a0 hw [] q h0 n0 Z0) hZ (hw _ (List.mem_of_getElem? (i := 47) rfl)) (hw _ (List.mem_of_getElem? (i := 43) rfl)) (by decide) (by decide)) (g := (mkF m 1 #[.val (.ref a), .val (.int q), .val (.int (0 : Int32)), .val (.int (16 : Int32))] [(.int q)])) rfl (by rw [hml]; rfl) (argsL := [(.int q)]) (rest := []) (lenOf pd_dix__I_Z rfl) rfl (by show 2 * 0 + _ ≤ _; exact Nat.le_of_eq rfl) (hb hby dix_1) (fun _ _ => ⟨rfl, e0, (by decide : 0 + 0 ≤ _), (by decide : 0 + 0 ≤ _)⟩)
    dsimp only [Pt.U, Pt.locs, Pt.cells, Pt.slots] at X1 l1 y1 z1 st1 hQ1
    subst l1 y1 z1
    obtain ⟨rfl, N1q, e1⟩ := hQ1
    have N1 := Fr.app N0 N1q
    obtain ⟨_, _, ⟨T2, L2, k2, n2⟩, -, X2, ⟨Lc2, hQ2, l2, y2, z2⟩, st2⟩ := Jvm.LawKit.callS X1 hx (y := (⟨"java/lang/Math", "max", "(II)I"⟩ : MethodName)) hown (mvT hZ (hw _ (List.mem_of_getElem? (i := 48) rfl))) (mvT hZ (hw _ (List.mem_of_getElem? (i := 49) rfl))) (mvT hZ (hw _ (List.mem_of_getElem? (i := 50) rfl))) (mvT hZ (hw _ (List.mem_of_getElem? (i := 51) rfl))) (by decide) (backOf (W := 0) (rm_max l Z a0 hw [] (0 : Int32) (0 : Int32) h0 n0 Z0 (by decide)) hZ (hw _ (List.mem_of_getElem? (i := 51) rfl)) (hw _ (List.mem_of_getElem? (i := 50) rfl)) (by decide) (by decide)) (g := (mkF m 11 #[.val (.ref a), .val (.int q), .val (.int (0 : Int32)), .val (.int (16 : Int32))] [(.int (0 : Int32)), (.int (0 : Int32))])) rfl (by rw [hml]; rfl) (argsL := [(.int (0 : Int32)), (.int (0 : Int32))]) (rest := []) (lenOf pd_dix__II_I rfl) rfl (by show 2 * 0 + _ ≤ _; exact Nat.le_of_eq rfl) (hb hby dix_11) (fun _ _ => ⟨rfl, e1, (by decide : 0 + 0 ≤ _), (by decide : 0 + 0 ≤ _)⟩)
    dsimp only [Pt.U, Pt.locs, Pt.cells, Pt.slots] at X2 l2 y2 z2 st2 hQ2
    subst l2 y2 z2
    obtain ⟨rfl, N2q, e2⟩ := hQ2
    have N2 := Fr.app N1 N2q
    obtain ⟨_, _, ⟨T3, L3, k3, n3⟩, -, X3, ⟨Lc3, hQ3, l3, y3, z3⟩, st3⟩ := Jvm.LawKit.callS X2 hx (y := (⟨"java/lang/Math", "min", "(II)I"⟩ : MethodName)) hown (mvT hZ (hw _ (List.mem_of_getElem? (i := 52) rfl))) (mvT hZ (hw _ (List.mem_of_getElem? (i := 53) rfl))) (mvT hZ (hw _ (List.mem_of_getElem? (i := 50) rfl))) (mvT hZ (hw _ (List.mem_of_getElem? (i := 54) rfl))) (by decide) (backOf (W := 0) (rm_min l Z a0 hw [] (16 : Int32) (16 : Int32) h0 n0 Z0 (by decide)) hZ (hw _ (List.mem_of_getElem? (i := 54) rfl)) (hw _ (List.mem_of_getElem? (i := 50) rfl)) (by decide) (by decide)) (g := (mkF m 18 #[.val (.ref a), .val (.int q), .val (.int (0 : Int32)), .val (.int (16 : Int32))] [(.int (16 : Int32)), (.int (16 : Int32))])) rfl (by rw [hml]; rfl) (argsL := [(.int (16 : Int32)), (.int (16 : Int32))]) (rest := []) (lenOf pd_dix__II_I rfl) rfl (by show 2 * 0 + _ ≤ _; exact Nat.le_of_eq rfl) (hb hby dix_18) (fun _ _ => ⟨rfl, e2, (by decide : 0 + 0 ≤ _), (by decide : 0 + 0 ≤ _)⟩)
    dsimp only [Pt.U, Pt.locs, Pt.cells, Pt.slots] at X3 l3 y3 z3 st3 hQ3
    subst l3 y3 z3
    obtain ⟨rfl, N3q, e3⟩ := hQ3
    have N3 := Fr.app N2 N3q
    obtain ⟨_, _, ⟨T4, L4, k4, n4⟩, -, X4, ⟨Lc4, hQ4, l4, y4, z4⟩, st4⟩ := Jvm.LawKit.callS X3 hx (y := (⟨"java/lang/StringLatin1", "indexOfChar", "([BIII)I"⟩ : MethodName)) hown (mvT hZ (hw _ (List.mem_of_getElem? (i := 55) rfl))) (mvT hZ (hw _ (List.mem_of_getElem? (i := 56) rfl))) (mvT hZ (hw _ (List.mem_of_getElem? (i := 43) rfl))) (mvT hZ (hw _ (List.mem_of_getElem? (i := 57) rfl))) (by decide) (backOf (W := 0) (rmIC l Z a0 hw [] a q 0 16 k3 h0 n0 Z0 rfl rfl V') hZ (hw _ (List.mem_of_getElem? (i := 57) rfl)) (hw _ (List.mem_of_getElem? (i := 43) rfl)) (by decide) (by decide)) (g := (mkF m 33 #[.val (.ref a), .val (.int q), .val (.int (0 : Int32)), .val (.int (16 : Int32))] [(.int (16 : Int32)), (.int (0 : Int32)), (.int q), (.ref a)])) rfl (by rw [hml]; rfl) (argsL := [(.ref a), (.int q), (.int (0 : Int32)), (.int (16 : Int32))]) (rest := []) (lenOf pd_dix___BIII_I rfl) rfl (by show 2 * 0 + _ ≤ _; exact Nat.le_of_eq rfl) (hb hby dix_33) (fun _ _ => ⟨rfl, e3, (by decide : 0 + 0 ≤ _), (by decide : 0 + 0 ≤ _)⟩)
    dsimp only [Pt.U, Pt.locs, Pt.cells, Pt.slots] at X4 l4 y4 z4 st4 hQ4
    subst l4 y4 z4
    obtain ⟨rfl, N4q, e4⟩ := hQ4
    have N4 := Fr.app N3 N4q
    obtain ⟨fs, hr, hrun, hended, hW, hsame⟩ := X4.leave (v := some (.int (own_find own_by (q.toInt8.toInt32) (0 : Int32)))) (fun h => by rw [Bd.returns] at h; cases h)
    refine ⟨_, _, pre0 _ ?_, hrun, hended, _, _, rfl, ?_, ⟨_, rfl⟩, hW, hsame.mono (by decide) (by decide)⟩
    · show Steps p.tables e below (s₁.setTop (mkF m 0 #[.val (.ref a), .val (.int q), .val (.int (0 : Int32)), .val (.int (16 : Int32))] [])) _
      refine XS.iloadN X0.here hx rfl (hb hby dix_0) rfl ?_
      show Steps p.tables e below (s₁.setTop (mkF m 1 #[.val (.ref a), .val (.int q), .val (.int (0 : Int32)), .val (.int (16 : Int32))] [(.int q)])) _
      refine st1 _ ?_
      show Steps p.tables e below (T1.setTop (mkF m 4 #[.val (.ref a), .val (.int q), .val (.int (0 : Int32)), .val (.int (16 : Int32))] [(.int (own_can q))])) _
      refine XS.ifYes X1.here hx rfl (pc0 := 4) (pc' := 9) rfl (hb hby dix_4) rfl ((if0 _ _).trans (feq c0).2) (by decide) (by decide) ?_
      show Steps p.tables e below (T1.setTop (mkF m 9 #[.val (.ref a), .val (.int q), .val (.int (0 : Int32)), .val (.int (16 : Int32))] [])) _
      refine XS.iloadN X1.here hx rfl (hb hby dix_9) rfl ?_
      show Steps p.tables e below (T1.setTop (mkF m 10 #[.val (.ref a), .val (.int q), .val (.int (0 : Int32)), .val (.int (16 : Int32))] [(.int (0 : Int32))])) _
      refine XS.iconst X1.here hx rfl (hb hby dix_10) ?_
      show Steps p.tables e below (T1.setTop (mkF m 11 #[.val (.ref a), .val (.int q), .val (.int (0 : Int32)), .val (.int (16 : Int32))] [(.int (0 : Int32)), (.int (0 : Int32))])) _
      refine st2 _ ?_
      show Steps p.tables e below (T2.setTop (mkF m 14 #[.val (.ref a), .val (.int q), .val (.int (0 : Int32)), .val (.int (16 : Int32))] [(.int (0 : Int32))])) _
      refine XS.istoreN X2.here hx rfl (hb hby dix_14) rfl (l' := #[.val (.ref a), .val (.int q), .val (.int (0 : Int32)), .val (.int (16 : Int32))]) rfl ?_
      show Steps p.tables e below (T2.setTop (mkF m 15 #[.val (.ref a), .val (.int q), .val (.int (0 : Int32)), .val (.int (16 : Int32))] [])) _
      refine XS.iloadN X2.here hx rfl (hb hby dix_15) rfl ?_
      show Steps p.tables e below (T2.setTop (mkF m 16 #[.val (.ref a), .val (.int q), .val (.int (0 : Int32)), .val (.int (16 : Int32))] [(.int (16 : Int32))])) _
      refine XS.aloadN X2.here hx rfl (hb hby dix_16) rfl rfl ?_
      show Steps p.tables e below (T2.setTop (mkF m 17 #[.val (.ref a), .val (.int q), .val (.int (0 : Int32)), .val (.int (16 : Int32))] [(.ref a), (.int (16 : Int32))])) _
      refine X2.arraylength hx (by rw [e2]; exact Av.1) (State.isArrayOf_alike hZ.alike Av.2.1) (g := (mkF m 17 #[.val (.ref a), .val (.int q), .val (.int (0 : Int32)), .val (.int (16 : Int32))] [(.ref a), (.int (16 : Int32))])) rfl rfl (hb hby dix_17) _ ?_
      rw [len_of Sv Nv]
      show Steps p.tables e below (T2.setTop (mkF m 18 #[.val (.ref a), .val (.int q), .val (.int (0 : Int32)), .val (.int (16 : Int32))] [(.int (16 : Int32)), (.int (16 : Int32))])) _
      refine st3 _ ?_
      show Steps p.tables e below (T3.setTop (mkF m 21 #[.val (.ref a), .val (.int q), .val (.int (0 : Int32)), .val (.int (16 : Int32))] [(.int (16 : Int32))])) _
      refine XS.istoreN X3.here hx rfl (hb hby dix_21) rfl (l' := #[.val (.ref a), .val (.int q), .val (.int (0 : Int32)), .val (.int (16 : Int32))]) rfl ?_
      show Steps p.tables e below (T3.setTop (mkF m 22 #[.val (.ref a), .val (.int q), .val (.int (0 : Int32)), .val (.int (16 : Int32))] [])) _
      refine XS.iloadN X3.here hx rfl (hb hby dix_22) rfl ?_
      show Steps p.tables e below (T3.setTop (mkF m 23 #[.val (.ref a), .val (.int q), .val (.int (0 : Int32)), .val (.int (16 : Int32))] [(.int (0 : Int32))])) _
      refine XS.iloadN X3.here hx rfl (hb hby dix_23) rfl ?_
      show Steps p.tables e below (T3.setTop (mkF m 24 #[.val (.ref a), .val (.int q), .val (.int (0 : Int32)), .val (.int (16 : Int32))] [(.int (16 : Int32)), (.int (0 : Int32))])) _
      refine XS.icmpYes X3.here hx rfl (pc0 := 24) (pc' := 29) rfl (hb hby dix_24) rfl (tlt (by decide)).1 (by decide) (by decide) ?_
      show Steps p.tables e below (T3.setTop (mkF m 29 #[.val (.ref a), .val (.int q), .val (.int (0 : Int32)), .val (.int (16 : Int32))] [])) _
      refine XS.aloadN X3.here hx rfl (hb hby dix_29) rfl rfl ?_
      show Steps p.tables e below (T3.setTop (mkF m 30 #[.val (.ref a), .val (.int q), .val (.int (0 : Int32)), .val (.int (16 : Int32))] [(.ref a)])) _
      refine XS.iloadN X3.here hx rfl (hb hby dix_30) rfl ?_
      show Steps p.tables e below (T3.setTop (mkF m 31 #[.val (.ref a), .val (.int q), .val (.int (0 : Int32)), .val (.int (16 : Int32))] [(.int q), (.ref a)])) _
      refine XS.iloadN X3.here hx rfl (hb hby dix_31) rfl ?_
      show Steps p.tables e below (T3.setTop (mkF m 32 #[.val (.ref a), .val (.int q), .val (.int (0 : Int32)), .val (.int (16 : Int32))] [(.int (0 : Int32)), (.int q), (.ref a)])) _
      refine XS.iloadN X3.here hx rfl (hb hby dix_32) rfl ?_
      show Steps p.tables e below (T3.setTop (mkF m 33 #[.val (.ref a), .val (.int q), .val (.int (0 : Int32)), .val (.int (16 : Int32))] [(.int (16 : Int32)), (.int (0 : Int32)), (.int q), (.ref a)])) _
      refine st4 _ ?_
      show Steps p.tables e below (T4.setTop (mkF m 36 #[.val (.ref a), .val (.int q), .val (.int (0 : Int32)), .val (.int (16 : Int32))] [(.int (own_find own_by (q.toInt8.toInt32) (0 : Int32)))])) _
      exact retI X4 hx Bd.returns (hb hby dix_36) hr
    · show Q_rmIX Z a q 0 16 k3 h0 n0 _ T4.heap _
      rw [e4]
      exact ⟨by simp only [own_idx, if_neg c0], N4, rfl⟩

theorem dco_0 : decode jdk_42_method_152_code 0 = .ok (.getstatic 38, 3) := by decide +kernel
theorem dco_3 : decode jdk_42_method_152_code 3 = .ok (.ifCond .eq 10, 3) := by decide +kernel
theorem dco_6 : decode jdk_42_method_152_code 6 = .ok (.aload_n 0, 1) := by decide +kernel
theorem dco_7 : decode jdk_42_method_152_code 7 = .ok (.getfield 15, 3) := by decide +kernel
theorem dco_10 : decode jdk_42_method_152_code 10 = .ok (.goto 4, 3) := by decide +kernel
theorem dco_14 : decode jdk_42_method_152_code 14 = .ok (.ireturn, 1) := by decide +kernel
theorem ef_dco_ (m : MethodId) (a : Addr) : entryFrame m #[(.ref a)] 1 = mkF m 0 #[.val (.ref a)] [] := by first | (simp [entryFrame, mkF, argsToLocals, Value.category]; done) | rfl
def Q_rmCo (Z : State) (a : Addr) (cs : Int32) (h0 : Heap) (n0 : Nat) (v : Option Value) (h : Heap) (L : List Loc) : Prop := v = some (.int (0 : Int32)) ∧ Fr n0 L ∧ h = h0
theorem pn_rmCo : plainName "java/lang/String" = true := by first | (simp [plainName, overriddenIn]; done) | decide +kernel
set_option maxRecDepth 65536 in
set_option maxHeartbeats 40000000 in
theorem rmCo (l : Launch) (Z : State) (a0 : Array Value) (hw : ∀ d ∈ tables_1, d.before a0 Z = true) (ws : List Jvm.Cond) (a : Addr) (cs : Int32) (h0 : Heap) (n0 : Nat) (Z0 : n0 ≤ h0.size) (S : Sta Z h0 "java/lang/String" "COMPACT_STRINGS" "Z" (.int cs)) (hcs : ¬ cs = 0) (Fc : Fld Z h0 a "java/lang/String" "coder" "B" (.int (0 : Int32))) :
    MetFree l (⟨"java/lang/String", "coder", "()B"⟩ : MethodName) (head1 (Jvm.Cond.code (⟨"java/lang/String", "coder", "()B"⟩ : MethodName) jdk_42_method_152_code 1 (some .byte) :: ws) ({ frames := 0, cells := 0, slots := 0, locals := 0 } : Room)) (fun aZ U => aZ = #[(.ref a)] ∧ Z.Warmed39 U.vm ∧ U.heap = h0) (fun _ _ _ _ _ => True) (fun _ U o U' => ∃ v L, o = .returned v ∧ Q_rmCo Z a cs  h0 n0 v U'.heap L ∧ FrameEnd U o U' L ({ frames := 0, cells := 0, slots := 0, locals := 0 } : Room).cells ({ frames := 0, cells := 0, slots := 0, locals := 0 } : Room).slots) := by
  refine MetFree.of_bodySF (plainFor_of_name pn_rmCo) hisR ?_
  intro p e s m args below meth c s₁ Bd hml0 hP hK
  obtain ⟨rfl, hZ, hh⟩ := hP
  have hx := Bd.exec
  have hby := Bd.bytes
  have hml : c.maxLocals = 1 := hml0
  have hown : s.vm.findClass "java/lang/String" = some m.cls := findClass_of_methodNamed Bd.named
  have hnm := (name_of_methodNamed Bd.named Bd.method).1
  have X0 : Stand p l e ({ frames := 0, cells := 0, slots := 0, locals := 0 } : Room) s m #[(.ref a)] below meth c s₁ [] 0 0 := Stand.of_body Bd
  have e0 : s₁.heap = h0 := by rw [← hh, Bd.state]; rfl
  have N0 := Fr.nil n0
  have pre0 : ∀ tZ, Steps p.tables e below (s₁.setTop (mkF m 0 #[.val (.ref a)] [])) tZ → Steps p.tables e below (s₁.setTop (entryFrame m #[(.ref a)] 1)) tZ := fun tZ kZ => castTop (ef_dco_ m a) kZ
  obtain ⟨T1, X1, e1, st1⟩ := getS2 X0 hx hZ hown (host := "") (Or.inl (hw _ (List.mem_of_getElem? (i := 28) rfl))) Via.refl e0 S (g := (mkF m 0 #[.val (.ref a)] [])) rfl (hb hby dco_0)
  obtain ⟨T2, X2, e2, st2⟩ := getF X1 hx hZ hown (host := "") (Or.inl (hw _ (List.mem_of_getElem? (i := 29) rfl))) Via.refl e1 Fc (g := (mkF m 7 #[.val (.ref a)] [(.ref a)])) rfl rfl (hb hby dco_7)
  obtain ⟨fs, hr, hrun, hended, hW, hsame⟩ := X2.leave (v := some (.int (0 : Int32))) (fun h => by rw [Bd.returns] at h; cases h)
  refine ⟨_, _, pre0 _ ?_, hrun, hended, _, _, rfl, ?_, ⟨_, rfl⟩, hW, hsame.mono (by decide) (by decide)⟩
  · show Steps p.tables e below (s₁.setTop (mkF m 0 #[.val (.ref a)] [])) _
    refine st1 _ ?_
    show Steps p.tables e below (T1.setTop (mkF m 3 #[.val (.ref a)] [(.int cs)])) _
    refine XS.ifNo X1.here hx rfl (hb hby dco_3) rfl ((if0 _ _).trans (feq hcs).1) ?_
    show Steps p.tables e below (T1.setTop (mkF m 6 #[.val (.ref a)] [])) _
    refine XS.aloadN X1.here hx rfl (hb hby dco_6) rfl rfl ?_
    show Steps p.tables e below (T1.setTop (mkF m 7 #[.val (.ref a)] [(.ref a)])) _
    refine st2 _ ?_
    show Steps p.tables e below (T2.setTop (mkF m 10 #[.val (.ref a)] [(.int (0 : Int32))])) _
    refine XS.goto X2.here hx rfl (pc0 := 10) (pc' := 14) rfl (hb hby dco_10) (by decide) (by decide) ?_
    show Steps p.tables e below (T2.setTop (mkF m 14 #[.val (.ref a)] [(.int (0 : Int32))])) _
    exact retN X2 hx (t := .byte) Bd.returns (by simp) (hb hby dco_14) hr
  · show Q_rmCo Z a cs h0 n0 _ T2.heap _
    rw [e2]
    exact ⟨rfl, N0, rfl⟩

theorem dla_0 : decode jdk_42_method_154_code 0 = .ok (.getstatic 38, 3) := by decide +kernel
theorem dla_3 : decode jdk_42_method_154_code 3 = .ok (.ifCond .eq 14, 3) := by decide +kernel
theorem dla_6 : decode jdk_42_method_154_code 6 = .ok (.aload_n 0, 1) := by decide +kernel
theorem dla_7 : decode jdk_42_method_154_code 7 = .ok (.getfield 15, 3) := by decide +kernel
theorem dla_10 : decode jdk_42_method_154_code 10 = .ok (.ifCond .ne 7, 3) := by decide +kernel
theorem dla_13 : decode jdk_42_method_154_code 13 = .ok (.iconst 1, 1) := by decide +kernel
theorem dla_14 : decode jdk_42_method_154_code 14 = .ok (.goto 4, 3) := by decide +kernel
theorem dla_18 : decode jdk_42_method_154_code 18 = .ok (.ireturn, 1) := by decide +kernel
theorem ef_dla_ (m : MethodId) (a : Addr) : entryFrame m #[(.ref a)] 1 = mkF m 0 #[.val (.ref a)] [] := by first | (simp [entryFrame, mkF, argsToLocals, Value.category]; done) | rfl
def Q_rmLa (Z : State) (a : Addr) (cs : Int32) (h0 : Heap) (n0 : Nat) (v : Option Value) (h : Heap) (L : List Loc) : Prop := v = some (.int (1 : Int32)) ∧ Fr n0 L ∧ h = h0
theorem pn_rmLa : plainName "java/lang/String" = true := by first | (simp [plainName, overriddenIn]; done) | decide +kernel
set_option maxRecDepth 65536 in
set_option maxHeartbeats 40000000 in
theorem rmLa (l : Launch) (Z : State) (a0 : Array Value) (hw : ∀ d ∈ tables_1, d.before a0 Z = true) (ws : List Jvm.Cond) (a : Addr) (cs : Int32) (h0 : Heap) (n0 : Nat) (Z0 : n0 ≤ h0.size) (S : Sta Z h0 "java/lang/String" "COMPACT_STRINGS" "Z" (.int cs)) (hcs : ¬ cs = 0) (Fc : Fld Z h0 a "java/lang/String" "coder" "B" (.int (0 : Int32))) :
    MetFree l (⟨"java/lang/String", "isLatin1", "()Z"⟩ : MethodName) (head1 (Jvm.Cond.code (⟨"java/lang/String", "isLatin1", "()Z"⟩ : MethodName) jdk_42_method_154_code 1 (some .boolean) :: ws) ({ frames := 0, cells := 0, slots := 0, locals := 0 } : Room)) (fun aZ U => aZ = #[(.ref a)] ∧ Z.Warmed39 U.vm ∧ U.heap = h0) (fun _ _ _ _ _ => True) (fun _ U o U' => ∃ v L, o = .returned v ∧ Q_rmLa Z a cs  h0 n0 v U'.heap L ∧ FrameEnd U o U' L ({ frames := 0, cells := 0, slots := 0, locals := 0 } : Room).cells ({ frames := 0, cells := 0, slots := 0, locals := 0 } : Room).slots) := by
  refine MetFree.of_bodySF (plainFor_of_name pn_rmLa) hisR ?_
  intro p e s m args below meth c s₁ Bd hml0 hP hK
  obtain ⟨rfl, hZ, hh⟩ := hP
  have hx := Bd.exec
  have hby := Bd.bytes
  have hml : c.maxLocals = 1 := hml0
  have hown : s.vm.findClass "java/lang/String" = some m.cls := findClass_of_methodNamed Bd.named
  have hnm := (name_of_methodNamed Bd.named Bd.method).1
  have X0 : Stand p l e ({ frames := 0, cells := 0, slots := 0, locals := 0 } : Room) s m #[(.ref a)] below meth c s₁ [] 0 0 := Stand.of_body Bd
  have e0 : s₁.heap = h0 := by rw [← hh, Bd.state]; rfl
  have N0 := Fr.nil n0
  have pre0 : ∀ tZ, Steps p.tables e below (s₁.setTop (mkF m 0 #[.val (.ref a)] [])) tZ → Steps p.tables e below (s₁.setTop (entryFrame m #[(.ref a)] 1)) tZ := fun tZ kZ => castTop (ef_dla_ m a) kZ
  obtain ⟨T1, X1, e1, st1⟩ := getS2 X0 hx hZ hown (host := "") (Or.inl (hw _ (List.mem_of_getElem? (i := 28) rfl))) Via.refl e0 S (g := (mkF m 0 #[.val (.ref a)] [])) rfl (hb hby dla_0)
  obtain ⟨T2, X2, e2, st2⟩ := getF X1 hx hZ hown (host := "") (Or.inl (hw _ (List.mem_of_getElem? (i := 29) rfl))) Via.refl e1 Fc (g := (mkF m 7 #[.val (.ref a)] [(.ref a)])) rfl rfl (hb hby dla_7)
  obtain ⟨fs, hr, hrun, hended, hW, hsame⟩ := X2.leave (v := some (.int (1 : Int32))) (fun h => by rw [Bd.returns] at h; cases h)
  refine ⟨_, _, pre0 _ ?_, hrun, hended, _, _, rfl, ?_, ⟨_, rfl⟩, hW, hsame.mono (by decide) (by decide)⟩
  · show Steps p.tables e below (s₁.setTop (mkF m 0 #[.val (.ref a)] [])) _
    refine st1 _ ?_
    show Steps p.tables e below (T1.setTop (mkF m 3 #[.val (.ref a)] [(.int cs)])) _
    refine XS.ifNo X1.here hx rfl (hb hby dla_3) rfl ((if0 _ _).trans (feq hcs).1) ?_
    show Steps p.tables e below (T1.setTop (mkF m 6 #[.val (.ref a)] [])) _
    refine XS.aloadN X1.here hx rfl (hb hby dla_6) rfl rfl ?_
    show Steps p.tables e below (T1.setTop (mkF m 7 #[.val (.ref a)] [(.ref a)])) _
    refine st2 _ ?_
    show Steps p.tables e below (T2.setTop (mkF m 10 #[.val (.ref a)] [(.int (0 : Int32))])) _
    refine XS.ifNo X2.here hx rfl (hb hby dla_10) rfl ((if0 _ _).trans (teq (rfl : (0 : Int32) = 0)).2) ?_
    show Steps p.tables e below (T2.setTop (mkF m 13 #[.val (.ref a)] [])) _
    refine XS.iconst X2.here hx rfl (hb hby dla_13) ?_
    show Steps p.tables e below (T2.setTop (mkF m 14 #[.val (.ref a)] [(.int (1 : Int32))])) _
    refine XS.goto X2.here hx rfl (pc0 := 14) (pc' := 18) rfl (hb hby dla_14) (by decide) (by decide) ?_
    show Steps p.tables e below (T2.setTop (mkF m 18 #[.val (.ref a)] [(.int (1 : Int32))])) _
    exact retN X2 hx (t := .boolean) Bd.returns (by simp) (hb hby dla_18) hr
  · show Q_rmLa Z a cs h0 n0 _ T2.heap _
    rw [e2]
    exact ⟨rfl, N0, rfl⟩

theorem dle_0 : decode jdk_42_method_54_code 0 = .ok (.aload_n 0, 1) := by decide +kernel
theorem dle_1 : decode jdk_42_method_54_code 1 = .ok (.getfield 9, 3) := by decide +kernel
theorem dle_4 : decode jdk_42_method_54_code 4 = .ok (.arraylength, 1) := by decide +kernel
theorem dle_5 : decode jdk_42_method_54_code 5 = .ok (.aload_n 0, 1) := by decide +kernel
theorem dle_6 : decode jdk_42_method_54_code 6 = .ok (.invokevirtual 335, 3) := by decide +kernel
theorem dle_9 : decode jdk_42_method_54_code 9 = .ok (.ishr, 1) := by decide +kernel
theorem dle_10 : decode jdk_42_method_54_code 10 = .ok (.ireturn, 1) := by decide +kernel
theorem pd_dle___B : parseMethodDescriptor "()B" = some ⟨[], some .byte⟩ := by decide +kernel
theorem ef_dle_ (m : MethodId) (a : Addr) : entryFrame m #[(.ref a)] 1 = mkF m 0 #[.val (.ref a)] [] := by first | (simp [entryFrame, mkF, argsToLocals, Value.category]; done) | rfl
def Q_rmLe (Z : State) (a : Addr) (cs : Int32) (bv : Addr) (k3 : ClassId) (h0 : Heap) (n0 : Nat) (v : Option Value) (h : Heap) (L : List Loc) : Prop := v = some (.int (16 : Int32)) ∧ Fr n0 L ∧ h = h0
theorem pn_rmLe : plainName "java/lang/String" = true := by first | (simp [plainName, overriddenIn]; done) | decide +kernel
set_option maxRecDepth 65536 in
set_option maxHeartbeats 40000000 in
theorem rmLe (l : Launch) (Z : State) (a0 : Array Value) (hw : ∀ d ∈ tables_1, d.before a0 Z = true) (ws : List Jvm.Cond) (a : Addr) (cs : Int32) (bv : Addr) (k3 : ClassId) (h0 : Heap) (n0 : Nat) (Z0 : n0 ≤ h0.size) (S : Sta Z h0 "java/lang/String" "COMPACT_STRINGS" "Z" (.int cs)) (hcs : ¬ cs = 0) (Fc : Fld Z h0 a "java/lang/String" "coder" "B" (.int (0 : Int32))) (Fv : Fld Z h0 a "java/lang/String" "value" "[B" (.ref bv)) (V : Arv Z h0 bv k3 .byte (16 : Int32) own_vs (.int 0)) (E : Exa Z h0 a "java/lang/String") :
    MetFree l (⟨"java/lang/String", "length", "()I"⟩ : MethodName) (head1 (Jvm.Cond.code (⟨"java/lang/String", "length", "()I"⟩ : MethodName) jdk_42_method_54_code 1 (some .int) :: ws) ({ frames := 1, cells := 0, slots := 0, locals := 13 } : Room)) (fun aZ U => aZ = #[(.ref a)] ∧ Z.Warmed39 U.vm ∧ U.heap = h0) (fun _ _ _ _ _ => True) (fun _ U o U' => ∃ v L, o = .returned v ∧ Q_rmLe Z a cs  bv  k3  h0 n0 v U'.heap L ∧ FrameEnd U o U' L ({ frames := 1, cells := 0, slots := 0, locals := 13 } : Room).cells ({ frames := 1, cells := 0, slots := 0, locals := 13 } : Room).slots) := by
  refine MetFree.of_bodySF (plainFor_of_name pn_rmLe) hisR ?_
  intro p e s m args below meth c s₁ Bd hml0 hP hK
  obtain ⟨rfl, hZ, hh⟩ := hP
  have hx := Bd.exec
  have hby := Bd.bytes
  have hml : c.maxLocals = 1 := hml0
  have hown : s.vm.findClass "java/lang/String" = some m.cls := findClass_of_methodNamed Bd.named
  have hnm := (name_of_methodNamed Bd.named Bd.method).1
  have X0 : Stand p l e ({ frames := 1, cells := 0, slots := 0, locals := 13 } : Room) s m #[(.ref a)] below meth c s₁ [] 0 0 := Stand.of_body Bd
  have e0 : s₁.heap = h0 := by rw [← hh, Bd.state]; rfl
  have N0 := Fr.nil n0
  have pre0 : ∀ tZ, Steps p.tables e below (s₁.setTop (mkF m 0 #[.val (.ref a)] [])) tZ → Steps p.tables e below (s₁.setTop (entryFrame m #[(.ref a)] 1)) tZ := fun tZ kZ => castTop (ef_dle_ m a) kZ
  obtain ⟨ca, Av, qv, Sv, Nv, Hv, Gv⟩ := V
  obtain ⟨T1, X1, e1, st1⟩ := getF X0 hx hZ hown (host := "") (Or.inl (hw _ (List.mem_of_getElem? (i := 30) rfl))) Via.refl e0 Fv (g := (mkF m 1 #[.val (.ref a)] [(.ref a)])) rfl rfl (hb hby dle_1)
  obtain ⟨cq2, kq2, q2a, q2b, q2c⟩ := isOf hZ e1 E
  obtain ⟨_, _, ⟨T2, L2, k2, n2⟩, -, X2, ⟨Lc2, hQ2, l2, y2, z2⟩, st2⟩ := X1.virtualBack hx (y := (⟨"java/lang/String", "coder", "()B"⟩ : MethodName)) (z := (⟨"java/lang/String", "coder", "()B"⟩ : MethodName)) hown (mvT hZ (hw _ (List.mem_of_getElem? (i := 36) rfl))) (mvT hZ (hw _ (List.mem_of_getElem? (i := 37) rfl))) (notFace_of_selects (args := #[]) (mvT hZ (hw _ (List.mem_of_getElem? (i := 39) rfl)))) (mvT hZ (hw _ (List.mem_of_getElem? (i := 39) rfl))) (mvT hZ (hw _ (List.mem_of_getElem? (i := 38) rfl))) (by decide) (backOf (W := 1) (rmCo l Z a0 hw [] a cs h0 n0 Z0 S hcs Fc) hZ (hw _ (List.mem_of_getElem? (i := 40) rfl)) (hw _ (List.mem_of_getElem? (i := 6) rfl)) (by decide) (by decide)) q2a q2c (g := (mkF m 6 #[.val (.ref a)] [(.ref a), (.int (16 : Int32))])) rfl (by rw [hml]; rfl) (Steps.refl _) (argsL := []) (rest := [(.int (16 : Int32))]) (lenOf pd_dle___B rfl) rfl (by show 2 * 0 + _ ≤ _; exact Nat.le_of_eq rfl) (hb hby dle_6) (fun _ _ => ⟨rfl, e1, (by decide : 0 + 0 ≤ _), (by decide : 0 + 0 ≤ _)⟩)
  dsimp only [Pt.U, Pt.locs, Pt.cells, Pt.slots] at X2 l2 y2 z2 st2 hQ2
  subst l2 y2 z2
  obtain ⟨rfl, N2q, e2⟩ := hQ2
  have N2 := Fr.app N0 N2q
  obtain ⟨fs, hr, hrun, hended, hW, hsame⟩ := X2.leave (v := some (.int ((16 : Int32) >>> ((0 : Int32) &&& 31)))) (fun h => by rw [Bd.returns] at h; cases h)
  refine ⟨_, _, pre0 _ ?_, hrun, hended, _, _, rfl, ?_, ⟨_, rfl⟩, hW, hsame.mono (by decide) (by decide)⟩
  · show Steps p.tables e below (s₁.setTop (mkF m 0 #[.val (.ref a)] [])) _
    refine XS.aloadN X0.here hx rfl (hb hby dle_0) rfl rfl ?_
    show Steps p.tables e below (s₁.setTop (mkF m 1 #[.val (.ref a)] [(.ref a)])) _
    refine st1 _ ?_
    show Steps p.tables e below (T1.setTop (mkF m 4 #[.val (.ref a)] [(.ref bv)])) _
    refine X1.arraylength hx (by rw [e1]; exact Av.1) (State.isArrayOf_alike hZ.alike Av.2.1) (g := (mkF m 4 #[.val (.ref a)] [(.ref bv)])) rfl rfl (hb hby dle_4) _ ?_
    rw [len_of Sv Nv]
    show Steps p.tables e below (T1.setTop (mkF m 5 #[.val (.ref a)] [(.int (16 : Int32))])) _
    refine XS.aloadN X1.here hx rfl (hb hby dle_5) rfl rfl ?_
    show Steps p.tables e below (T1.setTop (mkF m 6 #[.val (.ref a)] [(.ref a), (.int (16 : Int32))])) _
    refine st2.trans ?_
    show Steps p.tables e below (T2.setTop (mkF m 9 #[.val (.ref a)] [(.int (0 : Int32)), (.int (16 : Int32))])) _
    refine XS.ishr X2.here hx rfl (hb hby dle_9) rfl ?_
    show Steps p.tables e below (T2.setTop (mkF m 10 #[.val (.ref a)] [(.int ((16 : Int32) >>> ((0 : Int32) &&& 31)))])) _
    exact retI X2 hx Bd.returns (hb hby dle_10) hr
  · show Q_rmLe Z a cs bv k3 h0 n0 _ T2.heap _
    rw [e2]
    exact ⟨congrArg (fun z => some (Value.int z)) (by decide : ((16 : Int32) >>> ((0 : Int32) &&& 31)) = (16 : Int32)), N2, rfl⟩

theorem di2_0 : decode jdk_42_method_80_code 0 = .ok (.aload_n 0, 1) := by decide +kernel
theorem di2_1 : decode jdk_42_method_80_code 1 = .ok (.invokevirtual 492, 3) := by decide +kernel
theorem di2_4 : decode jdk_42_method_80_code 4 = .ok (.ifCond .eq 19, 3) := by decide +kernel
theorem di2_7 : decode jdk_42_method_80_code 7 = .ok (.aload_n 0, 1) := by decide +kernel
theorem di2_8 : decode jdk_42_method_80_code 8 = .ok (.getfield 9, 3) := by decide +kernel
theorem di2_11 : decode jdk_42_method_80_code 11 = .ok (.iload_n 1, 1) := by decide +kernel
theorem di2_12 : decode jdk_42_method_80_code 12 = .ok (.iload_n 2, 1) := by decide +kernel
theorem di2_13 : decode jdk_42_method_80_code 13 = .ok (.aload_n 0, 1) := by decide +kernel
theorem di2_14 : decode jdk_42_method_80_code 14 = .ok (.invokevirtual 505, 3) := by decide +kernel
theorem di2_17 : decode jdk_42_method_80_code 17 = .ok (.invokestatic 637, 3) := by decide +kernel
theorem di2_20 : decode jdk_42_method_80_code 20 = .ok (.goto 16, 3) := by decide +kernel
theorem di2_36 : decode jdk_42_method_80_code 36 = .ok (.ireturn, 1) := by decide +kernel
theorem pd_di2___Z : parseMethodDescriptor "()Z" = some ⟨[], some .boolean⟩ := by decide +kernel
theorem pd_di2___I : parseMethodDescriptor "()I" = some ⟨[], some .int⟩ := by decide +kernel
theorem pd_di2___BIII_I : parseMethodDescriptor "([BIII)I" = some ⟨[(.array .byte), .int, .int, .int], some .int⟩ := by decide +kernel
theorem ef_di2_ (m : MethodId) (a : Addr) (q : Int32) (f0 : Int32) : entryFrame m #[(.ref a), (.int q), (.int f0)] 3 = mkF m 0 #[.val (.ref a), .val (.int q), .val (.int f0)] [] := by first | (simp [entryFrame, mkF, argsToLocals, Value.category]; done) | rfl
def Q_rmI2 (Z : State) (a : Addr) (q : Int32) (f0 : Int32) (cs : Int32) (bv : Addr) (k3 : ClassId) (h0 : Heap) (n0 : Nat) (v : Option Value) (h : Heap) (L : List Loc) : Prop := v = some (.int (own_idx q)) ∧ Fr n0 L ∧ h = h0
theorem pn_rmI2 : plainName "java/lang/String" = true := by first | (simp [plainName, overriddenIn]; done) | decide +kernel
set_option maxRecDepth 65536 in
set_option maxHeartbeats 40000000 in
theorem rmI2 (l : Launch) (Z : State) (a0 : Array Value) (hw : ∀ d ∈ tables_1, d.before a0 Z = true) (ws : List Jvm.Cond) (a : Addr) (q : Int32) (f0 : Int32) (cs : Int32) (bv : Addr) (k3 : ClassId) (h0 : Heap) (n0 : Nat) (Z0 : n0 ≤ h0.size) (hf0 : f0 = 0) (S : Sta Z h0 "java/lang/String" "COMPACT_STRINGS" "Z" (.int cs)) (hcs : ¬ cs = 0) (Fc : Fld Z h0 a "java/lang/String" "coder" "B" (.int (0 : Int32))) (Fv : Fld Z h0 a "java/lang/String" "value" "[B" (.ref bv)) (V : Arv Z h0 bv k3 .byte (16 : Int32) own_vs (.int 0)) (E : Exa Z h0 a "java/lang/String") :
    MetFree l (⟨"java/lang/String", "indexOf", "(II)I"⟩ : MethodName) (head1 (Jvm.Cond.code (⟨"java/lang/String", "indexOf", "(II)I"⟩ : MethodName) jdk_42_method_80_code 3 (some .int) :: ws) ({ frames := 2, cells := 0, slots := 0, locals := 60 } : Room)) (fun aZ U => aZ = #[(.ref a), (.int q), (.int f0)] ∧ Z.Warmed39 U.vm ∧ U.heap = h0) (fun _ _ _ _ _ => True) (fun _ U o U' => ∃ v L, o = .returned v ∧ Q_rmI2 Z a q f0 cs  bv  k3  h0 n0 v U'.heap L ∧ FrameEnd U o U' L ({ frames := 2, cells := 0, slots := 0, locals := 60 } : Room).cells ({ frames := 2, cells := 0, slots := 0, locals := 60 } : Room).slots) := by
  refine MetFree.of_bodySF (plainFor_of_name pn_rmI2) hisR ?_
  intro p e s m args below meth c s₁ Bd hml0 hP hK
  obtain ⟨rfl, hZ, hh⟩ := hP
  have hx := Bd.exec
  have hby := Bd.bytes
  have hml : c.maxLocals = 3 := hml0
  have hown : s.vm.findClass "java/lang/String" = some m.cls := findClass_of_methodNamed Bd.named
  have hnm := (name_of_methodNamed Bd.named Bd.method).1
  have X0 : Stand p l e ({ frames := 2, cells := 0, slots := 0, locals := 60 } : Room) s m #[(.ref a), (.int q), (.int f0)] below meth c s₁ [] 0 0 := Stand.of_body Bd
  have e0 : s₁.heap = h0 := by rw [← hh, Bd.state]; rfl
  have N0 := Fr.nil n0
  have pre0 : ∀ tZ, Steps p.tables e below (s₁.setTop (mkF m 0 #[.val (.ref a), .val (.int q), .val (.int f0)] [])) tZ → Steps p.tables e below (s₁.setTop (entryFrame m #[(.ref a), (.int q), (.int f0)] 3)) tZ := fun tZ kZ => castTop (ef_di2_ m a q f0) kZ
  subst hf0
  obtain ⟨cq1, kq1, q1a, q1b, q1c⟩ := isOf hZ e0 E
  obtain ⟨_, _, ⟨T1, L1, k1, n1⟩, -, X1, ⟨Lc1, hQ1, l1, y1, z1⟩, st1⟩ := X0.virtualBack hx (y := (⟨"java/lang/String", "isLatin1", "()Z"⟩ : MethodName)) (z := (⟨"java/lang/String", "isLatin1", "()Z"⟩ : MethodName)) hown (mvT hZ (hw _ (List.mem_of_getElem? (i := 23) rfl))) (mvT hZ (hw _ (List.mem_of_getElem? (i := 24) rfl))) (notFace_of_selects (args := #[]) (mvT hZ (hw _ (List.mem_of_getElem? (i := 26) rfl)))) (mvT hZ (hw _ (List.mem_of_getElem? (i := 26) rfl))) (mvT hZ (hw _ (List.mem_of_getElem? (i := 25) rfl))) (by decide) (backOf (W := 0) (rmLa l Z a0 hw [] a cs h0 n0 Z0 S hcs Fc) hZ (hw _ (List.mem_of_getElem? (i := 27) rfl)) (hw _ (List.mem_of_getElem? (i := 6) rfl)) (by decide) (by decide)) q1a q1c (g := (mkF m 1 #[.val (.ref a), .val (.int q), .val (.int (0 : Int32))] [(.ref a)])) rfl (by rw [hml]; rfl) (Steps.refl _) (argsL := []) (rest := []) (lenOf pd_di2___Z rfl) rfl (by show 2 * 0 + _ ≤ _; exact Nat.le_of_eq rfl) (hb hby di2_1) (fun _ _ => ⟨rfl, e0, (by decide : 0 + 0 ≤ _), (by decide : 0 + 0 ≤ _)⟩)
  dsimp only [Pt.U, Pt.locs, Pt.cells, Pt.slots] at X1 l1 y1 z1 st1 hQ1
  subst l1 y1 z1
  obtain ⟨rfl, N1q, e1⟩ := hQ1
  have N1 := Fr.app N0 N1q
  obtain ⟨T2, X2, e2, st2⟩ := getF X1 hx hZ hown (host := "") (Or.inl (hw _ (List.mem_of_getElem? (i := 30) rfl))) Via.refl e1 Fv (g := (mkF m 8 #[.val (.ref a), .val (.int q), .val (.int (0 : Int32))] [(.ref a)])) rfl rfl (hb hby di2_8)
  obtain ⟨cq3, kq3, q3a, q3b, q3c⟩ := isOf hZ e2 E
  obtain ⟨_, _, ⟨T3, L3, k3, n3⟩, -, X3, ⟨Lc3, hQ3, l3, y3, z3⟩, st3⟩ := X2.virtualBack hx (y := (⟨"java/lang/String", "length", "()I"⟩ : MethodName)) (z := (⟨"java/lang/String", "length", "()I"⟩ : MethodName)) hown (mvT hZ (hw _ (List.mem_of_getElem? (i := 31) rfl))) (mvT hZ (hw _ (List.mem_of_getElem? (i := 32) rfl))) (notFace_of_selects (args := #[]) (mvT hZ (hw _ (List.mem_of_getElem? (i := 34) rfl)))) (mvT hZ (hw _ (List.mem_of_getElem? (i := 34) rfl))) (mvT hZ (hw _ (List.mem_of_getElem? (i := 33) rfl))) (by decide) (backOf (W := 3) (rmLe l Z a0 hw [] a cs bv k3 h0 n0 Z0 S hcs Fc Fv V E) hZ (hw _ (List.mem_of_getElem? (i := 35) rfl)) (hw _ (List.mem_of_getElem? (i := 6) rfl)) (by decide) (by decide)) q3a q3c (g := (mkF m 14 #[.val (.ref a), .val (.int q), .val (.int (0 : Int32))] [(.ref a), (.int (0 : Int32)), (.int q), (.ref bv)])) rfl (by rw [hml]; rfl) (Steps.refl _) (argsL := []) (rest := [(.int (0 : Int32)), (.int q), (.ref bv)]) (lenOf pd_di2___I rfl) rfl (by show 2 * 0 + _ ≤ _; exact Nat.le_of_eq rfl) (hb hby di2_14) (fun _ _ => ⟨rfl, e2, (by decide : 0 + 0 ≤ _), (by decide : 0 + 0 ≤ _)⟩)
  dsimp only [Pt.U, Pt.locs, Pt.cells, Pt.slots] at X3 l3 y3 z3 st3 hQ3
  subst l3 y3 z3
  obtain ⟨rfl, N3q, e3⟩ := hQ3
  have N3 := Fr.app N1 N3q
  obtain ⟨_, _, ⟨T4, L4, k4, n4⟩, -, X4, ⟨Lc4, hQ4, l4, y4, z4⟩, st4⟩ := Jvm.LawKit.callS X3 hx (y := (⟨"java/lang/StringLatin1", "indexOf", "([BIII)I"⟩ : MethodName)) hown (mvT hZ (hw _ (List.mem_of_getElem? (i := 41) rfl))) (mvT hZ (hw _ (List.mem_of_getElem? (i := 42) rfl))) (mvT hZ (hw _ (List.mem_of_getElem? (i := 43) rfl))) (mvT hZ (hw _ (List.mem_of_getElem? (i := 44) rfl))) (by decide) (backOf (W := 0) (rmIX l Z a0 hw [] bv q 0 16 k3 h0 n0 Z0 rfl rfl V) hZ (hw _ (List.mem_of_getElem? (i := 44) rfl)) (hw _ (List.mem_of_getElem? (i := 43) rfl)) (by decide) (by decide)) (g := (mkF m 17 #[.val (.ref a), .val (.int q), .val (.int (0 : Int32))] [(.int (16 : Int32)), (.int (0 : Int32)), (.int q), (.ref bv)])) rfl (by rw [hml]; rfl) (argsL := [(.ref bv), (.int q), (.int (0 : Int32)), (.int (16 : Int32))]) (rest := []) (lenOf pd_di2___BIII_I rfl) rfl (by show 2 * 0 + _ ≤ _; exact Nat.le_of_eq rfl) (hb hby di2_17) (fun _ _ => ⟨rfl, e3, (by decide : 0 + 0 ≤ _), (by decide : 0 + 0 ≤ _)⟩)
  dsimp only [Pt.U, Pt.locs, Pt.cells, Pt.slots] at X4 l4 y4 z4 st4 hQ4
  subst l4 y4 z4
  obtain ⟨rfl, N4q, e4⟩ := hQ4
  have N4 := Fr.app N3 N4q
  obtain ⟨fs, hr, hrun, hended, hW, hsame⟩ := X4.leave (v := some (.int (own_idx q))) (fun h => by rw [Bd.returns] at h; cases h)
  refine ⟨_, _, pre0 _ ?_, hrun, hended, _, _, rfl, ?_, ⟨_, rfl⟩, hW, hsame.mono (by decide) (by decide)⟩
  · show Steps p.tables e below (s₁.setTop (mkF m 0 #[.val (.ref a), .val (.int q), .val (.int (0 : Int32))] [])) _
    refine XS.aloadN X0.here hx rfl (hb hby di2_0) rfl rfl ?_
    show Steps p.tables e below (s₁.setTop (mkF m 1 #[.val (.ref a), .val (.int q), .val (.int (0 : Int32))] [(.ref a)])) _
    refine st1.trans ?_
    show Steps p.tables e below (T1.setTop (mkF m 4 #[.val (.ref a), .val (.int q), .val (.int (0 : Int32))] [(.int (1 : Int32))])) _
    refine XS.ifNo X1.here hx rfl (hb hby di2_4) rfl ((if0 _ _).trans (feq (by decide : ¬ (1 : Int32) = 0)).1) ?_
    show Steps p.tables e below (T1.setTop (mkF m 7 #[.val (.ref a), .val (.int q), .val (.int (0 : Int32))] [])) _
    refine XS.aloadN X1.here hx rfl (hb hby di2_7) rfl rfl ?_
    show Steps p.tables e below (T1.setTop (mkF m 8 #[.val (.ref a), .val (.int q), .val (.int (0 : Int32))] [(.ref a)])) _
    refine st2 _ ?_
    show Steps p.tables e below (T2.setTop (mkF m 11 #[.val (.ref a), .val (.int q), .val (.int (0 : Int32))] [(.ref bv)])) _
    refine XS.iloadN X2.here hx rfl (hb hby di2_11) rfl ?_
    show Steps p.tables e below (T2.setTop (mkF m 12 #[.val (.ref a), .val (.int q), .val (.int (0 : Int32))] [(.int q), (.ref bv)])) _
    refine XS.iloadN X2.here hx rfl (hb hby di2_12) rfl ?_
    show Steps p.tables e below (T2.setTop (mkF m 13 #[.val (.ref a), .val (.int q), .val (.int (0 : Int32))] [(.int (0 : Int32)), (.int q), (.ref bv)])) _
    refine XS.aloadN X2.here hx rfl (hb hby di2_13) rfl rfl ?_
    show Steps p.tables e below (T2.setTop (mkF m 14 #[.val (.ref a), .val (.int q), .val (.int (0 : Int32))] [(.ref a), (.int (0 : Int32)), (.int q), (.ref bv)])) _
    refine st3.trans ?_
    show Steps p.tables e below (T3.setTop (mkF m 17 #[.val (.ref a), .val (.int q), .val (.int (0 : Int32))] [(.int (16 : Int32)), (.int (0 : Int32)), (.int q), (.ref bv)])) _
    refine st4 _ ?_
    show Steps p.tables e below (T4.setTop (mkF m 20 #[.val (.ref a), .val (.int q), .val (.int (0 : Int32))] [(.int (own_idx q))])) _
    refine XS.goto X4.here hx rfl (pc0 := 20) (pc' := 36) rfl (hb hby di2_20) (by decide) (by decide) ?_
    show Steps p.tables e below (T4.setTop (mkF m 36 #[.val (.ref a), .val (.int q), .val (.int (0 : Int32))] [(.int (own_idx q))])) _
    exact retI X4 hx Bd.returns (hb hby di2_36) hr
  · show Q_rmI2 Z a q 0 cs bv k3 h0 n0 _ T4.heap _
    rw [e4]
    exact ⟨rfl, N4, rfl⟩

theorem di1_0 : decode jdk_42_method_79_code 0 = .ok (.aload_n 0, 1) := by decide +kernel
theorem di1_1 : decode jdk_42_method_79_code 1 = .ok (.iload_n 1, 1) := by decide +kernel
theorem di1_2 : decode jdk_42_method_79_code 2 = .ok (.iconst 0, 1) := by decide +kernel
theorem di1_3 : decode jdk_42_method_79_code 3 = .ok (.invokevirtual 633, 3) := by decide +kernel
theorem di1_6 : decode jdk_42_method_79_code 6 = .ok (.ireturn, 1) := by decide +kernel
theorem pd_di1__II_I : parseMethodDescriptor "(II)I" = some ⟨[.int, .int], some .int⟩ := by decide +kernel
theorem ef_di1_ (m : MethodId) (a : Addr) (q : Int32) : entryFrame m #[(.ref a), (.int q)] 2 = mkF m 0 #[.val (.ref a), .val (.int q)] [] := by first | (simp [entryFrame, mkF, argsToLocals, Value.category]; done) | rfl
def Q_rmI1 (Z : State) (a : Addr) (q : Int32) (cs : Int32) (bv : Addr) (k3 : ClassId) (h0 : Heap) (n0 : Nat) (v : Option Value) (h : Heap) (L : List Loc) : Prop := v = some (.int (own_idx q)) ∧ Fr n0 L ∧ h = h0
theorem pn_rmI1 : plainName "java/lang/String" = true := by first | (simp [plainName, overriddenIn]; done) | decide +kernel
set_option maxRecDepth 65536 in
set_option maxHeartbeats 40000000 in
theorem rmI1 (l : Launch) (Z : State) (a0 : Array Value) (hw : ∀ d ∈ tables_1, d.before a0 Z = true) (ws : List Jvm.Cond) (a : Addr) (q : Int32) (cs : Int32) (bv : Addr) (k3 : ClassId) (h0 : Heap) (n0 : Nat) (Z0 : n0 ≤ h0.size) (S : Sta Z h0 "java/lang/String" "COMPACT_STRINGS" "Z" (.int cs)) (hcs : ¬ cs = 0) (Fc : Fld Z h0 a "java/lang/String" "coder" "B" (.int (0 : Int32))) (Fv : Fld Z h0 a "java/lang/String" "value" "[B" (.ref bv)) (V : Arv Z h0 bv k3 .byte (16 : Int32) own_vs (.int 0)) (E : Exa Z h0 a "java/lang/String") :
    MetFree l (⟨"java/lang/String", "indexOf", "(I)I"⟩ : MethodName) (head1 (Jvm.Cond.code (⟨"java/lang/String", "indexOf", "(I)I"⟩ : MethodName) jdk_42_method_79_code 2 (some .int) :: ws) ({ frames := 3, cells := 0, slots := 0, locals := 80 } : Room)) (fun aZ U => aZ = #[(.ref a), (.int q)] ∧ Z.Warmed39 U.vm ∧ U.heap = h0) (fun _ _ _ _ _ => True) (fun _ U o U' => ∃ v L, o = .returned v ∧ Q_rmI1 Z a q cs  bv  k3  h0 n0 v U'.heap L ∧ FrameEnd U o U' L ({ frames := 3, cells := 0, slots := 0, locals := 80 } : Room).cells ({ frames := 3, cells := 0, slots := 0, locals := 80 } : Room).slots) := by
  refine MetFree.of_bodySF (plainFor_of_name pn_rmI1) hisR ?_
  intro p e s m args below meth c s₁ Bd hml0 hP hK
  obtain ⟨rfl, hZ, hh⟩ := hP
  have hx := Bd.exec
  have hby := Bd.bytes
  have hml : c.maxLocals = 2 := hml0
  have hown : s.vm.findClass "java/lang/String" = some m.cls := findClass_of_methodNamed Bd.named
  have hnm := (name_of_methodNamed Bd.named Bd.method).1
  have X0 : Stand p l e ({ frames := 3, cells := 0, slots := 0, locals := 80 } : Room) s m #[(.ref a), (.int q)] below meth c s₁ [] 0 0 := Stand.of_body Bd
  have e0 : s₁.heap = h0 := by rw [← hh, Bd.state]; rfl
  have N0 := Fr.nil n0
  have pre0 : ∀ tZ, Steps p.tables e below (s₁.setTop (mkF m 0 #[.val (.ref a), .val (.int q)] [])) tZ → Steps p.tables e below (s₁.setTop (entryFrame m #[(.ref a), (.int q)] 2)) tZ := fun tZ kZ => castTop (ef_di1_ m a q) kZ
  obtain ⟨cq1, kq1, q1a, q1b, q1c⟩ := isOf hZ e0 E
  obtain ⟨_, _, ⟨T1, L1, k1, n1⟩, -, X1, ⟨Lc1, hQ1, l1, y1, z1⟩, st1⟩ := X0.virtualBack hx (y := (⟨"java/lang/String", "indexOf", "(II)I"⟩ : MethodName)) (z := (⟨"java/lang/String", "indexOf", "(II)I"⟩ : MethodName)) hown (mvT hZ (hw _ (List.mem_of_getElem? (i := 18) rfl))) (mvT hZ (hw _ (List.mem_of_getElem? (i := 19) rfl))) (notFace_of_selects (args := #[]) (mvT hZ (hw _ (List.mem_of_getElem? (i := 21) rfl)))) (mvT hZ (hw _ (List.mem_of_getElem? (i := 21) rfl))) (mvT hZ (hw _ (List.mem_of_getElem? (i := 20) rfl))) (by decide) (backOf (W := 0) (rmI2 l Z a0 hw [] a q 0 cs bv k3 h0 n0 Z0 rfl S hcs Fc Fv V E) hZ (hw _ (List.mem_of_getElem? (i := 22) rfl)) (hw _ (List.mem_of_getElem? (i := 6) rfl)) (by decide) (by decide)) q1a q1c (g := (mkF m 3 #[.val (.ref a), .val (.int q)] [(.int (0 : Int32)), (.int q), (.ref a)])) rfl (by rw [hml]; rfl) (Steps.refl _) (argsL := [(.int q), (.int (0 : Int32))]) (rest := []) (lenOf pd_di1__II_I rfl) rfl (by show 2 * 0 + _ ≤ _; exact Nat.le_of_eq rfl) (hb hby di1_3) (fun _ _ => ⟨rfl, e0, (by decide : 0 + 0 ≤ _), (by decide : 0 + 0 ≤ _)⟩)
  dsimp only [Pt.U, Pt.locs, Pt.cells, Pt.slots] at X1 l1 y1 z1 st1 hQ1
  subst l1 y1 z1
  obtain ⟨rfl, N1q, e1⟩ := hQ1
  have N1 := Fr.app N0 N1q
  obtain ⟨fs, hr, hrun, hended, hW, hsame⟩ := X1.leave (v := some (.int (own_idx q))) (fun h => by rw [Bd.returns] at h; cases h)
  refine ⟨_, _, pre0 _ ?_, hrun, hended, _, _, rfl, ?_, ⟨_, rfl⟩, hW, hsame.mono (by decide) (by decide)⟩
  · show Steps p.tables e below (s₁.setTop (mkF m 0 #[.val (.ref a), .val (.int q)] [])) _
    refine XS.aloadN X0.here hx rfl (hb hby di1_0) rfl rfl ?_
    show Steps p.tables e below (s₁.setTop (mkF m 1 #[.val (.ref a), .val (.int q)] [(.ref a)])) _
    refine XS.iloadN X0.here hx rfl (hb hby di1_1) rfl ?_
    show Steps p.tables e below (s₁.setTop (mkF m 2 #[.val (.ref a), .val (.int q)] [(.int q), (.ref a)])) _
    refine XS.iconst X0.here hx rfl (hb hby di1_2) ?_
    show Steps p.tables e below (s₁.setTop (mkF m 3 #[.val (.ref a), .val (.int q)] [(.int (0 : Int32)), (.int q), (.ref a)])) _
    refine st1.trans ?_
    show Steps p.tables e below (T1.setTop (mkF m 6 #[.val (.ref a), .val (.int q)] [(.int (own_idx q))])) _
    exact retI X1 hx Bd.returns (hb hby di1_6) hr
  · show Q_rmI1 Z a q cs bv k3 h0 n0 _ T1.heap _
    rw [e1]
    exact ⟨rfl, N1, rfl⟩

def own_exp (c1 : Int32) : Int32 := (if c1 = (37 : Int32) then (1 : Int32) else (if c1 < (48 : Int32) then (if c1 < (65 : Int32) then (0 : Int32) else (if (70 : Int32) < c1 then (0 : Int32) else (1 : Int32))) else (if (57 : Int32) < c1 then (if c1 < (65 : Int32) then (0 : Int32) else (if (70 : Int32) < c1 then (0 : Int32) else (1 : Int32))) else (1 : Int32))))
theorem dex_0 : decode method_2_code 0 = .ok (.iload_n 0, 1) := by decide +kernel
theorem dex_1 : decode method_2_code 1 = .ok (.bipush 37, 2) := by decide +kernel
theorem dex_3 : decode method_2_code 3 = .ok (.if_icmp .ne 5, 3) := by decide +kernel
theorem dex_6 : decode method_2_code 6 = .ok (.iconst 1, 1) := by decide +kernel
theorem dex_7 : decode method_2_code 7 = .ok (.ireturn, 1) := by decide +kernel
theorem dex_8 : decode method_2_code 8 = .ok (.iload_n 0, 1) := by decide +kernel
theorem dex_9 : decode method_2_code 9 = .ok (.bipush 48, 2) := by decide +kernel
theorem dex_11 : decode method_2_code 11 = .ok (.if_icmp .lt 11, 3) := by decide +kernel
theorem dex_14 : decode method_2_code 14 = .ok (.iload_n 0, 1) := by decide +kernel
theorem dex_15 : decode method_2_code 15 = .ok (.bipush 57, 2) := by decide +kernel
theorem dex_17 : decode method_2_code 17 = .ok (.if_icmp .gt 5, 3) := by decide +kernel
theorem dex_20 : decode method_2_code 20 = .ok (.iconst 1, 1) := by decide +kernel
theorem dex_21 : decode method_2_code 21 = .ok (.ireturn, 1) := by decide +kernel
theorem dex_22 : decode method_2_code 22 = .ok (.iload_n 0, 1) := by decide +kernel
theorem dex_23 : decode method_2_code 23 = .ok (.bipush 65, 2) := by decide +kernel
theorem dex_25 : decode method_2_code 25 = .ok (.if_icmp .lt 11, 3) := by decide +kernel
theorem dex_28 : decode method_2_code 28 = .ok (.iload_n 0, 1) := by decide +kernel
theorem dex_29 : decode method_2_code 29 = .ok (.bipush 70, 2) := by decide +kernel
theorem dex_31 : decode method_2_code 31 = .ok (.if_icmp .gt 5, 3) := by decide +kernel
theorem dex_34 : decode method_2_code 34 = .ok (.iconst 1, 1) := by decide +kernel
theorem dex_35 : decode method_2_code 35 = .ok (.ireturn, 1) := by decide +kernel
theorem dex_36 : decode method_2_code 36 = .ok (.iconst 0, 1) := by decide +kernel
theorem dex_37 : decode method_2_code 37 = .ok (.ireturn, 1) := by decide +kernel
theorem ef_dex_ (m : MethodId) (c1 : Int32) : entryFrame m #[(.int c1)] 1 = mkF m 0 #[.val (.int c1)] [] := by first | (simp [entryFrame, mkF, argsToLocals, Value.category]; done) | rfl
def Q_rmEX (Z : State) (c1 : Int32)  (h0 : Heap) (n0 : Nat) (v : Option Value) (h : Heap) (L : List Loc) : Prop := v = some (.int (own_exp c1)) ∧ Fr n0 L ∧ h = h0
theorem pn_rmEX : plainName "com/example/mapwright/mapwright/specification/IriIsEscapeCharacterPinLaw" = true := by first | (simp [plainName, overriddenIn]; done) | decide +kernel
set_option maxRecDepth 65536 in
set_option maxHeartbeats 40000000 in
theorem rmEX (l : Launch) (Z : State) (a0 : Array Value) (hw : ∀ d ∈ tables_1, d.before a0 Z = true) (ws : List Jvm.Cond) (c1 : Int32)  (h0 : Heap) (n0 : Nat) (Z0 : n0 ≤ h0.size)  :
    MetFree l (⟨"com/example/mapwright/mapwright/specification/IriIsEscapeCharacterPinLaw", "expected", "(I)Z"⟩ : MethodName) (head1 (Jvm.Cond.code (⟨"com/example/mapwright/mapwright/specification/IriIsEscapeCharacterPinLaw", "expected", "(I)Z"⟩ : MethodName) method_2_code 1 (some .boolean) :: ws) ({ frames := 0, cells := 0, slots := 0, locals := 0 } : Room)) (fun aZ U => aZ = #[(.int c1)] ∧ Z.Warmed39 U.vm ∧ U.heap = h0) (fun _ _ _ _ _ => True) (fun _ U o U' => ∃ v L, o = .returned v ∧ Q_rmEX Z c1  h0 n0 v U'.heap L ∧ FrameEnd U o U' L ({ frames := 0, cells := 0, slots := 0, locals := 0 } : Room).cells ({ frames := 0, cells := 0, slots := 0, locals := 0 } : Room).slots) := by
  refine MetFree.of_bodySF (plainFor_of_name pn_rmEX) hisR ?_
  intro p e s m args below meth c s₁ Bd hml0 hP hK
  obtain ⟨rfl, hZ, hh⟩ := hP
  have hx := Bd.exec
  have hby := Bd.bytes
  have hml : c.maxLocals = 1 := hml0
  have hown : s.vm.findClass "com/example/mapwright/mapwright/specification/IriIsEscapeCharacterPinLaw" = some m.cls := findClass_of_methodNamed Bd.named
  have hnm := (name_of_methodNamed Bd.named Bd.method).1
  have X0 : Stand p l e ({ frames := 0, cells := 0, slots := 0, locals := 0 } : Room) s m #[(.int c1)] below meth c s₁ [] 0 0 := Stand.of_body Bd
  have e0 : s₁.heap = h0 := by rw [← hh, Bd.state]; rfl
  have N0 := Fr.nil n0
  have pre0 : ∀ tZ, Steps p.tables e below (s₁.setTop (mkF m 0 #[.val (.int c1)] [])) tZ → Steps p.tables e below (s₁.setTop (entryFrame m #[(.int c1)] 1)) tZ := fun tZ kZ => castTop (ef_dex_ m c1) kZ
  rcases Classical.em (c1 = (37 : Int32)) with hy0 | hy0
  · skip
    obtain ⟨fs, hr, hrun, hended, hW, hsame⟩ := X0.leave (v := some (.int (1 : Int32))) (fun h => by rw [Bd.returns] at h; cases h)
    refine ⟨_, _, pre0 _ ?_, hrun, hended, _, _, rfl, ?_, ⟨_, rfl⟩, hW, hsame.mono (by decide) (by decide)⟩
    · show Steps p.tables e below (s₁.setTop (mkF m 0 #[.val (.int c1)] [])) _
      refine XS.iloadN X0.here hx rfl (hb hby dex_0) rfl ?_
      show Steps p.tables e below (s₁.setTop (mkF m 1 #[.val (.int c1)] [(.int c1)])) _
      refine XS.bipush X0.here hx rfl (hb hby dex_1) ?_
      show Steps p.tables e below (s₁.setTop (mkF m 3 #[.val (.int c1)] [(.int (37 : Int32)), (.int c1)])) _
      refine XS.icmpNo X0.here hx rfl (hb hby dex_3) rfl (teq hy0).2 ?_
      show Steps p.tables e below (s₁.setTop (mkF m 6 #[.val (.int c1)] [])) _
      refine XS.iconst X0.here hx rfl (hb hby dex_6) ?_
      show Steps p.tables e below (s₁.setTop (mkF m 7 #[.val (.int c1)] [(.int (1 : Int32))])) _
      exact retN X0 hx (t := .boolean) Bd.returns (by simp) (hb hby dex_7) hr
    · show Q_rmEX Z c1 h0 n0 _ s₁.heap _
      rw [e0]
      exact ⟨by simp only [own_exp, if_pos hy0], N0, rfl⟩
  · skip
    rcases Classical.em (c1 < (48 : Int32)) with hy1 | hy1
    · skip
      rcases Classical.em (c1 < (65 : Int32)) with hy2 | hy2
      · skip
        obtain ⟨fs, hr, hrun, hended, hW, hsame⟩ := X0.leave (v := some (.int (0 : Int32))) (fun h => by rw [Bd.returns] at h; cases h)
        refine ⟨_, _, pre0 _ ?_, hrun, hended, _, _, rfl, ?_, ⟨_, rfl⟩, hW, hsame.mono (by decide) (by decide)⟩
        · show Steps p.tables e below (s₁.setTop (mkF m 0 #[.val (.int c1)] [])) _
          refine XS.iloadN X0.here hx rfl (hb hby dex_0) rfl ?_
          show Steps p.tables e below (s₁.setTop (mkF m 1 #[.val (.int c1)] [(.int c1)])) _
          refine XS.bipush X0.here hx rfl (hb hby dex_1) ?_
          show Steps p.tables e below (s₁.setTop (mkF m 3 #[.val (.int c1)] [(.int (37 : Int32)), (.int c1)])) _
          refine XS.icmpYes X0.here hx rfl (pc0 := 3) (pc' := 8) rfl (hb hby dex_3) rfl (feq hy0).2 (by decide) (by decide) ?_
          show Steps p.tables e below (s₁.setTop (mkF m 8 #[.val (.int c1)] [])) _
          refine XS.iloadN X0.here hx rfl (hb hby dex_8) rfl ?_
          show Steps p.tables e below (s₁.setTop (mkF m 9 #[.val (.int c1)] [(.int c1)])) _
          refine XS.bipush X0.here hx rfl (hb hby dex_9) ?_
          show Steps p.tables e below (s₁.setTop (mkF m 11 #[.val (.int c1)] [(.int (48 : Int32)), (.int c1)])) _
          refine XS.icmpYes X0.here hx rfl (pc0 := 11) (pc' := 22) rfl (hb hby dex_11) rfl (tlt hy1).1 (by decide) (by decide) ?_
          show Steps p.tables e below (s₁.setTop (mkF m 22 #[.val (.int c1)] [])) _
          refine XS.iloadN X0.here hx rfl (hb hby dex_22) rfl ?_
          show Steps p.tables e below (s₁.setTop (mkF m 23 #[.val (.int c1)] [(.int c1)])) _
          refine XS.bipush X0.here hx rfl (hb hby dex_23) ?_
          show Steps p.tables e below (s₁.setTop (mkF m 25 #[.val (.int c1)] [(.int (65 : Int32)), (.int c1)])) _
          refine XS.icmpYes X0.here hx rfl (pc0 := 25) (pc' := 36) rfl (hb hby dex_25) rfl (tlt hy2).1 (by decide) (by decide) ?_
          show Steps p.tables e below (s₁.setTop (mkF m 36 #[.val (.int c1)] [])) _
          refine XS.iconst X0.here hx rfl (hb hby dex_36) ?_
          show Steps p.tables e below (s₁.setTop (mkF m 37 #[.val (.int c1)] [(.int (0 : Int32))])) _
          exact retN X0 hx (t := .boolean) Bd.returns (by simp) (hb hby dex_37) hr
        · show Q_rmEX Z c1 h0 n0 _ s₁.heap _
          rw [e0]
          exact ⟨by simp only [own_exp, if_neg hy0, if_pos hy1, if_pos hy2], N0, rfl⟩
      · skip
        rcases Classical.em ((70 : Int32) < c1) with hy3 | hy3
        · skip
          obtain ⟨fs, hr, hrun, hended, hW, hsame⟩ := X0.leave (v := some (.int (0 : Int32))) (fun h => by rw [Bd.returns] at h; cases h)
          refine ⟨_, _, pre0 _ ?_, hrun, hended, _, _, rfl, ?_, ⟨_, rfl⟩, hW, hsame.mono (by decide) (by decide)⟩
          · show Steps p.tables e below (s₁.setTop (mkF m 0 #[.val (.int c1)] [])) _
            refine XS.iloadN X0.here hx rfl (hb hby dex_0) rfl ?_
            show Steps p.tables e below (s₁.setTop (mkF m 1 #[.val (.int c1)] [(.int c1)])) _
            refine XS.bipush X0.here hx rfl (hb hby dex_1) ?_
            show Steps p.tables e below (s₁.setTop (mkF m 3 #[.val (.int c1)] [(.int (37 : Int32)), (.int c1)])) _
            refine XS.icmpYes X0.here hx rfl (pc0 := 3) (pc' := 8) rfl (hb hby dex_3) rfl (feq hy0).2 (by decide) (by decide) ?_
            show Steps p.tables e below (s₁.setTop (mkF m 8 #[.val (.int c1)] [])) _
            refine XS.iloadN X0.here hx rfl (hb hby dex_8) rfl ?_
            show Steps p.tables e below (s₁.setTop (mkF m 9 #[.val (.int c1)] [(.int c1)])) _
            refine XS.bipush X0.here hx rfl (hb hby dex_9) ?_
            show Steps p.tables e below (s₁.setTop (mkF m 11 #[.val (.int c1)] [(.int (48 : Int32)), (.int c1)])) _
            refine XS.icmpYes X0.here hx rfl (pc0 := 11) (pc' := 22) rfl (hb hby dex_11) rfl (tlt hy1).1 (by decide) (by decide) ?_
            show Steps p.tables e below (s₁.setTop (mkF m 22 #[.val (.int c1)] [])) _
            refine XS.iloadN X0.here hx rfl (hb hby dex_22) rfl ?_
            show Steps p.tables e below (s₁.setTop (mkF m 23 #[.val (.int c1)] [(.int c1)])) _
            refine XS.bipush X0.here hx rfl (hb hby dex_23) ?_
            show Steps p.tables e below (s₁.setTop (mkF m 25 #[.val (.int c1)] [(.int (65 : Int32)), (.int c1)])) _
            refine XS.icmpNo X0.here hx rfl (hb hby dex_25) rfl (flt hy2).1 ?_
            show Steps p.tables e below (s₁.setTop (mkF m 28 #[.val (.int c1)] [])) _
            refine XS.iloadN X0.here hx rfl (hb hby dex_28) rfl ?_
            show Steps p.tables e below (s₁.setTop (mkF m 29 #[.val (.int c1)] [(.int c1)])) _
            refine XS.bipush X0.here hx rfl (hb hby dex_29) ?_
            show Steps p.tables e below (s₁.setTop (mkF m 31 #[.val (.int c1)] [(.int (70 : Int32)), (.int c1)])) _
            refine XS.icmpYes X0.here hx rfl (pc0 := 31) (pc' := 36) rfl (hb hby dex_31) rfl (tlt hy3).2.2.1 (by decide) (by decide) ?_
            show Steps p.tables e below (s₁.setTop (mkF m 36 #[.val (.int c1)] [])) _
            refine XS.iconst X0.here hx rfl (hb hby dex_36) ?_
            show Steps p.tables e below (s₁.setTop (mkF m 37 #[.val (.int c1)] [(.int (0 : Int32))])) _
            exact retN X0 hx (t := .boolean) Bd.returns (by simp) (hb hby dex_37) hr
          · show Q_rmEX Z c1 h0 n0 _ s₁.heap _
            rw [e0]
            exact ⟨by simp only [own_exp, if_neg hy0, if_pos hy1, if_neg hy2, if_pos hy3], N0, rfl⟩
        · skip
          obtain ⟨fs, hr, hrun, hended, hW, hsame⟩ := X0.leave (v := some (.int (1 : Int32))) (fun h => by rw [Bd.returns] at h; cases h)
          refine ⟨_, _, pre0 _ ?_, hrun, hended, _, _, rfl, ?_, ⟨_, rfl⟩, hW, hsame.mono (by decide) (by decide)⟩
          · show Steps p.tables e below (s₁.setTop (mkF m 0 #[.val (.int c1)] [])) _
            refine XS.iloadN X0.here hx rfl (hb hby dex_0) rfl ?_
            show Steps p.tables e below (s₁.setTop (mkF m 1 #[.val (.int c1)] [(.int c1)])) _
            refine XS.bipush X0.here hx rfl (hb hby dex_1) ?_
            show Steps p.tables e below (s₁.setTop (mkF m 3 #[.val (.int c1)] [(.int (37 : Int32)), (.int c1)])) _
            refine XS.icmpYes X0.here hx rfl (pc0 := 3) (pc' := 8) rfl (hb hby dex_3) rfl (feq hy0).2 (by decide) (by decide) ?_
            show Steps p.tables e below (s₁.setTop (mkF m 8 #[.val (.int c1)] [])) _
            refine XS.iloadN X0.here hx rfl (hb hby dex_8) rfl ?_
            show Steps p.tables e below (s₁.setTop (mkF m 9 #[.val (.int c1)] [(.int c1)])) _
            refine XS.bipush X0.here hx rfl (hb hby dex_9) ?_
            show Steps p.tables e below (s₁.setTop (mkF m 11 #[.val (.int c1)] [(.int (48 : Int32)), (.int c1)])) _
            refine XS.icmpYes X0.here hx rfl (pc0 := 11) (pc' := 22) rfl (hb hby dex_11) rfl (tlt hy1).1 (by decide) (by decide) ?_
            show Steps p.tables e below (s₁.setTop (mkF m 22 #[.val (.int c1)] [])) _
            refine XS.iloadN X0.here hx rfl (hb hby dex_22) rfl ?_
            show Steps p.tables e below (s₁.setTop (mkF m 23 #[.val (.int c1)] [(.int c1)])) _
            refine XS.bipush X0.here hx rfl (hb hby dex_23) ?_
            show Steps p.tables e below (s₁.setTop (mkF m 25 #[.val (.int c1)] [(.int (65 : Int32)), (.int c1)])) _
            refine XS.icmpNo X0.here hx rfl (hb hby dex_25) rfl (flt hy2).1 ?_
            show Steps p.tables e below (s₁.setTop (mkF m 28 #[.val (.int c1)] [])) _
            refine XS.iloadN X0.here hx rfl (hb hby dex_28) rfl ?_
            show Steps p.tables e below (s₁.setTop (mkF m 29 #[.val (.int c1)] [(.int c1)])) _
            refine XS.bipush X0.here hx rfl (hb hby dex_29) ?_
            show Steps p.tables e below (s₁.setTop (mkF m 31 #[.val (.int c1)] [(.int (70 : Int32)), (.int c1)])) _
            refine XS.icmpNo X0.here hx rfl (hb hby dex_31) rfl (flt hy3).2.2.1 ?_
            show Steps p.tables e below (s₁.setTop (mkF m 34 #[.val (.int c1)] [])) _
            refine XS.iconst X0.here hx rfl (hb hby dex_34) ?_
            show Steps p.tables e below (s₁.setTop (mkF m 35 #[.val (.int c1)] [(.int (1 : Int32))])) _
            exact retN X0 hx (t := .boolean) Bd.returns (by simp) (hb hby dex_35) hr
          · show Q_rmEX Z c1 h0 n0 _ s₁.heap _
            rw [e0]
            exact ⟨by simp only [own_exp, if_neg hy0, if_pos hy1, if_neg hy2, if_neg hy3], N0, rfl⟩
    · skip
      rcases Classical.em ((57 : Int32) < c1) with hy2 | hy2
      · skip
        rcases Classical.em (c1 < (65 : Int32)) with hy3 | hy3
        · skip
          obtain ⟨fs, hr, hrun, hended, hW, hsame⟩ := X0.leave (v := some (.int (0 : Int32))) (fun h => by rw [Bd.returns] at h; cases h)
          refine ⟨_, _, pre0 _ ?_, hrun, hended, _, _, rfl, ?_, ⟨_, rfl⟩, hW, hsame.mono (by decide) (by decide)⟩
          · show Steps p.tables e below (s₁.setTop (mkF m 0 #[.val (.int c1)] [])) _
            refine XS.iloadN X0.here hx rfl (hb hby dex_0) rfl ?_
            show Steps p.tables e below (s₁.setTop (mkF m 1 #[.val (.int c1)] [(.int c1)])) _
            refine XS.bipush X0.here hx rfl (hb hby dex_1) ?_
            show Steps p.tables e below (s₁.setTop (mkF m 3 #[.val (.int c1)] [(.int (37 : Int32)), (.int c1)])) _
            refine XS.icmpYes X0.here hx rfl (pc0 := 3) (pc' := 8) rfl (hb hby dex_3) rfl (feq hy0).2 (by decide) (by decide) ?_
            show Steps p.tables e below (s₁.setTop (mkF m 8 #[.val (.int c1)] [])) _
            refine XS.iloadN X0.here hx rfl (hb hby dex_8) rfl ?_
            show Steps p.tables e below (s₁.setTop (mkF m 9 #[.val (.int c1)] [(.int c1)])) _
            refine XS.bipush X0.here hx rfl (hb hby dex_9) ?_
            show Steps p.tables e below (s₁.setTop (mkF m 11 #[.val (.int c1)] [(.int (48 : Int32)), (.int c1)])) _
            refine XS.icmpNo X0.here hx rfl (hb hby dex_11) rfl (flt hy1).1 ?_
            show Steps p.tables e below (s₁.setTop (mkF m 14 #[.val (.int c1)] [])) _
            refine XS.iloadN X0.here hx rfl (hb hby dex_14) rfl ?_
            show Steps p.tables e below (s₁.setTop (mkF m 15 #[.val (.int c1)] [(.int c1)])) _
            refine XS.bipush X0.here hx rfl (hb hby dex_15) ?_
            show Steps p.tables e below (s₁.setTop (mkF m 17 #[.val (.int c1)] [(.int (57 : Int32)), (.int c1)])) _
            refine XS.icmpYes X0.here hx rfl (pc0 := 17) (pc' := 22) rfl (hb hby dex_17) rfl (tlt hy2).2.2.1 (by decide) (by decide) ?_
            show Steps p.tables e below (s₁.setTop (mkF m 22 #[.val (.int c1)] [])) _
            refine XS.iloadN X0.here hx rfl (hb hby dex_22) rfl ?_
            show Steps p.tables e below (s₁.setTop (mkF m 23 #[.val (.int c1)] [(.int c1)])) _
            refine XS.bipush X0.here hx rfl (hb hby dex_23) ?_
            show Steps p.tables e below (s₁.setTop (mkF m 25 #[.val (.int c1)] [(.int (65 : Int32)), (.int c1)])) _
            refine XS.icmpYes X0.here hx rfl (pc0 := 25) (pc' := 36) rfl (hb hby dex_25) rfl (tlt hy3).1 (by decide) (by decide) ?_
            show Steps p.tables e below (s₁.setTop (mkF m 36 #[.val (.int c1)] [])) _
            refine XS.iconst X0.here hx rfl (hb hby dex_36) ?_
            show Steps p.tables e below (s₁.setTop (mkF m 37 #[.val (.int c1)] [(.int (0 : Int32))])) _
            exact retN X0 hx (t := .boolean) Bd.returns (by simp) (hb hby dex_37) hr
          · show Q_rmEX Z c1 h0 n0 _ s₁.heap _
            rw [e0]
            exact ⟨by simp only [own_exp, if_neg hy0, if_neg hy1, if_pos hy2, if_pos hy3], N0, rfl⟩
        · skip
          rcases Classical.em ((70 : Int32) < c1) with hy4 | hy4
          · skip
            obtain ⟨fs, hr, hrun, hended, hW, hsame⟩ := X0.leave (v := some (.int (0 : Int32))) (fun h => by rw [Bd.returns] at h; cases h)
            refine ⟨_, _, pre0 _ ?_, hrun, hended, _, _, rfl, ?_, ⟨_, rfl⟩, hW, hsame.mono (by decide) (by decide)⟩
            · show Steps p.tables e below (s₁.setTop (mkF m 0 #[.val (.int c1)] [])) _
              refine XS.iloadN X0.here hx rfl (hb hby dex_0) rfl ?_
              show Steps p.tables e below (s₁.setTop (mkF m 1 #[.val (.int c1)] [(.int c1)])) _
              refine XS.bipush X0.here hx rfl (hb hby dex_1) ?_
              show Steps p.tables e below (s₁.setTop (mkF m 3 #[.val (.int c1)] [(.int (37 : Int32)), (.int c1)])) _
              refine XS.icmpYes X0.here hx rfl (pc0 := 3) (pc' := 8) rfl (hb hby dex_3) rfl (feq hy0).2 (by decide) (by decide) ?_
              show Steps p.tables e below (s₁.setTop (mkF m 8 #[.val (.int c1)] [])) _
              refine XS.iloadN X0.here hx rfl (hb hby dex_8) rfl ?_
              show Steps p.tables e below (s₁.setTop (mkF m 9 #[.val (.int c1)] [(.int c1)])) _
              refine XS.bipush X0.here hx rfl (hb hby dex_9) ?_
              show Steps p.tables e below (s₁.setTop (mkF m 11 #[.val (.int c1)] [(.int (48 : Int32)), (.int c1)])) _
              refine XS.icmpNo X0.here hx rfl (hb hby dex_11) rfl (flt hy1).1 ?_
              show Steps p.tables e below (s₁.setTop (mkF m 14 #[.val (.int c1)] [])) _
              refine XS.iloadN X0.here hx rfl (hb hby dex_14) rfl ?_
              show Steps p.tables e below (s₁.setTop (mkF m 15 #[.val (.int c1)] [(.int c1)])) _
              refine XS.bipush X0.here hx rfl (hb hby dex_15) ?_
              show Steps p.tables e below (s₁.setTop (mkF m 17 #[.val (.int c1)] [(.int (57 : Int32)), (.int c1)])) _
              refine XS.icmpYes X0.here hx rfl (pc0 := 17) (pc' := 22) rfl (hb hby dex_17) rfl (tlt hy2).2.2.1 (by decide) (by decide) ?_
              show Steps p.tables e below (s₁.setTop (mkF m 22 #[.val (.int c1)] [])) _
              refine XS.iloadN X0.here hx rfl (hb hby dex_22) rfl ?_
              show Steps p.tables e below (s₁.setTop (mkF m 23 #[.val (.int c1)] [(.int c1)])) _
              refine XS.bipush X0.here hx rfl (hb hby dex_23) ?_
              show Steps p.tables e below (s₁.setTop (mkF m 25 #[.val (.int c1)] [(.int (65 : Int32)), (.int c1)])) _
              refine XS.icmpNo X0.here hx rfl (hb hby dex_25) rfl (flt hy3).1 ?_
              show Steps p.tables e below (s₁.setTop (mkF m 28 #[.val (.int c1)] [])) _
              refine XS.iloadN X0.here hx rfl (hb hby dex_28) rfl ?_
              show Steps p.tables e below (s₁.setTop (mkF m 29 #[.val (.int c1)] [(.int c1)])) _
              refine XS.bipush X0.here hx rfl (hb hby dex_29) ?_
              show Steps p.tables e below (s₁.setTop (mkF m 31 #[.val (.int c1)] [(.int (70 : Int32)), (.int c1)])) _
              refine XS.icmpYes X0.here hx rfl (pc0 := 31) (pc' := 36) rfl (hb hby dex_31) rfl (tlt hy4).2.2.1 (by decide) (by decide) ?_
              show Steps p.tables e below (s₁.setTop (mkF m 36 #[.val (.int c1)] [])) _
              refine XS.iconst X0.here hx rfl (hb hby dex_36) ?_
              show Steps p.tables e below (s₁.setTop (mkF m 37 #[.val (.int c1)] [(.int (0 : Int32))])) _
              exact retN X0 hx (t := .boolean) Bd.returns (by simp) (hb hby dex_37) hr
            · show Q_rmEX Z c1 h0 n0 _ s₁.heap _
              rw [e0]
              exact ⟨by simp only [own_exp, if_neg hy0, if_neg hy1, if_pos hy2, if_neg hy3, if_pos hy4], N0, rfl⟩
          · skip
            obtain ⟨fs, hr, hrun, hended, hW, hsame⟩ := X0.leave (v := some (.int (1 : Int32))) (fun h => by rw [Bd.returns] at h; cases h)
            refine ⟨_, _, pre0 _ ?_, hrun, hended, _, _, rfl, ?_, ⟨_, rfl⟩, hW, hsame.mono (by decide) (by decide)⟩
            · show Steps p.tables e below (s₁.setTop (mkF m 0 #[.val (.int c1)] [])) _
              refine XS.iloadN X0.here hx rfl (hb hby dex_0) rfl ?_
              show Steps p.tables e below (s₁.setTop (mkF m 1 #[.val (.int c1)] [(.int c1)])) _
              refine XS.bipush X0.here hx rfl (hb hby dex_1) ?_
              show Steps p.tables e below (s₁.setTop (mkF m 3 #[.val (.int c1)] [(.int (37 : Int32)), (.int c1)])) _
              refine XS.icmpYes X0.here hx rfl (pc0 := 3) (pc' := 8) rfl (hb hby dex_3) rfl (feq hy0).2 (by decide) (by decide) ?_
              show Steps p.tables e below (s₁.setTop (mkF m 8 #[.val (.int c1)] [])) _
              refine XS.iloadN X0.here hx rfl (hb hby dex_8) rfl ?_
              show Steps p.tables e below (s₁.setTop (mkF m 9 #[.val (.int c1)] [(.int c1)])) _
              refine XS.bipush X0.here hx rfl (hb hby dex_9) ?_
              show Steps p.tables e below (s₁.setTop (mkF m 11 #[.val (.int c1)] [(.int (48 : Int32)), (.int c1)])) _
              refine XS.icmpNo X0.here hx rfl (hb hby dex_11) rfl (flt hy1).1 ?_
              show Steps p.tables e below (s₁.setTop (mkF m 14 #[.val (.int c1)] [])) _
              refine XS.iloadN X0.here hx rfl (hb hby dex_14) rfl ?_
              show Steps p.tables e below (s₁.setTop (mkF m 15 #[.val (.int c1)] [(.int c1)])) _
              refine XS.bipush X0.here hx rfl (hb hby dex_15) ?_
              show Steps p.tables e below (s₁.setTop (mkF m 17 #[.val (.int c1)] [(.int (57 : Int32)), (.int c1)])) _
              refine XS.icmpYes X0.here hx rfl (pc0 := 17) (pc' := 22) rfl (hb hby dex_17) rfl (tlt hy2).2.2.1 (by decide) (by decide) ?_
              show Steps p.tables e below (s₁.setTop (mkF m 22 #[.val (.int c1)] [])) _
              refine XS.iloadN X0.here hx rfl (hb hby dex_22) rfl ?_
              show Steps p.tables e below (s₁.setTop (mkF m 23 #[.val (.int c1)] [(.int c1)])) _
              refine XS.bipush X0.here hx rfl (hb hby dex_23) ?_
              show Steps p.tables e below (s₁.setTop (mkF m 25 #[.val (.int c1)] [(.int (65 : Int32)), (.int c1)])) _
              refine XS.icmpNo X0.here hx rfl (hb hby dex_25) rfl (flt hy3).1 ?_
              show Steps p.tables e below (s₁.setTop (mkF m 28 #[.val (.int c1)] [])) _
              refine XS.iloadN X0.here hx rfl (hb hby dex_28) rfl ?_
              show Steps p.tables e below (s₁.setTop (mkF m 29 #[.val (.int c1)] [(.int c1)])) _
              refine XS.bipush X0.here hx rfl (hb hby dex_29) ?_
              show Steps p.tables e below (s₁.setTop (mkF m 31 #[.val (.int c1)] [(.int (70 : Int32)), (.int c1)])) _
              refine XS.icmpNo X0.here hx rfl (hb hby dex_31) rfl (flt hy4).2.2.1 ?_
              show Steps p.tables e below (s₁.setTop (mkF m 34 #[.val (.int c1)] [])) _
              refine XS.iconst X0.here hx rfl (hb hby dex_34) ?_
              show Steps p.tables e below (s₁.setTop (mkF m 35 #[.val (.int c1)] [(.int (1 : Int32))])) _
              exact retN X0 hx (t := .boolean) Bd.returns (by simp) (hb hby dex_35) hr
            · show Q_rmEX Z c1 h0 n0 _ s₁.heap _
              rw [e0]
              exact ⟨by simp only [own_exp, if_neg hy0, if_neg hy1, if_pos hy2, if_neg hy3, if_neg hy4], N0, rfl⟩
      · skip
        obtain ⟨fs, hr, hrun, hended, hW, hsame⟩ := X0.leave (v := some (.int (1 : Int32))) (fun h => by rw [Bd.returns] at h; cases h)
        refine ⟨_, _, pre0 _ ?_, hrun, hended, _, _, rfl, ?_, ⟨_, rfl⟩, hW, hsame.mono (by decide) (by decide)⟩
        · show Steps p.tables e below (s₁.setTop (mkF m 0 #[.val (.int c1)] [])) _
          refine XS.iloadN X0.here hx rfl (hb hby dex_0) rfl ?_
          show Steps p.tables e below (s₁.setTop (mkF m 1 #[.val (.int c1)] [(.int c1)])) _
          refine XS.bipush X0.here hx rfl (hb hby dex_1) ?_
          show Steps p.tables e below (s₁.setTop (mkF m 3 #[.val (.int c1)] [(.int (37 : Int32)), (.int c1)])) _
          refine XS.icmpYes X0.here hx rfl (pc0 := 3) (pc' := 8) rfl (hb hby dex_3) rfl (feq hy0).2 (by decide) (by decide) ?_
          show Steps p.tables e below (s₁.setTop (mkF m 8 #[.val (.int c1)] [])) _
          refine XS.iloadN X0.here hx rfl (hb hby dex_8) rfl ?_
          show Steps p.tables e below (s₁.setTop (mkF m 9 #[.val (.int c1)] [(.int c1)])) _
          refine XS.bipush X0.here hx rfl (hb hby dex_9) ?_
          show Steps p.tables e below (s₁.setTop (mkF m 11 #[.val (.int c1)] [(.int (48 : Int32)), (.int c1)])) _
          refine XS.icmpNo X0.here hx rfl (hb hby dex_11) rfl (flt hy1).1 ?_
          show Steps p.tables e below (s₁.setTop (mkF m 14 #[.val (.int c1)] [])) _
          refine XS.iloadN X0.here hx rfl (hb hby dex_14) rfl ?_
          show Steps p.tables e below (s₁.setTop (mkF m 15 #[.val (.int c1)] [(.int c1)])) _
          refine XS.bipush X0.here hx rfl (hb hby dex_15) ?_
          show Steps p.tables e below (s₁.setTop (mkF m 17 #[.val (.int c1)] [(.int (57 : Int32)), (.int c1)])) _
          refine XS.icmpNo X0.here hx rfl (hb hby dex_17) rfl (flt hy2).2.2.1 ?_
          show Steps p.tables e below (s₁.setTop (mkF m 20 #[.val (.int c1)] [])) _
          refine XS.iconst X0.here hx rfl (hb hby dex_20) ?_
          show Steps p.tables e below (s₁.setTop (mkF m 21 #[.val (.int c1)] [(.int (1 : Int32))])) _
          exact retN X0 hx (t := .boolean) Bd.returns (by simp) (hb hby dex_21) hr
        · show Q_rmEX Z c1 h0 n0 _ s₁.heap _
          rw [e0]
          exact ⟨by simp only [own_exp, if_neg hy0, if_neg hy1, if_neg hy2], N0, rfl⟩

theorem des_0 : decode prog_4_method_3_code 0 = .ok (.iload_n 0, 1) := by decide +kernel
theorem des_1 : decode prog_4_method_3_code 1 = .ok (.bipush 37, 2) := by decide +kernel
theorem des_3 : decode prog_4_method_3_code 3 = .ok (.if_icmp .eq 12, 3) := by decide +kernel
theorem des_6 : decode prog_4_method_3_code 6 = .ok (.ldc 17, 2) := by decide +kernel
theorem des_8 : decode prog_4_method_3_code 8 = .ok (.iload_n 0, 1) := by decide +kernel
theorem des_9 : decode prog_4_method_3_code 9 = .ok (.invokevirtual 19, 3) := by decide +kernel
theorem des_12 : decode prog_4_method_3_code 12 = .ok (.ifCond .lt 7, 3) := by decide +kernel
theorem des_15 : decode prog_4_method_3_code 15 = .ok (.iconst 1, 1) := by decide +kernel
theorem des_16 : decode prog_4_method_3_code 16 = .ok (.goto 4, 3) := by decide +kernel
theorem des_19 : decode prog_4_method_3_code 19 = .ok (.iconst 0, 1) := by decide +kernel
theorem des_20 : decode prog_4_method_3_code 20 = .ok (.ireturn, 1) := by decide +kernel
theorem pd_des__I_I : parseMethodDescriptor "(I)I" = some ⟨[.int], some .int⟩ := by decide +kernel
theorem ef_des_ (m : MethodId) (c1 : Int32) : entryFrame m #[(.int c1)] 1 = mkF m 0 #[.val (.int c1)] [] := by first | (simp [entryFrame, mkF, argsToLocals, Value.category]; done) | rfl
def Q_rmES (c1 : Int32) (h0 : Heap) (n0 : Nat) (v : Option Value) (h : Heap) (L : List Loc) : Prop := v = some (.int (own_esc c1)) ∧ Fr n0 L ∧ h0.size ≤ h.size
theorem pn_rmES : plainName "com/example/mapwright/mapwright/specification/Iri" = true := by first | (simp [plainName, overriddenIn]; done) | decide +kernel
set_option maxRecDepth 65536 in
set_option maxHeartbeats 40000000 in
theorem rmES (l : Launch) (Z : State) (a0 : Array Value) (hw : ∀ d ∈ tables_1, d.before a0 Z = true) (ws : List Jvm.Cond) (c1 cs : Int32) (h0 : Heap) (n0 : Nat) (Z0 : n0 ≤ h0.size) (hh : Jvm.Lit.constHeld Z "com/example/mapwright/mapwright/specification/Iri" 17) (hcw : Jvm.Lit.compactW.before a0 Z = true) (wS : ∀ a ∈ Bundle.stringAtoms, a.before a0 Z = true) (hkeep : ∀ (b : Addr) (cl : Cell), Z.heap[b]? = some cl → h0[b]? = some cl) (S : Sta Z h0 "java/lang/String" "COMPACT_STRINGS" "Z" (.int cs)) (hcs : ¬ cs = 0) :
    MetFree l (⟨"com/example/mapwright/mapwright/specification/Iri", "isEscapeCharacter", "(I)Z"⟩ : MethodName) (head1 (Jvm.Cond.code (⟨"com/example/mapwright/mapwright/specification/Iri", "isEscapeCharacter", "(I)Z"⟩ : MethodName) prog_4_method_3_code 1 (some .boolean) :: ws) ({ frames := 4, cells := 2, slots := 68, locals := 100 } : Room)) (fun a U => a = #[(.int c1)] ∧ Z.WarmedH U.vm ∧ U.heap = h0) (fun _ _ _ _ _ => True) (fun _ U o U' => ∃ v L, o = .returned v ∧ Q_rmES c1 h0 n0 v U'.heap L ∧ ReturnedEndW U o U' L ({ frames := 4, cells := 2, slots := 68, locals := 100 } : Room).cells ({ frames := 4, cells := 2, slots := 68, locals := 100 } : Room).slots) := by
  refine MetFree.of_bodySF (plainFor_of_name pn_rmES) hisR ?_
  intro p e s m args below meth c s₁ Bd hml0 hP hK
  obtain ⟨rfl, hZH, hh0⟩ := hP
  have hZ : Z.Warmed39 s.vm := hZH.wide
  have hx := Bd.exec
  have hby := Bd.bytes
  have hml : c.maxLocals = 1 := hml0
  have hown : s.vm.findClass "com/example/mapwright/mapwright/specification/Iri" = some m.cls := findClass_of_methodNamed Bd.named
  have X0 : Stand p l e ({ frames := 4, cells := 2, slots := 68, locals := 100 } : Room) s m #[(.int c1)] below meth c s₁ [] 0 0 := Stand.of_body Bd
  have e0 : s₁.heap = h0 := by rw [← hh0, Bd.state]; rfl
  have pre0 : ∀ t, Steps p.tables e below (s₁.setTop (mkF m 0 #[.val (.int c1)] [])) t → Steps p.tables e below (s₁.setTop (entryFrame m #[(.int c1)] 1)) t := fun t k => castTop (ef_des_ m c1) k
  rcases Classical.em (c1 = (37 : Int32)) with c0 | c0
  · obtain ⟨fs, hr, hrun, hended, hW, hsame⟩ := X0.leave (v := some (.int (1 : Int32))) (fun h => by rw [Bd.returns] at h; cases h)
    refine ⟨_, _, pre0 _ ?_, hrun, hended, _, _, rfl, ⟨by simp only [own_esc, if_pos c0], Fr.nil n0, ?_⟩, ReturnedEndW.of_narrow ⟨_, rfl⟩ hW (hsame.mono (by decide) (by decide))⟩
    · show Steps p.tables e below (s₁.setTop (mkF m 0 #[.val (.int c1)] [])) _
      refine XS.iloadN X0.here hx rfl (hb hby des_0) rfl ?_
      show Steps p.tables e below (s₁.setTop (mkF m 1 #[.val (.int c1)] [(.int c1)])) _
      refine XS.bipush X0.here hx rfl (hb hby des_1) ?_
      show Steps p.tables e below (s₁.setTop (mkF m 3 #[.val (.int c1)] [(.int (37 : Int32)), (.int c1)])) _
      refine XS.icmpYes X0.here hx rfl (pc0 := 3) (pc' := 15) rfl (hb hby des_3) rfl (teq c0).1 (by decide) (by decide) ?_
      show Steps p.tables e below (s₁.setTop (mkF m 15 #[.val (.int c1)] [])) _
      refine XS.iconst X0.here hx rfl (hb hby des_15) ?_
      show Steps p.tables e below (s₁.setTop (mkF m 16 #[.val (.int c1)] [(.int (1 : Int32))])) _
      refine XS.goto X0.here hx rfl (pc0 := 16) (pc' := 20) rfl (hb hby des_16) (by decide) (by decide) ?_
      show Steps p.tables e below (s₁.setTop (mkF m 20 #[.val (.int c1)] [(.int (1 : Int32))])) _
      exact retN X0 hx (t := .boolean) Bd.returns (by simp) (hb hby des_20) hr
    · show h0.size ≤ s₁.heap.size
      rw [e0]; exact Nat.le_refl _
  · have hS0 : s.Since s.vm s.heap.size := ⟨State.Warmed39.refl s, fun j q hj hq => absurd (Array.getElem?_eq_some_iff.mp hq).1 (Nat.not_lt.mpr hj)⟩
    have es : s.heap = h0 := hh0
    have IB0 : IB Z s.vm [] := ⟨#[], by rw [hZH.interned_eq]; simp, fun q hq => by simp at hq⟩
    obtain ⟨a, T1, h1, k1, bv, kv, X1, e1, E1, S1, hk1, hZ1, hown1, Ex1, Fc1, Fv1, V1, la, lb, I1, st1⟩ := ldcSV (s := s) (vm0 := s.vm) (Ts := []) (vs := own_vs) (z := (16 : Int32)) X0 hx hZ hown (hw _ (List.mem_of_getElem? (i := 5) rfl)) wS e0 hS0 (Nat.le_of_eq (by rw [es])) (Fr.nil _) (fun b cl hb => by rw [es]; exact hkeep b cl hb) IB0 (by simp) hh hcw (by decide) (by decide) (by decide) (g := (mkF m 6 #[.val (.int c1)] [])) rfl (hb hby des_6) (n := 64) (by decide) (by decide) (by decide) (by decide)
    have S1' := S.ext E1
    obtain ⟨cq2, kq2, q2a, q2b, q2c⟩ := isOf hZ1 e1 Ex1
    obtain ⟨_, _, ⟨T2, L2, k2, n2⟩, -, X2, ⟨Lc2, hQ2, l2, y2, z2⟩, st2⟩ := X1.virtualBack hx (y := (⟨"java/lang/String", "indexOf", "(I)I"⟩ : MethodName)) (z := (⟨"java/lang/String", "indexOf", "(I)I"⟩ : MethodName)) hown1 (mvT hZ1 (hw _ (List.mem_of_getElem? (i := 13) rfl))) (mvT hZ1 (hw _ (List.mem_of_getElem? (i := 14) rfl))) (notFace_of_selects (args := #[]) (mvT hZ1 (hw _ (List.mem_of_getElem? (i := 16) rfl)))) (mvT hZ1 (hw _ (List.mem_of_getElem? (i := 16) rfl))) (mvT hZ1 (hw _ (List.mem_of_getElem? (i := 15) rfl))) (by decide) (backOf (W := 0) (rmI1 l Z a0 hw [] a c1 cs bv kv h1 n0 (Nat.le_trans Z0 E1.1) S1' hcs Fc1 Fv1 V1 Ex1) hZ1 (hw _ (List.mem_of_getElem? (i := 17) rfl)) (hw _ (List.mem_of_getElem? (i := 6) rfl)) (by decide) (by decide)) q2a q2c (g := (mkF m 9 #[.val (.int c1)] [(.int c1), (.ref a)])) rfl (by rw [hml]; rfl) (Steps.refl _) (argsL := [(.int c1)]) (rest := []) (lenOf pd_des__I_I rfl) rfl (by show 2 * 0 + _ ≤ _; exact Nat.le_of_eq rfl) (hb hby des_9) (fun _ _ => ⟨rfl, e1, (by decide : 2 + 0 ≤ _), (by decide : 68 + 0 ≤ _)⟩)
    dsimp only [Pt.U, Pt.locs, Pt.cells, Pt.slots] at X2 l2 y2 z2 st2 hQ2
    subst l2 y2 z2
    obtain ⟨rfl, N2q, e2⟩ := hQ2
    have N2 := Fr.app (Fr.nil n0) N2q
    have hv : (if (own_idx c1) < (0 : Int32) then (0 : Int32) else (1 : Int32)) = 0 ∨ (if (own_idx c1) < (0 : Int32) then (0 : Int32) else (1 : Int32)) = 1 := by split <;> simp
    obtain ⟨fs, hr, hrun, hended, hEnd⟩ := X2.leaveW S1 (by rw [e2]; exact hk1) (v := some (.int (nar .boolean (if (own_idx c1) < (0 : Int32) then (0 : Int32) else (1 : Int32))))) (fun h => by rw [Bd.returns] at h; cases h)
    refine ⟨_, _, pre0 _ ?_, hrun, hended, _, _, rfl, ⟨by rw [own_nar hv]; simp only [own_esc, if_neg c0], N2, ?_⟩, hEnd⟩
    · show Steps p.tables e below (s₁.setTop (mkF m 0 #[.val (.int c1)] [])) _
      refine XS.iloadN X0.here hx rfl (hb hby des_0) rfl ?_
      show Steps p.tables e below (s₁.setTop (mkF m 1 #[.val (.int c1)] [(.int c1)])) _
      refine XS.bipush X0.here hx rfl (hb hby des_1) ?_
      show Steps p.tables e below (s₁.setTop (mkF m 3 #[.val (.int c1)] [(.int (37 : Int32)), (.int c1)])) _
      refine XS.icmpNo X0.here hx rfl (hb hby des_3) rfl (feq c0).1 ?_
      show Steps p.tables e below (s₁.setTop (mkF m 6 #[.val (.int c1)] [])) _
      refine st1 _ ?_
      show Steps p.tables e below (T1.setTop (mkF m 8 #[.val (.int c1)] [(.ref a)])) _
      refine XS.iloadN X1.here hx rfl (hb hby des_8) rfl ?_
      show Steps p.tables e below (T1.setTop (mkF m 9 #[.val (.int c1)] [(.int c1), (.ref a)])) _
      refine st2.trans ?_
      show Steps p.tables e below (T2.setTop (mkF m 12 #[.val (.int c1)] [(.int (own_idx c1))])) _
      have sg12 : ∀ target, Steps p.tables e below (T2.setTop (mkF m 20 #[.val (.int c1)] [(.int (if (own_idx c1) < (0 : Int32) then (0 : Int32) else (1 : Int32)))])) target → Steps p.tables e below (T2.setTop (mkF m 12 #[.val (.int c1)] [(.int (own_idx c1))])) target := by
        intro target kt
        rcases Classical.em ((own_idx c1) < (0 : Int32)) with hr12_0 | hr12_0
        · (try simp only [if_pos hr12_0] at kt)
          refine XS.ifYes X2.here hx rfl (pc0 := 12) (pc' := 19) rfl (hb hby des_12) rfl ((if0 _ _).trans (tlt hr12_0).1) (by decide) (by decide) ?_
          show Steps p.tables e below (T2.setTop (mkF m 19 #[.val (.int c1)] [])) _
          refine XS.iconst X2.here hx rfl (hb hby des_19) ?_
          show Steps p.tables e below (T2.setTop (mkF m 20 #[.val (.int c1)] [(.int (0 : Int32))])) _
          exact kt
        · (try simp only [if_neg hr12_0] at kt)
          refine XS.ifNo X2.here hx rfl (hb hby des_12) rfl ((if0 _ _).trans (flt hr12_0).1) ?_
          show Steps p.tables e below (T2.setTop (mkF m 15 #[.val (.int c1)] [])) _
          refine XS.iconst X2.here hx rfl (hb hby des_15) ?_
          show Steps p.tables e below (T2.setTop (mkF m 16 #[.val (.int c1)] [(.int (1 : Int32))])) _
          refine XS.goto X2.here hx rfl (pc0 := 16) (pc' := 20) rfl (hb hby des_16) (by decide) (by decide) ?_
          show Steps p.tables e below (T2.setTop (mkF m 20 #[.val (.int c1)] [(.int (1 : Int32))])) _
          exact kt
      refine sg12 _ ?_
      show Steps p.tables e below (T2.setTop (mkF m 20 #[.val (.int c1)] [(.int (if (own_idx c1) < (0 : Int32) then (0 : Int32) else (1 : Int32)))])) _
      exact retN X2 hx (t := .boolean) Bd.returns (by simp) (hb hby des_20) hr
    · show h0.size ≤ T2.heap.size
      rw [e2]; exact E1.1

theorem own_back {p : Program} {l : Launch} {e : Env} {R : Room} {s : State} {args : Array Value} {below : List Frame} {a0 : Array Value} {h : Heap} {y : MethodName} {bytes : ByteArray} {maxL : Nat} {ret : Option FieldType} {rm : Room} {len W : Nat} {as' : Array Value} {Q : Option Value → Heap → List Loc → Prop}
    (hM : MetFree l y (head1 [Jvm.Cond.code y bytes maxL ret] rm) (fun a U => a = as' ∧ s.WarmedH U.vm ∧ U.heap = h) (fun _ _ _ _ _ => True) (fun _ U o U' => ∃ v L, o = .returned v ∧ Q v U'.heap L ∧ ReturnedEndW U o U' L rm.cells rm.slots))
    (wc : (Jvm.Cond.code y bytes maxL ret).before a0 s = true) (wz : (Jvm.Cond.initialized y.cls).before a0 s = true) (hf : rm.frames + 1 ≤ R.frames) (hl : W + (maxL + 11) + rm.locals ≤ R.locals) :
    BackS l R p e below s args y len W (fun A a => a = as' ∧ A.U.heap = h ∧ A.cells + rm.cells ≤ R.cells ∧ A.slots + rm.slots ≤ R.slots)
      (fun A _ v B => ∃ L, Q v B.U.heap L ∧ B.locs = A.locs ++ L ∧ B.cells = A.cells + rm.cells ∧ B.slots = A.slots + rm.slots) :=
  BackS.of_freeW (bytes := bytes) (maxL := maxL) (ret := ret) (E := fun _ _ o t L k n => k = rm.cells ∧ n = rm.slots ∧ ∃ v, o = .returned v ∧ Q v t.heap L) hM hf hl
    (fun m meth c A a Y hp => have hU : s.Warmed39 A.U.vm := Y.warmed.wide
      ⟨by show (Jvm.Cond.and _ .tt).before a A.U = true; rw [Cond.before_and, mv hU wc]; rfl, mv hU wc, mv hU wz, hp.2.2.1, hp.2.2.2⟩)
    (fun m meth c A a g mk Y hp => ⟨hp.1, Y.warmed, hp.2.1⟩) (fun _ _ _ _ _ _ _ _ _ => trivial)
    (fun _ _ _ _ ⟨v, L, h1, h2, h3⟩ => ⟨L, _, _, h3, rfl, rfl, v, h1, h2⟩)
    (fun m meth c A a g mk v t L k n Y hp _ _ ⟨e1, e2, v', e3, e4⟩ => by cases e3; subst e1 e2; exact ⟨L, e4, rfl, rfl, rfl⟩)
theorem own_small : ∀ k : Fin 256, own_esc (Int32.ofNat k.1) = own_exp (Int32.ofNat k.1) := by decide +kernel
theorem own_law (c : Int32) : own_esc c = own_exp c := by
  have k0 : (0 : Int32).toInt = 0 := by decide
  have k255 : (255 : Int32).toInt = 255 := by decide
  by_cases h : 0 ≤ c.toInt ∧ c.toInt < 256
  · have e : c = Int32.ofNat c.toInt.toNat := by
      apply Int32.toInt_inj.mp
      rw [Int32.toInt_ofNat_small (by omega)]; omega
    rw [e]
    exact own_small ⟨c.toInt.toNat, by omega⟩
  · have hcan : own_can c = 0 := by
      unfold own_can
      by_cases q : c < (0 : Int32)
      · rw [if_pos q]
      · rw [if_neg q, if_pos (by rw [Int32.lt_iff_toInt_lt] at q ⊢; omega)]
    have hidx : own_idx c = -1 := by unfold own_idx; rw [if_pos hcan]
    unfold own_esc own_exp
    rw [hidx]
    have e : ∀ a b : Int32, a < b ↔ a.toInt < b.toInt := fun _ _ => Int32.lt_iff_toInt_lt
    have q : ∀ b : Int32, c = b ↔ c.toInt = b.toInt := fun _ => Int32.toInt_inj.symm
    simp only [e, q, show (37 : Int32).toInt = 37 from by decide, show (48 : Int32).toInt = 48 from by decide, show (57 : Int32).toInt = 57 from by decide, show (65 : Int32).toInt = 65 from by decide, show (70 : Int32).toInt = 70 from by decide, show (-1 : Int32).toInt = -1 from by decide, k0]
    repeat' split
    all_goals first | rfl | omega
theorem pd_at__I_Z : parseMethodDescriptor "(I)Z" = some ⟨[.int], some .boolean⟩ := by decide +kernel
theorem ef_at_ (m : MethodId) (p1 : Int32) (p2 : Int32) : entryFrame m #[(.int p1), (.int p2)] maxLocals = mkF m 0 #[.val (.int p1), .val (.int p2), .unset, .unset] [] := by first | (simp [entryFrame, mkF, argsToLocals, Value.category, maxLocals]; done) | rfl
theorem pn_rm0 : plainName "com/example/mapwright/mapwright/specification/IriIsEscapeCharacterPinLaw" = true := by first | (simp [plainName, overriddenIn]; done) | decide +kernel
set_option maxRecDepth 65536 in
set_option maxHeartbeats 40000000 in
theorem rm0 (l : Launch) (Z : State) (a0 : Array Value) (hw : ∀ d ∈ tables_1, d.before a0 Z = true) (ws : List Jvm.Cond) (p1 p2 cs : Int32) (hh : Jvm.Lit.constHeld Z "com/example/mapwright/mapwright/specification/Iri" 17) (hcw : Jvm.Lit.compactW.before a0 Z = true) (wS : ∀ a ∈ Bundle.stringAtoms, a.before a0 Z = true) (S : Sta Z Z.heap "java/lang/String" "COMPACT_STRINGS" "Z" (.int cs)) (hcs : ¬ cs = 0) :
    MetFree l x (head1 (Jvm.Cond.code x code maxLocals ret :: ws) room_1) (fun a U => a = #[(.int p1), (.int p2)] ∧ Z = U) (fun _ _ _ _ _ => True) (fun _ U o U' => ∃ v L, o = .returned v ∧ (v = some (.int (1 : Int32)) ∧ Fr Z.heap.size L) ∧ ReturnedEndW U o U' L room_1.cells room_1.slots) := by
  refine MetFree.of_bodySF (plainFor_of_name pn_rm0) hisR ?_
  intro p e s m args below meth c s₁ Bd hml0 hP hK
  obtain ⟨rfl, hZs⟩ := hP
  subst hZs
  have hZ : Z.Warmed39 Z.vm := State.Warmed39.refl Z
  have hx := Bd.exec
  have hby := Bd.bytes
  have hml : c.maxLocals = 4 := hml0
  have hown : Z.vm.findClass "com/example/mapwright/mapwright/specification/IriIsEscapeCharacterPinLaw" = some m.cls := findClass_of_methodNamed Bd.named
  have X0 : Stand p l e room_1 Z m #[(.int p1), (.int p2)] below meth c s₁ [] 0 0 := Stand.of_body Bd
  have e0 : s₁.heap = Z.heap := by rw [Bd.state]; rfl
  have pre0 : ∀ t, Steps p.tables e below (s₁.setTop (mkF m 0 #[.val (.int p1), .val (.int p2), .unset, .unset] [])) t → Steps p.tables e below (s₁.setTop (entryFrame m #[(.int p1), (.int p2)] maxLocals)) t := fun t k => castTop (ef_at_ m p1 p2) k
  obtain ⟨cc, h_cc⟩ : ∃ z : Int32, z = (if (p2 &&& (3 : Int32)) = (0 : Int32) then p1 else (if (p2 &&& (3 : Int32)) = (1 : Int32) then (p1 &&& (127 : Int32)) else (if (p2 &&& (3 : Int32)) = (2 : Int32) then (p1 &&& (255 : Int32)) else (p1 &&& (2097151 : Int32))))) := ⟨_, rfl⟩
  obtain ⟨_, _, ⟨T1, L1, k1, n1⟩, -, X1, S1, g1, ⟨Lc1, hQ1, l1, y1, z1⟩, st1⟩ := callSS X0 hx (y := (⟨"com/example/mapwright/mapwright/specification/Iri", "isEscapeCharacter", "(I)Z"⟩ : MethodName)) hown (mvT hZ (hw _ (List.mem_of_getElem? (i := 1) rfl))) (mvT hZ (hw _ (List.mem_of_getElem? (i := 2) rfl))) (mvT hZ (hw _ (List.mem_of_getElem? (i := 3) rfl))) (mvT hZ (hw _ (List.mem_of_getElem? (i := 4) rfl))) (by decide) (own_back (a0 := a0) (W := 0) (rmES l Z a0 hw [] cc cs Z.heap Z.heap.size (Nat.le_refl _) hh hcw wS (fun _ _ h => h) S hcs) (hw _ (List.mem_of_getElem? (i := 4) rfl)) (hw _ (List.mem_of_getElem? (i := 3) rfl)) (by decide) (by decide)) (g := (mkF m 46 #[.val (.int p1), .val (.int p2), .val (.int (p2 &&& (3 : Int32))), .val (.int cc)] [(.int cc)])) rfl (by rw [hml]; rfl) (argsL := [(.int cc)]) (rest := []) (lenOf pd_at__I_Z rfl) rfl (by show 2 * 0 + _ ≤ _; exact Nat.le_of_eq rfl) (hb hby at_46) (fun _ _ => ⟨rfl, e0, (by decide : 0 + 2 ≤ _), (by decide : 0 + 68 ≤ _)⟩)
  dsimp only [Pt.U, Pt.locs, Pt.cells, Pt.slots] at X1 l1 y1 z1 st1 hQ1 S1 g1
  subst l1 y1 z1
  obtain ⟨rfl, N1q, s1⟩ := hQ1
  have N1 := Fr.app (Fr.nil Z.heap.size) N1q
  have hZ1 : Z.Warmed39 (Z.setVm T1.vm).vm := S1.1
  have hown1 : (Z.setVm T1.vm).vm.findClass "com/example/mapwright/mapwright/specification/IriIsEscapeCharacterPinLaw" = some m.cls := (S1.1.alike.findClass _ _).trans hown
  obtain ⟨_, _, ⟨T2, L2, k2, n2⟩, -, X2, ⟨Lc2, hQ2, l2, y2, z2⟩, st2⟩ := Jvm.LawKit.callS X1 hx (y := (⟨"com/example/mapwright/mapwright/specification/IriIsEscapeCharacterPinLaw", "expected", "(I)Z"⟩ : MethodName)) hown1 (mvT hZ1 (hw _ (List.mem_of_getElem? (i := 58) rfl))) (mvT hZ1 (hw _ (List.mem_of_getElem? (i := 59) rfl))) (mvT hZ1 (hw _ (List.mem_of_getElem? (i := 60) rfl))) (mvT hZ1 (hw _ (List.mem_of_getElem? (i := 61) rfl))) (by decide) (backOf (W := 1) (rmEX l Z a0 hw [] cc T1.heap Z.heap.size s1) hZ1 (hw _ (List.mem_of_getElem? (i := 61) rfl)) (hw _ (List.mem_of_getElem? (i := 60) rfl)) (by decide) (by decide)) (g := (mkF m 50 #[.val (.int p1), .val (.int p2), .val (.int (p2 &&& (3 : Int32))), .val (.int cc)] [(.int cc), (.int (own_esc cc))])) rfl (by rw [hml]; rfl) (argsL := [(.int cc)]) (rest := [(.int (own_esc cc))]) (lenOf pd_at__I_Z rfl) rfl (by show 2 * 0 + _ ≤ _; exact Nat.le_of_eq rfl) (hb hby at_50) (fun _ _ => ⟨rfl, rfl, (by decide : 2 + 0 ≤ _), (by decide : 68 + 0 ≤ _)⟩)
  dsimp only [Pt.U, Pt.locs, Pt.cells, Pt.slots] at X2 l2 y2 z2 st2 hQ2
  subst l2 y2 z2
  obtain ⟨rfl, N2q, e2⟩ := hQ2
  have N2 := Fr.app N1 N2q
  obtain ⟨fs, hr, hrun, hended, hEnd⟩ := X2.leaveW S1 (by rw [e2]; exact Nat.le_refl _) (v := some (.int (1 : Int32))) (fun h => by rw [Bd.returns] at h; cases h)
  refine ⟨_, _, pre0 _ ?_, hrun, hended, _, _, rfl, ⟨rfl, N2⟩, hEnd.1, hEnd.2.1, hEnd.2.2.1, hEnd.2.2.2.mono (by decide) (by decide)⟩
  show Steps p.tables e below (s₁.setTop (mkF m 0 #[.val (.int p1), .val (.int p2), .unset, .unset] [])) _
  refine XS.iloadN X0.here hx rfl (hb hby at_0) rfl ?_
  show Steps p.tables e below (s₁.setTop (mkF m 1 #[.val (.int p1), .val (.int p2), .unset, .unset] [(.int p2)])) _
  refine XS.iconst X0.here hx rfl (hb hby at_1) ?_
  show Steps p.tables e below (s₁.setTop (mkF m 2 #[.val (.int p1), .val (.int p2), .unset, .unset] [(.int (3 : Int32)), (.int p2)])) _
  refine XS.iand X0.here hx rfl (hb hby at_2) rfl ?_
  show Steps p.tables e below (s₁.setTop (mkF m 3 #[.val (.int p1), .val (.int p2), .unset, .unset] [(.int (p2 &&& (3 : Int32)))])) _
  refine XS.istoreN X0.here hx rfl (hb hby at_3) rfl (l' := #[.val (.int p1), .val (.int p2), .val (.int (p2 &&& (3 : Int32))), .unset]) rfl ?_
  show Steps p.tables e below (s₁.setTop (mkF m 4 #[.val (.int p1), .val (.int p2), .val (.int (p2 &&& (3 : Int32))), .unset] [])) _
  refine XS.iloadN X0.here hx rfl (hb hby at_4) rfl ?_
  show Steps p.tables e below (s₁.setTop (mkF m 5 #[.val (.int p1), .val (.int p2), .val (.int (p2 &&& (3 : Int32))), .unset] [(.int (p2 &&& (3 : Int32)))])) _
  have sg5 : ∀ target, Steps p.tables e below (s₁.setTop (mkF m 45 #[.val (.int p1), .val (.int p2), .val (.int (p2 &&& (3 : Int32))), .val (.int (if (p2 &&& (3 : Int32)) = (0 : Int32) then p1 else (if (p2 &&& (3 : Int32)) = (1 : Int32) then (p1 &&& (127 : Int32)) else (if (p2 &&& (3 : Int32)) = (2 : Int32) then (p1 &&& (255 : Int32)) else (p1 &&& (2097151 : Int32))))))] [])) target → Steps p.tables e below (s₁.setTop (mkF m 5 #[.val (.int p1), .val (.int p2), .val (.int (p2 &&& (3 : Int32))), .unset] [(.int (p2 &&& (3 : Int32)))])) target := by
    intro target kt
    rcases Classical.em ((p2 &&& (3 : Int32)) = (0 : Int32)) with hr5_0 | hr5_0
    · (try simp only [if_pos hr5_0] at kt)
      refine XS.ifNo X0.here hx rfl (hb hby at_5) rfl ((if0 _ _).trans (teq hr5_0).2) ?_
      show Steps p.tables e below (s₁.setTop (mkF m 8 #[.val (.int p1), .val (.int p2), .val (.int (p2 &&& (3 : Int32))), .unset] [])) _
      refine XS.iloadN X0.here hx rfl (hb hby at_8) rfl ?_
      show Steps p.tables e below (s₁.setTop (mkF m 9 #[.val (.int p1), .val (.int p2), .val (.int (p2 &&& (3 : Int32))), .unset] [(.int p1)])) _
      refine XS.istoreN X0.here hx rfl (hb hby at_9) rfl (l' := #[.val (.int p1), .val (.int p2), .val (.int (p2 &&& (3 : Int32))), .val (.int p1)]) rfl ?_
      show Steps p.tables e below (s₁.setTop (mkF m 10 #[.val (.int p1), .val (.int p2), .val (.int (p2 &&& (3 : Int32))), .val (.int p1)] [])) _
      refine XS.goto X0.here hx rfl (pc0 := 10) (pc' := 45) rfl (hb hby at_10) (by decide) (by decide) ?_
      show Steps p.tables e below (s₁.setTop (mkF m 45 #[.val (.int p1), .val (.int p2), .val (.int (p2 &&& (3 : Int32))), .val (.int p1)] [])) _
      exact kt
    · (try simp only [if_neg hr5_0] at kt)
      refine XS.ifYes X0.here hx rfl (pc0 := 5) (pc' := 13) rfl (hb hby at_5) rfl ((if0 _ _).trans (feq hr5_0).2) (by decide) (by decide) ?_
      show Steps p.tables e below (s₁.setTop (mkF m 13 #[.val (.int p1), .val (.int p2), .val (.int (p2 &&& (3 : Int32))), .unset] [])) _
      refine XS.iloadN X0.here hx rfl (hb hby at_13) rfl ?_
      show Steps p.tables e below (s₁.setTop (mkF m 14 #[.val (.int p1), .val (.int p2), .val (.int (p2 &&& (3 : Int32))), .unset] [(.int (p2 &&& (3 : Int32)))])) _
      refine XS.iconst X0.here hx rfl (hb hby at_14) ?_
      show Steps p.tables e below (s₁.setTop (mkF m 15 #[.val (.int p1), .val (.int p2), .val (.int (p2 &&& (3 : Int32))), .unset] [(.int (1 : Int32)), (.int (p2 &&& (3 : Int32)))])) _
      rcases Classical.em ((p2 &&& (3 : Int32)) = (1 : Int32)) with hr15_1 | hr15_1
      · (try simp only [if_pos hr15_1] at kt)
        refine XS.icmpNo X0.here hx rfl (hb hby at_15) rfl (teq hr15_1).2 ?_
        show Steps p.tables e below (s₁.setTop (mkF m 18 #[.val (.int p1), .val (.int p2), .val (.int (p2 &&& (3 : Int32))), .unset] [])) _
        refine XS.iloadN X0.here hx rfl (hb hby at_18) rfl ?_
        show Steps p.tables e below (s₁.setTop (mkF m 19 #[.val (.int p1), .val (.int p2), .val (.int (p2 &&& (3 : Int32))), .unset] [(.int p1)])) _
        refine XS.bipush X0.here hx rfl (hb hby at_19) ?_
        show Steps p.tables e below (s₁.setTop (mkF m 21 #[.val (.int p1), .val (.int p2), .val (.int (p2 &&& (3 : Int32))), .unset] [(.int (127 : Int32)), (.int p1)])) _
        refine XS.iand X0.here hx rfl (hb hby at_21) rfl ?_
        show Steps p.tables e below (s₁.setTop (mkF m 22 #[.val (.int p1), .val (.int p2), .val (.int (p2 &&& (3 : Int32))), .unset] [(.int (p1 &&& (127 : Int32)))])) _
        refine XS.istoreN X0.here hx rfl (hb hby at_22) rfl (l' := #[.val (.int p1), .val (.int p2), .val (.int (p2 &&& (3 : Int32))), .val (.int (p1 &&& (127 : Int32)))]) rfl ?_
        show Steps p.tables e below (s₁.setTop (mkF m 23 #[.val (.int p1), .val (.int p2), .val (.int (p2 &&& (3 : Int32))), .val (.int (p1 &&& (127 : Int32)))] [])) _
        refine XS.goto X0.here hx rfl (pc0 := 23) (pc' := 45) rfl (hb hby at_23) (by decide) (by decide) ?_
        show Steps p.tables e below (s₁.setTop (mkF m 45 #[.val (.int p1), .val (.int p2), .val (.int (p2 &&& (3 : Int32))), .val (.int (p1 &&& (127 : Int32)))] [])) _
        exact kt
      · (try simp only [if_neg hr15_1] at kt)
        refine XS.icmpYes X0.here hx rfl (pc0 := 15) (pc' := 26) rfl (hb hby at_15) rfl (feq hr15_1).2 (by decide) (by decide) ?_
        show Steps p.tables e below (s₁.setTop (mkF m 26 #[.val (.int p1), .val (.int p2), .val (.int (p2 &&& (3 : Int32))), .unset] [])) _
        refine XS.iloadN X0.here hx rfl (hb hby at_26) rfl ?_
        show Steps p.tables e below (s₁.setTop (mkF m 27 #[.val (.int p1), .val (.int p2), .val (.int (p2 &&& (3 : Int32))), .unset] [(.int (p2 &&& (3 : Int32)))])) _
        refine XS.iconst X0.here hx rfl (hb hby at_27) ?_
        show Steps p.tables e below (s₁.setTop (mkF m 28 #[.val (.int p1), .val (.int p2), .val (.int (p2 &&& (3 : Int32))), .unset] [(.int (2 : Int32)), (.int (p2 &&& (3 : Int32)))])) _
        rcases Classical.em ((p2 &&& (3 : Int32)) = (2 : Int32)) with hr28_2 | hr28_2
        · (try simp only [if_pos hr28_2] at kt)
          refine XS.icmpNo X0.here hx rfl (hb hby at_28) rfl (teq hr28_2).2 ?_
          show Steps p.tables e below (s₁.setTop (mkF m 31 #[.val (.int p1), .val (.int p2), .val (.int (p2 &&& (3 : Int32))), .unset] [])) _
          refine XS.iloadN X0.here hx rfl (hb hby at_31) rfl ?_
          show Steps p.tables e below (s₁.setTop (mkF m 32 #[.val (.int p1), .val (.int p2), .val (.int (p2 &&& (3 : Int32))), .unset] [(.int p1)])) _
          refine XS.sipush X0.here hx rfl (hb hby at_32) ?_
          show Steps p.tables e below (s₁.setTop (mkF m 35 #[.val (.int p1), .val (.int p2), .val (.int (p2 &&& (3 : Int32))), .unset] [(.int (255 : Int32)), (.int p1)])) _
          refine XS.iand X0.here hx rfl (hb hby at_35) rfl ?_
          show Steps p.tables e below (s₁.setTop (mkF m 36 #[.val (.int p1), .val (.int p2), .val (.int (p2 &&& (3 : Int32))), .unset] [(.int (p1 &&& (255 : Int32)))])) _
          refine XS.istoreN X0.here hx rfl (hb hby at_36) rfl (l' := #[.val (.int p1), .val (.int p2), .val (.int (p2 &&& (3 : Int32))), .val (.int (p1 &&& (255 : Int32)))]) rfl ?_
          show Steps p.tables e below (s₁.setTop (mkF m 37 #[.val (.int p1), .val (.int p2), .val (.int (p2 &&& (3 : Int32))), .val (.int (p1 &&& (255 : Int32)))] [])) _
          refine XS.goto X0.here hx rfl (pc0 := 37) (pc' := 45) rfl (hb hby at_37) (by decide) (by decide) ?_
          show Steps p.tables e below (s₁.setTop (mkF m 45 #[.val (.int p1), .val (.int p2), .val (.int (p2 &&& (3 : Int32))), .val (.int (p1 &&& (255 : Int32)))] [])) _
          exact kt
        · (try simp only [if_neg hr28_2] at kt)
          refine XS.icmpYes X0.here hx rfl (pc0 := 28) (pc' := 40) rfl (hb hby at_28) rfl (feq hr28_2).2 (by decide) (by decide) ?_
          show Steps p.tables e below (s₁.setTop (mkF m 40 #[.val (.int p1), .val (.int p2), .val (.int (p2 &&& (3 : Int32))), .unset] [])) _
          refine XS.iloadN X0.here hx rfl (hb hby at_40) rfl ?_
          show Steps p.tables e below (s₁.setTop (mkF m 41 #[.val (.int p1), .val (.int p2), .val (.int (p2 &&& (3 : Int32))), .unset] [(.int p1)])) _
          refine X0.ldcInt hx hown (mvT hZ (hw _ (List.mem_of_getElem? (i := 0) rfl))) (g := (mkF m 41 #[.val (.int p1), .val (.int p2), .val (.int (p2 &&& (3 : Int32))), .unset] [(.int p1)])) rfl (hb hby at_41) _ ?_
          show Steps p.tables e below (s₁.setTop (mkF m 43 #[.val (.int p1), .val (.int p2), .val (.int (p2 &&& (3 : Int32))), .unset] [(.int (2097151 : Int32)), (.int p1)])) _
          refine XS.iand X0.here hx rfl (hb hby at_43) rfl ?_
          show Steps p.tables e below (s₁.setTop (mkF m 44 #[.val (.int p1), .val (.int p2), .val (.int (p2 &&& (3 : Int32))), .unset] [(.int (p1 &&& (2097151 : Int32)))])) _
          refine XS.istoreN X0.here hx rfl (hb hby at_44) rfl (l' := #[.val (.int p1), .val (.int p2), .val (.int (p2 &&& (3 : Int32))), .val (.int (p1 &&& (2097151 : Int32)))]) rfl ?_
          show Steps p.tables e below (s₁.setTop (mkF m 45 #[.val (.int p1), .val (.int p2), .val (.int (p2 &&& (3 : Int32))), .val (.int (p1 &&& (2097151 : Int32)))] [])) _
          exact kt
  refine sg5 _ ?_
  show Steps p.tables e below (s₁.setTop (mkF m 45 #[.val (.int p1), .val (.int p2), .val (.int (p2 &&& (3 : Int32))), .val (.int (if (p2 &&& (3 : Int32)) = (0 : Int32) then p1 else (if (p2 &&& (3 : Int32)) = (1 : Int32) then (p1 &&& (127 : Int32)) else (if (p2 &&& (3 : Int32)) = (2 : Int32) then (p1 &&& (255 : Int32)) else (p1 &&& (2097151 : Int32))))))] [])) _
  rw [← h_cc]
  show Steps p.tables e below (s₁.setTop (mkF m 45 #[.val (.int p1), .val (.int p2), .val (.int (p2 &&& (3 : Int32))), .val (.int cc)] [])) _
  refine XS.iloadN X0.here hx rfl (hb hby at_45) rfl ?_
  show Steps p.tables e below (s₁.setTop (mkF m 46 #[.val (.int p1), .val (.int p2), .val (.int (p2 &&& (3 : Int32))), .val (.int cc)] [(.int cc)])) _
  refine st1.trans ?_
  show Steps p.tables e below (T1.setTop (mkF m 49 #[.val (.int p1), .val (.int p2), .val (.int (p2 &&& (3 : Int32))), .val (.int cc)] [(.int (own_esc cc))])) _
  refine XS.iloadN X1.here hx rfl (hb hby at_49) rfl ?_
  show Steps p.tables e below (T1.setTop (mkF m 50 #[.val (.int p1), .val (.int p2), .val (.int (p2 &&& (3 : Int32))), .val (.int cc)] [(.int cc), (.int (own_esc cc))])) _
  refine st2 _ ?_
  show Steps p.tables e below (T2.setTop (mkF m 53 #[.val (.int p1), .val (.int p2), .val (.int (p2 &&& (3 : Int32))), .val (.int cc)] [(.int (own_exp cc)), (.int (own_esc cc))])) _
  refine XS.icmpNo X2.here hx rfl (hb hby at_53) rfl (teq (own_law cc)).2 ?_
  show Steps p.tables e below (T2.setTop (mkF m 56 #[.val (.int p1), .val (.int p2), .val (.int (p2 &&& (3 : Int32))), .val (.int cc)] [])) _
  refine XS.iconst X2.here hx rfl (hb hby at_56) ?_
  show Steps p.tables e below (T2.setTop (mkF m 57 #[.val (.int p1), .val (.int p2), .val (.int (p2 &&& (3 : Int32))), .val (.int cc)] [(.int (1 : Int32))])) _
  refine XS.goto X2.here hx rfl (pc0 := 57) (pc' := 61) rfl (hb hby at_57) (by decide) (by decide) ?_
  show Steps p.tables e below (T2.setTop (mkF m 61 #[.val (.int p1), .val (.int p2), .val (.int (p2 &&& (3 : Int32))), .val (.int cc)] [(.int (1 : Int32))])) _
  exact retN X2 hx (t := .boolean) Bd.returns (by simp) (hb hby at_61) hr

set_option maxRecDepth 65536 in
set_option maxHeartbeats 40000000 in
theorem comes_1 {Post : Tables → Env → Array Value → State → Outcome → State → Prop} (hpost : ∀ tb e args s v u, (limb_1_1.after args s (.returned v) u = true ∧ limb_1_2.after args s (.returned v) u = true ∧ True) → ReturnedEndW s (.returned v) u (Jvm.fieldLocs frame_1_writes args s ++ Jvm.arrayLocs frame_1_arrays args s ++ Jvm.staticLocs frame_1_statics s) 8 1088 → Post tb e args s (.returned v) u) :
    ArmFor flags0 classFile x code maxLocals ret World_1 tables_1 room_1 Calls_1 rest_1 Pre_1 Post := by
  intro l hfl _ _ p e ha hc hk s m args below hf hA hF happ hP
  obtain ⟨hcalls, hrest, hpre⟩ := hP
  obtain ⟨-, -, -, hnamed, -, -, -, hat⟩ := (Spec.applies_iff hf).mp happ
  obtain ⟨hg, hn⟩ := and_e (Cond.before_iff.mp (show (Jvm.Cond.and given_1 narrow_1).before args s = true from hpre))
  obtain ⟨gc, g0⟩ := and_e hg
  obtain ⟨ga0, g1⟩ := and_e g0
  obtain ⟨w0, w1, rfl⟩ : ∃ w0 w1 : Value, args = #[w0, w1] := by
    have hs : args.size = 2 := by simpa [Cond.value, given_1] using gc
    obtain ⟨L⟩ := args
    match L, hs with
    | [w0, w1], _ => exact ⟨w0, w1, rfl⟩
  have hw := fun d (hd : d ∈ tables_1) => atoms_spec (ws := Jvm.Cond.code x code maxLocals ret :: tables_1) hat d (List.mem_cons_of_mem _ hd)
  have hfit : Fit s := fun {y c} hc i hi => by
    obtain ⟨ha, rfl⟩ := Array.getElem?_eq_some_iff.mp hc
    have q := List.all_eq_true.mp ((Array.all_eq_true_iff_forall_mem.mp hF) _ (Array.getElem_mem ha)) i (List.mem_range.mpr hi)
    simpa [Array.getElem?_eq_getElem hi] using q
  obtain ⟨i0, ei0⟩ := is_v ga0
  obtain rfl : w0 = (.int i0) := Option.some.inj ei0
  obtain ⟨i1, ei1⟩ := is_v g1
  obtain rfl : w1 = (.int i1) := Option.some.inj ei1
  obtain ⟨hsets, hown0⟩ := atoms_of _ (rest_1_c_eq ▸ (show rest_1_c.before _ s = true from hrest))
  have n3 := not_v (Cond.before_iff.mp (hsets _ (List.mem_of_getElem? (i := 2) rfl)))
  obtain ⟨cs, ecs⟩ := is_v (Cond.before_iff.mp (hsets _ (List.mem_of_getElem? (i := 1) rfl)))
  have S8 : Sta s s.heap "java/lang/String" "COMPACT_STRINGS" "Z" (.int cs) := Sta.start ecs (Or.inl (hsets _ (List.mem_of_getElem? (i := 0) rfl)))
  have c9 : ¬ (cs = (0 : Int32)) := gotF (Cond.eq_ints ecs (Term.int_eval (0))) n3
  have wS : ∀ a ∈ Bundle.stringAtoms, a.before #[Value.int i0, Value.int i1] s = true := fun a ha => by
    simp only [Bundle.stringAtoms, List.mem_cons, List.not_mem_nil, or_false] at ha
    rcases ha with rfl | rfl | rfl | rfl | rfl | rfl | rfl
    · exact hw _ (List.mem_of_getElem? (i := 6) rfl)
    · exact hw _ (List.mem_of_getElem? (i := 7) rfl)
    · exact hw _ (List.mem_of_getElem? (i := 8) rfl)
    · exact hw _ (List.mem_of_getElem? (i := 9) rfl)
    · exact hw _ (List.mem_of_getElem? (i := 10) rfl)
    · exact hw _ (List.mem_of_getElem? (i := 11) rfl)
    · exact hw _ (List.mem_of_getElem? (i := 12) rfl)
  obtain ⟨n, o, h1, h2, h3, _, L, rfl, ⟨rfl, N⟩, hq⟩ := rm0 l s _ hw tables_1 i0 i1 cs (hcalls.1 ("com/example/mapwright/mapwright/specification/Iri", 17) (List.mem_singleton.mpr rfl)) (hsets _ (List.mem_of_getElem? (i := 2) rfl)) wS S8 c9 p e ha hc hk s m _ below hf ((Spec.applies_iff_loose hf).mp happ).1 ⟨rfl, rfl⟩ trivial
  refine ⟨n, _, h1, h2, h3, hpost _ _ _ _ _ _ ⟨Cond.after_iff.mpr rfl, Cond.after_iff.mpr (eq_i res_at (Term.int_eval (1)) rfl), trivial⟩ ⟨hq.1, hq.2.1, hq.2.2.1, (hq.2.2.2.sift fun y hy => Or.inr (N y hy)).mono (by decide) (by decide)⟩⟩
theorem main_1_1 : Claimed_1_1 := comes_1 fun _ _ _ _ _ _ h hF => ⟨h.1, hF⟩
theorem main_1_2 : Claimed_1_2 := comes_1 fun _ _ _ _ _ _ h hF => ⟨h.2.1, hF⟩

end Jvm.Pilot.@@N@@
namespace Jvm.Pilot.@@N@@
open Jvm Jvm.ClassFile Sem Op Lib Jvm.Free Jvm.Stand Jvm.Pilot.@@N@@.Jvm.D
/-! MADE BY PROGRAM (witnessworld.py) out of the Statement's table words and the real class files: 18 classes; the members and pool entries that the words name. The judged class is class 1, her method 2. -/
namespace start1
open Jvm.ClassFile
def u (s : String) : CpInfo := .utf8 (stringToUtf16 s)
/-- a pool by its gaps: so many unusable entries, then the entry; so many at the end -/
def gap : Nat → List CpInfo → List CpInfo
  | 0, r => r
  | n + 1, r => .unusable :: gap n r
def poolList (es : List (Nat × CpInfo)) (last : Nat) : List CpInfo := es.foldr (fun e r => gap e.1 (e.2 :: r)) (gap last [])
def pool (es : List (Nat × CpInfo)) (last : Nat) : Array CpInfo := ⟨poolList es last⟩
def fileOf (pool : Array CpInfo) (this : Nat) (attrs : Array Attribute := #[]) (ms : Array MethodInfo := #[]) (fl : Nat := 33) (sup : Nat := 0) (ifs : Array Nat := #[]) (fds : Array FieldInfo := #[]) : ClassFile where
  minorVersion := 0
  majorVersion := 65
  constantPool := pool
  accessFlags := fl
  thisClass := this
  superClass := sup
  interfaces := ifs
  fields := fds
  methods := ms
  attributes := attrs
def plain (name : String) (sup : Option ClassId) : Class where
  name := name
  kind := .ordinary
  loader := none
  accessFlags := 33
  super := sup
  interfaces := #[]
  cf := none
  fields := #[]
  methods := #[]
  instanceTypes := #[]
  staticTypes := #[]
  resolved := #[]
  callSites := []
  init := .initialized
  statics := none
  mirror := none

def pool0 : Array CpInfo := pool [(5, u "<init>"), (0, u "()V"), (1, .class_ 10), (1, u "java/lang/Object")] 113

def k0m0 : Method := { name := "<init>", desc := "()V", sig := { parameters := [], returnType := none }, accessFlags := 1, code := none }
/-- java/lang/Object -/
def k0 : Class := { plain "java/lang/Object" none with
  accessFlags := 33
  interfaces := #[]
  cf := some (fileOf pool0 8 #[] #[{ accessFlags := 1, nameIndex := 5, descriptorIndex := 6, attributes := #[] }] 33 0 #[] #[])
  fields := #[]
  methods := #[k0m0]
  instanceTypes := #[]
  staticTypes := #[]
  resolved := Array.replicate 124 none
  statics := none }

def pool1 : Array CpInfo := pool [(2, .class_ 4), (1, u "java/lang/Object"), (0, u "<init>"), (0, u "()V"), (0, .integer 2097151), (0, .methodref 9 10), (0, .class_ 11), (0, .nameAndType 12 13), (0, u "com/example/mapwright/mapwright/specification/Iri"), (0, u "isEscapeCharacter"), (0, u "(I)Z"), (0, .methodref 15 16), (0, .class_ 17), (0, .nameAndType 18 13), (0, u "com/example/mapwright/mapwright/specification/IriIsEscapeCharacterPinLaw"), (0, u "expected"), (3, u "law"), (0, u "(II)Z")] 2

def k1m0 : Method := { name := "<init>", desc := "()V", sig := { parameters := [], returnType := none }, accessFlags := 2, code := none }
def k1c1 : Code := { maxStack := 2, maxLocals := 1, code := method_2_code, exceptionTable := #[], attributes := #[] }
def k1m1 : Method := { name := "expected", desc := "(I)Z", sig := { parameters := [.int], returnType := some .boolean }, accessFlags := 10, code := some k1c1 }
def k1c2 : Code := { maxStack := 2, maxLocals := 4, code := code, exceptionTable := #[], attributes := #[] }
def k1m2 : Method := { name := "law", desc := "(II)Z", sig := { parameters := [.int, .int], returnType := some .boolean }, accessFlags := 9, code := some k1c2 }
/-- com/example/mapwright/mapwright/specification/IriIsEscapeCharacterPinLaw -/
def k1 : Class := { plain "com/example/mapwright/mapwright/specification/IriIsEscapeCharacterPinLaw" (some 0) with
  accessFlags := 49
  interfaces := #[]
  cf := some (fileOf pool1 15 #[] #[{ accessFlags := 2, nameIndex := 5, descriptorIndex := 6, attributes := #[] }, { accessFlags := 10, nameIndex := 18, descriptorIndex := 13, attributes := #[] }, { accessFlags := 9, nameIndex := 22, descriptorIndex := 23, attributes := #[] }] 49 2 #[] #[])
  fields := #[]
  methods := #[k1m0, k1m1, k1m2]
  instanceTypes := #[]
  staticTypes := #[]
  resolved := Array.replicate 26 none
  statics := none }

def pool2 : Array CpInfo := pool [(2, .class_ 4), (1, u "java/lang/Object"), (0, u "<init>"), (0, u "()V"), (1, .class_ 10), (1, u "com/example/mapwright/mapwright/specification/Iri"), (0, u "UNRESERVED"), (0, u "Ljava/util/List;"), (4, .string 18), (0, u "0123456789ABCDEF"), (0, .methodref 20 21), (0, .class_ 22), (0, .nameAndType 23 24), (0, u "java/lang/String"), (0, u "indexOf"), (0, u "(I)I"), (13, u "(I)Z"), (71, u "QUERY_OR_FRAGMENT"), (0, u "Lcom/example/mapwright/mapwright/specification/Iri$AsciiSet;"), (12, u "PATH"), (2, u "USER_INFORMATION"), (4, u "IP_LITERAL"), (0, u "Ljava/util/regex/Pattern;"), (18, u "HOST"), (5, .class_ 160), (1, u "com/example/mapwright/mapwright/specification/Iri$AsciiSet"), (3, u "PRIVATE"), (122, u "SCHEME"), (0, u "Ljava/lang/String;"), (3, u "SUB_DELIMITERS"), (0, u "HEX_DIGITS"), (2, u "isEscapeCharacter")] 50

def k2m0 : Method := { name := "<init>", desc := "()V", sig := { parameters := [], returnType := none }, accessFlags := 2, code := none }
def k2c1 : Code := { maxStack := 2, maxLocals := 1, code := prog_4_method_3_code, exceptionTable := #[], attributes := #[] }
def k2m1 : Method := { name := "isEscapeCharacter", desc := "(I)Z", sig := { parameters := [.int], returnType := some .boolean }, accessFlags := 9, code := some k2c1 }
/-- com/example/mapwright/mapwright/specification/Iri -/
def k2 : Class := { plain "com/example/mapwright/mapwright/specification/Iri" (some 0) with
  accessFlags := 49
  interfaces := #[]
  cf := some (fileOf pool2 8 #[.nestMembers #[158]] #[{ accessFlags := 2, nameIndex := 5, descriptorIndex := 6, attributes := #[] }, { accessFlags := 9, nameIndex := 296, descriptorIndex := 38, attributes := #[] }] 49 2 #[] #[{ accessFlags := 25, nameIndex := 11, descriptorIndex := 12, attributes := #[] }, { accessFlags := 25, nameIndex := 287, descriptorIndex := 288, attributes := #[] }, { accessFlags := 26, nameIndex := 164, descriptorIndex := 12, attributes := #[] }, { accessFlags := 26, nameIndex := 292, descriptorIndex := 288, attributes := #[] }, { accessFlags := 26, nameIndex := 152, descriptorIndex := 111, attributes := #[] }, { accessFlags := 26, nameIndex := 127, descriptorIndex := 111, attributes := #[] }, { accessFlags := 26, nameIndex := 124, descriptorIndex := 111, attributes := #[] }, { accessFlags := 26, nameIndex := 110, descriptorIndex := 111, attributes := #[] }, { accessFlags := 26, nameIndex := 132, descriptorIndex := 133, attributes := #[] }, { accessFlags := 26, nameIndex := 293, descriptorIndex := 288, attributes := #[] }])
  fields := #[{ name := "UNRESERVED", type := (.object "java/util/List"), accessFlags := 25, slot := 0, constantValue := 0 }, { name := "SCHEME", type := (.object "java/lang/String"), accessFlags := 25, slot := 1, constantValue := 0 }, { name := "PRIVATE", type := (.object "java/util/List"), accessFlags := 26, slot := 2, constantValue := 0 }, { name := "SUB_DELIMITERS", type := (.object "java/lang/String"), accessFlags := 26, slot := 3, constantValue := 0 }, { name := "HOST", type := (.object "com/example/mapwright/mapwright/specification/Iri$AsciiSet"), accessFlags := 26, slot := 4, constantValue := 0 }, { name := "USER_INFORMATION", type := (.object "com/example/mapwright/mapwright/specification/Iri$AsciiSet"), accessFlags := 26, slot := 5, constantValue := 0 }, { name := "PATH", type := (.object "com/example/mapwright/mapwright/specification/Iri$AsciiSet"), accessFlags := 26, slot := 6, constantValue := 0 }, { name := "QUERY_OR_FRAGMENT", type := (.object "com/example/mapwright/mapwright/specification/Iri$AsciiSet"), accessFlags := 26, slot := 7, constantValue := 0 }, { name := "IP_LITERAL", type := (.object "java/util/regex/Pattern"), accessFlags := 26, slot := 8, constantValue := 0 }, { name := "HEX_DIGITS", type := (.object "java/lang/String"), accessFlags := 26, slot := 9, constantValue := 0 }]
  methods := #[k2m0, k2m1]
  instanceTypes := #[]
  staticTypes := #[(.object "java/util/List"), (.object "java/lang/String"), (.object "java/util/List"), (.object "java/lang/String"), (.object "com/example/mapwright/mapwright/specification/Iri$AsciiSet"), (.object "com/example/mapwright/mapwright/specification/Iri$AsciiSet"), (.object "com/example/mapwright/mapwright/specification/Iri$AsciiSet"), (.object "com/example/mapwright/mapwright/specification/Iri$AsciiSet"), (.object "java/util/regex/Pattern"), (.object "java/lang/String")]
  resolved := Array.replicate 347 none
  statics := none }

def pool3 : Array CpInfo := pool [(1, .class_ 2), (0, u "java/io/Serializable"), (0, .class_ 4), (0, u "java/lang/Object")] 2

/-- java/io/Serializable -/
def k3 : Class := { plain "java/io/Serializable" (some 0) with
  accessFlags := 1537
  interfaces := #[]
  cf := some (fileOf pool3 1 #[] #[] 1537 3 #[] #[])
  fields := #[]
  methods := #[]
  instanceTypes := #[]
  staticTypes := #[]
  resolved := Array.replicate 7 none
  statics := none }

def pool4 : Array CpInfo := pool [(1, .class_ 2), (0, u "java/lang/Comparable"), (0, .class_ 4), (0, u "java/lang/Object")] 7

/-- java/lang/Comparable -/
def k4 : Class := { plain "java/lang/Comparable" (some 0) with
  accessFlags := 1537
  interfaces := #[]
  cf := some (fileOf pool4 1 #[] #[] 1537 3 #[] #[])
  fields := #[]
  methods := #[]
  instanceTypes := #[]
  staticTypes := #[]
  resolved := Array.replicate 12 none
  statics := none }

def pool5 : Array CpInfo := pool [(2, .class_ 4), (1, u "java/lang/CharSequence"), (42, .class_ 48), (0, u "java/lang/CharSequence$1CodePointIterator"), (10, .class_ 60), (0, u "java/lang/CharSequence$1CharIterator"), (5, .class_ 67), (0, u "java/lang/Object")] 63

/-- java/lang/CharSequence -/
def k5 : Class := { plain "java/lang/CharSequence" (some 0) with
  accessFlags := 1537
  interfaces := #[]
  cf := some (fileOf pool5 2 #[.nestMembers #[47, 59]] #[] 1537 66 #[] #[])
  fields := #[]
  methods := #[]
  instanceTypes := #[]
  staticTypes := #[]
  resolved := Array.replicate 131 none
  statics := none }

def pool6 : Array CpInfo := pool [(1, .class_ 2), (0, u "java/lang/constant/Constable"), (0, .class_ 4), (0, u "java/lang/Object")] 6

/-- java/lang/constant/Constable -/
def k6 : Class := { plain "java/lang/constant/Constable" (some 0) with
  accessFlags := 1537
  interfaces := #[]
  cf := some (fileOf pool6 1 #[] #[] 1537 3 #[] #[])
  fields := #[]
  methods := #[]
  instanceTypes := #[]
  staticTypes := #[]
  resolved := Array.replicate 11 none
  statics := none }

def pool7 : Array CpInfo := pool [(1, .class_ 2), (0, u "java/lang/constant/ConstantDesc"), (0, .class_ 4), (0, u "java/lang/Object")] 32

/-- java/lang/constant/ConstantDesc -/
def k7 : Class := { plain "java/lang/constant/ConstantDesc" (some 0) with
  accessFlags := 1537
  interfaces := #[]
  cf := some (fileOf pool7 1 #[] #[] 1537 3 #[] #[])
  fields := #[]
  methods := #[]
  instanceTypes := #[]
  staticTypes := #[]
  resolved := Array.replicate 37 none
  statics := none }

def pool8 : Array CpInfo := pool [(2, .class_ 4), (1, u "java/lang/Object"), (0, u "<init>"), (0, u "()V"), (2, .fieldref 10 11), (0, .class_ 12), (0, .nameAndType 13 14), (0, u "java/lang/String"), (0, u "value"), (0, u "[B"), (0, .fieldref 10 16), (0, .nameAndType 17 18), (0, u "coder"), (0, u "B"), (2, u "hash"), (0, u "I"), (2, u "hashIsZero"), (0, u "Z"), (11, .fieldref 10 39), (0, .nameAndType 40 26), (0, u "COMPACT_STRINGS"), (66, .class_ 109), (1, u "java/lang/StringLatin1"), (32, u "()Z"), (191, u "()I"), (0, .methodref 10 336), (0, .nameAndType 17 337), (0, u "()B"), (154, .methodref 10 493), (0, .nameAndType 494 142), (0, u "isLatin1"), (10, .methodref 10 506), (0, .nameAndType 507 334), (0, u "length"), (67, .class_ 576), (0, u "java/lang/CharSequence"), (22, u "CASE_INSENSITIVE_ORDER"), (0, u "Ljava/util/Comparator;"), (32, .methodref 10 634), (0, .nameAndType 635 636), (0, u "indexOf"), (0, u "(II)I"), (0, .methodref 107 638), (0, .nameAndType 635 639), (0, u "([BIII)I"), (125, u "(I)I"), (335, u "serialPersistentFields"), (0, u "[Ljava/io/ObjectStreamField;"), (0, .class_ 1104), (0, u "java/lang/String$CaseInsensitiveComparator"), (1, .class_ 1107), (0, u "java/io/Serializable"), (0, .class_ 1109), (0, u "java/lang/Comparable"), (0, .class_ 1111), (0, u "java/lang/constant/Constable"), (0, .class_ 1113), (0, u "java/lang/constant/ConstantDesc"), (2, u "serialVersionUID"), (0, u "J"), (3, u "REPL"), (0, u "C"), (2, u "LATIN1"), (1, u "UTF16")] 323

def k8m0 : Method := { name := "<init>", desc := "()V", sig := { parameters := [], returnType := none }, accessFlags := 1, code := none }
def k8c1 : Code := { maxStack := 2, maxLocals := 1, code := jdk_42_method_54_code, exceptionTable := #[], attributes := #[] }
def k8m1 : Method := { name := "length", desc := "()I", sig := { parameters := [], returnType := some .int }, accessFlags := 1, code := some k8c1 }
def k8c2 : Code := { maxStack := 3, maxLocals := 2, code := jdk_42_method_79_code, exceptionTable := #[], attributes := #[] }
def k8m2 : Method := { name := "indexOf", desc := "(I)I", sig := { parameters := [.int], returnType := some .int }, accessFlags := 1, code := some k8c2 }
def k8c3 : Code := { maxStack := 4, maxLocals := 3, code := jdk_42_method_80_code, exceptionTable := #[], attributes := #[] }
def k8m3 : Method := { name := "indexOf", desc := "(II)I", sig := { parameters := [.int, .int], returnType := some .int }, accessFlags := 1, code := some k8c3 }
def k8c4 : Code := { maxStack := 1, maxLocals := 1, code := jdk_42_method_152_code, exceptionTable := #[], attributes := #[] }
def k8m4 : Method := { name := "coder", desc := "()B", sig := { parameters := [], returnType := some .byte }, accessFlags := 0, code := some k8c4 }
def k8c5 : Code := { maxStack := 1, maxLocals := 1, code := jdk_42_method_154_code, exceptionTable := #[], attributes := #[] }
def k8m5 : Method := { name := "isLatin1", desc := "()Z", sig := { parameters := [], returnType := some .boolean }, accessFlags := 0, code := some k8c5 }
/-- java/lang/String -/
def k8 : Class := { plain "java/lang/String" (some 0) with
  accessFlags := 49
  interfaces := #[3, 4, 5, 6, 7]
  cf := some (fileOf pool8 10 #[.nestMembers #[1103]] #[{ accessFlags := 1, nameIndex := 5, descriptorIndex := 6, attributes := #[] }, { accessFlags := 1, nameIndex := 507, descriptorIndex := 334, attributes := #[] }, { accessFlags := 1, nameIndex := 635, descriptorIndex := 765, attributes := #[] }, { accessFlags := 1, nameIndex := 635, descriptorIndex := 636, attributes := #[] }, { accessFlags := 0, nameIndex := 17, descriptorIndex := 337, attributes := #[] }, { accessFlags := 0, nameIndex := 494, descriptorIndex := 142, attributes := #[] }] 49 2 #[1106, 1108, 575, 1110, 1112] #[{ accessFlags := 18, nameIndex := 13, descriptorIndex := 14, attributes := #[] }, { accessFlags := 18, nameIndex := 17, descriptorIndex := 18, attributes := #[] }, { accessFlags := 2, nameIndex := 21, descriptorIndex := 22, attributes := #[] }, { accessFlags := 2, nameIndex := 25, descriptorIndex := 26, attributes := #[] }, { accessFlags := 26, nameIndex := 1116, descriptorIndex := 1117, attributes := #[] }, { accessFlags := 24, nameIndex := 40, descriptorIndex := 26, attributes := #[] }, { accessFlags := 26, nameIndex := 1101, descriptorIndex := 1102, attributes := #[] }, { accessFlags := 26, nameIndex := 1121, descriptorIndex := 1122, attributes := #[] }, { accessFlags := 25, nameIndex := 599, descriptorIndex := 600, attributes := #[] }, { accessFlags := 24, nameIndex := 1125, descriptorIndex := 18, attributes := #[] }, { accessFlags := 24, nameIndex := 1127, descriptorIndex := 18, attributes := #[] }])
  fields := #[{ name := "value", type := (.array .byte), accessFlags := 18, slot := 0, constantValue := 0 }, { name := "coder", type := .byte, accessFlags := 18, slot := 1, constantValue := 0 }, { name := "hash", type := .int, accessFlags := 2, slot := 2, constantValue := 0 }, { name := "hashIsZero", type := .boolean, accessFlags := 2, slot := 3, constantValue := 0 }, { name := "serialVersionUID", type := .long, accessFlags := 26, slot := 0, constantValue := 0 }, { name := "COMPACT_STRINGS", type := .boolean, accessFlags := 24, slot := 1, constantValue := 0 }, { name := "serialPersistentFields", type := (.array (.object "java/io/ObjectStreamField")), accessFlags := 26, slot := 2, constantValue := 0 }, { name := "REPL", type := .char, accessFlags := 26, slot := 3, constantValue := 0 }, { name := "CASE_INSENSITIVE_ORDER", type := (.object "java/util/Comparator"), accessFlags := 25, slot := 4, constantValue := 0 }, { name := "LATIN1", type := .byte, accessFlags := 24, slot := 5, constantValue := 0 }, { name := "UTF16", type := .byte, accessFlags := 24, slot := 6, constantValue := 0 }]
  methods := #[k8m0, k8m1, k8m2, k8m3, k8m4, k8m5]
  instanceTypes := #[(.array .byte), .byte, .int, .boolean]
  staticTypes := #[.long, .boolean, (.array (.object "java/io/ObjectStreamField")), .char, (.object "java/util/Comparator"), .byte, .byte]
  resolved := Array.replicate 1451 none
  statics := some 0 }

def pool9 : Array CpInfo := pool [(4, .class_ 6), (1, u "java/lang/Object"), (0, u "<init>"), (0, u "()V"), (5, .class_ 16), (1, u "java/lang/StringLatin1"), (21, .methodref 39 40), (0, .class_ 41), (0, .nameAndType 42 43), (0, u "java/lang/Math"), (0, u "min"), (0, u "(II)I"), (44, .methodref 14 89), (0, .nameAndType 90 91), (0, u "canEncode"), (0, u "(I)Z"), (0, .methodref 39 93), (0, .nameAndType 94 43), (0, u "max"), (0, .methodref 14 96), (0, .nameAndType 97 98), (0, u "indexOfChar"), (0, u "([BIII)I"), (2, u "indexOf"), (19, u "$assertionsDisabled"), (0, u "Z"), (98, .class_ 223), (1, u "java/lang/StringLatin1$LinesSpliterator"), (166, .class_ 391), (0, u "java/lang/StringLatin1$CharsSpliterator")] 3

def k9m0 : Method := { name := "<init>", desc := "()V", sig := { parameters := [], returnType := none }, accessFlags := 0, code := none }
def k9c1 : Code := { maxStack := 2, maxLocals := 1, code := jdk_43_method_4_code, exceptionTable := #[], attributes := #[] }
def k9m1 : Method := { name := "canEncode", desc := "(I)Z", sig := { parameters := [.int], returnType := some .boolean }, accessFlags := 9, code := some k9c1 }
def k9c2 : Code := { maxStack := 4, maxLocals := 4, code := jdk_43_method_22_code, exceptionTable := #[], attributes := #[] }
def k9m2 : Method := { name := "indexOf", desc := "([BIII)I", sig := { parameters := [(.array .byte), .int, .int, .int], returnType := some .int }, accessFlags := 9, code := some k9c2 }
def k9c3 : Code := { maxStack := 2, maxLocals := 6, code := jdk_43_method_23_code, exceptionTable := #[], attributes := #[] }
def k9m3 : Method := { name := "indexOfChar", desc := "([BIII)I", sig := { parameters := [(.array .byte), .int, .int, .int], returnType := some .int }, accessFlags := 10, code := some k9c3 }
/-- java/lang/StringLatin1 -/
def k9 : Class := { plain "java/lang/StringLatin1" (some 0) with
  accessFlags := 48
  interfaces := #[]
  cf := some (fileOf pool9 14 #[.nestMembers #[390, 221]] #[{ accessFlags := 0, nameIndex := 7, descriptorIndex := 8, attributes := #[] }, { accessFlags := 9, nameIndex := 90, descriptorIndex := 91, attributes := #[] }, { accessFlags := 9, nameIndex := 101, descriptorIndex := 98, attributes := #[] }, { accessFlags := 10, nameIndex := 97, descriptorIndex := 98, attributes := #[] }] 48 4 #[] #[{ accessFlags := 4120, nameIndex := 121, descriptorIndex := 122, attributes := #[] }])
  fields := #[{ name := "$assertionsDisabled", type := .boolean, accessFlags := 4120, slot := 0, constantValue := 0 }]
  methods := #[k9m0, k9m1, k9m2, k9m3]
  instanceTypes := #[]
  staticTypes := #[.boolean]
  resolved := Array.replicate 395 none
  statics := none }

def pool10 : Array CpInfo := pool [(1, .class_ 2), (0, u "java/lang/Math"), (1, .class_ 6), (1, u "java/lang/Object"), (0, u "<init>"), (0, u "()V"), (89, .class_ 100), (1, u "java/lang/Math$RandomNumberGeneratorHolder"), (71, u "negativeZeroFloatBits"), (0, u "J"), (2, u "negativeZeroDoubleBits"), (21, u "max"), (2, u "min"), (43, u "$assertionsDisabled"), (0, u "Z"), (88, u "(II)I"), (2, u "twoToTheDoubleScaleDown"), (0, u "D"), (4, u "twoToTheDoubleScaleUp"), (9, u "E"), (3, u "PI"), (2, u "TAU"), (2, u "DEGREES_TO_RADIANS"), (0, u "RADIANS_TO_DEGREES")] 94

def k10m0 : Method := { name := "<init>", desc := "()V", sig := { parameters := [], returnType := none }, accessFlags := 2, code := none }
def k10c1 : Code := { maxStack := 2, maxLocals := 2, code := jdk_29_method_65_code, exceptionTable := #[], attributes := #[] }
def k10m1 : Method := { name := "max", desc := "(II)I", sig := { parameters := [.int, .int], returnType := some .int }, accessFlags := 9, code := some k10c1 }
def k10c2 : Code := { maxStack := 2, maxLocals := 2, code := jdk_29_method_69_code, exceptionTable := #[], attributes := #[] }
def k10m2 : Method := { name := "min", desc := "(II)I", sig := { parameters := [.int, .int], returnType := some .int }, accessFlags := 9, code := some k10c2 }
/-- java/lang/Math -/
def k10 : Class := { plain "java/lang/Math" (some 0) with
  accessFlags := 49
  interfaces := #[]
  cf := some (fileOf pool10 1 #[.nestMembers #[98]] #[{ accessFlags := 2, nameIndex := 7, descriptorIndex := 8, attributes := #[] }, { accessFlags := 9, nameIndex := 198, descriptorIndex := 335, attributes := #[] }, { accessFlags := 9, nameIndex := 201, descriptorIndex := 335, attributes := #[] }] 49 4 #[] #[{ accessFlags := 25, nameIndex := 354, descriptorIndex := 339, attributes := #[] }, { accessFlags := 25, nameIndex := 358, descriptorIndex := 339, attributes := #[] }, { accessFlags := 25, nameIndex := 361, descriptorIndex := 339, attributes := #[] }, { accessFlags := 26, nameIndex := 364, descriptorIndex := 339, attributes := #[] }, { accessFlags := 26, nameIndex := 365, descriptorIndex := 339, attributes := #[] }, { accessFlags := 26, nameIndex := 172, descriptorIndex := 173, attributes := #[] }, { accessFlags := 26, nameIndex := 176, descriptorIndex := 173, attributes := #[] }, { accessFlags := 8, nameIndex := 344, descriptorIndex := 339, attributes := #[] }, { accessFlags := 8, nameIndex := 338, descriptorIndex := 339, attributes := #[] }, { accessFlags := 4120, nameIndex := 245, descriptorIndex := 246, attributes := #[] }])
  fields := #[{ name := "E", type := .double, accessFlags := 25, slot := 0, constantValue := 0 }, { name := "PI", type := .double, accessFlags := 25, slot := 1, constantValue := 0 }, { name := "TAU", type := .double, accessFlags := 25, slot := 2, constantValue := 0 }, { name := "DEGREES_TO_RADIANS", type := .double, accessFlags := 26, slot := 3, constantValue := 0 }, { name := "RADIANS_TO_DEGREES", type := .double, accessFlags := 26, slot := 4, constantValue := 0 }, { name := "negativeZeroFloatBits", type := .long, accessFlags := 26, slot := 5, constantValue := 0 }, { name := "negativeZeroDoubleBits", type := .long, accessFlags := 26, slot := 6, constantValue := 0 }, { name := "twoToTheDoubleScaleUp", type := .double, accessFlags := 8, slot := 7, constantValue := 0 }, { name := "twoToTheDoubleScaleDown", type := .double, accessFlags := 8, slot := 8, constantValue := 0 }, { name := "$assertionsDisabled", type := .boolean, accessFlags := 4120, slot := 9, constantValue := 0 }]
  methods := #[k10m0, k10m1, k10m2]
  instanceTypes := #[]
  staticTypes := #[.double, .double, .double, .double, .double, .long, .long, .double, .double, .boolean]
  resolved := Array.replicate 460 none
  statics := none }

def pool11 : Array CpInfo := pool [(2, .class_ 4), (1, u "java/lang/Object"), (0, u "<init>"), (0, u "()V"), (17, .class_ 26), (1, u "jdk/internal/util/Preconditions"), (28, .class_ 56), (0, u "jdk/internal/util/Preconditions$4"), (57, .class_ 115), (0, u "jdk/internal/util/Preconditions$1"), (7, u "SIOOBE_FORMATTER"), (0, u "Ljava/util/function/BiFunction;"), (0, .class_ 126), (0, u "jdk/internal/util/Preconditions$2"), (3, u "AIOOBE_FORMATTER"), (0, .class_ 132), (0, u "jdk/internal/util/Preconditions$3"), (3, u "IOOBE_FORMATTER")] 57

def k11m0 : Method := { name := "<init>", desc := "()V", sig := { parameters := [], returnType := none }, accessFlags := 1, code := none }
/-- jdk/internal/util/Preconditions -/
def k11 : Class := { plain "jdk/internal/util/Preconditions" (some 0) with
  accessFlags := 33
  interfaces := #[]
  cf := some (fileOf pool11 24 #[.nestMembers #[55, 131, 125, 114]] #[{ accessFlags := 1, nameIndex := 5, descriptorIndex := 6, attributes := #[] }] 33 2 #[] #[{ accessFlags := 25, nameIndex := 123, descriptorIndex := 124, attributes := #[] }, { accessFlags := 25, nameIndex := 130, descriptorIndex := 124, attributes := #[] }, { accessFlags := 25, nameIndex := 136, descriptorIndex := 124, attributes := #[] }])
  fields := #[{ name := "SIOOBE_FORMATTER", type := (.object "java/util/function/BiFunction"), accessFlags := 25, slot := 0, constantValue := 0 }, { name := "AIOOBE_FORMATTER", type := (.object "java/util/function/BiFunction"), accessFlags := 25, slot := 1, constantValue := 0 }, { name := "IOOBE_FORMATTER", type := (.object "java/util/function/BiFunction"), accessFlags := 25, slot := 2, constantValue := 0 }]
  methods := #[k11m0]
  instanceTypes := #[]
  staticTypes := #[(.object "java/util/function/BiFunction"), (.object "java/util/function/BiFunction"), (.object "java/util/function/BiFunction")]
  resolved := Array.replicate 194 none
  statics := some 1 }

def pool12 : Array CpInfo := pool [(9, u "<init>"), (6, .class_ 18), (1, u "java/lang/Object"), (0, u "()V"), (1, .class_ 23), (1, u "jdk/internal/util/ArraysSupport"), (0, u "LOG2_ARRAY_LONG_INDEX_SCALE"), (0, u "I"), (2, u "U"), (0, u "Ljdk/internal/misc/Unsafe;"), (8, u "BIG_ENDIAN"), (0, u "Z"), (8, u "LOG2_BYTE_BIT_SIZE"), (4, u "LOG2_ARRAY_INT_INDEX_SCALE"), (54, u "JLA"), (0, u "Ljdk/internal/access/JavaLangAccess;"), (11, u "LOG2_ARRAY_BOOLEAN_INDEX_SCALE"), (9, u "LOG2_ARRAY_BYTE_INDEX_SCALE"), (5, u "LOG2_ARRAY_CHAR_INDEX_SCALE"), (5, u "LOG2_ARRAY_SHORT_INDEX_SCALE"), (18, u "LOG2_ARRAY_FLOAT_INDEX_SCALE"), (24, u "LOG2_ARRAY_DOUBLE_INDEX_SCALE"), (89, u "T_BOOLEAN"), (2, u "T_CHAR"), (1, u "T_FLOAT"), (1, u "T_DOUBLE"), (1, u "T_BYTE"), (1, u "T_SHORT"), (1, u "T_INT"), (1, u "T_LONG"), (1, u "SOFT_MAX_ARRAY_LENGTH")] 83

def k12m0 : Method := { name := "<init>", desc := "()V", sig := { parameters := [], returnType := none }, accessFlags := 2, code := none }
/-- jdk/internal/util/ArraysSupport -/
def k12 : Class := { plain "jdk/internal/util/ArraysSupport" (some 0) with
  accessFlags := 33
  interfaces := #[]
  cf := some (fileOf pool12 21 #[] #[{ accessFlags := 2, nameIndex := 9, descriptorIndex := 19, attributes := #[] }] 33 16 #[] #[{ accessFlags := 24, nameIndex := 28, descriptorIndex := 29, attributes := #[] }, { accessFlags := 26, nameIndex := 38, descriptorIndex := 39, attributes := #[] }, { accessFlags := 25, nameIndex := 121, descriptorIndex := 25, attributes := #[] }, { accessFlags := 25, nameIndex := 131, descriptorIndex := 25, attributes := #[] }, { accessFlags := 25, nameIndex := 137, descriptorIndex := 25, attributes := #[] }, { accessFlags := 25, nameIndex := 143, descriptorIndex := 25, attributes := #[] }, { accessFlags := 25, nameIndex := 53, descriptorIndex := 25, attributes := #[] }, { accessFlags := 25, nameIndex := 24, descriptorIndex := 25, attributes := #[] }, { accessFlags := 25, nameIndex := 162, descriptorIndex := 25, attributes := #[] }, { accessFlags := 25, nameIndex := 187, descriptorIndex := 25, attributes := #[] }, { accessFlags := 26, nameIndex := 48, descriptorIndex := 25, attributes := #[] }, { accessFlags := 25, nameIndex := 277, descriptorIndex := 25, attributes := #[] }, { accessFlags := 25, nameIndex := 280, descriptorIndex := 25, attributes := #[] }, { accessFlags := 25, nameIndex := 282, descriptorIndex := 25, attributes := #[] }, { accessFlags := 25, nameIndex := 284, descriptorIndex := 25, attributes := #[] }, { accessFlags := 25, nameIndex := 286, descriptorIndex := 25, attributes := #[] }, { accessFlags := 25, nameIndex := 288, descriptorIndex := 25, attributes := #[] }, { accessFlags := 25, nameIndex := 290, descriptorIndex := 25, attributes := #[] }, { accessFlags := 25, nameIndex := 292, descriptorIndex := 25, attributes := #[] }, { accessFlags := 26, nameIndex := 108, descriptorIndex := 109, attributes := #[] }, { accessFlags := 25, nameIndex := 294, descriptorIndex := 25, attributes := #[] }])
  fields := #[{ name := "U", type := (.object "jdk/internal/misc/Unsafe"), accessFlags := 24, slot := 0, constantValue := 0 }, { name := "BIG_ENDIAN", type := .boolean, accessFlags := 26, slot := 1, constantValue := 0 }, { name := "LOG2_ARRAY_BOOLEAN_INDEX_SCALE", type := .int, accessFlags := 25, slot := 2, constantValue := 0 }, { name := "LOG2_ARRAY_BYTE_INDEX_SCALE", type := .int, accessFlags := 25, slot := 3, constantValue := 0 }, { name := "LOG2_ARRAY_CHAR_INDEX_SCALE", type := .int, accessFlags := 25, slot := 4, constantValue := 0 }, { name := "LOG2_ARRAY_SHORT_INDEX_SCALE", type := .int, accessFlags := 25, slot := 5, constantValue := 0 }, { name := "LOG2_ARRAY_INT_INDEX_SCALE", type := .int, accessFlags := 25, slot := 6, constantValue := 0 }, { name := "LOG2_ARRAY_LONG_INDEX_SCALE", type := .int, accessFlags := 25, slot := 7, constantValue := 0 }, { name := "LOG2_ARRAY_FLOAT_INDEX_SCALE", type := .int, accessFlags := 25, slot := 8, constantValue := 0 }, { name := "LOG2_ARRAY_DOUBLE_INDEX_SCALE", type := .int, accessFlags := 25, slot := 9, constantValue := 0 }, { name := "LOG2_BYTE_BIT_SIZE", type := .int, accessFlags := 26, slot := 10, constantValue := 0 }, { name := "T_BOOLEAN", type := .int, accessFlags := 25, slot := 11, constantValue := 0 }, { name := "T_CHAR", type := .int, accessFlags := 25, slot := 12, constantValue := 0 }, { name := "T_FLOAT", type := .int, accessFlags := 25, slot := 13, constantValue := 0 }, { name := "T_DOUBLE", type := .int, accessFlags := 25, slot := 14, constantValue := 0 }, { name := "T_BYTE", type := .int, accessFlags := 25, slot := 15, constantValue := 0 }, { name := "T_SHORT", type := .int, accessFlags := 25, slot := 16, constantValue := 0 }, { name := "T_INT", type := .int, accessFlags := 25, slot := 17, constantValue := 0 }, { name := "T_LONG", type := .int, accessFlags := 25, slot := 18, constantValue := 0 }, { name := "JLA", type := (.object "jdk/internal/access/JavaLangAccess"), accessFlags := 26, slot := 19, constantValue := 0 }, { name := "SOFT_MAX_ARRAY_LENGTH", type := .int, accessFlags := 25, slot := 20, constantValue := 0 }]
  methods := #[k12m0]
  instanceTypes := #[]
  staticTypes := #[(.object "jdk/internal/misc/Unsafe"), .boolean, .int, .int, .int, .int, .int, .int, .int, .int, .int, .int, .int, .int, .int, .int, .int, .int, .int, (.object "jdk/internal/access/JavaLangAccess"), .int]
  resolved := Array.replicate 378 none
  statics := none }

def pool13 : Array CpInfo := pool [(1, u "java/lang/Cloneable"), (0, .class_ 1), (0, u "java/lang/Object"), (0, .class_ 3)] 3

/-- java/lang/Cloneable -/
def k13 : Class := { plain "java/lang/Cloneable" (some 0) with
  accessFlags := 1537
  interfaces := #[]
  cf := some (fileOf pool13 2 #[] #[] 1537 4 #[] #[])
  fields := #[]
  methods := #[]
  instanceTypes := #[]
  staticTypes := #[]
  resolved := Array.replicate 8 none
  statics := none }

/-- the primitive byte -/
def k14 : Class := { plain "byte" none with kind := .primitive 'B', accessFlags := 0x411 }
/-- [B -/
def k15 : Class := { plain "[B" (some 0) with kind := .array 14 .byte, interfaces := #[13, 3], accessFlags := 1041 }

/-- the primitive int -/
def k16 : Class := { plain "int" none with kind := .primitive 'I', accessFlags := 0x411 }
/-- [I -/
def k17 : Class := { plain "[I" (some 0) with kind := .array 16 .int, interfaces := #[13, 3], accessFlags := 1041 }

def heap : Heap := #[{ cls := 8, slots := #[.long 0, .int 1, .null, .int 0, .null, .int 0, .int 0], vm := .statics 8 },
  { cls := 11, slots := #[.null, .null, .null], vm := .statics 11 }]
def classes : Array Class := #[k0, k1, k2, k3, k4, k5, k6, k7, k8, k9, k10, k11, k12, k13, k14, k15, k16, k17]
def interned : List (Array UInt16 × Addr) := []
def slotsUsed : Nat := 10
def theMethod : MethodId := ⟨1, 2⟩
def args0 : Array Value := #[.int 48, .int 7]
def aboutOver (below : List Frame) : State where
  vm := { classes := classes, interned := interned.toArray }
  heap := heap
  slotsUsed := slotsUsed
  threads := #[{ frames := .invoking theMethod args0 :: below }]
def below0 : List Frame := [.native { method := ⟨0, 0⟩, args := #[] }]
def about1 : State := aboutOver below0
def p0 : Program := .bare "" "" ""
def e0 : Env := launch0.env 0 0 0
theorem w_frames : about1.frames = Frame.invoking theMethod args0 :: below0 := rfl
set_option maxRecDepth 65536 in
theorem w_args : argsFit about1.vm theMethod args0 = true := by decide +kernel
set_option maxRecDepth 65536 in
theorem w_heap : heapFits about1 = true := by decide +kernel
set_option maxRecDepth 65536 in
theorem w_runnable : about1.curStatus? = some .runnable := by decide +kernel
set_option maxRecDepth 65536 in
theorem w_alone : about1.alone = true := by decide +kernel
set_option maxRecDepth 65536 in
theorem w_named : about1.methodNamed? x = some theMethod := by decide +kernel
set_option maxRecDepth 65536 in
theorem w_hears : about1.hears theMethod below0 = true := by decide +kernel
set_option maxRecDepth 65536 in
theorem w_ripe : about1.ripe theMethod args0 below0 = true := by decide +kernel
theorem w_running : about1.status = .running := rfl
set_option maxRecDepth 65536 in
theorem w_room : about1.hasRoom e0.platform room_1 = true :=
  launch0.hasRoom_least _ room_1 (by decide +kernel) (by decide +kernel) (by decide +kernel) (by decide +kernel) (by decide +kernel) (by decide +kernel)
theorem allAtoms_all (ts : List Jvm.Cond) (a : Array Jvm.Value) (st : Jvm.State) : (allAtoms ts).before a st = ts.all (fun c => c.before a st) := by
  induction ts with
  | nil => rfl
  | cons c t ih =>
    show (Jvm.Cond.and c (allAtoms t)).before a st = _
    rw [Jvm.Cond.before_and, ih, List.all_cons]
def words1 : List Jvm.Cond := Jvm.Cond.code x code maxLocals ret :: tables_1
/-- a 'code' word, met by the world's own term for the bytes: nothing is compared byte by byte -/
theorem code_word {y : MethodName} {bytes : ByteArray} {mx : Nat} {rt : Option FieldType} {a : Array Value} {s : State} {m : MethodId} {meth : Method} {c : Code} (h1 : s.methodNamed? y = some m) (h2 : s.vm.method? m = some meth) (h3 : meth.code = some c) (h4 : c.code = bytes)
    (h5 : (c.maxLocals == mx && c.exceptionTable.isEmpty && decide (c.maxStack ≤ mostOperands) && decide (meth.sig.returnType = rt) && !meth.locks && decide (parseMethodDescriptor y.desc = some meth.sig)) = true) : (Jvm.Cond.code y bytes mx rt).before a s = true := by
  simp only [Bool.and_eq_true, beq_iff_eq, Bool.not_eq_true', decide_eq_true_eq] at h5
  obtain ⟨⟨⟨⟨⟨g1, g2⟩, g3⟩, g4⟩, g5⟩, g6⟩ := h5
  simp [Cond.before, Cond.holds, Cond.value, h1, h2, h3, h4, g1, g2, g3, g4, g5, g6]
def isCode : Jvm.Cond → Bool
  | .code _ _ _ _ => true
  | _ => false
theorem all_split {L : List Jvm.Cond} {P : Jvm.Cond → Bool} (h1 : L.all (fun c => isCode c || P c) = true) (h2 : ∀ c ∈ L.filter isCode, P c = true) : L.all P = true := by
  refine List.all_eq_true.mpr fun c hc => ?_
  have h := List.all_eq_true.mp h1 c hc
  rcases Bool.eq_false_or_eq_true (isCode c) with hi | hi
  · exact h2 c (List.mem_filter.mpr ⟨hc, hi⟩)
  · simpa [hi] using h
set_option maxRecDepth 65536 in
theorem w_c0 : (Jvm.Cond.code x code maxLocals ret).before args0 about1 = true := code_word (m := ⟨1, 2⟩) (meth := k1m2) (c := k1c2) (by decide +kernel) rfl rfl rfl (by decide +kernel)
set_option maxRecDepth 65536 in
theorem w_c1 : (Jvm.Cond.code ({ cls := "com/example/mapwright/mapwright/specification/Iri", name := "isEscapeCharacter", desc := "(I)Z" } : Jvm.MethodName) prog_4_method_3_code (1 : Nat) (Option.some Jvm.ClassFile.FieldType.boolean)).before args0 about1 = true := code_word (m := ⟨2, 1⟩) (meth := k2m1) (c := k2c1) (by decide +kernel) rfl rfl rfl (by decide +kernel)
set_option maxRecDepth 65536 in
theorem w_c2 : (Jvm.Cond.code ({ cls := "java/lang/String", name := "indexOf", desc := "(I)I" } : Jvm.MethodName) jdk_42_method_79_code (2 : Nat) (Option.some Jvm.ClassFile.FieldType.int)).before args0 about1 = true := code_word (m := ⟨8, 2⟩) (meth := k8m2) (c := k8c2) (by decide +kernel) rfl rfl rfl (by decide +kernel)
set_option maxRecDepth 65536 in
theorem w_c3 : (Jvm.Cond.code ({ cls := "java/lang/String", name := "indexOf", desc := "(II)I" } : Jvm.MethodName) jdk_42_method_80_code (3 : Nat) (Option.some Jvm.ClassFile.FieldType.int)).before args0 about1 = true := code_word (m := ⟨8, 3⟩) (meth := k8m3) (c := k8c3) (by decide +kernel) rfl rfl rfl (by decide +kernel)
set_option maxRecDepth 65536 in
theorem w_c4 : (Jvm.Cond.code ({ cls := "java/lang/String", name := "isLatin1", desc := "()Z" } : Jvm.MethodName) jdk_42_method_154_code (1 : Nat) (Option.some Jvm.ClassFile.FieldType.boolean)).before args0 about1 = true := code_word (m := ⟨8, 5⟩) (meth := k8m5) (c := k8c5) (by decide +kernel) rfl rfl rfl (by decide +kernel)
set_option maxRecDepth 65536 in
theorem w_c5 : (Jvm.Cond.code ({ cls := "java/lang/String", name := "length", desc := "()I" } : Jvm.MethodName) jdk_42_method_54_code (1 : Nat) (Option.some Jvm.ClassFile.FieldType.int)).before args0 about1 = true := code_word (m := ⟨8, 1⟩) (meth := k8m1) (c := k8c1) (by decide +kernel) rfl rfl rfl (by decide +kernel)
set_option maxRecDepth 65536 in
theorem w_c6 : (Jvm.Cond.code ({ cls := "java/lang/String", name := "coder", desc := "()B" } : Jvm.MethodName) jdk_42_method_152_code (1 : Nat) (Option.some Jvm.ClassFile.FieldType.byte)).before args0 about1 = true := code_word (m := ⟨8, 4⟩) (meth := k8m4) (c := k8c4) (by decide +kernel) rfl rfl rfl (by decide +kernel)
set_option maxRecDepth 65536 in
theorem w_c7 : (Jvm.Cond.code ({ cls := "java/lang/StringLatin1", name := "indexOf", desc := "([BIII)I" } : Jvm.MethodName) jdk_43_method_22_code (4 : Nat) (Option.some Jvm.ClassFile.FieldType.int)).before args0 about1 = true := code_word (m := ⟨9, 2⟩) (meth := k9m2) (c := k9c2) (by decide +kernel) rfl rfl rfl (by decide +kernel)
set_option maxRecDepth 65536 in
theorem w_c8 : (Jvm.Cond.code ({ cls := "java/lang/StringLatin1", name := "canEncode", desc := "(I)Z" } : Jvm.MethodName) jdk_43_method_4_code (1 : Nat) (Option.some Jvm.ClassFile.FieldType.boolean)).before args0 about1 = true := code_word (m := ⟨9, 1⟩) (meth := k9m1) (c := k9c1) (by decide +kernel) rfl rfl rfl (by decide +kernel)
set_option maxRecDepth 65536 in
theorem w_c9 : (Jvm.Cond.code ({ cls := "java/lang/Math", name := "max", desc := "(II)I" } : Jvm.MethodName) jdk_29_method_65_code (2 : Nat) (Option.some Jvm.ClassFile.FieldType.int)).before args0 about1 = true := code_word (m := ⟨10, 1⟩) (meth := k10m1) (c := k10c1) (by decide +kernel) rfl rfl rfl (by decide +kernel)
set_option maxRecDepth 65536 in
theorem w_c10 : (Jvm.Cond.code ({ cls := "java/lang/Math", name := "min", desc := "(II)I" } : Jvm.MethodName) jdk_29_method_69_code (2 : Nat) (Option.some Jvm.ClassFile.FieldType.int)).before args0 about1 = true := code_word (m := ⟨10, 2⟩) (meth := k10m2) (c := k10c2) (by decide +kernel) rfl rfl rfl (by decide +kernel)
set_option maxRecDepth 65536 in
theorem w_c11 : (Jvm.Cond.code ({ cls := "java/lang/StringLatin1", name := "indexOfChar", desc := "([BIII)I" } : Jvm.MethodName) jdk_43_method_23_code (6 : Nat) (Option.some Jvm.ClassFile.FieldType.int)).before args0 about1 = true := code_word (m := ⟨9, 3⟩) (meth := k9m3) (c := k9c3) (by decide +kernel) rfl rfl rfl (by decide +kernel)
set_option maxRecDepth 65536 in
theorem w_c12 : (Jvm.Cond.code ({ cls := "com/example/mapwright/mapwright/specification/IriIsEscapeCharacterPinLaw", name := "expected", desc := "(I)Z" } : Jvm.MethodName) method_2_code (1 : Nat) (Option.some Jvm.ClassFile.FieldType.boolean)).before args0 about1 = true := code_word (m := ⟨1, 1⟩) (meth := k1m1) (c := k1c1) (by decide +kernel) rfl rfl rfl (by decide +kernel)
def codes1 : List Jvm.Cond := [Jvm.Cond.code x code maxLocals ret, Jvm.Cond.code ({ cls := "com/example/mapwright/mapwright/specification/Iri", name := "isEscapeCharacter", desc := "(I)Z" } : Jvm.MethodName) prog_4_method_3_code (1 : Nat) (Option.some Jvm.ClassFile.FieldType.boolean), Jvm.Cond.code ({ cls := "java/lang/String", name := "indexOf", desc := "(I)I" } : Jvm.MethodName) jdk_42_method_79_code (2 : Nat) (Option.some Jvm.ClassFile.FieldType.int), Jvm.Cond.code ({ cls := "java/lang/String", name := "indexOf", desc := "(II)I" } : Jvm.MethodName) jdk_42_method_80_code (3 : Nat) (Option.some Jvm.ClassFile.FieldType.int), Jvm.Cond.code ({ cls := "java/lang/String", name := "isLatin1", desc := "()Z" } : Jvm.MethodName) jdk_42_method_154_code (1 : Nat) (Option.some Jvm.ClassFile.FieldType.boolean), Jvm.Cond.code ({ cls := "java/lang/String", name := "length", desc := "()I" } : Jvm.MethodName) jdk_42_method_54_code (1 : Nat) (Option.some Jvm.ClassFile.FieldType.int), Jvm.Cond.code ({ cls := "java/lang/String", name := "coder", desc := "()B" } : Jvm.MethodName) jdk_42_method_152_code (1 : Nat) (Option.some Jvm.ClassFile.FieldType.byte), Jvm.Cond.code ({ cls := "java/lang/StringLatin1", name := "indexOf", desc := "([BIII)I" } : Jvm.MethodName) jdk_43_method_22_code (4 : Nat) (Option.some Jvm.ClassFile.FieldType.int), Jvm.Cond.code ({ cls := "java/lang/StringLatin1", name := "canEncode", desc := "(I)Z" } : Jvm.MethodName) jdk_43_method_4_code (1 : Nat) (Option.some Jvm.ClassFile.FieldType.boolean), Jvm.Cond.code ({ cls := "java/lang/Math", name := "max", desc := "(II)I" } : Jvm.MethodName) jdk_29_method_65_code (2 : Nat) (Option.some Jvm.ClassFile.FieldType.int), Jvm.Cond.code ({ cls := "java/lang/Math", name := "min", desc := "(II)I" } : Jvm.MethodName) jdk_29_method_69_code (2 : Nat) (Option.some Jvm.ClassFile.FieldType.int), Jvm.Cond.code ({ cls := "java/lang/StringLatin1", name := "indexOfChar", desc := "([BIII)I" } : Jvm.MethodName) jdk_43_method_23_code (6 : Nat) (Option.some Jvm.ClassFile.FieldType.int), Jvm.Cond.code ({ cls := "com/example/mapwright/mapwright/specification/IriIsEscapeCharacterPinLaw", name := "expected", desc := "(I)Z" } : Jvm.MethodName) method_2_code (1 : Nat) (Option.some Jvm.ClassFile.FieldType.boolean)]
set_option maxRecDepth 65536 in
theorem codes_eq : words1.filter isCode = codes1 := rfl
theorem w_codes : ∀ c ∈ words1.filter isCode, c.before args0 about1 = true := by
  rw [codes_eq]
  intro c hc
  simp only [codes1, List.mem_cons, List.not_mem_nil, or_false] at hc
  rcases hc with rfl | rfl | rfl | rfl | rfl | rfl | rfl | rfl | rfl | rfl | rfl | rfl | rfl
  · exact w_c0
  · exact w_c1
  · exact w_c2
  · exact w_c3
  · exact w_c4
  · exact w_c5
  · exact w_c6
  · exact w_c7
  · exact w_c8
  · exact w_c9
  · exact w_c10
  · exact w_c11
  · exact w_c12
set_option maxRecDepth 65536 in
theorem w_t1 : (words1.take 24).all (fun c => isCode c || c.before args0 about1) = true := by decide +kernel
set_option maxRecDepth 65536 in
theorem w_t2 : ((words1.drop 24).take 24).all (fun c => isCode c || c.before args0 about1) = true := by decide +kernel
set_option maxRecDepth 65536 in
theorem w_t3 : ((words1.drop 24).drop 24).all (fun c => isCode c || c.before args0 about1) = true := by decide +kernel
theorem w_tables : (allAtoms (Jvm.Cond.code x code maxLocals ret :: tables_1)).before args0 about1 = true := by
  rw [allAtoms_all]
  show words1.all (fun c => c.before args0 about1) = true
  refine all_split ?_ w_codes
  rw [← List.take_append_drop 24 words1, List.all_append, w_t1, ← List.take_append_drop 24 (words1.drop 24), List.all_append, w_t2, w_t3]
  rfl
set_option maxRecDepth 65536 in
theorem w_rest : rest_1_c.before args0 about1 = true := by decide +kernel
set_option maxRecDepth 65536 in
theorem w_case : (Jvm.Cond.and given_1 narrow_1).before args0 about1 = true := by decide +kernel
set_option maxRecDepth 65536 in
theorem w_consts : constsHeld consts_1 about1 := Jvm.Lit.constsHeldB_iff.mp (by decide +kernel)
theorem w_applies : (headSpec (Jvm.Cond.code x code maxLocals ret :: tables_1) room_1).applies x e0.platform about1 = true :=
  (Spec.applies_iff w_frames).mpr ⟨w_running, w_runnable, w_alone, w_named, w_hears, w_ripe, w_room, w_tables⟩
theorem atStart : AtStart classFile x code maxLocals ret World_1 tables_1 room_1 Calls_1 rest_1 Pre_1 launch0 p0 e0 about1 theMethod args0 below0 :=
  ⟨lists_1, trivial, launch0.admits_env _ _ _, launch0.least_env, fairChoices_fair.cas, fairChoices_fair.clock, w_frames, w_args, w_heap, w_applies, ⟨w_consts, trivial⟩, w_rest, w_case⟩
end start1
theorem witness_1 : WitnessClaimed_1 := ⟨start1.p0, start1.e0, start1.about1, start1.theMethod, start1.args0, start1.below0, start1.atStart⟩
end Jvm.Pilot.@@N@@
