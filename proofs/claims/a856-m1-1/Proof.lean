import JvmDerived
import JvmDerived.Pilot.@@N@@Statement
import JvmDerived.Pilot.@@N@@Code
set_option linter.unusedVariables false
set_option linter.unusedSimpArgs false
namespace Jvm.RoadKit
open Sem ClassFile Op Lib Jvm.Stand Jvm.Free Jvm.LawKit
section New
variable {p : Program} {l : Launch} {e : Env} {R : Room} {s : State} {m : MethodId} {args : Array Value} {below : List Frame} {meth : Method} {c : Code} {T : State} {locs : List Loc} {cells slots : Nat}
theorem retI (X : Stand p l e R s m args below meth c T locs cells slots) (hx : p.tables.exec = Jvm.exec) {pc : Nat} {Ls : Array Slot} {z : Int32} {rest : List Value} (hret : meth.sig.returnType = some .int) (hd : decode c.code pc = .ok (.ireturn, 1)) {fs : List Frame}
    (hl : ∀ (f : JFrame) (acts : List Action), f.method = m → f.locked = none → f.entered = [] → (doReturn e (T.setTop f) acts (some (.int z))).1 = T.setFrames fs) : Steps p.tables e below (T.setTop (mkF m pc Ls (.int z :: rest))) (T.setFrames fs) := by
  have hm' : T.vm.method? m = some meth := X.method'
  have hn : narrow .int (.int z) = .int z := rfl
  show Steps p.tables e below (T.setTop { method := m, pc := pc, locals := Ls, stack := _ :: rest, locked := none }) _
  jvm_step X.here [X.here.top, hx, hd, hm', hret, hn]
  first | (intro acts; rw [hl _ acts rfl rfl rfl]) | rw [hl _ _ rfl rfl rfl]
  exact Steps.refl _
end New
end Jvm.RoadKit
namespace Jvm.Pilot.@@N@@
open Jvm Jvm.ClassFile Sem Op Lib Jvm.Free Jvm.Stand Jvm.LawKit Jvm.RoadKit Bundle Jvm.Pilot.@@N@@.Jvm.D

theorem own_decl {Z : State} {a0 : Array Value} {y : MethodName} {bytes : ByteArray} {maxL : Nat} {ret : Option FieldType} (w1 : (Jvm.Cond.instanceMethod y).before a0 Z = true) (w2 : (Jvm.Cond.code y bytes maxL ret).before a0 Z = true) : (Jvm.Cond.declares y).before a0 Z = true := by
  obtain ⟨m, meth, h1, h2, h3, -⟩ := Cond.instanceMethod_spec w1
  obtain ⟨meth', c, g1, -, -, -, -, -, -, g8⟩ := Cond.code_spec h1 w2
  cases h2.symm.trans g1
  simp [Cond.before, Cond.holds, Cond.value, h1, h2, h3, g8]
theorem own_nf {s : State} {args : Array Value} {C : String} {y y' : MethodName} (w : (Jvm.Cond.selects C y y).before args s = true) (e : y'.cls = y.cls) : NotFace s y' := fun r0 h0 => by
  obtain ⟨c2, r2, m2, q1, q2, q3, q4, kP, hkP, hkPi⟩ := Cond.selects_spec w
  have e1 := findClass_of_methodNamed h0
  have e2 := findClass_of_methodNamed q3
  rw [e] at e1
  have e3 : r0.cls = m2.cls := Option.some.inj (e1.symm.trans e2)
  exact ⟨kP, by rw [e3]; exact hkP, hkPi⟩
theorem own_same {Z : State} {a0 : Array Value} {y : MethodName} (hy : y.cls ≠ "java/lang/invoke/MethodHandle" ∧ y.cls ≠ "java/lang/invoke/VarHandle") (w1 : (Jvm.Cond.declares y).before a0 Z = true) (nf : NotFace Z y) : (Jvm.Cond.sameMethod y.cls y.cls y.name y.desc).before a0 Z = true := by
  obtain ⟨m, meth, h1, h2, -, -⟩ := Cond.declares_spec w1
  obtain ⟨k, hk, hi⟩ := nf m h1
  have h3 := State.methodFound?_of_named h1 hy
  have h4 := findClass_of_methodNamed h1
  have h5 : Z.methodNamed? ⟨y.cls, y.name, y.desc⟩ = some m := h1
  simp [Cond.before, Cond.holds, Cond.value, h4, h3, h5, hk, hi]
def own_St (Z : State) (h h' : Heap) : Prop := ∀ (C n d : String) (v : Value), Sta Z h C n d v → Sta Z h' C n d v
theorem own_st_wr {Z : State} {h h' : Heap} {a : Addr} {sl : Nat} {v : Value} (W : Wr h h' a sl v) : own_St Z h h' := fun _ _ _ _ F => F.wr W
theorem own_st_ext {Z : State} {h h' : Heap} (E : Ext h h') : own_St Z h h' := fun _ _ _ _ F => F.ext E
theorem own_St.trans {Z : State} {h h' h2 : Heap} (A : own_St Z h h') (B : own_St Z h' h2) : own_St Z h h2 := fun _ _ _ _ F => B _ _ _ _ (A _ _ _ _ F)
theorem own_St.refl {Z : State} {h : Heap} : own_St Z h h := fun _ _ _ _ F => F
def own_B (Z : State) (h : Heap) (sb ar : Addr) (kb : ClassId) (z : Int32) (xs : List Int32) : Prop :=
  Exa Z h sb "java/lang/StringBuilder" ∧ Fld Z h sb "java/lang/AbstractStringBuilder" "value" "[B" (.ref ar) ∧ Fld Z h sb "java/lang/AbstractStringBuilder" "coder" "B" (.int (0 : Int32)) ∧ Fld Z h sb "java/lang/AbstractStringBuilder" "count" "I" (.int (Int32.ofNat xs.length)) ∧ Arv Z h ar kb .byte z (xs.map Value.int) (.int (0 : Int32)) ∧ Exa Z h ar "[B" ∧ sb ≠ ar
theorem own_sh0 (x : Int32) : x >>> ((0 : Int32) &&& 31) = x := by
  have e : (0 : Int32) &&& 31 = 0 := by decide
  rw [e]; exact Int32.shiftRight_zero
theorem own_up (n : Nat) : Int32.ofNat n + (1 : Int32) = Int32.ofNat (n + 1) := (Int32.ofNat_add n 1).symm
theorem own_ofNat {n : Nat} (h : n < 2147483648) : (Int32.ofNat n).toInt = n := Int32.toInt_ofNat_small h
theorem own_nn {n : Nat} (h : n < 2147483648) : ¬ (Int32.ofNat n) < 0 := by
  have k0 : (0 : Int32).toInt = 0 := by decide
  rw [Int32.lt_iff_toInt_lt, own_ofNat h, k0]; omega
theorem own_cl {n : Nat} (h : n < 2147483648) : (Int32.ofNat n).toNatClampNeg = n := by
  have := nat_of (own_nn h); rw [own_ofNat h] at this; omega
theorem own_byte {x : Int32} (h : 0 ≤ x.toInt ∧ x.toInt < 128) : x.toInt8.toInt32 = x := by
  apply Int32.toInt_inj.mp
  have := c_i2b x
  omega
theorem own_snoc {Z : State} {h h' : Heap} {ar : Addr} {kb : ClassId} {z : Int32} {xs : List Int32} {x : Int32} (V : Arv Z h ar kb .byte z (xs.map Value.int) (.int (0 : Int32))) (hn : xs.length < 2147483648) (hx : 0 ≤ x.toInt ∧ x.toInt < 128)
    (W : Wr h h' ar (Int32.ofNat xs.length).toNatClampNeg (.int (nar .byte (x.toInt8.toInt32)))) : Arv Z h' ar kb .byte z ((xs ++ [x]).map Value.int) (.int (0 : Int32)) := by
  obtain ⟨c, A, q1, S, q3, H, G⟩ := V.pad (pad_rep (xs.map Value.int) (.int (0 : Int32)) 1)
  have R := Arv.set A q1 S q3 H G (fits_nar_byte _) W xs.length (own_cl hn) (by simp)
  have e2 : (nar .byte (x.toInt8.toInt32)) = x := by
    show x.toInt8.toInt32.toInt8.toInt32 = x
    rw [own_byte hx, own_byte hx]
  have e1 : ((xs.map Value.int ++ List.replicate 1 (Value.int (0 : Int32))).set xs.length (.int (nar .byte (x.toInt8.toInt32)))) = (xs ++ [x]).map Value.int := by
    rw [e2, List.set_append_right _ _ (by simp)]
    simp
  have R' : Arv Z h' ar kb .byte z ((xs.map Value.int ++ List.replicate 1 (Value.int (0 : Int32))).set xs.length (.int (nar .byte (x.toInt8.toInt32)))) (.int (0 : Int32)) := R
  rw [e1] at R'
  exact R'
theorem dai_0 : decode jdk_68_method_2_code 0 = .ok (.aload_n 0, 1) := by decide +kernel
theorem dai_1 : decode jdk_68_method_2_code 1 = .ok (.invokespecial 3, 3) := by decide +kernel
theorem dai_4 : decode jdk_68_method_2_code 4 = .ok (.getstatic 18, 3) := by decide +kernel
theorem dai_7 : decode jdk_68_method_2_code 7 = .ok (.ifCond .eq 18, 3) := by decide +kernel
theorem dai_10 : decode jdk_68_method_2_code 10 = .ok (.aload_n 0, 1) := by decide +kernel
theorem dai_11 : decode jdk_68_method_2_code 11 = .ok (.iload_n 1, 1) := by decide +kernel
theorem dai_12 : decode jdk_68_method_2_code 12 = .ok (.newarray .byte, 2) := by decide +kernel
theorem dai_14 : decode jdk_68_method_2_code 14 = .ok (.putfield 15, 3) := by decide +kernel
theorem dai_17 : decode jdk_68_method_2_code 17 = .ok (.aload_n 0, 1) := by decide +kernel
theorem dai_18 : decode jdk_68_method_2_code 18 = .ok (.iconst 0, 1) := by decide +kernel
theorem dai_19 : decode jdk_68_method_2_code 19 = .ok (.putfield 22, 3) := by decide +kernel
theorem dai_22 : decode jdk_68_method_2_code 22 = .ok (.goto 16, 3) := by decide +kernel
theorem dai_38 : decode jdk_68_method_2_code 38 = .ok (.return_, 1) := by decide +kernel
theorem ef_dai_ (m : MethodId) (a1 : Addr) (z2 : Int32) : entryFrame m #[(.ref a1), (.int z2)] 2 = mkF m 0 #[.val (.ref a1), .val (.int z2)] [] := by first | (simp [entryFrame, mkF, argsToLocals, Value.category]; done) | rfl
def Q_rmAI (Z : State) (a1 : Addr) (z2 : Int32) (cs0 : Int32) (bq : Addr) (h0 : Heap) (n0 : Nat) (v : Option Value) (h : Heap) (L : List Loc) : Prop := v = none ∧ Fr n0 L ∧ Keep h0 h [a1] ∧ own_St Z h0 h ∧ ∃ kb, own_B Z h a1 bq kb z2 []
theorem pn_rmAI : plainName "java/lang/AbstractStringBuilder" = true := by first | (simp [plainName, overriddenIn]; done) | decide +kernel
set_option maxRecDepth 65536 in
set_option maxHeartbeats 40000000 in
theorem rmAI (l : Launch) (Z : State) (a0 : Array Value) (hw : ∀ d ∈ tables_1, d.before a0 Z = true) (ws : List Jvm.Cond) (a1 : Addr) (z2 : Int32) (cs0 : Int32) (bq : Addr) (h0 : Heap) (n0 : Nat) (Z0 : n0 ≤ h0.size) (S : Sta Z h0 "java/lang/String" "COMPACT_STRINGS" "Z" (.int cs0)) (hcs : ¬ cs0 = 0) (hbs : bq = h0.size) (hz : ¬ z2 < 0) (hz16 : z2.toNatClampNeg ≤ 16) (E : Exa Z h0 a1 "java/lang/StringBuilder") (Fv : Fld Z h0 a1 "java/lang/AbstractStringBuilder" "value" "[B" .null) (Fc : Fld Z h0 a1 "java/lang/AbstractStringBuilder" "coder" "B" (.int (0 : Int32))) (Fn : Fld Z h0 a1 "java/lang/AbstractStringBuilder" "count" "I" (.int (0 : Int32))) (ga : n0 ≤ a1) :
    MetFree l (⟨"java/lang/AbstractStringBuilder", "<init>", "(I)V"⟩ : MethodName) (head1 (Jvm.Cond.code (⟨"java/lang/AbstractStringBuilder", "<init>", "(I)V"⟩ : MethodName) jdk_68_method_2_code 2 none :: ws) ({ frames := 1, cells := 1, slots := 16, locals := 12 } : Room)) (fun aZ U => aZ = #[(.ref a1), (.int z2)] ∧ Z.Warmed39 U.vm ∧ U.heap = h0) (fun _ _ _ _ _ => True) (fun _ U o U' => ∃ v L, o = .returned v ∧ Q_rmAI Z a1 z2 cs0  bq  h0 n0 v U'.heap L ∧ FrameEnd U o U' L ({ frames := 1, cells := 1, slots := 16, locals := 12 } : Room).cells ({ frames := 1, cells := 1, slots := 16, locals := 12 } : Room).slots) := by
  refine MetFree.of_bodySF (plainFor_of_name pn_rmAI) hisR ?_
  intro p e s m args below meth c s₁ Bd hml0 hP hK
  obtain ⟨rfl, hZ, hh⟩ := hP
  have hx := Bd.exec
  have hby := Bd.bytes
  have hml : c.maxLocals = 2 := hml0
  have hown : s.vm.findClass "java/lang/AbstractStringBuilder" = some m.cls := findClass_of_methodNamed Bd.named
  have hnm := (name_of_methodNamed Bd.named Bd.method).1
  have X0 : Stand p l e ({ frames := 1, cells := 1, slots := 16, locals := 12 } : Room) s m #[(.ref a1), (.int z2)] below meth c s₁ [] 0 0 := Stand.of_body Bd
  have e0 : s₁.heap = h0 := by rw [← hh, Bd.state]; rfl
  have N0 := Fr.nil n0
  have pre0 : ∀ tZ, Steps p.tables e below (s₁.setTop (mkF m 0 #[.val (.ref a1), .val (.int z2)] [])) tZ → Steps p.tables e below (s₁.setTop (entryFrame m #[(.ref a1), (.int z2)] 2)) tZ := fun tZ kZ => castTop (ef_dai_ m a1 z2) kZ
  obtain ⟨T1, X1, e1, st1⟩ := initO X0 hx hZ hown (hw _ (List.mem_of_getElem? (i := 18) rfl)) (hw _ (List.mem_of_getElem? (i := 19) rfl)) (hw _ (List.mem_of_getElem? (i := 20) rfl)) e0 (g := (mkF m 1 #[.val (.ref a1), .val (.int z2)] [(.ref a1)])) rfl (by rw [hml]; rfl) rfl (hb hby dai_1) (by decide) (W := 0) (by show 2 * 0 + _ ≤ _; exact Nat.le_of_eq rfl) (by decide)
  obtain ⟨T2, X2, e2, st2⟩ := getS2 X1 hx hZ hown (host := "") (Or.inl (hw _ (List.mem_of_getElem? (i := 21) rfl))) Via.refl e1 S (g := (mkF m 4 #[.val (.ref a1), .val (.int z2)] [])) rfl (hb hby dai_4)
  obtain ⟨T3, h3, k3, X3, e3, E3, A3, Eb3, st3⟩ := newPE X2 hx hZ (hw _ (List.mem_of_getElem? (i := 1) rfl)) e2 (g := (mkF m 12 #[.val (.ref a1), .val (.int z2)] [(.int z2), (.ref a1)])) rfl (hb hby dai_12) rfl hz (cap := 16) hz16 (by decide) (by decide) (by decide) (ad := "[B") (by decide)
  rw [← hbs] at A3 Eb3 st3
  have V0 : Arv Z h3 bq k3 .byte z2 ([].map Value.int) (.int (0 : Int32)) := Arv.new A3 hz
  have ne0 : a1 ≠ bq := fun q => Nat.lt_irrefl _ (Nat.lt_of_lt_of_le E.lt (Nat.le_of_eq (hbs.symm.trans q.symm)))
  have Y1 := E.ext E3
  have Fv1 := Fv.ext E3
  have Fc1 := Fc.ext E3
  have Fn1 := Fn.ext E3
  have J1 : Keep h0 h3 [a1] := (Keep.refl h0 [a1]).ext E3
  obtain ⟨T4, h4, X4, e4, W4, st4⟩ := putF X3 hx hZ hown (host := "") (Or.inl (hw _ (List.mem_of_getElem? (i := 23) rfl))) Via.refl e3 Fv1 Y1 (Or.inl (hw _ (List.mem_of_getElem? (i := 24) rfl))) (hw _ (List.mem_of_getElem? (i := 7) rfl)) (ty := (.array .byte)) (by decide) rfl rfl (g := (mkF m 14 #[.val (.ref a1), .val (.int z2)] [(.ref bq), (.ref a1)])) rfl rfl (hb hby dai_14)
  have Y2 := Y1.wr W4
  have Fv2 := Fv1.same W4
  have Fc2 := Fc1.other W4 (Or.inr (slot_ne (Or.inl (hw _ (List.mem_of_getElem? (i := 26) rfl))) (Or.inl (hw _ (List.mem_of_getElem? (i := 24) rfl))) (by decide) (t := .byte) (t' := (.array .byte)) (by decide) (by decide)))
  have Fn2 := Fn1.other W4 (Or.inr (slot_ne (Or.inl (hw _ (List.mem_of_getElem? (i := 38) rfl))) (Or.inl (hw _ (List.mem_of_getElem? (i := 24) rfl))) (by decide) (t := .int) (t' := (.array .byte)) (by decide) (by decide)))
  have V2 := V0.other W4 (Ne.symm ne0)
  have Eb2 := Eb3.wr W4
  have J2 : Keep h0 h4 [a1] := J1.wr W4 (Or.inl (List.mem_of_getElem? (i := 0) rfl))
  have M2 := Fr.snoc X4 N0 ga
  obtain ⟨T5, h5, X5, e5, W5, st5⟩ := putF X4 hx hZ hown (host := "") (Or.inl (hw _ (List.mem_of_getElem? (i := 25) rfl))) Via.refl e4 Fc2 Y2 (Or.inl (hw _ (List.mem_of_getElem? (i := 26) rfl))) (hw _ (List.mem_of_getElem? (i := 7) rfl)) (ty := .byte) (by decide) rfl rfl (g := (mkF m 19 #[.val (.ref a1), .val (.int z2)] [(.int (0 : Int32)), (.ref a1)])) rfl rfl (hb hby dai_19)
  have Y3 := Y2.wr W5
  have Fc3 := Fc2.same W5
  have Fv3 := Fv2.other W5 (Or.inr (slot_ne (Or.inl (hw _ (List.mem_of_getElem? (i := 24) rfl))) (Or.inl (hw _ (List.mem_of_getElem? (i := 26) rfl))) (by decide) (t := (.array .byte)) (t' := .byte) (by decide) (by decide)))
  have Fn3 := Fn2.other W5 (Or.inr (slot_ne (Or.inl (hw _ (List.mem_of_getElem? (i := 38) rfl))) (Or.inl (hw _ (List.mem_of_getElem? (i := 26) rfl))) (by decide) (t := .int) (t' := .byte) (by decide) (by decide)))
  have V3 := V2.other W5 (Ne.symm ne0)
  have Eb3 := Eb2.wr W5
  have J3 : Keep h0 h5 [a1] := J2.wr W5 (Or.inl (List.mem_of_getElem? (i := 0) rfl))
  have M3 := Fr.snoc X5 M2 ga
  have St3 : own_St Z h0 h5 := ((own_st_ext E3).trans (own_st_wr W4)).trans (own_st_wr W5)
  obtain ⟨fs, hr, hrun, hended, hW, hsame⟩ := X5.leave (v := none) (fun _ => rfl)
  refine ⟨_, _, pre0 _ ?_, hrun, hended, _, _, rfl, ?_, ⟨_, rfl⟩, hW, hsame.mono (by decide) (by decide)⟩
  · show Steps p.tables e below (s₁.setTop (mkF m 0 #[.val (.ref a1), .val (.int z2)] [])) _
    refine XS.aloadN X0.here hx rfl (hb hby dai_0) rfl rfl ?_
    show Steps p.tables e below (s₁.setTop (mkF m 1 #[.val (.ref a1), .val (.int z2)] [(.ref a1)])) _
    refine st1 _ ?_
    show Steps p.tables e below (T1.setTop (mkF m 4 #[.val (.ref a1), .val (.int z2)] [])) _
    refine st2 _ ?_
    show Steps p.tables e below (T2.setTop (mkF m 7 #[.val (.ref a1), .val (.int z2)] [(.int cs0)])) _
    refine XS.ifNo X2.here hx rfl (hb hby dai_7) rfl ((if0 _ _).trans (feq hcs).1) ?_
    show Steps p.tables e below (T2.setTop (mkF m 10 #[.val (.ref a1), .val (.int z2)] [])) _
    refine XS.aloadN X2.here hx rfl (hb hby dai_10) rfl rfl ?_
    show Steps p.tables e below (T2.setTop (mkF m 11 #[.val (.ref a1), .val (.int z2)] [(.ref a1)])) _
    refine XS.iloadN X2.here hx rfl (hb hby dai_11) rfl ?_
    show Steps p.tables e below (T2.setTop (mkF m 12 #[.val (.ref a1), .val (.int z2)] [(.int z2), (.ref a1)])) _
    refine st3 _ ?_
    show Steps p.tables e below (T3.setTop (mkF m 14 #[.val (.ref a1), .val (.int z2)] [(.ref bq), (.ref a1)])) _
    refine st4 _ ?_
    show Steps p.tables e below (T4.setTop (mkF m 17 #[.val (.ref a1), .val (.int z2)] [])) _
    refine XS.aloadN X4.here hx rfl (hb hby dai_17) rfl rfl ?_
    show Steps p.tables e below (T4.setTop (mkF m 18 #[.val (.ref a1), .val (.int z2)] [(.ref a1)])) _
    refine XS.iconst X4.here hx rfl (hb hby dai_18) ?_
    show Steps p.tables e below (T4.setTop (mkF m 19 #[.val (.ref a1), .val (.int z2)] [(.int (0 : Int32)), (.ref a1)])) _
    refine st5 _ ?_
    show Steps p.tables e below (T5.setTop (mkF m 22 #[.val (.ref a1), .val (.int z2)] [])) _
    refine XS.goto X5.here hx rfl (pc0 := 22) (pc' := 38) rfl (hb hby dai_22) (by decide) (by decide) ?_
    show Steps p.tables e below (T5.setTop (mkF m 38 #[.val (.ref a1), .val (.int z2)] [])) _
    exact X5.returnOut hx Bd.returns (hb hby dai_38) hr
  · show Q_rmAI Z a1 z2 cs0 bq h0 n0 _ T5.heap _
    rw [e5]
    exact ⟨rfl, M3, J3, St3, _, Y3, Fv3, Fc3, Fn3, V3, Eb3, ne0⟩

theorem dsi_0 : decode jdk_67_method_2_code 0 = .ok (.aload_n 0, 1) := by decide +kernel
theorem dsi_1 : decode jdk_67_method_2_code 1 = .ok (.iload_n 1, 1) := by decide +kernel
theorem dsi_2 : decode jdk_67_method_2_code 2 = .ok (.invokespecial 1, 3) := by decide +kernel
theorem dsi_5 : decode jdk_67_method_2_code 5 = .ok (.return_, 1) := by decide +kernel
theorem pd_dsi__I_V : parseMethodDescriptor "(I)V" = some ⟨[.int], none⟩ := by decide +kernel
theorem ef_dsi_ (m : MethodId) (a1 : Addr) (z2 : Int32) : entryFrame m #[(.ref a1), (.int z2)] 2 = mkF m 0 #[.val (.ref a1), .val (.int z2)] [] := by first | (simp [entryFrame, mkF, argsToLocals, Value.category]; done) | rfl
def Q_rmSI (Z : State) (a1 : Addr) (z2 : Int32) (cs0 : Int32) (bq : Addr) (h0 : Heap) (n0 : Nat) (v : Option Value) (h : Heap) (L : List Loc) : Prop := v = none ∧ Fr n0 L ∧ Keep h0 h [a1] ∧ own_St Z h0 h ∧ ∃ kb, own_B Z h a1 bq kb z2 []
theorem pn_rmSI : plainName "java/lang/StringBuilder" = true := by first | (simp [plainName, overriddenIn]; done) | decide +kernel
set_option maxRecDepth 65536 in
set_option maxHeartbeats 40000000 in
theorem rmSI (l : Launch) (Z : State) (a0 : Array Value) (hw : ∀ d ∈ tables_1, d.before a0 Z = true) (ws : List Jvm.Cond) (a1 : Addr) (z2 : Int32) (cs0 : Int32) (bq : Addr) (h0 : Heap) (n0 : Nat) (Z0 : n0 ≤ h0.size) (S : Sta Z h0 "java/lang/String" "COMPACT_STRINGS" "Z" (.int cs0)) (hcs : ¬ cs0 = 0) (hbs : bq = h0.size) (hz : ¬ z2 < 0) (hz16 : z2.toNatClampNeg ≤ 16) (E : Exa Z h0 a1 "java/lang/StringBuilder") (Fv : Fld Z h0 a1 "java/lang/AbstractStringBuilder" "value" "[B" .null) (Fc : Fld Z h0 a1 "java/lang/AbstractStringBuilder" "coder" "B" (.int (0 : Int32))) (Fn : Fld Z h0 a1 "java/lang/AbstractStringBuilder" "count" "I" (.int (0 : Int32))) (ga : n0 ≤ a1) :
    MetFree l (⟨"java/lang/StringBuilder", "<init>", "(I)V"⟩ : MethodName) (head1 (Jvm.Cond.code (⟨"java/lang/StringBuilder", "<init>", "(I)V"⟩ : MethodName) jdk_67_method_2_code 2 none :: ws) ({ frames := 2, cells := 1, slots := 16, locals := 25 } : Room)) (fun aZ U => aZ = #[(.ref a1), (.int z2)] ∧ Z.Warmed39 U.vm ∧ U.heap = h0) (fun _ _ _ _ _ => True) (fun _ U o U' => ∃ v L, o = .returned v ∧ Q_rmSI Z a1 z2 cs0  bq  h0 n0 v U'.heap L ∧ FrameEnd U o U' L ({ frames := 2, cells := 1, slots := 16, locals := 25 } : Room).cells ({ frames := 2, cells := 1, slots := 16, locals := 25 } : Room).slots) := by
  refine MetFree.of_bodySF (plainFor_of_name pn_rmSI) hisR ?_
  intro p e s m args below meth c s₁ Bd hml0 hP hK
  obtain ⟨rfl, hZ, hh⟩ := hP
  have hx := Bd.exec
  have hby := Bd.bytes
  have hml : c.maxLocals = 2 := hml0
  have hown : s.vm.findClass "java/lang/StringBuilder" = some m.cls := findClass_of_methodNamed Bd.named
  have hnm := (name_of_methodNamed Bd.named Bd.method).1
  have X0 : Stand p l e ({ frames := 2, cells := 1, slots := 16, locals := 25 } : Room) s m #[(.ref a1), (.int z2)] below meth c s₁ [] 0 0 := Stand.of_body Bd
  have e0 : s₁.heap = h0 := by rw [← hh, Bd.state]; rfl
  have N0 := Fr.nil n0
  have pre0 : ∀ tZ, Steps p.tables e below (s₁.setTop (mkF m 0 #[.val (.ref a1), .val (.int z2)] [])) tZ → Steps p.tables e below (s₁.setTop (entryFrame m #[(.ref a1), (.int z2)] 2)) tZ := fun tZ kZ => castTop (ef_dsi_ m a1 z2) kZ
  obtain ⟨_, _, ⟨T1, L1, k1, n1⟩, -, X1, ⟨Lc1, hQ1, l1, y1, z1⟩, st1⟩ := X0.specialBack hx (y := (⟨"java/lang/AbstractStringBuilder", "<init>", "(I)V"⟩ : MethodName)) rfl hown (mvT hZ (hw _ (List.mem_of_getElem? (i := 12) rfl))) (mvT hZ (hw _ (List.mem_of_getElem? (i := 13) rfl))) (mvT hZ (hw _ (List.mem_of_getElem? (i := 17) rfl))) (by decide) (backOf (W := 0) (rmAI l Z a0 hw [] a1 z2 cs0 bq h0 n0 Z0 S hcs hbs hz hz16 E Fv Fc Fn ga) hZ (hw _ (List.mem_of_getElem? (i := 17) rfl)) (hw _ (List.mem_of_getElem? (i := 16) rfl)) (by decide) (by decide)) (g := (mkF m 2 #[.val (.ref a1), .val (.int z2)] [(.int z2), (.ref a1)])) rfl (by rw [hml]; rfl) (Steps.refl _) (a := a1) (argsL := [(.int z2)]) (rest := []) (lenOf pd_dsi__I_V rfl) rfl (by show 2 * 0 + _ ≤ _; exact Nat.le_of_eq rfl) (hb hby dsi_2) (fun _ _ => ⟨rfl, e0, (by decide : 0 + 1 ≤ _), (by decide : 0 + 16 ≤ _)⟩)
  dsimp only [Pt.U, Pt.locs, Pt.cells, Pt.slots] at X1 l1 y1 z1 st1 hQ1
  subst l1 y1 z1
  obtain ⟨rfl, N1q, K1, St1, kb1, B1⟩ := hQ1
  have N1 := Fr.app N0 N1q
  obtain ⟨fs, hr, hrun, hended, hW, hsame⟩ := X1.leave (v := none) (fun _ => rfl)
  refine ⟨_, _, pre0 _ ?_, hrun, hended, _, _, rfl, ?_, ⟨_, rfl⟩, hW, hsame.mono (by decide) (by decide)⟩
  · show Steps p.tables e below (s₁.setTop (mkF m 0 #[.val (.ref a1), .val (.int z2)] [])) _
    refine XS.aloadN X0.here hx rfl (hb hby dsi_0) rfl rfl ?_
    show Steps p.tables e below (s₁.setTop (mkF m 1 #[.val (.ref a1), .val (.int z2)] [(.ref a1)])) _
    refine XS.iloadN X0.here hx rfl (hb hby dsi_1) rfl ?_
    show Steps p.tables e below (s₁.setTop (mkF m 2 #[.val (.ref a1), .val (.int z2)] [(.int z2), (.ref a1)])) _
    refine st1.trans ?_
    show Steps p.tables e below (T1.setTop (mkF m 5 #[.val (.ref a1), .val (.int z2)] [])) _
    exact X1.returnOut hx Bd.returns (hb hby dsi_5) hr
  · show Q_rmSI Z a1 z2 cs0 bq h0 n0 _ T1.heap _
    exact ⟨rfl, N1, K1, St1, kb1, B1⟩

theorem dal_0 : decode jdk_68_method_6_code 0 = .ok (.aload_n 0, 1) := by decide +kernel
theorem dal_1 : decode jdk_68_method_6_code 1 = .ok (.getfield 79, 3) := by decide +kernel
theorem dal_4 : decode jdk_68_method_6_code 4 = .ok (.ireturn, 1) := by decide +kernel
theorem ef_dal_ (m : MethodId) (sb : Addr) : entryFrame m #[(.ref sb)] 1 = mkF m 0 #[.val (.ref sb)] [] := by first | (simp [entryFrame, mkF, argsToLocals, Value.category]; done) | rfl
def Q_rmAL (Z : State) (sb : Addr) (ar : Addr) (kb : ClassId) (z : Int32) (xs : List Int32) (h0 : Heap) (n0 : Nat) (v : Option Value) (h : Heap) (L : List Loc) : Prop := v = some (.int (Int32.ofNat xs.length)) ∧ Fr n0 L ∧ h = h0
theorem pn_rmAL : plainName "java/lang/AbstractStringBuilder" = true := by first | (simp [plainName, overriddenIn]; done) | decide +kernel
set_option maxRecDepth 65536 in
set_option maxHeartbeats 40000000 in
theorem rmAL (l : Launch) (Z : State) (a0 : Array Value) (hw : ∀ d ∈ tables_1, d.before a0 Z = true) (ws : List Jvm.Cond) (sb : Addr) (ar : Addr) (kb : ClassId) (z : Int32) (xs : List Int32) (h0 : Heap) (n0 : Nat) (Z0 : n0 ≤ h0.size) (B : own_B Z h0 sb ar kb z xs) :
    MetFree l (⟨"java/lang/AbstractStringBuilder", "length", "()I"⟩ : MethodName) (head1 (Jvm.Cond.code (⟨"java/lang/AbstractStringBuilder", "length", "()I"⟩ : MethodName) jdk_68_method_6_code 1 (some .int) :: ws) ({ frames := 0, cells := 0, slots := 0, locals := 0 } : Room)) (fun aZ U => aZ = #[(.ref sb)] ∧ Z.Warmed39 U.vm ∧ U.heap = h0) (fun _ _ _ _ _ => True) (fun _ U o U' => ∃ v L, o = .returned v ∧ Q_rmAL Z sb ar  kb  z  xs  h0 n0 v U'.heap L ∧ FrameEnd U o U' L ({ frames := 0, cells := 0, slots := 0, locals := 0 } : Room).cells ({ frames := 0, cells := 0, slots := 0, locals := 0 } : Room).slots) := by
  refine MetFree.of_bodySF (plainFor_of_name pn_rmAL) hisR ?_
  intro p e s m args below meth c s₁ Bd hml0 hP hK
  obtain ⟨rfl, hZ, hh⟩ := hP
  have hx := Bd.exec
  have hby := Bd.bytes
  have hml : c.maxLocals = 1 := hml0
  have hown : s.vm.findClass "java/lang/AbstractStringBuilder" = some m.cls := findClass_of_methodNamed Bd.named
  have hnm := (name_of_methodNamed Bd.named Bd.method).1
  have X0 : Stand p l e ({ frames := 0, cells := 0, slots := 0, locals := 0 } : Room) s m #[(.ref sb)] below meth c s₁ [] 0 0 := Stand.of_body Bd
  have e0 : s₁.heap = h0 := by rw [← hh, Bd.state]; rfl
  have N0 := Fr.nil n0
  have pre0 : ∀ tZ, Steps p.tables e below (s₁.setTop (mkF m 0 #[.val (.ref sb)] [])) tZ → Steps p.tables e below (s₁.setTop (entryFrame m #[(.ref sb)] 1)) tZ := fun tZ kZ => castTop (ef_dal_ m sb) kZ
  obtain ⟨E, Fv, Fc, Fn, V, Eb, ne⟩ := B
  obtain ⟨T1, X1, e1, st1⟩ := getF X0 hx hZ hown (host := "") (Or.inl (hw _ (List.mem_of_getElem? (i := 37) rfl))) Via.refl e0 Fn (g := (mkF m 1 #[.val (.ref sb)] [(.ref sb)])) rfl rfl (hb hby dal_1)
  obtain ⟨fs, hr, hrun, hended, hW, hsame⟩ := X1.leave (v := some (.int (Int32.ofNat xs.length))) (fun h => by rw [Bd.returns] at h; cases h)
  refine ⟨_, _, pre0 _ ?_, hrun, hended, _, _, rfl, ?_, ⟨_, rfl⟩, hW, hsame.mono (by decide) (by decide)⟩
  · show Steps p.tables e below (s₁.setTop (mkF m 0 #[.val (.ref sb)] [])) _
    refine XS.aloadN X0.here hx rfl (hb hby dal_0) rfl rfl ?_
    show Steps p.tables e below (s₁.setTop (mkF m 1 #[.val (.ref sb)] [(.ref sb)])) _
    refine st1 _ ?_
    show Steps p.tables e below (T1.setTop (mkF m 4 #[.val (.ref sb)] [(.int (Int32.ofNat xs.length))])) _
    exact retI X1 hx Bd.returns (hb hby dal_4) hr
  · show Q_rmAL Z sb ar kb z xs h0 n0 _ T1.heap _
    rw [e1]
    exact ⟨rfl, N0, rfl⟩

theorem dgv_0 : decode jdk_68_method_64_code 0 = .ok (.aload_n 0, 1) := by decide +kernel
theorem dgv_1 : decode jdk_68_method_64_code 1 = .ok (.getfield 15, 3) := by decide +kernel
theorem dgv_4 : decode jdk_68_method_64_code 4 = .ok (.areturn, 1) := by decide +kernel
theorem ef_dgv_ (m : MethodId) (sb : Addr) : entryFrame m #[(.ref sb)] 1 = mkF m 0 #[.val (.ref sb)] [] := by first | (simp [entryFrame, mkF, argsToLocals, Value.category]; done) | rfl
def Q_rmGV (Z : State) (sb : Addr) (ar : Addr) (kb : ClassId) (z : Int32) (xs : List Int32) (h0 : Heap) (n0 : Nat) (v : Option Value) (h : Heap) (L : List Loc) : Prop := v = some (.ref ar) ∧ Fr n0 L ∧ h = h0
theorem pn_rmGV : plainName "java/lang/AbstractStringBuilder" = true := by first | (simp [plainName, overriddenIn]; done) | decide +kernel
set_option maxRecDepth 65536 in
set_option maxHeartbeats 40000000 in
theorem rmGV (l : Launch) (Z : State) (a0 : Array Value) (hw : ∀ d ∈ tables_1, d.before a0 Z = true) (ws : List Jvm.Cond) (sb : Addr) (ar : Addr) (kb : ClassId) (z : Int32) (xs : List Int32) (h0 : Heap) (n0 : Nat) (Z0 : n0 ≤ h0.size) (B : own_B Z h0 sb ar kb z xs) :
    MetFree l (⟨"java/lang/AbstractStringBuilder", "getValue", "()[B"⟩ : MethodName) (head1 (Jvm.Cond.code (⟨"java/lang/AbstractStringBuilder", "getValue", "()[B"⟩ : MethodName) jdk_68_method_64_code 1 (some (.array .byte)) :: ws) ({ frames := 0, cells := 0, slots := 0, locals := 0 } : Room)) (fun aZ U => aZ = #[(.ref sb)] ∧ Z.Warmed39 U.vm ∧ U.heap = h0) (fun _ _ _ _ _ => True) (fun _ U o U' => ∃ v L, o = .returned v ∧ Q_rmGV Z sb ar  kb  z  xs  h0 n0 v U'.heap L ∧ FrameEnd U o U' L ({ frames := 0, cells := 0, slots := 0, locals := 0 } : Room).cells ({ frames := 0, cells := 0, slots := 0, locals := 0 } : Room).slots) := by
  refine MetFree.of_bodySF (plainFor_of_name pn_rmGV) hisR ?_
  intro p e s m args below meth c s₁ Bd hml0 hP hK
  obtain ⟨rfl, hZ, hh⟩ := hP
  have hx := Bd.exec
  have hby := Bd.bytes
  have hml : c.maxLocals = 1 := hml0
  have hown : s.vm.findClass "java/lang/AbstractStringBuilder" = some m.cls := findClass_of_methodNamed Bd.named
  have hnm := (name_of_methodNamed Bd.named Bd.method).1
  have X0 : Stand p l e ({ frames := 0, cells := 0, slots := 0, locals := 0 } : Room) s m #[(.ref sb)] below meth c s₁ [] 0 0 := Stand.of_body Bd
  have e0 : s₁.heap = h0 := by rw [← hh, Bd.state]; rfl
  have N0 := Fr.nil n0
  have pre0 : ∀ tZ, Steps p.tables e below (s₁.setTop (mkF m 0 #[.val (.ref sb)] [])) tZ → Steps p.tables e below (s₁.setTop (entryFrame m #[(.ref sb)] 1)) tZ := fun tZ kZ => castTop (ef_dgv_ m sb) kZ
  obtain ⟨E, Fv, Fc, Fn, V, Eb, ne⟩ := B
  obtain ⟨T1, X1, e1, st1⟩ := getF X0 hx hZ hown (host := "") (Or.inl (hw _ (List.mem_of_getElem? (i := 23) rfl))) Via.refl e0 Fv (g := (mkF m 1 #[.val (.ref sb)] [(.ref sb)])) rfl rfl (hb hby dgv_1)
  obtain ⟨fs, hr, hrun, hended, hW, hsame⟩ := X1.leave (v := some (.ref ar)) (fun h => by rw [Bd.returns] at h; cases h)
  refine ⟨_, _, pre0 _ ?_, hrun, hended, _, _, rfl, ?_, ⟨_, rfl⟩, hW, hsame.mono (by decide) (by decide)⟩
  · show Steps p.tables e below (s₁.setTop (mkF m 0 #[.val (.ref sb)] [])) _
    refine XS.aloadN X0.here hx rfl (hb hby dgv_0) rfl rfl ?_
    show Steps p.tables e below (s₁.setTop (mkF m 1 #[.val (.ref sb)] [(.ref sb)])) _
    refine st1 _ ?_
    show Steps p.tables e below (T1.setTop (mkF m 4 #[.val (.ref sb)] [(.ref ar)])) _
    exact X1.areturnOut hx rfl Bd.returns rfl (hb hby dgv_4) hr
  · show Q_rmGV Z sb ar kb z xs h0 n0 _ T1.heap _
    rw [e1]
    exact ⟨rfl, N0, rfl⟩

theorem dat_0 : decode jdk_68_method_68_code 0 = .ok (.getstatic 18, 3) := by decide +kernel
theorem dat_3 : decode jdk_68_method_68_code 3 = .ok (.ifCond .eq 14, 3) := by decide +kernel
theorem dat_6 : decode jdk_68_method_68_code 6 = .ok (.aload_n 0, 1) := by decide +kernel
theorem dat_7 : decode jdk_68_method_68_code 7 = .ok (.getfield 22, 3) := by decide +kernel
theorem dat_10 : decode jdk_68_method_68_code 10 = .ok (.ifCond .ne 7, 3) := by decide +kernel
theorem dat_13 : decode jdk_68_method_68_code 13 = .ok (.iconst 1, 1) := by decide +kernel
theorem dat_14 : decode jdk_68_method_68_code 14 = .ok (.goto 4, 3) := by decide +kernel
theorem dat_18 : decode jdk_68_method_68_code 18 = .ok (.ireturn, 1) := by decide +kernel
theorem ef_dat_ (m : MethodId) (sb : Addr) : entryFrame m #[(.ref sb)] 1 = mkF m 0 #[.val (.ref sb)] [] := by first | (simp [entryFrame, mkF, argsToLocals, Value.category]; done) | rfl
def Q_rmAT (Z : State) (sb : Addr) (cs0 : Int32) (ar : Addr) (kb : ClassId) (z : Int32) (xs : List Int32) (h0 : Heap) (n0 : Nat) (v : Option Value) (h : Heap) (L : List Loc) : Prop := v = some (.int (1 : Int32)) ∧ Fr n0 L ∧ h = h0
theorem pn_rmAT : plainName "java/lang/AbstractStringBuilder" = true := by first | (simp [plainName, overriddenIn]; done) | decide +kernel
set_option maxRecDepth 65536 in
set_option maxHeartbeats 40000000 in
theorem rmAT (l : Launch) (Z : State) (a0 : Array Value) (hw : ∀ d ∈ tables_1, d.before a0 Z = true) (ws : List Jvm.Cond) (sb : Addr) (cs0 : Int32) (ar : Addr) (kb : ClassId) (z : Int32) (xs : List Int32) (h0 : Heap) (n0 : Nat) (Z0 : n0 ≤ h0.size) (S : Sta Z h0 "java/lang/String" "COMPACT_STRINGS" "Z" (.int cs0)) (hcs : ¬ cs0 = 0) (B : own_B Z h0 sb ar kb z xs) :
    MetFree l (⟨"java/lang/AbstractStringBuilder", "isLatin1", "()Z"⟩ : MethodName) (head1 (Jvm.Cond.code (⟨"java/lang/AbstractStringBuilder", "isLatin1", "()Z"⟩ : MethodName) jdk_68_method_68_code 1 (some .boolean) :: ws) ({ frames := 0, cells := 0, slots := 0, locals := 0 } : Room)) (fun aZ U => aZ = #[(.ref sb)] ∧ Z.Warmed39 U.vm ∧ U.heap = h0) (fun _ _ _ _ _ => True) (fun _ U o U' => ∃ v L, o = .returned v ∧ Q_rmAT Z sb cs0  ar  kb  z  xs  h0 n0 v U'.heap L ∧ FrameEnd U o U' L ({ frames := 0, cells := 0, slots := 0, locals := 0 } : Room).cells ({ frames := 0, cells := 0, slots := 0, locals := 0 } : Room).slots) := by
  refine MetFree.of_bodySF (plainFor_of_name pn_rmAT) hisR ?_
  intro p e s m args below meth c s₁ Bd hml0 hP hK
  obtain ⟨rfl, hZ, hh⟩ := hP
  have hx := Bd.exec
  have hby := Bd.bytes
  have hml : c.maxLocals = 1 := hml0
  have hown : s.vm.findClass "java/lang/AbstractStringBuilder" = some m.cls := findClass_of_methodNamed Bd.named
  have hnm := (name_of_methodNamed Bd.named Bd.method).1
  have X0 : Stand p l e ({ frames := 0, cells := 0, slots := 0, locals := 0 } : Room) s m #[(.ref sb)] below meth c s₁ [] 0 0 := Stand.of_body Bd
  have e0 : s₁.heap = h0 := by rw [← hh, Bd.state]; rfl
  have N0 := Fr.nil n0
  have pre0 : ∀ tZ, Steps p.tables e below (s₁.setTop (mkF m 0 #[.val (.ref sb)] [])) tZ → Steps p.tables e below (s₁.setTop (entryFrame m #[(.ref sb)] 1)) tZ := fun tZ kZ => castTop (ef_dat_ m sb) kZ
  obtain ⟨E, Fv, Fc, Fn, V, Eb, ne⟩ := B
  obtain ⟨T1, X1, e1, st1⟩ := getS2 X0 hx hZ hown (host := "") (Or.inl (hw _ (List.mem_of_getElem? (i := 21) rfl))) Via.refl e0 S (g := (mkF m 0 #[.val (.ref sb)] [])) rfl (hb hby dat_0)
  obtain ⟨T2, X2, e2, st2⟩ := getF X1 hx hZ hown (host := "") (Or.inl (hw _ (List.mem_of_getElem? (i := 25) rfl))) Via.refl e1 Fc (g := (mkF m 7 #[.val (.ref sb)] [(.ref sb)])) rfl rfl (hb hby dat_7)
  obtain ⟨fs, hr, hrun, hended, hW, hsame⟩ := X2.leave (v := some (.int (1 : Int32))) (fun h => by rw [Bd.returns] at h; cases h)
  refine ⟨_, _, pre0 _ ?_, hrun, hended, _, _, rfl, ?_, ⟨_, rfl⟩, hW, hsame.mono (by decide) (by decide)⟩
  · show Steps p.tables e below (s₁.setTop (mkF m 0 #[.val (.ref sb)] [])) _
    refine st1 _ ?_
    show Steps p.tables e below (T1.setTop (mkF m 3 #[.val (.ref sb)] [(.int cs0)])) _
    refine XS.ifNo X1.here hx rfl (hb hby dat_3) rfl ((if0 _ _).trans (feq hcs).1) ?_
    show Steps p.tables e below (T1.setTop (mkF m 6 #[.val (.ref sb)] [])) _
    refine XS.aloadN X1.here hx rfl (hb hby dat_6) rfl rfl ?_
    show Steps p.tables e below (T1.setTop (mkF m 7 #[.val (.ref sb)] [(.ref sb)])) _
    refine st2 _ ?_
    show Steps p.tables e below (T2.setTop (mkF m 10 #[.val (.ref sb)] [(.int (0 : Int32))])) _
    refine XS.ifNo X2.here hx rfl (hb hby dat_10) rfl ((if0 _ _).trans (teq (rfl : (0 : Int32) = 0)).2) ?_
    show Steps p.tables e below (T2.setTop (mkF m 13 #[.val (.ref sb)] [])) _
    refine XS.iconst X2.here hx rfl (hb hby dat_13) ?_
    show Steps p.tables e below (T2.setTop (mkF m 14 #[.val (.ref sb)] [(.int (1 : Int32))])) _
    refine XS.goto X2.here hx rfl (pc0 := 14) (pc' := 18) rfl (hb hby dat_14) (by decide) (by decide) ?_
    show Steps p.tables e below (T2.setTop (mkF m 18 #[.val (.ref sb)] [(.int (1 : Int32))])) _
    exact retN X2 hx (t := .boolean) Bd.returns (by simp) (hb hby dat_18) hr
  · show Q_rmAT Z sb cs0 ar kb z xs h0 n0 _ T2.heap _
    rw [e2]
    exact ⟨rfl, N0, rfl⟩

theorem dsl_0 : decode jdk_67_method_93_code 0 = .ok (.aload_n 0, 1) := by decide +kernel
theorem dsl_1 : decode jdk_67_method_93_code 1 = .ok (.invokespecial 343, 3) := by decide +kernel
theorem dsl_4 : decode jdk_67_method_93_code 4 = .ok (.ireturn, 1) := by decide +kernel
theorem pd_dsl___I : parseMethodDescriptor "()I" = some ⟨[], some .int⟩ := by decide +kernel
theorem ef_dsl_ (m : MethodId) (sb : Addr) : entryFrame m #[(.ref sb)] 1 = mkF m 0 #[.val (.ref sb)] [] := by first | (simp [entryFrame, mkF, argsToLocals, Value.category]; done) | rfl
def Q_rmSL (Z : State) (sb : Addr) (ar : Addr) (kb : ClassId) (z : Int32) (xs : List Int32) (h0 : Heap) (n0 : Nat) (v : Option Value) (h : Heap) (L : List Loc) : Prop := v = some (.int (Int32.ofNat xs.length)) ∧ Fr n0 L ∧ h = h0
theorem pn_rmSL : plainName "java/lang/StringBuilder" = true := by first | (simp [plainName, overriddenIn]; done) | decide +kernel
set_option maxRecDepth 65536 in
set_option maxHeartbeats 40000000 in
theorem rmSL (l : Launch) (Z : State) (a0 : Array Value) (hw : ∀ d ∈ tables_1, d.before a0 Z = true) (ws : List Jvm.Cond) (sb : Addr) (ar : Addr) (kb : ClassId) (z : Int32) (xs : List Int32) (h0 : Heap) (n0 : Nat) (Z0 : n0 ≤ h0.size) (B : own_B Z h0 sb ar kb z xs) :
    MetFree l (⟨"java/lang/StringBuilder", "length", "()I"⟩ : MethodName) (head1 (Jvm.Cond.code (⟨"java/lang/StringBuilder", "length", "()I"⟩ : MethodName) jdk_67_method_93_code 1 (some .int) :: ws) ({ frames := 1, cells := 0, slots := 0, locals := 12 } : Room)) (fun aZ U => aZ = #[(.ref sb)] ∧ Z.Warmed39 U.vm ∧ U.heap = h0) (fun _ _ _ _ _ => True) (fun _ U o U' => ∃ v L, o = .returned v ∧ Q_rmSL Z sb ar  kb  z  xs  h0 n0 v U'.heap L ∧ FrameEnd U o U' L ({ frames := 1, cells := 0, slots := 0, locals := 12 } : Room).cells ({ frames := 1, cells := 0, slots := 0, locals := 12 } : Room).slots) := by
  refine MetFree.of_bodySF (plainFor_of_name pn_rmSL) hisR ?_
  intro p e s m args below meth c s₁ Bd hml0 hP hK
  obtain ⟨rfl, hZ, hh⟩ := hP
  have hx := Bd.exec
  have hby := Bd.bytes
  have hml : c.maxLocals = 1 := hml0
  have hown : s.vm.findClass "java/lang/StringBuilder" = some m.cls := findClass_of_methodNamed Bd.named
  have hnm := (name_of_methodNamed Bd.named Bd.method).1
  have X0 : Stand p l e ({ frames := 1, cells := 0, slots := 0, locals := 12 } : Room) s m #[(.ref sb)] below meth c s₁ [] 0 0 := Stand.of_body Bd
  have e0 : s₁.heap = h0 := by rw [← hh, Bd.state]; rfl
  have N0 := Fr.nil n0
  have pre0 : ∀ tZ, Steps p.tables e below (s₁.setTop (mkF m 0 #[.val (.ref sb)] [])) tZ → Steps p.tables e below (s₁.setTop (entryFrame m #[(.ref sb)] 1)) tZ := fun tZ kZ => castTop (ef_dsl_ m sb) kZ
  obtain ⟨_, _, ⟨T1, L1, k1, n1⟩, -, X1, ⟨Lc1, hQ1, l1, y1, z1⟩, st1⟩ := superBack X0 hx hZ (y := (⟨"java/lang/AbstractStringBuilder", "length", "()I"⟩ : MethodName)) hown (hw _ (List.mem_of_getElem? (i := 32) rfl)) (own_same (y := (⟨"java/lang/AbstractStringBuilder", "length", "()I"⟩ : MethodName)) (by decide) (hw _ (List.mem_of_getElem? (i := 35) rfl)) (own_nf (args := a0) (hw _ (List.mem_of_getElem? (i := 64) rfl)) rfl)) (hw _ (List.mem_of_getElem? (i := 33) rfl)) (hw _ (List.mem_of_getElem? (i := 34) rfl)) (by decide) (backOf (W := 0) (rmAL l Z a0 hw [] sb ar kb z xs h0 n0 Z0 B) hZ (hw _ (List.mem_of_getElem? (i := 36) rfl)) (hw _ (List.mem_of_getElem? (i := 16) rfl)) (by decide) (by decide)) e0 (Ins.self B.1) (g := (mkF m 1 #[.val (.ref sb)] [(.ref sb)])) rfl (by rw [hml]; rfl) (hw _ (List.mem_of_getElem? (i := 36) rfl)) (argsL := []) (rest := []) (lenOf pd_dsl___I rfl) rfl (by show 2 * 0 + _ ≤ _; exact Nat.le_of_eq rfl) (hb hby dsl_1) (fun _ _ => ⟨rfl, e0, (by decide : 0 + 0 ≤ _), (by decide : 0 + 0 ≤ _)⟩)
  dsimp only [Pt.U, Pt.locs, Pt.cells, Pt.slots] at X1 l1 y1 z1 st1 hQ1
  subst l1 y1 z1
  obtain ⟨rfl, N1q, e1⟩ := hQ1
  have N1 := Fr.app N0 N1q
  obtain ⟨fs, hr, hrun, hended, hW, hsame⟩ := X1.leave (v := some (.int (Int32.ofNat xs.length))) (fun h => by rw [Bd.returns] at h; cases h)
  refine ⟨_, _, pre0 _ ?_, hrun, hended, _, _, rfl, ?_, ⟨_, rfl⟩, hW, hsame.mono (by decide) (by decide)⟩
  · show Steps p.tables e below (s₁.setTop (mkF m 0 #[.val (.ref sb)] [])) _
    refine XS.aloadN X0.here hx rfl (hb hby dsl_0) rfl rfl ?_
    show Steps p.tables e below (s₁.setTop (mkF m 1 #[.val (.ref sb)] [(.ref sb)])) _
    refine st1.trans ?_
    show Steps p.tables e below (T1.setTop (mkF m 4 #[.val (.ref sb)] [(.int (Int32.ofNat xs.length))])) _
    exact retI X1 hx Bd.returns (hb hby dsl_4) hr
  · show Q_rmSL Z sb ar kb z xs h0 n0 _ T1.heap _
    rw [e1]
    exact ⟨rfl, N1, rfl⟩

theorem dce_0 : decode jdk_43_method_3_code 0 = .ok (.iload_n 0, 1) := by decide +kernel
theorem dce_1 : decode jdk_43_method_3_code 1 = .ok (.sipush 255, 3) := by decide +kernel
theorem dce_4 : decode jdk_43_method_3_code 4 = .ok (.if_icmp .gt 7, 3) := by decide +kernel
theorem dce_7 : decode jdk_43_method_3_code 7 = .ok (.iconst 1, 1) := by decide +kernel
theorem dce_8 : decode jdk_43_method_3_code 8 = .ok (.goto 4, 3) := by decide +kernel
theorem dce_12 : decode jdk_43_method_3_code 12 = .ok (.ireturn, 1) := by decide +kernel
theorem ef_dce_ (m : MethodId) (x1 : Int32) : entryFrame m #[(.int x1)] 1 = mkF m 0 #[.val (.int x1)] [] := by first | (simp [entryFrame, mkF, argsToLocals, Value.category]; done) | rfl
def Q_rmCE (Z : State) (x1 : Int32)  (h0 : Heap) (n0 : Nat) (v : Option Value) (h : Heap) (L : List Loc) : Prop := v = some (.int (1 : Int32)) ∧ Fr n0 L ∧ h = h0
theorem pn_rmCE : plainName "java/lang/StringLatin1" = true := by first | (simp [plainName, overriddenIn]; done) | decide +kernel
set_option maxRecDepth 65536 in
set_option maxHeartbeats 40000000 in
theorem rmCE (l : Launch) (Z : State) (a0 : Array Value) (hw : ∀ d ∈ tables_1, d.before a0 Z = true) (ws : List Jvm.Cond) (x1 : Int32)  (h0 : Heap) (n0 : Nat) (Z0 : n0 ≤ h0.size) (hx1 : ¬ (255 : Int32) < x1) :
    MetFree l (⟨"java/lang/StringLatin1", "canEncode", "(C)Z"⟩ : MethodName) (head1 (Jvm.Cond.code (⟨"java/lang/StringLatin1", "canEncode", "(C)Z"⟩ : MethodName) jdk_43_method_3_code 1 (some .boolean) :: ws) ({ frames := 0, cells := 0, slots := 0, locals := 0 } : Room)) (fun aZ U => aZ = #[(.int x1)] ∧ Z.Warmed39 U.vm ∧ U.heap = h0) (fun _ _ _ _ _ => True) (fun _ U o U' => ∃ v L, o = .returned v ∧ Q_rmCE Z x1  h0 n0 v U'.heap L ∧ FrameEnd U o U' L ({ frames := 0, cells := 0, slots := 0, locals := 0 } : Room).cells ({ frames := 0, cells := 0, slots := 0, locals := 0 } : Room).slots) := by
  refine MetFree.of_bodySF (plainFor_of_name pn_rmCE) hisR ?_
  intro p e s m args below meth c s₁ Bd hml0 hP hK
  obtain ⟨rfl, hZ, hh⟩ := hP
  have hx := Bd.exec
  have hby := Bd.bytes
  have hml : c.maxLocals = 1 := hml0
  have hown : s.vm.findClass "java/lang/StringLatin1" = some m.cls := findClass_of_methodNamed Bd.named
  have hnm := (name_of_methodNamed Bd.named Bd.method).1
  have X0 : Stand p l e ({ frames := 0, cells := 0, slots := 0, locals := 0 } : Room) s m #[(.int x1)] below meth c s₁ [] 0 0 := Stand.of_body Bd
  have e0 : s₁.heap = h0 := by rw [← hh, Bd.state]; rfl
  have N0 := Fr.nil n0
  have pre0 : ∀ tZ, Steps p.tables e below (s₁.setTop (mkF m 0 #[.val (.int x1)] [])) tZ → Steps p.tables e below (s₁.setTop (entryFrame m #[(.int x1)] 1)) tZ := fun tZ kZ => castTop (ef_dce_ m x1) kZ
  obtain ⟨fs, hr, hrun, hended, hW, hsame⟩ := X0.leave (v := some (.int (1 : Int32))) (fun h => by rw [Bd.returns] at h; cases h)
  refine ⟨_, _, pre0 _ ?_, hrun, hended, _, _, rfl, ?_, ⟨_, rfl⟩, hW, hsame.mono (by decide) (by decide)⟩
  · show Steps p.tables e below (s₁.setTop (mkF m 0 #[.val (.int x1)] [])) _
    refine XS.iloadN X0.here hx rfl (hb hby dce_0) rfl ?_
    show Steps p.tables e below (s₁.setTop (mkF m 1 #[.val (.int x1)] [(.int x1)])) _
    refine XS.sipush X0.here hx rfl (hb hby dce_1) ?_
    show Steps p.tables e below (s₁.setTop (mkF m 4 #[.val (.int x1)] [(.int (255 : Int32)), (.int x1)])) _
    refine XS.icmpNo X0.here hx rfl (hb hby dce_4) rfl (flt hx1).2.2.1 ?_
    show Steps p.tables e below (s₁.setTop (mkF m 7 #[.val (.int x1)] [])) _
    refine XS.iconst X0.here hx rfl (hb hby dce_7) ?_
    show Steps p.tables e below (s₁.setTop (mkF m 8 #[.val (.int x1)] [(.int (1 : Int32))])) _
    refine XS.goto X0.here hx rfl (pc0 := 8) (pc' := 12) rfl (hb hby dce_8) (by decide) (by decide) ?_
    show Steps p.tables e below (s₁.setTop (mkF m 12 #[.val (.int x1)] [(.int (1 : Int32))])) _
    exact retN X0 hx (t := .boolean) Bd.returns (by simp) (hb hby dce_12) hr
  · show Q_rmCE Z x1 h0 n0 _ s₁.heap _
    rw [e0]
    exact ⟨rfl, N0, rfl⟩

theorem den_0 : decode jdk_68_method_9_code 0 = .ok (.aload_n 0, 1) := by decide +kernel
theorem den_1 : decode jdk_68_method_9_code 1 = .ok (.getfield 15, 3) := by decide +kernel
theorem den_4 : decode jdk_68_method_9_code 4 = .ok (.arraylength, 1) := by decide +kernel
theorem den_5 : decode jdk_68_method_9_code 5 = .ok (.aload_n 0, 1) := by decide +kernel
theorem den_6 : decode jdk_68_method_9_code 6 = .ok (.getfield 22, 3) := by decide +kernel
theorem den_9 : decode jdk_68_method_9_code 9 = .ok (.ishr, 1) := by decide +kernel
theorem den_10 : decode jdk_68_method_9_code 10 = .ok (.istore_n 2, 1) := by decide +kernel
theorem den_11 : decode jdk_68_method_9_code 11 = .ok (.iload_n 1, 1) := by decide +kernel
theorem den_12 : decode jdk_68_method_9_code 12 = .ok (.iload_n 2, 1) := by decide +kernel
theorem den_13 : decode jdk_68_method_9_code 13 = .ok (.isub, 1) := by decide +kernel
theorem den_14 : decode jdk_68_method_9_code 14 = .ok (.ifCond .le 24, 3) := by decide +kernel
theorem den_38 : decode jdk_68_method_9_code 38 = .ok (.return_, 1) := by decide +kernel
theorem ef_den_ (m : MethodId) (sb : Addr) (m2 : Int32) : entryFrame m #[(.ref sb), (.int m2)] 3 = mkF m 0 #[.val (.ref sb), .val (.int m2), .unset] [] := by first | (simp [entryFrame, mkF, argsToLocals, Value.category]; done) | rfl
def Q_rmEN (Z : State) (sb : Addr) (m2 : Int32) (ar : Addr) (kb : ClassId) (z : Int32) (xs : List Int32) (h0 : Heap) (n0 : Nat) (v : Option Value) (h : Heap) (L : List Loc) : Prop := v = none ∧ Fr n0 L ∧ h = h0
theorem pn_rmEN : plainName "java/lang/AbstractStringBuilder" = true := by first | (simp [plainName, overriddenIn]; done) | decide +kernel
set_option maxRecDepth 65536 in
set_option maxHeartbeats 40000000 in
theorem rmEN (l : Launch) (Z : State) (a0 : Array Value) (hw : ∀ d ∈ tables_1, d.before a0 Z = true) (ws : List Jvm.Cond) (sb : Addr) (m2 : Int32) (ar : Addr) (kb : ClassId) (z : Int32) (xs : List Int32) (h0 : Heap) (n0 : Nat) (Z0 : n0 ≤ h0.size) (B : own_B Z h0 sb ar kb z xs) (hm2 : ¬ (0 : Int32) < m2 - z) :
    MetFree l (⟨"java/lang/AbstractStringBuilder", "ensureCapacityInternal", "(I)V"⟩ : MethodName) (head1 (Jvm.Cond.code (⟨"java/lang/AbstractStringBuilder", "ensureCapacityInternal", "(I)V"⟩ : MethodName) jdk_68_method_9_code 3 none :: ws) ({ frames := 0, cells := 0, slots := 0, locals := 0 } : Room)) (fun aZ U => aZ = #[(.ref sb), (.int m2)] ∧ Z.Warmed39 U.vm ∧ U.heap = h0) (fun _ _ _ _ _ => True) (fun _ U o U' => ∃ v L, o = .returned v ∧ Q_rmEN Z sb m2 ar  kb  z  xs  h0 n0 v U'.heap L ∧ FrameEnd U o U' L ({ frames := 0, cells := 0, slots := 0, locals := 0 } : Room).cells ({ frames := 0, cells := 0, slots := 0, locals := 0 } : Room).slots) := by
  refine MetFree.of_bodySF (plainFor_of_name pn_rmEN) hisR ?_
  intro p e s m args below meth c s₁ Bd hml0 hP hK
  obtain ⟨rfl, hZ, hh⟩ := hP
  have hx := Bd.exec
  have hby := Bd.bytes
  have hml : c.maxLocals = 3 := hml0
  have hown : s.vm.findClass "java/lang/AbstractStringBuilder" = some m.cls := findClass_of_methodNamed Bd.named
  have hnm := (name_of_methodNamed Bd.named Bd.method).1
  have X0 : Stand p l e ({ frames := 0, cells := 0, slots := 0, locals := 0 } : Room) s m #[(.ref sb), (.int m2)] below meth c s₁ [] 0 0 := Stand.of_body Bd
  have e0 : s₁.heap = h0 := by rw [← hh, Bd.state]; rfl
  have N0 := Fr.nil n0
  have pre0 : ∀ tZ, Steps p.tables e below (s₁.setTop (mkF m 0 #[.val (.ref sb), .val (.int m2), .unset] [])) tZ → Steps p.tables e below (s₁.setTop (entryFrame m #[(.ref sb), (.int m2)] 3)) tZ := fun tZ kZ => castTop (ef_den_ m sb m2) kZ
  obtain ⟨E, Fv, Fc, Fn, V, Eb, ne⟩ := B
  obtain ⟨ca, Av, qv, Sv, Nv, Hv, Gv⟩ := V
  obtain ⟨T1, X1, e1, st1⟩ := getF X0 hx hZ hown (host := "") (Or.inl (hw _ (List.mem_of_getElem? (i := 23) rfl))) Via.refl e0 Fv (g := (mkF m 1 #[.val (.ref sb), .val (.int m2), .unset] [(.ref sb)])) rfl rfl (hb hby den_1)
  obtain ⟨T2, X2, e2, st2⟩ := getF X1 hx hZ hown (host := "") (Or.inl (hw _ (List.mem_of_getElem? (i := 25) rfl))) Via.refl e1 Fc (g := (mkF m 6 #[.val (.ref sb), .val (.int m2), .unset] [(.ref sb), (.int z)])) rfl rfl (hb hby den_6)
  obtain ⟨fs, hr, hrun, hended, hW, hsame⟩ := X2.leave (v := none) (fun _ => rfl)
  refine ⟨_, _, pre0 _ ?_, hrun, hended, _, _, rfl, ?_, ⟨_, rfl⟩, hW, hsame.mono (by decide) (by decide)⟩
  · show Steps p.tables e below (s₁.setTop (mkF m 0 #[.val (.ref sb), .val (.int m2), .unset] [])) _
    refine XS.aloadN X0.here hx rfl (hb hby den_0) rfl rfl ?_
    show Steps p.tables e below (s₁.setTop (mkF m 1 #[.val (.ref sb), .val (.int m2), .unset] [(.ref sb)])) _
    refine st1 _ ?_
    show Steps p.tables e below (T1.setTop (mkF m 4 #[.val (.ref sb), .val (.int m2), .unset] [(.ref ar)])) _
    refine X1.arraylength hx (by rw [e1]; exact Av.1) (State.isArrayOf_alike hZ.alike Av.2.1) (g := (mkF m 4 #[.val (.ref sb), .val (.int m2), .unset] [(.ref ar)])) rfl rfl (hb hby den_4) _ ?_
    rw [len_of Sv Nv]
    show Steps p.tables e below (T1.setTop (mkF m 5 #[.val (.ref sb), .val (.int m2), .unset] [(.int z)])) _
    refine XS.aloadN X1.here hx rfl (hb hby den_5) rfl rfl ?_
    show Steps p.tables e below (T1.setTop (mkF m 6 #[.val (.ref sb), .val (.int m2), .unset] [(.ref sb), (.int z)])) _
    refine st2 _ ?_
    show Steps p.tables e below (T2.setTop (mkF m 9 #[.val (.ref sb), .val (.int m2), .unset] [(.int (0 : Int32)), (.int z)])) _
    refine XS.ishr X2.here hx rfl (hb hby den_9) rfl ?_
    show Steps p.tables e below (T2.setTop (mkF m 10 #[.val (.ref sb), .val (.int m2), .unset] [(.int (z >>> ((0 : Int32) &&& 31)))])) _
    rw [own_sh0]
    show Steps p.tables e below (T2.setTop (mkF m 10 #[.val (.ref sb), .val (.int m2), .unset] [(.int z)])) _
    refine XS.istoreN X2.here hx rfl (hb hby den_10) rfl (l' := #[.val (.ref sb), .val (.int m2), .val (.int z)]) rfl ?_
    show Steps p.tables e below (T2.setTop (mkF m 11 #[.val (.ref sb), .val (.int m2), .val (.int z)] [])) _
    refine XS.iloadN X2.here hx rfl (hb hby den_11) rfl ?_
    show Steps p.tables e below (T2.setTop (mkF m 12 #[.val (.ref sb), .val (.int m2), .val (.int z)] [(.int m2)])) _
    refine XS.iloadN X2.here hx rfl (hb hby den_12) rfl ?_
    show Steps p.tables e below (T2.setTop (mkF m 13 #[.val (.ref sb), .val (.int m2), .val (.int z)] [(.int z), (.int m2)])) _
    refine XS.isub X2.here hx rfl (hb hby den_13) rfl ?_
    show Steps p.tables e below (T2.setTop (mkF m 14 #[.val (.ref sb), .val (.int m2), .val (.int z)] [(.int (m2 - z))])) _
    refine XS.ifYes X2.here hx rfl (pc0 := 14) (pc' := 38) rfl (hb hby den_14) rfl ((if0 _ _).trans (flt hm2).2.2.2) (by decide) (by decide) ?_
    show Steps p.tables e below (T2.setTop (mkF m 38 #[.val (.ref sb), .val (.int m2), .val (.int z)] [])) _
    exact X2.returnOut hx Bd.returns (hb hby den_38) hr
  · show Q_rmEN Z sb m2 ar kb z xs h0 n0 _ T2.heap _
    rw [e2]
    exact ⟨rfl, N0, rfl⟩

theorem daa_0 : decode jdk_68_method_31_code 0 = .ok (.aload_n 0, 1) := by decide +kernel
theorem daa_1 : decode jdk_68_method_31_code 1 = .ok (.aload_n 0, 1) := by decide +kernel
theorem daa_2 : decode jdk_68_method_31_code 2 = .ok (.getfield 79, 3) := by decide +kernel
theorem daa_5 : decode jdk_68_method_31_code 5 = .ok (.iconst 1, 1) := by decide +kernel
theorem daa_6 : decode jdk_68_method_31_code 6 = .ok (.iadd, 1) := by decide +kernel
theorem daa_7 : decode jdk_68_method_31_code 7 = .ok (.invokevirtual 100, 3) := by decide +kernel
theorem daa_10 : decode jdk_68_method_31_code 10 = .ok (.aload_n 0, 1) := by decide +kernel
theorem daa_11 : decode jdk_68_method_31_code 11 = .ok (.invokevirtual 83, 3) := by decide +kernel
theorem daa_14 : decode jdk_68_method_31_code 14 = .ok (.ifCond .eq 31, 3) := by decide +kernel
theorem daa_17 : decode jdk_68_method_31_code 17 = .ok (.iload_n 1, 1) := by decide +kernel
theorem daa_18 : decode jdk_68_method_31_code 18 = .ok (.invokestatic 191, 3) := by decide +kernel
theorem daa_21 : decode jdk_68_method_31_code 21 = .ok (.ifCond .eq 24, 3) := by decide +kernel
theorem daa_24 : decode jdk_68_method_31_code 24 = .ok (.aload_n 0, 1) := by decide +kernel
theorem daa_25 : decode jdk_68_method_31_code 25 = .ok (.getfield 15, 3) := by decide +kernel
theorem daa_28 : decode jdk_68_method_31_code 28 = .ok (.aload_n 0, 1) := by decide +kernel
theorem daa_29 : decode jdk_68_method_31_code 29 = .ok (.dup, 1) := by decide +kernel
theorem daa_30 : decode jdk_68_method_31_code 30 = .ok (.getfield 79, 3) := by decide +kernel
theorem daa_33 : decode jdk_68_method_31_code 33 = .ok (.dup_x1, 1) := by decide +kernel
theorem daa_34 : decode jdk_68_method_31_code 34 = .ok (.iconst 1, 1) := by decide +kernel
theorem daa_35 : decode jdk_68_method_31_code 35 = .ok (.iadd, 1) := by decide +kernel
theorem daa_36 : decode jdk_68_method_31_code 36 = .ok (.putfield 79, 3) := by decide +kernel
theorem daa_39 : decode jdk_68_method_31_code 39 = .ok (.iload_n 1, 1) := by decide +kernel
theorem daa_40 : decode jdk_68_method_31_code 40 = .ok (.i2b, 1) := by decide +kernel
theorem daa_41 : decode jdk_68_method_31_code 41 = .ok (.bastore, 1) := by decide +kernel
theorem daa_42 : decode jdk_68_method_31_code 42 = .ok (.goto 33, 3) := by decide +kernel
theorem daa_75 : decode jdk_68_method_31_code 75 = .ok (.aload_n 0, 1) := by decide +kernel
theorem daa_76 : decode jdk_68_method_31_code 76 = .ok (.areturn, 1) := by decide +kernel
theorem pd_daa__I_V : parseMethodDescriptor "(I)V" = some ⟨[.int], none⟩ := by decide +kernel
theorem pd_daa___Z : parseMethodDescriptor "()Z" = some ⟨[], some .boolean⟩ := by decide +kernel
theorem pd_daa__C_Z : parseMethodDescriptor "(C)Z" = some ⟨[.char], some .boolean⟩ := by decide +kernel
theorem ef_daa_ (m : MethodId) (sb : Addr) (x1 : Int32) : entryFrame m #[(.ref sb), (.int x1)] 2 = mkF m 0 #[.val (.ref sb), .val (.int x1)] [] := by first | (simp [entryFrame, mkF, argsToLocals, Value.category]; done) | rfl
def Q_rmAA (Z : State) (sb : Addr) (x1 : Int32) (cs0 : Int32) (ar : Addr) (kb : ClassId) (z : Int32) (xs : List Int32) (h0 : Heap) (n0 : Nat) (v : Option Value) (h : Heap) (L : List Loc) : Prop := v = some (.ref sb) ∧ Fr n0 L ∧ Keep h0 h [sb, ar] ∧ own_St Z h0 h ∧ own_B Z h sb ar kb z (xs ++ [x1])
theorem pn_rmAA : plainName "java/lang/AbstractStringBuilder" = true := by first | (simp [plainName, overriddenIn]; done) | decide +kernel
set_option maxRecDepth 65536 in
set_option maxHeartbeats 40000000 in
theorem rmAA (l : Launch) (Z : State) (a0 : Array Value) (hw : ∀ d ∈ tables_1, d.before a0 Z = true) (ws : List Jvm.Cond) (sb : Addr) (x1 : Int32) (cs0 : Int32) (ar : Addr) (kb : ClassId) (z : Int32) (xs : List Int32) (h0 : Heap) (n0 : Nat) (Z0 : n0 ≤ h0.size) (S : Sta Z h0 "java/lang/String" "COMPACT_STRINGS" "Z" (.int cs0)) (hcs : ¬ cs0 = 0) (B : own_B Z h0 sb ar kb z xs) (hxr : 0 ≤ x1.toInt ∧ x1.toInt < 128) (hroom : xs.length < z.toNatClampNeg) (hz16 : z.toNatClampNeg ≤ 16) (gs : n0 ≤ sb) (gr : n0 ≤ ar) :
    MetFree l (⟨"java/lang/AbstractStringBuilder", "append", "(C)Ljava/lang/AbstractStringBuilder;"⟩ : MethodName) (head1 (Jvm.Cond.code (⟨"java/lang/AbstractStringBuilder", "append", "(C)Ljava/lang/AbstractStringBuilder;"⟩ : MethodName) jdk_68_method_31_code 2 (some (.object "java/lang/AbstractStringBuilder")) :: ws) ({ frames := 1, cells := 0, slots := 0, locals := 14 } : Room)) (fun aZ U => aZ = #[(.ref sb), (.int x1)] ∧ Z.Warmed39 U.vm ∧ U.heap = h0) (fun _ _ _ _ _ => True) (fun _ U o U' => ∃ v L, o = .returned v ∧ Q_rmAA Z sb x1 cs0  ar  kb  z  xs  h0 n0 v U'.heap L ∧ FrameEnd U o U' L ({ frames := 1, cells := 0, slots := 0, locals := 14 } : Room).cells ({ frames := 1, cells := 0, slots := 0, locals := 14 } : Room).slots) := by
  refine MetFree.of_bodySF (plainFor_of_name pn_rmAA) hisR ?_
  intro p e s m args below meth c s₁ Bd hml0 hP hK
  obtain ⟨rfl, hZ, hh⟩ := hP
  have hx := Bd.exec
  have hby := Bd.bytes
  have hml : c.maxLocals = 2 := hml0
  have hown : s.vm.findClass "java/lang/AbstractStringBuilder" = some m.cls := findClass_of_methodNamed Bd.named
  have hnm := (name_of_methodNamed Bd.named Bd.method).1
  have X0 : Stand p l e ({ frames := 1, cells := 0, slots := 0, locals := 14 } : Room) s m #[(.ref sb), (.int x1)] below meth c s₁ [] 0 0 := Stand.of_body Bd
  have e0 : s₁.heap = h0 := by rw [← hh, Bd.state]; rfl
  have N0 := Fr.nil n0
  have pre0 : ∀ tZ, Steps p.tables e below (s₁.setTop (mkF m 0 #[.val (.ref sb), .val (.int x1)] [])) tZ → Steps p.tables e below (s₁.setTop (entryFrame m #[(.ref sb), (.int x1)] 2)) tZ := fun tZ kZ => castTop (ef_daa_ m sb x1) kZ
  have B0 := B
  obtain ⟨E, Fv, Fc, Fn, V, Eb, ne⟩ := B
  have hl31 : xs.length < 2147483648 := by omega
  have hzn : ¬ z < 0 := by obtain ⟨_, _, _, _, N, _, _⟩ := V; exact N
  have hzt := nat_of hzn
  have hct := own_ofNat hl31
  have k0 : (0 : Int32).toInt = 0 := by decide
  have hm2 : ¬ (0 : Int32) < ((Int32.ofNat xs.length) + (1 : Int32)) - z := by
    rw [own_up, Int32.lt_iff_toInt_lt, k0]
    have e1 := c_isub (Int32.ofNat (xs.length + 1)) z
    have e2 := own_ofNat (show xs.length + 1 < 2147483648 by omega)
    have r1 := rng32 (Int32.ofNat (xs.length + 1) - z)
    omega
  have hx255 : ¬ (255 : Int32) < x1 := by
    have k255 : (255 : Int32).toInt = 255 := by decide
    rw [Int32.lt_iff_toInt_lt, k255]; omega
  have hinr : ¬ (Int32.ofNat xs.length) < 0 ∧ (Int32.ofNat xs.length) < z := ⟨own_nn hl31, by rw [Int32.lt_iff_toInt_lt]; omega⟩
  obtain ⟨T1, X1, e1, st1⟩ := getF X0 hx hZ hown (host := "") (Or.inl (hw _ (List.mem_of_getElem? (i := 37) rfl))) Via.refl e0 Fn (g := (mkF m 2 #[.val (.ref sb), .val (.int x1)] [(.ref sb), (.ref sb)])) rfl rfl (hb hby daa_2)
  obtain ⟨cq2, kq2, q2a, q2b, q2c⟩ := isOf hZ e1 E
  obtain ⟨_, _, ⟨T2, L2, k2, n2⟩, -, X2, ⟨Lc2, hQ2, l2, y2, z2⟩, st2⟩ := X1.virtualBack hx (y := (⟨"java/lang/AbstractStringBuilder", "ensureCapacityInternal", "(I)V"⟩ : MethodName)) (z := (⟨"java/lang/AbstractStringBuilder", "ensureCapacityInternal", "(I)V"⟩ : MethodName)) hown (mvT hZ (hw _ (List.mem_of_getElem? (i := 123) rfl))) (mvT hZ (own_decl (hw _ (List.mem_of_getElem? (i := 124) rfl)) (hw _ (List.mem_of_getElem? (i := 127) rfl)))) (own_nf (args := #[]) (mvT hZ (hw _ (List.mem_of_getElem? (i := 64) rfl))) rfl) (mvT hZ (hw _ (List.mem_of_getElem? (i := 126) rfl))) (mvT hZ (hw _ (List.mem_of_getElem? (i := 124) rfl))) (by decide) (backOf (W := 0) (rmEN l Z a0 hw [] sb ((Int32.ofNat xs.length) + (1 : Int32)) ar kb z xs h0 n0 Z0 B0 hm2) hZ (hw _ (List.mem_of_getElem? (i := 127) rfl)) (hw _ (List.mem_of_getElem? (i := 16) rfl)) (by decide) (by decide)) q2a q2c (g := (mkF m 7 #[.val (.ref sb), .val (.int x1)] [(.int ((Int32.ofNat xs.length) + (1 : Int32))), (.ref sb)])) rfl (by rw [hml]; rfl) (Steps.refl _) (argsL := [(.int ((Int32.ofNat xs.length) + (1 : Int32)))]) (rest := []) (lenOf pd_daa__I_V rfl) rfl (by show 2 * 0 + _ ≤ _; exact Nat.le_of_eq rfl) (hb hby daa_7) (fun _ _ => ⟨rfl, e1, (by decide : 0 + 0 ≤ _), (by decide : 0 + 0 ≤ _)⟩)
  dsimp only [Pt.U, Pt.locs, Pt.cells, Pt.slots] at X2 l2 y2 z2 st2 hQ2
  subst l2 y2 z2
  obtain ⟨rfl, N2q, e2⟩ := hQ2
  have N2 := Fr.app N0 N2q
  obtain ⟨cq3, kq3, q3a, q3b, q3c⟩ := isOf hZ e2 E
  obtain ⟨_, _, ⟨T3, L3, k3, n3⟩, -, X3, ⟨Lc3, hQ3, l3, y3, z3⟩, st3⟩ := X2.virtualBack hx (y := (⟨"java/lang/AbstractStringBuilder", "isLatin1", "()Z"⟩ : MethodName)) (z := (⟨"java/lang/AbstractStringBuilder", "isLatin1", "()Z"⟩ : MethodName)) hown (mvT hZ (hw _ (List.mem_of_getElem? (i := 128) rfl))) (mvT hZ (hw _ (List.mem_of_getElem? (i := 62) rfl))) (notFace_of_selects (args := #[]) (mvT hZ (hw _ (List.mem_of_getElem? (i := 64) rfl)))) (mvT hZ (hw _ (List.mem_of_getElem? (i := 64) rfl))) (mvT hZ (hw _ (List.mem_of_getElem? (i := 63) rfl))) (by decide) (backOf (W := 0) (rmAT l Z a0 hw [] sb cs0 ar kb z xs h0 n0 Z0 S hcs B0) hZ (hw _ (List.mem_of_getElem? (i := 65) rfl)) (hw _ (List.mem_of_getElem? (i := 16) rfl)) (by decide) (by decide)) q3a q3c (g := (mkF m 11 #[.val (.ref sb), .val (.int x1)] [(.ref sb)])) rfl (by rw [hml]; rfl) (Steps.refl _) (argsL := []) (rest := []) (lenOf pd_daa___Z rfl) rfl (by show 2 * 0 + _ ≤ _; exact Nat.le_of_eq rfl) (hb hby daa_11) (fun _ _ => ⟨rfl, e2, (by decide : 0 + 0 ≤ _), (by decide : 0 + 0 ≤ _)⟩)
  dsimp only [Pt.U, Pt.locs, Pt.cells, Pt.slots] at X3 l3 y3 z3 st3 hQ3
  subst l3 y3 z3
  obtain ⟨rfl, N3q, e3⟩ := hQ3
  have N3 := Fr.app N2 N3q
  obtain ⟨_, _, ⟨T4, L4, k4, n4⟩, -, X4, ⟨Lc4, hQ4, l4, y4, z4⟩, st4⟩ := Jvm.LawKit.callS X3 hx (y := (⟨"java/lang/StringLatin1", "canEncode", "(C)Z"⟩ : MethodName)) hown (mvT hZ (hw _ (List.mem_of_getElem? (i := 129) rfl))) (mvT hZ (hw _ (List.mem_of_getElem? (i := 130) rfl))) (mvT hZ (hw _ (List.mem_of_getElem? (i := 131) rfl))) (mvT hZ (hw _ (List.mem_of_getElem? (i := 132) rfl))) (by decide) (backOf (W := 0) (rmCE l Z a0 hw [] x1 h0 n0 Z0 hx255) hZ (hw _ (List.mem_of_getElem? (i := 132) rfl)) (hw _ (List.mem_of_getElem? (i := 131) rfl)) (by decide) (by decide)) (g := (mkF m 18 #[.val (.ref sb), .val (.int x1)] [(.int x1)])) rfl (by rw [hml]; rfl) (argsL := [(.int x1)]) (rest := []) (lenOf pd_daa__C_Z rfl) rfl (by show 2 * 0 + _ ≤ _; exact Nat.le_of_eq rfl) (hb hby daa_18) (fun _ _ => ⟨rfl, e3, (by decide : 0 + 0 ≤ _), (by decide : 0 + 0 ≤ _)⟩)
  dsimp only [Pt.U, Pt.locs, Pt.cells, Pt.slots] at X4 l4 y4 z4 st4 hQ4
  subst l4 y4 z4
  obtain ⟨rfl, N4q, e4⟩ := hQ4
  have N4 := Fr.app N3 N4q
  obtain ⟨T5, X5, e5, st5⟩ := getF X4 hx hZ hown (host := "") (Or.inl (hw _ (List.mem_of_getElem? (i := 23) rfl))) Via.refl e4 Fv (g := (mkF m 25 #[.val (.ref sb), .val (.int x1)] [(.ref sb)])) rfl rfl (hb hby daa_25)
  obtain ⟨T6, X6, e6, st6⟩ := getF X5 hx hZ hown (host := "") (Or.inl (hw _ (List.mem_of_getElem? (i := 37) rfl))) Via.refl e5 Fn (g := (mkF m 30 #[.val (.ref sb), .val (.int x1)] [(.ref sb), (.ref sb), (.ref ar)])) rfl rfl (hb hby daa_30)
  obtain ⟨T7, h7, X7, e7, W7, st7⟩ := putF X6 hx hZ hown (host := "") (Or.inl (hw _ (List.mem_of_getElem? (i := 37) rfl))) Via.refl e6 Fn E (Or.inl (hw _ (List.mem_of_getElem? (i := 38) rfl))) (hw _ (List.mem_of_getElem? (i := 7) rfl)) (ty := .int) (by decide) rfl rfl (g := (mkF m 36 #[.val (.ref sb), .val (.int x1)] [(.int ((Int32.ofNat xs.length) + (1 : Int32))), (.ref sb), (.int (Int32.ofNat xs.length)), (.ref ar)])) rfl rfl (hb hby daa_36)
  have E2 := E.wr W7
  have Fn2 := Fn.same W7
  have Fv2 := Fv.other W7 (Or.inr (slot_ne (Or.inl (hw _ (List.mem_of_getElem? (i := 24) rfl))) (Or.inl (hw _ (List.mem_of_getElem? (i := 38) rfl))) (by decide) (t := (.array .byte)) (t' := .int) (by decide) (by decide)))
  have Fc2 := Fc.other W7 (Or.inr (slot_ne (Or.inl (hw _ (List.mem_of_getElem? (i := 26) rfl))) (Or.inl (hw _ (List.mem_of_getElem? (i := 38) rfl))) (by decide) (t := .byte) (t' := .int) (by decide) (by decide)))
  have V2 := V.other W7 (Ne.symm ne)
  have Eb2 := Eb.wr W7
  have M2 := Fr.snoc X7 N4 gs
  have K2 : Keep h0 h7 [sb, ar] := (Keep.refl h0 [sb, ar]).wr W7 (Or.inl (List.mem_of_getElem? (i := 0) rfl))
  have V2' := V2
  obtain ⟨ca, Av, qv, Sv, Nv, Hv, Gv⟩ := V2
  have hin := inb_of Sv hinr
  obtain ⟨T8, h8, X8, e8, W8, st8⟩ := stB X7 hx hZ e7 Av (j := (Int32.ofNat xs.length)) hin (g := (mkF m 41 #[.val (.ref sb), .val (.int x1)] [(.int (x1.toInt8.toInt32)), (.int (Int32.ofNat xs.length)), (.ref ar)])) rfl rfl (hb hby daa_41)
  have V3 := own_snoc V2' hl31 hxr W8
  have E3 := E2.wr W8
  have Fn3 := Fn2.other W8 (Or.inl ne)
  have Fv3 := Fv2.other W8 (Or.inl ne)
  have Fc3 := Fc2.other W8 (Or.inl ne)
  have Eb3 := Eb2.wr W8
  have M3 := Fr.snoc X8 M2 gr
  have K3 : Keep h0 h8 [sb, ar] := K2.wr W8 (Or.inl (List.mem_of_getElem? (i := 1) rfl))
  have St3 : own_St Z h0 h8 := (own_st_wr W7).trans (own_st_wr W8)
  rw [own_up, show xs.length + 1 = (xs ++ [x1]).length by simp] at Fn3
  obtain ⟨fs, hr, hrun, hended, hW, hsame⟩ := X8.leave (v := some (.ref sb)) (fun h => by rw [Bd.returns] at h; cases h)
  refine ⟨_, _, pre0 _ ?_, hrun, hended, _, _, rfl, ?_, ⟨_, rfl⟩, hW, hsame.mono (by decide) (by decide)⟩
  · show Steps p.tables e below (s₁.setTop (mkF m 0 #[.val (.ref sb), .val (.int x1)] [])) _
    refine XS.aloadN X0.here hx rfl (hb hby daa_0) rfl rfl ?_
    show Steps p.tables e below (s₁.setTop (mkF m 1 #[.val (.ref sb), .val (.int x1)] [(.ref sb)])) _
    refine XS.aloadN X0.here hx rfl (hb hby daa_1) rfl rfl ?_
    show Steps p.tables e below (s₁.setTop (mkF m 2 #[.val (.ref sb), .val (.int x1)] [(.ref sb), (.ref sb)])) _
    refine st1 _ ?_
    show Steps p.tables e below (T1.setTop (mkF m 5 #[.val (.ref sb), .val (.int x1)] [(.int (Int32.ofNat xs.length)), (.ref sb)])) _
    refine XS.iconst X1.here hx rfl (hb hby daa_5) ?_
    show Steps p.tables e below (T1.setTop (mkF m 6 #[.val (.ref sb), .val (.int x1)] [(.int (1 : Int32)), (.int (Int32.ofNat xs.length)), (.ref sb)])) _
    refine XS.iadd X1.here hx rfl (hb hby daa_6) rfl ?_
    show Steps p.tables e below (T1.setTop (mkF m 7 #[.val (.ref sb), .val (.int x1)] [(.int ((Int32.ofNat xs.length) + (1 : Int32))), (.ref sb)])) _
    refine st2.trans ?_
    show Steps p.tables e below (T2.setTop (mkF m 10 #[.val (.ref sb), .val (.int x1)] [])) _
    refine XS.aloadN X2.here hx rfl (hb hby daa_10) rfl rfl ?_
    show Steps p.tables e below (T2.setTop (mkF m 11 #[.val (.ref sb), .val (.int x1)] [(.ref sb)])) _
    refine st3.trans ?_
    show Steps p.tables e below (T3.setTop (mkF m 14 #[.val (.ref sb), .val (.int x1)] [(.int (1 : Int32))])) _
    refine XS.ifNo X3.here hx rfl (hb hby daa_14) rfl ((if0 _ _).trans (feq (by decide : ¬ (1 : Int32) = 0)).1) ?_
    show Steps p.tables e below (T3.setTop (mkF m 17 #[.val (.ref sb), .val (.int x1)] [])) _
    refine XS.iloadN X3.here hx rfl (hb hby daa_17) rfl ?_
    show Steps p.tables e below (T3.setTop (mkF m 18 #[.val (.ref sb), .val (.int x1)] [(.int x1)])) _
    refine st4 _ ?_
    show Steps p.tables e below (T4.setTop (mkF m 21 #[.val (.ref sb), .val (.int x1)] [(.int (1 : Int32))])) _
    refine XS.ifNo X4.here hx rfl (hb hby daa_21) rfl ((if0 _ _).trans (feq (by decide : ¬ (1 : Int32) = 0)).1) ?_
    show Steps p.tables e below (T4.setTop (mkF m 24 #[.val (.ref sb), .val (.int x1)] [])) _
    refine XS.aloadN X4.here hx rfl (hb hby daa_24) rfl rfl ?_
    show Steps p.tables e below (T4.setTop (mkF m 25 #[.val (.ref sb), .val (.int x1)] [(.ref sb)])) _
    refine st5 _ ?_
    show Steps p.tables e below (T5.setTop (mkF m 28 #[.val (.ref sb), .val (.int x1)] [(.ref ar)])) _
    refine XS.aloadN X5.here hx rfl (hb hby daa_28) rfl rfl ?_
    show Steps p.tables e below (T5.setTop (mkF m 29 #[.val (.ref sb), .val (.int x1)] [(.ref sb), (.ref ar)])) _
    refine XS.dup X5.here hx rfl (hb hby daa_29) rfl rfl ?_
    show Steps p.tables e below (T5.setTop (mkF m 30 #[.val (.ref sb), .val (.int x1)] [(.ref sb), (.ref sb), (.ref ar)])) _
    refine st6 _ ?_
    show Steps p.tables e below (T6.setTop (mkF m 33 #[.val (.ref sb), .val (.int x1)] [(.int (Int32.ofNat xs.length)), (.ref sb), (.ref ar)])) _
    refine XS.dupX1 X6.here hx rfl (hb hby daa_33) rfl rfl rfl ?_
    show Steps p.tables e below (T6.setTop (mkF m 34 #[.val (.ref sb), .val (.int x1)] [(.int (Int32.ofNat xs.length)), (.ref sb), (.int (Int32.ofNat xs.length)), (.ref ar)])) _
    refine XS.iconst X6.here hx rfl (hb hby daa_34) ?_
    show Steps p.tables e below (T6.setTop (mkF m 35 #[.val (.ref sb), .val (.int x1)] [(.int (1 : Int32)), (.int (Int32.ofNat xs.length)), (.ref sb), (.int (Int32.ofNat xs.length)), (.ref ar)])) _
    refine XS.iadd X6.here hx rfl (hb hby daa_35) rfl ?_
    show Steps p.tables e below (T6.setTop (mkF m 36 #[.val (.ref sb), .val (.int x1)] [(.int ((Int32.ofNat xs.length) + (1 : Int32))), (.ref sb), (.int (Int32.ofNat xs.length)), (.ref ar)])) _
    refine st7 _ ?_
    show Steps p.tables e below (T7.setTop (mkF m 39 #[.val (.ref sb), .val (.int x1)] [(.int (Int32.ofNat xs.length)), (.ref ar)])) _
    refine XS.iloadN X7.here hx rfl (hb hby daa_39) rfl ?_
    show Steps p.tables e below (T7.setTop (mkF m 40 #[.val (.ref sb), .val (.int x1)] [(.int x1), (.int (Int32.ofNat xs.length)), (.ref ar)])) _
    refine XS.i2b X7.here hx rfl (hb hby daa_40) rfl ?_
    show Steps p.tables e below (T7.setTop (mkF m 41 #[.val (.ref sb), .val (.int x1)] [(.int (x1.toInt8.toInt32)), (.int (Int32.ofNat xs.length)), (.ref ar)])) _
    refine st8 _ ?_
    show Steps p.tables e below (T8.setTop (mkF m 42 #[.val (.ref sb), .val (.int x1)] [])) _
    refine XS.goto X8.here hx rfl (pc0 := 42) (pc' := 75) rfl (hb hby daa_42) (by decide) (by decide) ?_
    show Steps p.tables e below (T8.setTop (mkF m 75 #[.val (.ref sb), .val (.int x1)] [])) _
    refine XS.aloadN X8.here hx rfl (hb hby daa_75) rfl rfl ?_
    show Steps p.tables e below (T8.setTop (mkF m 76 #[.val (.ref sb), .val (.int x1)] [(.ref sb)])) _
    exact X8.areturnOut hx rfl Bd.returns rfl (hb hby daa_76) hr
  · show Q_rmAA Z sb x1 cs0 ar kb z xs h0 n0 _ T8.heap _
    rw [e8]
    exact ⟨rfl, M3, K3, St3, E3, Fv3, Fc3, Fn3, V3, Eb3, ne⟩

theorem dsa_0 : decode jdk_67_method_14_code 0 = .ok (.aload_n 0, 1) := by decide +kernel
theorem dsa_1 : decode jdk_67_method_14_code 1 = .ok (.iload_n 1, 1) := by decide +kernel
theorem dsa_2 : decode jdk_67_method_14_code 2 = .ok (.invokespecial 50, 3) := by decide +kernel
theorem dsa_5 : decode jdk_67_method_14_code 5 = .ok (.pop, 1) := by decide +kernel
theorem dsa_6 : decode jdk_67_method_14_code 6 = .ok (.aload_n 0, 1) := by decide +kernel
theorem dsa_7 : decode jdk_67_method_14_code 7 = .ok (.areturn, 1) := by decide +kernel
theorem pd_dsa__C_Ljava_lang_AbstractStringBuilder_ : parseMethodDescriptor "(C)Ljava/lang/AbstractStringBuilder;" = some ⟨[.char], some (.object "java/lang/AbstractStringBuilder")⟩ := by decide +kernel
theorem ef_dsa_ (m : MethodId) (sb : Addr) (x1 : Int32) : entryFrame m #[(.ref sb), (.int x1)] 2 = mkF m 0 #[.val (.ref sb), .val (.int x1)] [] := by first | (simp [entryFrame, mkF, argsToLocals, Value.category]; done) | rfl
def Q_rmSA (Z : State) (sb : Addr) (x1 : Int32) (cs0 : Int32) (ar : Addr) (kb : ClassId) (z : Int32) (xs : List Int32) (h0 : Heap) (n0 : Nat) (v : Option Value) (h : Heap) (L : List Loc) : Prop := v = some (.ref sb) ∧ Fr n0 L ∧ Keep h0 h [sb, ar] ∧ own_St Z h0 h ∧ own_B Z h sb ar kb z (xs ++ [x1])
theorem pn_rmSA : plainName "java/lang/StringBuilder" = true := by first | (simp [plainName, overriddenIn]; done) | decide +kernel
set_option maxRecDepth 65536 in
set_option maxHeartbeats 40000000 in
theorem rmSA (l : Launch) (Z : State) (a0 : Array Value) (hw : ∀ d ∈ tables_1, d.before a0 Z = true) (ws : List Jvm.Cond) (sb : Addr) (x1 : Int32) (cs0 : Int32) (ar : Addr) (kb : ClassId) (z : Int32) (xs : List Int32) (h0 : Heap) (n0 : Nat) (Z0 : n0 ≤ h0.size) (S : Sta Z h0 "java/lang/String" "COMPACT_STRINGS" "Z" (.int cs0)) (hcs : ¬ cs0 = 0) (B : own_B Z h0 sb ar kb z xs) (hxr : 0 ≤ x1.toInt ∧ x1.toInt < 128) (hroom : xs.length < z.toNatClampNeg) (hz16 : z.toNatClampNeg ≤ 16) (gs : n0 ≤ sb) (gr : n0 ≤ ar) :
    MetFree l (⟨"java/lang/StringBuilder", "append", "(C)Ljava/lang/StringBuilder;"⟩ : MethodName) (head1 (Jvm.Cond.code (⟨"java/lang/StringBuilder", "append", "(C)Ljava/lang/StringBuilder;"⟩ : MethodName) jdk_67_method_14_code 2 (some (.object "java/lang/StringBuilder")) :: ws) ({ frames := 2, cells := 0, slots := 0, locals := 28 } : Room)) (fun aZ U => aZ = #[(.ref sb), (.int x1)] ∧ Z.Warmed39 U.vm ∧ U.heap = h0) (fun _ _ _ _ _ => True) (fun _ U o U' => ∃ v L, o = .returned v ∧ Q_rmSA Z sb x1 cs0  ar  kb  z  xs  h0 n0 v U'.heap L ∧ FrameEnd U o U' L ({ frames := 2, cells := 0, slots := 0, locals := 28 } : Room).cells ({ frames := 2, cells := 0, slots := 0, locals := 28 } : Room).slots) := by
  refine MetFree.of_bodySF (plainFor_of_name pn_rmSA) hisR ?_
  intro p e s m args below meth c s₁ Bd hml0 hP hK
  obtain ⟨rfl, hZ, hh⟩ := hP
  have hx := Bd.exec
  have hby := Bd.bytes
  have hml : c.maxLocals = 2 := hml0
  have hown : s.vm.findClass "java/lang/StringBuilder" = some m.cls := findClass_of_methodNamed Bd.named
  have hnm := (name_of_methodNamed Bd.named Bd.method).1
  have X0 : Stand p l e ({ frames := 2, cells := 0, slots := 0, locals := 28 } : Room) s m #[(.ref sb), (.int x1)] below meth c s₁ [] 0 0 := Stand.of_body Bd
  have e0 : s₁.heap = h0 := by rw [← hh, Bd.state]; rfl
  have N0 := Fr.nil n0
  have pre0 : ∀ tZ, Steps p.tables e below (s₁.setTop (mkF m 0 #[.val (.ref sb), .val (.int x1)] [])) tZ → Steps p.tables e below (s₁.setTop (entryFrame m #[(.ref sb), (.int x1)] 2)) tZ := fun tZ kZ => castTop (ef_dsa_ m sb x1) kZ
  obtain ⟨_, _, ⟨T1, L1, k1, n1⟩, -, X1, ⟨Lc1, hQ1, l1, y1, z1⟩, st1⟩ := superBack X0 hx hZ (y := (⟨"java/lang/AbstractStringBuilder", "append", "(C)Ljava/lang/AbstractStringBuilder;"⟩ : MethodName)) hown (hw _ (List.mem_of_getElem? (i := 119) rfl)) (own_same (y := (⟨"java/lang/AbstractStringBuilder", "append", "(C)Ljava/lang/AbstractStringBuilder;"⟩ : MethodName)) (by decide) (hw _ (List.mem_of_getElem? (i := 121) rfl)) (own_nf (args := a0) (hw _ (List.mem_of_getElem? (i := 64) rfl)) rfl)) (hw _ (List.mem_of_getElem? (i := 120) rfl)) (hw _ (List.mem_of_getElem? (i := 34) rfl)) (by decide) (backOf (W := 0) (rmAA l Z a0 hw [] sb x1 cs0 ar kb z xs h0 n0 Z0 S hcs B hxr hroom hz16 gs gr) hZ (hw _ (List.mem_of_getElem? (i := 122) rfl)) (hw _ (List.mem_of_getElem? (i := 16) rfl)) (by decide) (by decide)) e0 (Ins.self B.1) (g := (mkF m 2 #[.val (.ref sb), .val (.int x1)] [(.int x1), (.ref sb)])) rfl (by rw [hml]; rfl) (hw _ (List.mem_of_getElem? (i := 122) rfl)) (argsL := [(.int x1)]) (rest := []) (lenOf pd_dsa__C_Ljava_lang_AbstractStringBuilder_ rfl) rfl (by show 2 * 0 + _ ≤ _; exact Nat.le_of_eq rfl) (hb hby dsa_2) (fun _ _ => ⟨rfl, e0, (by decide : 0 + 0 ≤ _), (by decide : 0 + 0 ≤ _)⟩)
  dsimp only [Pt.U, Pt.locs, Pt.cells, Pt.slots] at X1 l1 y1 z1 st1 hQ1
  subst l1 y1 z1
  obtain ⟨rfl, N1q, K1, St1, Bq1⟩ := hQ1
  have N1 := Fr.app N0 N1q
  obtain ⟨fs, hr, hrun, hended, hW, hsame⟩ := X1.leave (v := some (.ref sb)) (fun h => by rw [Bd.returns] at h; cases h)
  refine ⟨_, _, pre0 _ ?_, hrun, hended, _, _, rfl, ?_, ⟨_, rfl⟩, hW, hsame.mono (by decide) (by decide)⟩
  · show Steps p.tables e below (s₁.setTop (mkF m 0 #[.val (.ref sb), .val (.int x1)] [])) _
    refine XS.aloadN X0.here hx rfl (hb hby dsa_0) rfl rfl ?_
    show Steps p.tables e below (s₁.setTop (mkF m 1 #[.val (.ref sb), .val (.int x1)] [(.ref sb)])) _
    refine XS.iloadN X0.here hx rfl (hb hby dsa_1) rfl ?_
    show Steps p.tables e below (s₁.setTop (mkF m 2 #[.val (.ref sb), .val (.int x1)] [(.int x1), (.ref sb)])) _
    refine st1.trans ?_
    show Steps p.tables e below (T1.setTop (mkF m 5 #[.val (.ref sb), .val (.int x1)] [(.ref sb)])) _
    refine XS.pop X1.here hx rfl (hb hby dsa_5) rfl rfl ?_
    show Steps p.tables e below (T1.setTop (mkF m 6 #[.val (.ref sb), .val (.int x1)] [])) _
    refine XS.aloadN X1.here hx rfl (hb hby dsa_6) rfl rfl ?_
    show Steps p.tables e below (T1.setTop (mkF m 7 #[.val (.ref sb), .val (.int x1)] [(.ref sb)])) _
    exact X1.areturnOut hx rfl Bd.returns rfl (hb hby dsa_7) hr
  · show Q_rmSA Z sb x1 cs0 ar kb z xs h0 n0 _ T1.heap _
    exact ⟨rfl, N1, K1, St1, Bq1⟩

def own_S (Z : State) (h : Heap) (st ar : Addr) (kb : ClassId) (z : Int32) (xs : List Int32) : Prop :=
  Exa Z h st "java/lang/String" ∧ Fld Z h st "java/lang/String" "coder" "B" (.int (0 : Int32)) ∧ Fld Z h st "java/lang/String" "value" "[B" (.ref ar) ∧ Arv Z h ar kb .byte z (xs.map Value.int) (.int (0 : Int32))
theorem own_B_ext {Z : State} {h h' : Heap} {sb ar : Addr} {kb : ClassId} {z : Int32} {xs : List Int32} (E : Ext h h') (B : own_B Z h sb ar kb z xs) : own_B Z h' sb ar kb z xs :=
  ⟨B.1.ext E, B.2.1.ext E, B.2.2.1.ext E, B.2.2.2.1.ext E, B.2.2.2.2.1.ext E, B.2.2.2.2.2.1.ext E, B.2.2.2.2.2.2⟩
theorem dcr_0 : decode jdk_65_method_132_code 0 = .ok (.iload_n 1, 1) := by decide +kernel
theorem dcr_1 : decode jdk_65_method_132_code 1 = .ok (.ifCond .ne 9, 3) := by decide +kernel
theorem dcr_4 : decode jdk_65_method_132_code 4 = .ok (.iload_n 2, 1) := by decide +kernel
theorem dcr_5 : decode jdk_65_method_132_code 5 = .ok (.aload_n 0, 1) := by decide +kernel
theorem dcr_6 : decode jdk_65_method_132_code 6 = .ok (.arraylength, 1) := by decide +kernel
theorem dcr_7 : decode jdk_65_method_132_code 7 = .ok (.if_icmp .eq 10, 3) := by decide +kernel
theorem dcr_17 : decode jdk_65_method_132_code 17 = .ok (.aload_n 0, 1) := by decide +kernel
theorem dcr_18 : decode jdk_65_method_132_code 18 = .ok (.invokevirtual 310, 3) := by decide +kernel
theorem dcr_21 : decode jdk_65_method_132_code 21 = .ok (.checkcast 311, 3) := by decide +kernel
theorem dcr_24 : decode jdk_65_method_132_code 24 = .ok (.areturn, 1) := by decide +kernel
theorem ef_dcr_ (m : MethodId) (ar : Addr) (f0 : Int32) (t0 : Int32) : entryFrame m #[(.ref ar), (.int f0), (.int t0)] 3 = mkF m 0 #[.val (.ref ar), .val (.int f0), .val (.int t0)] [] := by first | (simp [entryFrame, mkF, argsToLocals, Value.category]; done) | rfl
def Q_rmCR (Z : State) (ar : Addr) (f0 : Int32) (t0 : Int32) (bq : Addr) (kb : ClassId) (z : Int32) (vs : List Value) (h0 : Heap) (n0 : Nat) (v : Option Value) (h : Heap) (L : List Loc) : Prop := v = some (.ref bq) ∧ Fr n0 L ∧ Ext h0 h ∧ Arv Z h bq kb .byte z vs (.int (0 : Int32))
theorem pn_rmCR : plainName "java/util/Arrays" = true := by first | (simp [plainName, overriddenIn]; done) | decide +kernel
set_option maxRecDepth 65536 in
set_option maxHeartbeats 40000000 in
theorem rmCR (l : Launch) (Z : State) (a0 : Array Value) (hw : ∀ d ∈ tables_1, d.before a0 Z = true) (ws : List Jvm.Cond) (ar : Addr) (f0 : Int32) (t0 : Int32) (bq : Addr) (kb : ClassId) (z : Int32) (vs : List Value) (h0 : Heap) (n0 : Nat) (Z0 : n0 ≤ h0.size) (hf0 : f0 = 0) (ht0 : t0 = z) (hbq : bq = h0.size) (V : Arv Z h0 ar kb .byte z vs (.int (0 : Int32))) (Eb : Exa Z h0 ar "[B") (hz16 : z.toNatClampNeg ≤ 16) :
    MetFree l (⟨"java/util/Arrays", "copyOfRange", "([BII)[B"⟩ : MethodName) (head1 (Jvm.Cond.code (⟨"java/util/Arrays", "copyOfRange", "([BII)[B"⟩ : MethodName) jdk_65_method_132_code 3 (some (.array .byte)) :: ws) ({ frames := 1, cells := 1, slots := 16, locals := 14 } : Room)) (fun aZ U => aZ = #[(.ref ar), (.int f0), (.int t0)] ∧ Z.Warmed39 U.vm ∧ U.heap = h0) (fun _ _ _ _ _ => True) (fun _ U o U' => ∃ v L, o = .returned v ∧ Q_rmCR Z ar f0 t0 bq  kb  z  vs  h0 n0 v U'.heap L ∧ FrameEnd U o U' L ({ frames := 1, cells := 1, slots := 16, locals := 14 } : Room).cells ({ frames := 1, cells := 1, slots := 16, locals := 14 } : Room).slots) := by
  refine MetFree.of_bodySF (plainFor_of_name pn_rmCR) hisR ?_
  intro p e s m args below meth c s₁ Bd hml0 hP hK
  obtain ⟨rfl, hZ, hh⟩ := hP
  have hx := Bd.exec
  have hby := Bd.bytes
  have hml : c.maxLocals = 3 := hml0
  have hown : s.vm.findClass "java/util/Arrays" = some m.cls := findClass_of_methodNamed Bd.named
  have hnm := (name_of_methodNamed Bd.named Bd.method).1
  have X0 : Stand p l e ({ frames := 1, cells := 1, slots := 16, locals := 14 } : Room) s m #[(.ref ar), (.int f0), (.int t0)] below meth c s₁ [] 0 0 := Stand.of_body Bd
  have e0 : s₁.heap = h0 := by rw [← hh, Bd.state]; rfl
  have N0 := Fr.nil n0
  have pre0 : ∀ tZ, Steps p.tables e below (s₁.setTop (mkF m 0 #[.val (.ref ar), .val (.int f0), .val (.int t0)] [])) tZ → Steps p.tables e below (s₁.setTop (entryFrame m #[(.ref ar), (.int f0), (.int t0)] 3)) tZ := fun tZ kZ => castTop (ef_dcr_ m ar f0 t0) kZ
  subst hf0 ht0
  have V0 := V
  obtain ⟨ca, Av, qv, Sv, Nv, Hv, Gv⟩ := V
  obtain ⟨T1, h1, X1, e1, E1, Vc, Ec, st1⟩ := cloneH X0 hx hZ hown (hw _ (List.mem_of_getElem? (i := 72) rfl)) (hw _ (List.mem_of_getElem? (i := 73) rfl)) (hw _ (List.mem_of_getElem? (i := 77) rfl)) (hw _ (List.mem_of_getElem? (i := 75) rfl)) (hw _ (List.mem_of_getElem? (i := 76) rfl)) (hw _ (List.mem_of_getElem? (i := 78) rfl)) e0 V0.arh Eb (g := (mkF m 18 #[.val (.ref ar), .val (.int (0 : Int32)), .val (.int t0)] [(.ref ar)])) rfl (by rw [hml]; rfl) rfl (hb hby dcr_18) (by decide) (W := 0) (by show 2 * 0 + _ ≤ _; exact Nat.le_of_eq rfl) (by decide) hz16 (by decide) (by decide)
  rw [← hbq] at Vc Ec st1
  obtain ⟨T2, X2, e2, st2⟩ := castY X1 hx hZ hown (hw _ (List.mem_of_getElem? (i := 79) rfl)) e1 (Ins.self Ec) (g := (mkF m 21 #[.val (.ref ar), .val (.int (0 : Int32)), .val (.int t0)] [(.ref bq)])) rfl rfl (hb hby dcr_21)
  obtain ⟨fs, hr, hrun, hended, hW, hsame⟩ := X2.leave (v := some (.ref bq)) (fun h => by rw [Bd.returns] at h; cases h)
  refine ⟨_, _, pre0 _ ?_, hrun, hended, _, _, rfl, ?_, ⟨_, rfl⟩, hW, hsame.mono (by decide) (by decide)⟩
  · show Steps p.tables e below (s₁.setTop (mkF m 0 #[.val (.ref ar), .val (.int (0 : Int32)), .val (.int t0)] [])) _
    refine XS.iloadN X0.here hx rfl (hb hby dcr_0) rfl ?_
    show Steps p.tables e below (s₁.setTop (mkF m 1 #[.val (.ref ar), .val (.int (0 : Int32)), .val (.int t0)] [(.int (0 : Int32))])) _
    refine XS.ifNo X0.here hx rfl (hb hby dcr_1) rfl ((if0 _ _).trans (teq (rfl : (0 : Int32) = 0)).2) ?_
    show Steps p.tables e below (s₁.setTop (mkF m 4 #[.val (.ref ar), .val (.int (0 : Int32)), .val (.int t0)] [])) _
    refine XS.iloadN X0.here hx rfl (hb hby dcr_4) rfl ?_
    show Steps p.tables e below (s₁.setTop (mkF m 5 #[.val (.ref ar), .val (.int (0 : Int32)), .val (.int t0)] [(.int t0)])) _
    refine XS.aloadN X0.here hx rfl (hb hby dcr_5) rfl rfl ?_
    show Steps p.tables e below (s₁.setTop (mkF m 6 #[.val (.ref ar), .val (.int (0 : Int32)), .val (.int t0)] [(.ref ar), (.int t0)])) _
    refine X0.arraylength hx (by rw [e0]; exact Av.1) (State.isArrayOf_alike hZ.alike Av.2.1) (g := (mkF m 6 #[.val (.ref ar), .val (.int (0 : Int32)), .val (.int t0)] [(.ref ar), (.int t0)])) rfl rfl (hb hby dcr_6) _ ?_
    rw [len_of Sv Nv]
    show Steps p.tables e below (s₁.setTop (mkF m 7 #[.val (.ref ar), .val (.int (0 : Int32)), .val (.int t0)] [(.int t0), (.int t0)])) _
    refine XS.icmpYes X0.here hx rfl (pc0 := 7) (pc' := 17) rfl (hb hby dcr_7) rfl (teq (rfl : t0 = t0)).1 (by decide) (by decide) ?_
    show Steps p.tables e below (s₁.setTop (mkF m 17 #[.val (.ref ar), .val (.int (0 : Int32)), .val (.int t0)] [])) _
    refine XS.aloadN X0.here hx rfl (hb hby dcr_17) rfl rfl ?_
    show Steps p.tables e below (s₁.setTop (mkF m 18 #[.val (.ref ar), .val (.int (0 : Int32)), .val (.int t0)] [(.ref ar)])) _
    refine st1 _ ?_
    show Steps p.tables e below (T1.setTop (mkF m 21 #[.val (.ref ar), .val (.int (0 : Int32)), .val (.int t0)] [(.ref bq)])) _
    refine st2 _ ?_
    show Steps p.tables e below (T2.setTop (mkF m 24 #[.val (.ref ar), .val (.int (0 : Int32)), .val (.int t0)] [(.ref bq)])) _
    exact X2.areturnOut hx rfl Bd.returns rfl (hb hby dcr_24) hr
  · show Q_rmCR Z ar 0 t0 bq kb t0 vs h0 n0 _ T2.heap _
    rw [e2]
    exact ⟨rfl, N0, E1, Vc⟩

theorem dsv_0 : decode jdk_42_method_150_code 0 = .ok (.aload_n 0, 1) := by decide +kernel
theorem dsv_1 : decode jdk_42_method_150_code 1 = .ok (.invokespecial 1, 3) := by decide +kernel
theorem dsv_4 : decode jdk_42_method_150_code 4 = .ok (.aload_n 1, 1) := by decide +kernel
theorem dsv_5 : decode jdk_42_method_150_code 5 = .ok (.invokevirtual 552, 3) := by decide +kernel
theorem dsv_8 : decode jdk_42_method_150_code 8 = .ok (.astore_n 3, 1) := by decide +kernel
theorem dsv_9 : decode jdk_42_method_150_code 9 = .ok (.aload_n 1, 1) := by decide +kernel
theorem dsv_10 : decode jdk_42_method_150_code 10 = .ok (.invokevirtual 549, 3) := by decide +kernel
theorem dsv_13 : decode jdk_42_method_150_code 13 = .ok (.istore 4, 2) := by decide +kernel
theorem dsv_15 : decode jdk_42_method_150_code 15 = .ok (.aload_n 1, 1) := by decide +kernel
theorem dsv_16 : decode jdk_42_method_150_code 16 = .ok (.invokevirtual 1047, 3) := by decide +kernel
theorem dsv_19 : decode jdk_42_method_150_code 19 = .ok (.ifCond .eq 22, 3) := by decide +kernel
theorem dsv_22 : decode jdk_42_method_150_code 22 = .ok (.aload_n 0, 1) := by decide +kernel
theorem dsv_23 : decode jdk_42_method_150_code 23 = .ok (.iconst 0, 1) := by decide +kernel
theorem dsv_24 : decode jdk_42_method_150_code 24 = .ok (.putfield 15, 3) := by decide +kernel
theorem dsv_27 : decode jdk_42_method_150_code 27 = .ok (.aload_n 0, 1) := by decide +kernel
theorem dsv_28 : decode jdk_42_method_150_code 28 = .ok (.aload_n 3, 1) := by decide +kernel
theorem dsv_29 : decode jdk_42_method_150_code 29 = .ok (.iconst 0, 1) := by decide +kernel
theorem dsv_30 : decode jdk_42_method_150_code 30 = .ok (.iload 4, 2) := by decide +kernel
theorem dsv_32 : decode jdk_42_method_150_code 32 = .ok (.invokestatic 54, 3) := by decide +kernel
theorem dsv_35 : decode jdk_42_method_150_code 35 = .ok (.putfield 9, 3) := by decide +kernel
theorem dsv_38 : decode jdk_42_method_150_code 38 = .ok (.goto 59, 3) := by decide +kernel
theorem dsv_97 : decode jdk_42_method_150_code 97 = .ok (.return_, 1) := by decide +kernel
theorem pd_dsv____B : parseMethodDescriptor "()[B" = some ⟨[], some (.array .byte)⟩ := by decide +kernel
theorem pd_dsv___I : parseMethodDescriptor "()I" = some ⟨[], some .int⟩ := by decide +kernel
theorem pd_dsv___Z : parseMethodDescriptor "()Z" = some ⟨[], some .boolean⟩ := by decide +kernel
theorem pd_dsv___BII__B : parseMethodDescriptor "([BII)[B" = some ⟨[(.array .byte), .int, .int], some (.array .byte)⟩ := by decide +kernel
theorem ef_dsv_ (m : MethodId) (a1 : Addr) (sb : Addr) : entryFrame m #[(.ref a1), (.ref sb), .null] 5 = mkF m 0 #[.val (.ref a1), .val (.ref sb), .val .null, .unset, .unset] [] := by first | (simp [entryFrame, mkF, argsToLocals, Value.category]; done) | rfl
def Q_rmSV (Z : State) (a1 : Addr) (sb : Addr) (cs0 : Int32) (bq : Addr) (ar : Addr) (kb : ClassId) (z : Int32) (xs : List Int32) (h0 : Heap) (n0 : Nat) (v : Option Value) (h : Heap) (L : List Loc) : Prop := v = none ∧ Fr n0 L ∧ Keep h0 h [a1] ∧ own_St Z h0 h ∧ own_S Z h a1 bq kb z xs
theorem pn_rmSV : plainName "java/lang/String" = true := by first | (simp [plainName, overriddenIn]; done) | decide +kernel
set_option maxRecDepth 65536 in
set_option maxHeartbeats 40000000 in
theorem rmSV (l : Launch) (Z : State) (a0 : Array Value) (hw : ∀ d ∈ tables_1, d.before a0 Z = true) (ws : List Jvm.Cond) (a1 : Addr) (sb : Addr) (cs0 : Int32) (bq : Addr) (ar : Addr) (kb : ClassId) (z : Int32) (xs : List Int32) (h0 : Heap) (n0 : Nat) (Z0 : n0 ≤ h0.size) (S : Sta Z h0 "java/lang/String" "COMPACT_STRINGS" "Z" (.int cs0)) (hcs : ¬ cs0 = 0) (B : own_B Z h0 sb ar kb z xs) (hfull : (Int32.ofNat xs.length) = z) (hz16 : z.toNatClampNeg ≤ 16) (hbq : bq = h0.size) (Es : Exa Z h0 a1 "java/lang/String") (Fcs : Fld Z h0 a1 "java/lang/String" "coder" "B" (.int (0 : Int32))) (Fvs : Fld Z h0 a1 "java/lang/String" "value" "[B" .null) (ga : n0 ≤ a1) :
    MetFree l (⟨"java/lang/String", "<init>", "(Ljava/lang/AbstractStringBuilder;Ljava/lang/Void;)V"⟩ : MethodName) (head1 (Jvm.Cond.code (⟨"java/lang/String", "<init>", "(Ljava/lang/AbstractStringBuilder;Ljava/lang/Void;)V"⟩ : MethodName) jdk_42_method_150_code 5 none :: ws) ({ frames := 2, cells := 1, slots := 16, locals := 29 } : Room)) (fun aZ U => aZ = #[(.ref a1), (.ref sb), .null] ∧ Z.Warmed39 U.vm ∧ U.heap = h0) (fun _ _ _ _ _ => True) (fun _ U o U' => ∃ v L, o = .returned v ∧ Q_rmSV Z a1 sb cs0  bq  ar  kb  z  xs  h0 n0 v U'.heap L ∧ FrameEnd U o U' L ({ frames := 2, cells := 1, slots := 16, locals := 29 } : Room).cells ({ frames := 2, cells := 1, slots := 16, locals := 29 } : Room).slots) := by
  refine MetFree.of_bodySF (plainFor_of_name pn_rmSV) hisR ?_
  intro p e s m args below meth c s₁ Bd hml0 hP hK
  obtain ⟨rfl, hZ, hh⟩ := hP
  have hx := Bd.exec
  have hby := Bd.bytes
  have hml : c.maxLocals = 5 := hml0
  have hown : s.vm.findClass "java/lang/String" = some m.cls := findClass_of_methodNamed Bd.named
  have hnm := (name_of_methodNamed Bd.named Bd.method).1
  have X0 : Stand p l e ({ frames := 2, cells := 1, slots := 16, locals := 29 } : Room) s m #[(.ref a1), (.ref sb), .null] below meth c s₁ [] 0 0 := Stand.of_body Bd
  have e0 : s₁.heap = h0 := by rw [← hh, Bd.state]; rfl
  have N0 := Fr.nil n0
  have pre0 : ∀ tZ, Steps p.tables e below (s₁.setTop (mkF m 0 #[.val (.ref a1), .val (.ref sb), .val .null, .unset, .unset] [])) tZ → Steps p.tables e below (s₁.setTop (entryFrame m #[(.ref a1), (.ref sb), .null] 5)) tZ := fun tZ kZ => castTop (ef_dsv_ m a1 sb) kZ
  have B0 := B
  obtain ⟨E, Fv, Fc, Fn, V, Eb, ne⟩ := B
  obtain ⟨T1, X1, e1, st1⟩ := initO X0 hx hZ hown (hw _ (List.mem_of_getElem? (i := 53) rfl)) (hw _ (List.mem_of_getElem? (i := 19) rfl)) (hw _ (List.mem_of_getElem? (i := 20) rfl)) e0 (g := (mkF m 1 #[.val (.ref a1), .val (.ref sb), .val .null, .unset, .unset] [(.ref a1)])) rfl (by rw [hml]; rfl) rfl (hb hby dsv_1) (by decide) (W := 0) (by show 2 * 0 + _ ≤ _; exact Nat.le_of_eq rfl) (by decide)
  obtain ⟨cq2, kq2, q2a, q2b, q2c⟩ := isOf hZ e1 E
  obtain ⟨_, _, ⟨T2, L2, k2, n2⟩, -, X2, ⟨Lc2, hQ2, l2, y2, z2⟩, st2⟩ := X1.virtualBack hx (y := (⟨"java/lang/AbstractStringBuilder", "getValue", "()[B"⟩ : MethodName)) (z := (⟨"java/lang/AbstractStringBuilder", "getValue", "()[B"⟩ : MethodName)) hown (mvT hZ (hw _ (List.mem_of_getElem? (i := 54) rfl))) (mvT hZ (hw _ (List.mem_of_getElem? (i := 55) rfl))) (notFace_of_selects (args := #[]) (mvT hZ (hw _ (List.mem_of_getElem? (i := 57) rfl)))) (mvT hZ (hw _ (List.mem_of_getElem? (i := 57) rfl))) (mvT hZ (hw _ (List.mem_of_getElem? (i := 56) rfl))) (by decide) (backOf (W := 0) (rmGV l Z a0 hw [] sb ar kb z xs h0 n0 Z0 B0) hZ (hw _ (List.mem_of_getElem? (i := 58) rfl)) (hw _ (List.mem_of_getElem? (i := 16) rfl)) (by decide) (by decide)) q2a q2c (g := (mkF m 5 #[.val (.ref a1), .val (.ref sb), .val .null, .unset, .unset] [(.ref sb)])) rfl (by rw [hml]; rfl) (Steps.refl _) (argsL := []) (rest := []) (lenOf pd_dsv____B rfl) rfl (by show 2 * 0 + _ ≤ _; exact Nat.le_of_eq rfl) (hb hby dsv_5) (fun _ _ => ⟨rfl, e1, (by decide : 0 + 0 ≤ _), (by decide : 0 + 0 ≤ _)⟩)
  dsimp only [Pt.U, Pt.locs, Pt.cells, Pt.slots] at X2 l2 y2 z2 st2 hQ2
  subst l2 y2 z2
  obtain ⟨rfl, N2q, e2⟩ := hQ2
  have N2 := Fr.app N0 N2q
  obtain ⟨cq3, kq3, q3a, q3b, q3c⟩ := isOf hZ e2 E
  obtain ⟨_, _, ⟨T3, L3, k3, n3⟩, -, X3, ⟨Lc3, hQ3, l3, y3, z3⟩, st3⟩ := X2.virtualBack hx (y := (⟨"java/lang/AbstractStringBuilder", "length", "()I"⟩ : MethodName)) (z := (⟨"java/lang/StringBuilder", "length", "()I"⟩ : MethodName)) hown (mvT hZ (hw _ (List.mem_of_getElem? (i := 59) rfl))) (mvT hZ (hw _ (List.mem_of_getElem? (i := 35) rfl))) (own_nf (args := #[]) (mvT hZ (hw _ (List.mem_of_getElem? (i := 64) rfl))) rfl) (mvT hZ (hw _ (List.mem_of_getElem? (i := 60) rfl))) (mvT hZ (hw _ (List.mem_of_getElem? (i := 29) rfl))) (by decide) (backOf (W := 0) (rmSL l Z a0 hw [] sb ar kb z xs h0 n0 Z0 B0) hZ (hw _ (List.mem_of_getElem? (i := 31) rfl)) (hw _ (List.mem_of_getElem? (i := 8) rfl)) (by decide) (by decide)) q3a q3c (g := (mkF m 10 #[.val (.ref a1), .val (.ref sb), .val .null, .val (.ref ar), .unset] [(.ref sb)])) rfl (by rw [hml]; rfl) (Steps.refl _) (argsL := []) (rest := []) (lenOf pd_dsv___I rfl) rfl (by show 2 * 0 + _ ≤ _; exact Nat.le_of_eq rfl) (hb hby dsv_10) (fun _ _ => ⟨rfl, e2, (by decide : 0 + 0 ≤ _), (by decide : 0 + 0 ≤ _)⟩)
  dsimp only [Pt.U, Pt.locs, Pt.cells, Pt.slots] at X3 l3 y3 z3 st3 hQ3
  subst l3 y3 z3
  obtain ⟨rfl, N3q, e3⟩ := hQ3
  have N3 := Fr.app N2 N3q
  obtain ⟨cq4, kq4, q4a, q4b, q4c⟩ := isOf hZ e3 E
  obtain ⟨_, _, ⟨T4, L4, k4, n4⟩, -, X4, ⟨Lc4, hQ4, l4, y4, z4⟩, st4⟩ := X3.virtualBack hx (y := (⟨"java/lang/AbstractStringBuilder", "isLatin1", "()Z"⟩ : MethodName)) (z := (⟨"java/lang/AbstractStringBuilder", "isLatin1", "()Z"⟩ : MethodName)) hown (mvT hZ (hw _ (List.mem_of_getElem? (i := 61) rfl))) (mvT hZ (hw _ (List.mem_of_getElem? (i := 62) rfl))) (notFace_of_selects (args := #[]) (mvT hZ (hw _ (List.mem_of_getElem? (i := 64) rfl)))) (mvT hZ (hw _ (List.mem_of_getElem? (i := 64) rfl))) (mvT hZ (hw _ (List.mem_of_getElem? (i := 63) rfl))) (by decide) (backOf (W := 0) (rmAT l Z a0 hw [] sb cs0 ar kb z xs h0 n0 Z0 S hcs B0) hZ (hw _ (List.mem_of_getElem? (i := 65) rfl)) (hw _ (List.mem_of_getElem? (i := 16) rfl)) (by decide) (by decide)) q4a q4c (g := (mkF m 16 #[.val (.ref a1), .val (.ref sb), .val .null, .val (.ref ar), .val (.int (Int32.ofNat xs.length))] [(.ref sb)])) rfl (by rw [hml]; rfl) (Steps.refl _) (argsL := []) (rest := []) (lenOf pd_dsv___Z rfl) rfl (by show 2 * 0 + _ ≤ _; exact Nat.le_of_eq rfl) (hb hby dsv_16) (fun _ _ => ⟨rfl, e3, (by decide : 0 + 0 ≤ _), (by decide : 0 + 0 ≤ _)⟩)
  dsimp only [Pt.U, Pt.locs, Pt.cells, Pt.slots] at X4 l4 y4 z4 st4 hQ4
  subst l4 y4 z4
  obtain ⟨rfl, N4q, e4⟩ := hQ4
  have N4 := Fr.app N3 N4q
  obtain ⟨T5, h5, X5, e5, W5, st5⟩ := putF X4 hx hZ hown (host := "") (Or.inl (hw _ (List.mem_of_getElem? (i := 66) rfl))) Via.refl e4 Fcs Es (Or.inr ⟨(hw _ (List.mem_of_getElem? (i := 67) rfl)), rfl, hnm⟩) (hw _ (List.mem_of_getElem? (i := 45) rfl)) (ty := .byte) (by decide) rfl rfl (g := (mkF m 24 #[.val (.ref a1), .val (.ref sb), .val .null, .val (.ref ar), .val (.int (Int32.ofNat xs.length))] [(.int (0 : Int32)), (.ref a1)])) rfl rfl (hb hby dsv_24)
  have nea : ar ≠ a1 := ne_exa Eb Es (by decide)
  have Y2 := Es.wr W5
  have Fc2 := Fcs.same W5
  have Fv2 := Fvs.other W5 (Or.inr (slot_ne (Or.inr (hw _ (List.mem_of_getElem? (i := 82) rfl))) (Or.inr (hw _ (List.mem_of_getElem? (i := 67) rfl))) (by decide) (t := (.array .byte)) (t' := .byte) (by decide) (by decide)))
  have V2 := V.other W5 nea
  have Eb2 := Eb.wr W5
  have M2 := Fr.snoc X5 N4 ga
  have J2 : Keep h0 h5 [a1] := (Keep.refl h0 [a1]).wr W5 (Or.inl (List.mem_of_getElem? (i := 0) rfl))
  have hbq2 : bq = h5.size := hbq.trans W5.size.symm
  obtain ⟨_, _, ⟨T6, L6, k6, n6⟩, -, X6, ⟨Lc6, hQ6, l6, y6, z6⟩, st6⟩ := Jvm.LawKit.callS X5 hx (y := (⟨"java/util/Arrays", "copyOfRange", "([BII)[B"⟩ : MethodName)) hown (mvT hZ (hw _ (List.mem_of_getElem? (i := 68) rfl))) (mvT hZ (hw _ (List.mem_of_getElem? (i := 69) rfl))) (mvT hZ (hw _ (List.mem_of_getElem? (i := 70) rfl))) (mvT hZ (hw _ (List.mem_of_getElem? (i := 71) rfl))) (by decide) (backOf (W := 1) (rmCR l Z a0 hw [] ar 0 (Int32.ofNat xs.length) bq kb z _ h5 n0 (Nat.le_trans Z0 J2.1) rfl hfull hbq2 V2 Eb2 hz16) hZ (hw _ (List.mem_of_getElem? (i := 71) rfl)) (hw _ (List.mem_of_getElem? (i := 70) rfl)) (by decide) (by decide)) (g := (mkF m 32 #[.val (.ref a1), .val (.ref sb), .val .null, .val (.ref ar), .val (.int (Int32.ofNat xs.length))] [(.int (Int32.ofNat xs.length)), (.int (0 : Int32)), (.ref ar), (.ref a1)])) rfl (by rw [hml]; rfl) (argsL := [(.ref ar), (.int (0 : Int32)), (.int (Int32.ofNat xs.length))]) (rest := [(.ref a1)]) (lenOf pd_dsv___BII__B rfl) rfl (by show 2 * 0 + _ ≤ _; exact Nat.le_of_eq rfl) (hb hby dsv_32) (fun _ _ => ⟨rfl, e5, (by decide : 0 + 1 ≤ _), (by decide : 0 + 16 ≤ _)⟩)
  dsimp only [Pt.U, Pt.locs, Pt.cells, Pt.slots] at X6 l6 y6 z6 st6 hQ6
  subst l6 y6 z6
  obtain ⟨rfl, N6q, Ex6, Vx6⟩ := hQ6
  have N6 := Fr.app M2 N6q
  have Y3 := Y2.ext Ex6
  have Fc3 := Fc2.ext Ex6
  have Fv3 := Fv2.ext Ex6
  have J3 := J2.ext Ex6
  have neb : bq ≠ a1 := fun q => Nat.lt_irrefl _ (Nat.lt_of_lt_of_le Es.lt (Nat.le_of_eq (hbq.symm.trans q)))
  obtain ⟨T7, h7, X7, e7, W7, st7⟩ := putF X6 hx hZ hown (host := "") (Or.inl (hw _ (List.mem_of_getElem? (i := 81) rfl))) Via.refl rfl Fv3 Y3 (Or.inr ⟨(hw _ (List.mem_of_getElem? (i := 82) rfl)), rfl, hnm⟩) (hw _ (List.mem_of_getElem? (i := 45) rfl)) (ty := (.array .byte)) (by decide) rfl rfl (g := (mkF m 35 #[.val (.ref a1), .val (.ref sb), .val .null, .val (.ref ar), .val (.int (Int32.ofNat xs.length))] [(.ref bq), (.ref a1)])) rfl rfl (hb hby dsv_35)
  have Y4 := Y3.wr W7
  have Fv4 := Fv3.same W7
  have Fc4 := Fc3.other W7 (Or.inr (slot_ne (Or.inr (hw _ (List.mem_of_getElem? (i := 67) rfl))) (Or.inr (hw _ (List.mem_of_getElem? (i := 82) rfl))) (by decide) (t := .byte) (t' := (.array .byte)) (by decide) (by decide)))
  have V4 := Vx6.other W7 neb
  have M4 := Fr.snoc X7 N6 ga
  have J4 : Keep h0 h7 [a1] := J3.wr W7 (Or.inl (List.mem_of_getElem? (i := 0) rfl))
  have St4 : own_St Z h0 h7 := ((own_st_wr W5).trans (own_st_ext Ex6)).trans (own_st_wr W7)
  obtain ⟨fs, hr, hrun, hended, hW, hsame⟩ := X7.leave (v := none) (fun _ => rfl)
  refine ⟨_, _, pre0 _ ?_, hrun, hended, _, _, rfl, ?_, ⟨_, rfl⟩, hW, hsame.mono (by decide) (by decide)⟩
  · show Steps p.tables e below (s₁.setTop (mkF m 0 #[.val (.ref a1), .val (.ref sb), .val .null, .unset, .unset] [])) _
    refine XS.aloadN X0.here hx rfl (hb hby dsv_0) rfl rfl ?_
    show Steps p.tables e below (s₁.setTop (mkF m 1 #[.val (.ref a1), .val (.ref sb), .val .null, .unset, .unset] [(.ref a1)])) _
    refine st1 _ ?_
    show Steps p.tables e below (T1.setTop (mkF m 4 #[.val (.ref a1), .val (.ref sb), .val .null, .unset, .unset] [])) _
    refine XS.aloadN X1.here hx rfl (hb hby dsv_4) rfl rfl ?_
    show Steps p.tables e below (T1.setTop (mkF m 5 #[.val (.ref a1), .val (.ref sb), .val .null, .unset, .unset] [(.ref sb)])) _
    refine st2.trans ?_
    show Steps p.tables e below (T2.setTop (mkF m 8 #[.val (.ref a1), .val (.ref sb), .val .null, .unset, .unset] [(.ref ar)])) _
    refine XS.astoreN X2.here hx rfl (hb hby dsv_8) rfl rfl (l' := #[.val (.ref a1), .val (.ref sb), .val .null, .val (.ref ar), .unset]) rfl ?_
    show Steps p.tables e below (T2.setTop (mkF m 9 #[.val (.ref a1), .val (.ref sb), .val .null, .val (.ref ar), .unset] [])) _
    refine XS.aloadN X2.here hx rfl (hb hby dsv_9) rfl rfl ?_
    show Steps p.tables e below (T2.setTop (mkF m 10 #[.val (.ref a1), .val (.ref sb), .val .null, .val (.ref ar), .unset] [(.ref sb)])) _
    refine st3.trans ?_
    show Steps p.tables e below (T3.setTop (mkF m 13 #[.val (.ref a1), .val (.ref sb), .val .null, .val (.ref ar), .unset] [(.int (Int32.ofNat xs.length))])) _
    refine XS.istore X3.here hx rfl (hb hby dsv_13) rfl (l' := #[.val (.ref a1), .val (.ref sb), .val .null, .val (.ref ar), .val (.int (Int32.ofNat xs.length))]) rfl ?_
    show Steps p.tables e below (T3.setTop (mkF m 15 #[.val (.ref a1), .val (.ref sb), .val .null, .val (.ref ar), .val (.int (Int32.ofNat xs.length))] [])) _
    refine XS.aloadN X3.here hx rfl (hb hby dsv_15) rfl rfl ?_
    show Steps p.tables e below (T3.setTop (mkF m 16 #[.val (.ref a1), .val (.ref sb), .val .null, .val (.ref ar), .val (.int (Int32.ofNat xs.length))] [(.ref sb)])) _
    refine st4.trans ?_
    show Steps p.tables e below (T4.setTop (mkF m 19 #[.val (.ref a1), .val (.ref sb), .val .null, .val (.ref ar), .val (.int (Int32.ofNat xs.length))] [(.int (1 : Int32))])) _
    refine XS.ifNo X4.here hx rfl (hb hby dsv_19) rfl ((if0 _ _).trans (feq (by decide : ¬ (1 : Int32) = 0)).1) ?_
    show Steps p.tables e below (T4.setTop (mkF m 22 #[.val (.ref a1), .val (.ref sb), .val .null, .val (.ref ar), .val (.int (Int32.ofNat xs.length))] [])) _
    refine XS.aloadN X4.here hx rfl (hb hby dsv_22) rfl rfl ?_
    show Steps p.tables e below (T4.setTop (mkF m 23 #[.val (.ref a1), .val (.ref sb), .val .null, .val (.ref ar), .val (.int (Int32.ofNat xs.length))] [(.ref a1)])) _
    refine XS.iconst X4.here hx rfl (hb hby dsv_23) ?_
    show Steps p.tables e below (T4.setTop (mkF m 24 #[.val (.ref a1), .val (.ref sb), .val .null, .val (.ref ar), .val (.int (Int32.ofNat xs.length))] [(.int (0 : Int32)), (.ref a1)])) _
    refine st5 _ ?_
    show Steps p.tables e below (T5.setTop (mkF m 27 #[.val (.ref a1), .val (.ref sb), .val .null, .val (.ref ar), .val (.int (Int32.ofNat xs.length))] [])) _
    refine XS.aloadN X5.here hx rfl (hb hby dsv_27) rfl rfl ?_
    show Steps p.tables e below (T5.setTop (mkF m 28 #[.val (.ref a1), .val (.ref sb), .val .null, .val (.ref ar), .val (.int (Int32.ofNat xs.length))] [(.ref a1)])) _
    refine XS.aloadN X5.here hx rfl (hb hby dsv_28) rfl rfl ?_
    show Steps p.tables e below (T5.setTop (mkF m 29 #[.val (.ref a1), .val (.ref sb), .val .null, .val (.ref ar), .val (.int (Int32.ofNat xs.length))] [(.ref ar), (.ref a1)])) _
    refine XS.iconst X5.here hx rfl (hb hby dsv_29) ?_
    show Steps p.tables e below (T5.setTop (mkF m 30 #[.val (.ref a1), .val (.ref sb), .val .null, .val (.ref ar), .val (.int (Int32.ofNat xs.length))] [(.int (0 : Int32)), (.ref ar), (.ref a1)])) _
    refine XS.iload X5.here hx rfl (hb hby dsv_30) rfl ?_
    show Steps p.tables e below (T5.setTop (mkF m 32 #[.val (.ref a1), .val (.ref sb), .val .null, .val (.ref ar), .val (.int (Int32.ofNat xs.length))] [(.int (Int32.ofNat xs.length)), (.int (0 : Int32)), (.ref ar), (.ref a1)])) _
    refine st6 _ ?_
    show Steps p.tables e below (T6.setTop (mkF m 35 #[.val (.ref a1), .val (.ref sb), .val .null, .val (.ref ar), .val (.int (Int32.ofNat xs.length))] [(.ref bq), (.ref a1)])) _
    refine st7 _ ?_
    show Steps p.tables e below (T7.setTop (mkF m 38 #[.val (.ref a1), .val (.ref sb), .val .null, .val (.ref ar), .val (.int (Int32.ofNat xs.length))] [])) _
    refine XS.goto X7.here hx rfl (pc0 := 38) (pc' := 97) rfl (hb hby dsv_38) (by decide) (by decide) ?_
    show Steps p.tables e below (T7.setTop (mkF m 97 #[.val (.ref a1), .val (.ref sb), .val .null, .val (.ref ar), .val (.int (Int32.ofNat xs.length))] [])) _
    exact X7.returnOut hx Bd.returns (hb hby dsv_97) hr
  · show Q_rmSV Z a1 sb cs0 bq ar kb z xs h0 n0 _ T7.heap _
    rw [e7]
    exact ⟨rfl, M4, J4, St4, Y4, Fc4, Fv4, V4⟩

theorem dss_0 : decode jdk_42_method_53_code 0 = .ok (.aload_n 0, 1) := by decide +kernel
theorem dss_1 : decode jdk_42_method_53_code 1 = .ok (.aload_n 1, 1) := by decide +kernel
theorem dss_2 : decode jdk_42_method_53_code 2 = .ok (.aconst_null, 1) := by decide +kernel
theorem dss_3 : decode jdk_42_method_53_code 3 = .ok (.invokespecial 489, 3) := by decide +kernel
theorem dss_6 : decode jdk_42_method_53_code 6 = .ok (.return_, 1) := by decide +kernel
theorem pd_dss__Ljava_lang_AbstractStringBuilder_Ljava_lang_Void__V : parseMethodDescriptor "(Ljava/lang/AbstractStringBuilder;Ljava/lang/Void;)V" = some ⟨[(.object "java/lang/AbstractStringBuilder"), (.object "java/lang/Void")], none⟩ := by decide +kernel
theorem ef_dss_ (m : MethodId) (a1 : Addr) (sb : Addr) : entryFrame m #[(.ref a1), (.ref sb)] 2 = mkF m 0 #[.val (.ref a1), .val (.ref sb)] [] := by first | (simp [entryFrame, mkF, argsToLocals, Value.category]; done) | rfl
def Q_rmSS (Z : State) (a1 : Addr) (sb : Addr) (cs0 : Int32) (bq : Addr) (ar : Addr) (kb : ClassId) (z : Int32) (xs : List Int32) (h0 : Heap) (n0 : Nat) (v : Option Value) (h : Heap) (L : List Loc) : Prop := v = none ∧ Fr n0 L ∧ Keep h0 h [a1] ∧ own_St Z h0 h ∧ own_S Z h a1 bq kb z xs
theorem pn_rmSS : plainName "java/lang/String" = true := by first | (simp [plainName, overriddenIn]; done) | decide +kernel
set_option maxRecDepth 65536 in
set_option maxHeartbeats 40000000 in
theorem rmSS (l : Launch) (Z : State) (a0 : Array Value) (hw : ∀ d ∈ tables_1, d.before a0 Z = true) (ws : List Jvm.Cond) (a1 : Addr) (sb : Addr) (cs0 : Int32) (bq : Addr) (ar : Addr) (kb : ClassId) (z : Int32) (xs : List Int32) (h0 : Heap) (n0 : Nat) (Z0 : n0 ≤ h0.size) (S : Sta Z h0 "java/lang/String" "COMPACT_STRINGS" "Z" (.int cs0)) (hcs : ¬ cs0 = 0) (B : own_B Z h0 sb ar kb z xs) (hfull : (Int32.ofNat xs.length) = z) (hz16 : z.toNatClampNeg ≤ 16) (hbq : bq = h0.size) (Es : Exa Z h0 a1 "java/lang/String") (Fcs : Fld Z h0 a1 "java/lang/String" "coder" "B" (.int (0 : Int32))) (Fvs : Fld Z h0 a1 "java/lang/String" "value" "[B" .null) (ga : n0 ≤ a1) :
    MetFree l (⟨"java/lang/String", "<init>", "(Ljava/lang/StringBuilder;)V"⟩ : MethodName) (head1 (Jvm.Cond.code (⟨"java/lang/String", "<init>", "(Ljava/lang/StringBuilder;)V"⟩ : MethodName) jdk_42_method_53_code 2 none :: ws) ({ frames := 3, cells := 1, slots := 16, locals := 45 } : Room)) (fun aZ U => aZ = #[(.ref a1), (.ref sb)] ∧ Z.Warmed39 U.vm ∧ U.heap = h0) (fun _ _ _ _ _ => True) (fun _ U o U' => ∃ v L, o = .returned v ∧ Q_rmSS Z a1 sb cs0  bq  ar  kb  z  xs  h0 n0 v U'.heap L ∧ FrameEnd U o U' L ({ frames := 3, cells := 1, slots := 16, locals := 45 } : Room).cells ({ frames := 3, cells := 1, slots := 16, locals := 45 } : Room).slots) := by
  refine MetFree.of_bodySF (plainFor_of_name pn_rmSS) hisR ?_
  intro p e s m args below meth c s₁ Bd hml0 hP hK
  obtain ⟨rfl, hZ, hh⟩ := hP
  have hx := Bd.exec
  have hby := Bd.bytes
  have hml : c.maxLocals = 2 := hml0
  have hown : s.vm.findClass "java/lang/String" = some m.cls := findClass_of_methodNamed Bd.named
  have hnm := (name_of_methodNamed Bd.named Bd.method).1
  have X0 : Stand p l e ({ frames := 3, cells := 1, slots := 16, locals := 45 } : Room) s m #[(.ref a1), (.ref sb)] below meth c s₁ [] 0 0 := Stand.of_body Bd
  have e0 : s₁.heap = h0 := by rw [← hh, Bd.state]; rfl
  have N0 := Fr.nil n0
  have pre0 : ∀ tZ, Steps p.tables e below (s₁.setTop (mkF m 0 #[.val (.ref a1), .val (.ref sb)] [])) tZ → Steps p.tables e below (s₁.setTop (entryFrame m #[(.ref a1), (.ref sb)] 2)) tZ := fun tZ kZ => castTop (ef_dss_ m a1 sb) kZ
  obtain ⟨_, _, ⟨T1, L1, k1, n1⟩, -, X1, ⟨Lc1, hQ1, l1, y1, z1⟩, st1⟩ := X0.specialBack hx (y := (⟨"java/lang/String", "<init>", "(Ljava/lang/AbstractStringBuilder;Ljava/lang/Void;)V"⟩ : MethodName)) rfl hown (mvT hZ (hw _ (List.mem_of_getElem? (i := 50) rfl))) (mvT hZ (hw _ (List.mem_of_getElem? (i := 51) rfl))) (mvT hZ (hw _ (List.mem_of_getElem? (i := 52) rfl))) (by decide) (backOf (W := 0) (rmSV l Z a0 hw [] a1 sb cs0 bq ar kb z xs h0 n0 Z0 S hcs B hfull hz16 hbq Es Fcs Fvs ga) hZ (hw _ (List.mem_of_getElem? (i := 52) rfl)) (hw _ (List.mem_of_getElem? (i := 22) rfl)) (by decide) (by decide)) (g := (mkF m 3 #[.val (.ref a1), .val (.ref sb)] [.null, (.ref sb), (.ref a1)])) rfl (by rw [hml]; rfl) (Steps.refl _) (a := a1) (argsL := [(.ref sb), .null]) (rest := []) (lenOf pd_dss__Ljava_lang_AbstractStringBuilder_Ljava_lang_Void__V rfl) rfl (by show 2 * 0 + _ ≤ _; exact Nat.le_of_eq rfl) (hb hby dss_3) (fun _ _ => ⟨rfl, e0, (by decide : 0 + 1 ≤ _), (by decide : 0 + 16 ≤ _)⟩)
  dsimp only [Pt.U, Pt.locs, Pt.cells, Pt.slots] at X1 l1 y1 z1 st1 hQ1
  subst l1 y1 z1
  obtain ⟨rfl, N1q, K1, St1, Q1⟩ := hQ1
  have N1 := Fr.app N0 N1q
  obtain ⟨fs, hr, hrun, hended, hW, hsame⟩ := X1.leave (v := none) (fun _ => rfl)
  refine ⟨_, _, pre0 _ ?_, hrun, hended, _, _, rfl, ?_, ⟨_, rfl⟩, hW, hsame.mono (by decide) (by decide)⟩
  · show Steps p.tables e below (s₁.setTop (mkF m 0 #[.val (.ref a1), .val (.ref sb)] [])) _
    refine XS.aloadN X0.here hx rfl (hb hby dss_0) rfl rfl ?_
    show Steps p.tables e below (s₁.setTop (mkF m 1 #[.val (.ref a1), .val (.ref sb)] [(.ref a1)])) _
    refine XS.aloadN X0.here hx rfl (hb hby dss_1) rfl rfl ?_
    show Steps p.tables e below (s₁.setTop (mkF m 2 #[.val (.ref a1), .val (.ref sb)] [(.ref sb), (.ref a1)])) _
    refine XS.aconstNull X0.here hx rfl (hb hby dss_2) ?_
    show Steps p.tables e below (s₁.setTop (mkF m 3 #[.val (.ref a1), .val (.ref sb)] [.null, (.ref sb), (.ref a1)])) _
    refine st1.trans ?_
    show Steps p.tables e below (T1.setTop (mkF m 6 #[.val (.ref a1), .val (.ref sb)] [])) _
    exact X1.returnOut hx Bd.returns (hb hby dss_6) hr
  · show Q_rmSS Z a1 sb cs0 bq ar kb z xs h0 n0 _ T1.heap _
    exact ⟨rfl, N1, K1, St1, Q1⟩

theorem dts_0 : decode jdk_67_method_42_code 0 = .ok (.new 18, 3) := by decide +kernel
theorem dts_3 : decode jdk_67_method_42_code 3 = .ok (.dup, 1) := by decide +kernel
theorem dts_4 : decode jdk_67_method_42_code 4 = .ok (.aload_n 0, 1) := by decide +kernel
theorem dts_5 : decode jdk_67_method_42_code 5 = .ok (.invokespecial 137, 3) := by decide +kernel
theorem dts_8 : decode jdk_67_method_42_code 8 = .ok (.areturn, 1) := by decide +kernel
theorem pd_dts__Ljava_lang_StringBuilder__V : parseMethodDescriptor "(Ljava/lang/StringBuilder;)V" = some ⟨[(.object "java/lang/StringBuilder")], none⟩ := by decide +kernel
theorem ef_dts_ (m : MethodId) (sb : Addr) : entryFrame m #[(.ref sb)] 1 = mkF m 0 #[.val (.ref sb)] [] := by first | (simp [entryFrame, mkF, argsToLocals, Value.category]; done) | rfl
def Q_rmTS (Z : State) (sb : Addr) (cs0 : Int32) (sq : Addr) (ar : Addr) (kb : ClassId) (z : Int32) (xs : List Int32) (h0 : Heap) (n0 : Nat) (v : Option Value) (h : Heap) (L : List Loc) : Prop := v = some (.ref sq) ∧ Fr n0 L ∧ Keep h0 h [] ∧ own_St Z h0 h ∧ ∃ bq, own_S Z h sq bq kb z xs
theorem pn_rmTS : plainName "java/lang/StringBuilder" = true := by first | (simp [plainName, overriddenIn]; done) | decide +kernel
set_option maxRecDepth 65536 in
set_option maxHeartbeats 40000000 in
theorem rmTS (l : Launch) (Z : State) (a0 : Array Value) (hw : ∀ d ∈ tables_1, d.before a0 Z = true) (ws : List Jvm.Cond) (sb : Addr) (cs0 : Int32) (sq : Addr) (ar : Addr) (kb : ClassId) (z : Int32) (xs : List Int32) (h0 : Heap) (n0 : Nat) (Z0 : n0 ≤ h0.size) (S : Sta Z h0 "java/lang/String" "COMPACT_STRINGS" "Z" (.int cs0)) (hcs : ¬ cs0 = 0) (B : own_B Z h0 sb ar kb z xs) (hfull : (Int32.ofNat xs.length) = z) (hz16 : z.toNatClampNeg ≤ 16) (hsq : sq = h0.size) :
    MetFree l (⟨"java/lang/StringBuilder", "toString", "()Ljava/lang/String;"⟩ : MethodName) (head1 (Jvm.Cond.code (⟨"java/lang/StringBuilder", "toString", "()Ljava/lang/String;"⟩ : MethodName) jdk_67_method_42_code 1 (some (.object "java/lang/String")) :: ws) ({ frames := 4, cells := 2, slots := 20, locals := 59 } : Room)) (fun aZ U => aZ = #[(.ref sb)] ∧ Z.Warmed39 U.vm ∧ U.heap = h0) (fun _ _ _ _ _ => True) (fun _ U o U' => ∃ v L, o = .returned v ∧ Q_rmTS Z sb cs0  sq  ar  kb  z  xs  h0 n0 v U'.heap L ∧ FrameEnd U o U' L ({ frames := 4, cells := 2, slots := 20, locals := 59 } : Room).cells ({ frames := 4, cells := 2, slots := 20, locals := 59 } : Room).slots) := by
  refine MetFree.of_bodySF (plainFor_of_name pn_rmTS) hisR ?_
  intro p e s m args below meth c s₁ Bd hml0 hP hK
  obtain ⟨rfl, hZ, hh⟩ := hP
  have hx := Bd.exec
  have hby := Bd.bytes
  have hml : c.maxLocals = 1 := hml0
  have hown : s.vm.findClass "java/lang/StringBuilder" = some m.cls := findClass_of_methodNamed Bd.named
  have hnm := (name_of_methodNamed Bd.named Bd.method).1
  have X0 : Stand p l e ({ frames := 4, cells := 2, slots := 20, locals := 59 } : Room) s m #[(.ref sb)] below meth c s₁ [] 0 0 := Stand.of_body Bd
  have e0 : s₁.heap = h0 := by rw [← hh, Bd.state]; rfl
  have N0 := Fr.nil n0
  have pre0 : ∀ tZ, Steps p.tables e below (s₁.setTop (mkF m 0 #[.val (.ref sb)] [])) tZ → Steps p.tables e below (s₁.setTop (entryFrame m #[(.ref sb)] 1)) tZ := fun tZ kZ => castTop (ef_dts_ m sb) kZ
  obtain ⟨T1, h1, X1, e1, E1, A1, D1, -, st1⟩ := newO X0 hx hZ hown (hw _ (List.mem_of_getElem? (i := 44) rfl)) (hw _ (List.mem_of_getElem? (i := 45) rfl)) (hw _ (List.mem_of_getElem? (i := 22) rfl)) e0 (g := (mkF m 0 #[.val (.ref sb)] [])) rfl (hb hby dts_0) (by decide) (by decide)
  rw [← hsq] at A1 D1 st1
  have F_value_b1 : Fld Z h1 sq "java/lang/String" "value" "[B" .null := D1 (Or.inr (hw _ (List.mem_of_getElem? (i := 82) rfl))) (ty := (.array .byte)) (by decide)
  have F_coder_b1 : Fld Z h1 sq "java/lang/String" "coder" "B" (.int (0 : Int32)) := D1 (Or.inr (hw _ (List.mem_of_getElem? (i := 67) rfl))) (ty := .byte) (by decide)
  have gq : n0 ≤ sq := Nat.le_trans Z0 (Nat.le_of_eq hsq.symm)
  have B1 := own_B_ext E1 B
  obtain ⟨_, _, ⟨T2, L2, k2, n2⟩, -, X2, ⟨Lc2, hQ2, l2, y2, z2⟩, st2⟩ := X1.specialBack hx (y := (⟨"java/lang/String", "<init>", "(Ljava/lang/StringBuilder;)V"⟩ : MethodName)) rfl hown (mvT hZ (hw _ (List.mem_of_getElem? (i := 46) rfl))) (mvT hZ (hw _ (List.mem_of_getElem? (i := 47) rfl))) (mvT hZ (hw _ (List.mem_of_getElem? (i := 49) rfl))) (by decide) (backOf (W := 1) (rmSS l Z a0 hw [] sq sb cs0 h1.size ar kb z xs h1 n0 (Nat.le_trans Z0 E1.1) (S.ext E1) hcs B1 hfull hz16 rfl A1 F_coder_b1 F_value_b1 gq) hZ (hw _ (List.mem_of_getElem? (i := 49) rfl)) (hw _ (List.mem_of_getElem? (i := 22) rfl)) (by decide) (by decide)) (g := (mkF m 5 #[.val (.ref sb)] [(.ref sb), (.ref sq), (.ref sq)])) rfl (by rw [hml]; rfl) (Steps.refl _) (a := sq) (argsL := [(.ref sb)]) (rest := [(.ref sq)]) (lenOf pd_dts__Ljava_lang_StringBuilder__V rfl) rfl (by show 2 * 0 + _ ≤ _; exact Nat.le_of_eq rfl) (hb hby dts_5) (fun _ _ => ⟨rfl, e1, (by decide : 1 + 1 ≤ _), (by decide : 4 + 16 ≤ _)⟩)
  dsimp only [Pt.U, Pt.locs, Pt.cells, Pt.slots] at X2 l2 y2 z2 st2 hQ2
  subst l2 y2 z2
  obtain ⟨rfl, N2q, K2, St2, Q2⟩ := hQ2
  have N2 := Fr.app N0 N2q
  have J : Keep h0 T2.heap [] := ((Keep.refl h0 []).ext E1).trans K2 (allS (Or.inr (Nat.le_of_eq hsq.symm)) all0)
  have St : own_St Z h0 T2.heap := (own_st_ext E1).trans St2
  obtain ⟨fs, hr, hrun, hended, hW, hsame⟩ := X2.leave (v := some (.ref sq)) (fun h => by rw [Bd.returns] at h; cases h)
  refine ⟨_, _, pre0 _ ?_, hrun, hended, _, _, rfl, ?_, ⟨_, rfl⟩, hW, hsame.mono (by decide) (by decide)⟩
  · show Steps p.tables e below (s₁.setTop (mkF m 0 #[.val (.ref sb)] [])) _
    refine st1 _ ?_
    show Steps p.tables e below (T1.setTop (mkF m 3 #[.val (.ref sb)] [(.ref sq)])) _
    refine XS.dup X1.here hx rfl (hb hby dts_3) rfl rfl ?_
    show Steps p.tables e below (T1.setTop (mkF m 4 #[.val (.ref sb)] [(.ref sq), (.ref sq)])) _
    refine XS.aloadN X1.here hx rfl (hb hby dts_4) rfl rfl ?_
    show Steps p.tables e below (T1.setTop (mkF m 5 #[.val (.ref sb)] [(.ref sb), (.ref sq), (.ref sq)])) _
    refine st2.trans ?_
    show Steps p.tables e below (T2.setTop (mkF m 8 #[.val (.ref sb)] [(.ref sq)])) _
    exact X2.areturnOut hx rfl Bd.returns rfl (hb hby dts_8) hr
  · show Q_rmTS Z sb cs0 sq ar kb z xs h0 n0 _ T2.heap _
    exact ⟨rfl, N2, J, St, _, Q2⟩

theorem dco_0 : decode jdk_42_method_152_code 0 = .ok (.getstatic 38, 3) := by decide +kernel
theorem dco_3 : decode jdk_42_method_152_code 3 = .ok (.ifCond .eq 10, 3) := by decide +kernel
theorem dco_6 : decode jdk_42_method_152_code 6 = .ok (.aload_n 0, 1) := by decide +kernel
theorem dco_7 : decode jdk_42_method_152_code 7 = .ok (.getfield 15, 3) := by decide +kernel
theorem dco_10 : decode jdk_42_method_152_code 10 = .ok (.goto 4, 3) := by decide +kernel
theorem dco_14 : decode jdk_42_method_152_code 14 = .ok (.ireturn, 1) := by decide +kernel
theorem ef_dco_ (m : MethodId) (st : Addr) : entryFrame m #[(.ref st)] 1 = mkF m 0 #[.val (.ref st)] [] := by first | (simp [entryFrame, mkF, argsToLocals, Value.category]; done) | rfl
def Q_rmCo (Z : State) (st : Addr) (cs0 : Int32) (ar : Addr) (kb : ClassId) (z : Int32) (xs : List Int32) (h0 : Heap) (n0 : Nat) (v : Option Value) (h : Heap) (L : List Loc) : Prop := v = some (.int (0 : Int32)) ∧ Fr n0 L ∧ h = h0
theorem pn_rmCo : plainName "java/lang/String" = true := by first | (simp [plainName, overriddenIn]; done) | decide +kernel
set_option maxRecDepth 65536 in
set_option maxHeartbeats 40000000 in
theorem rmCo (l : Launch) (Z : State) (a0 : Array Value) (hw : ∀ d ∈ tables_1, d.before a0 Z = true) (ws : List Jvm.Cond) (st : Addr) (cs0 : Int32) (ar : Addr) (kb : ClassId) (z : Int32) (xs : List Int32) (h0 : Heap) (n0 : Nat) (Z0 : n0 ≤ h0.size) (S : Sta Z h0 "java/lang/String" "COMPACT_STRINGS" "Z" (.int cs0)) (hcs : ¬ cs0 = 0) (Q : own_S Z h0 st ar kb z xs) :
    MetFree l (⟨"java/lang/String", "coder", "()B"⟩ : MethodName) (head1 (Jvm.Cond.code (⟨"java/lang/String", "coder", "()B"⟩ : MethodName) jdk_42_method_152_code 1 (some .byte) :: ws) ({ frames := 0, cells := 0, slots := 0, locals := 0 } : Room)) (fun aZ U => aZ = #[(.ref st)] ∧ Z.Warmed39 U.vm ∧ U.heap = h0) (fun _ _ _ _ _ => True) (fun _ U o U' => ∃ v L, o = .returned v ∧ Q_rmCo Z st cs0  ar  kb  z  xs  h0 n0 v U'.heap L ∧ FrameEnd U o U' L ({ frames := 0, cells := 0, slots := 0, locals := 0 } : Room).cells ({ frames := 0, cells := 0, slots := 0, locals := 0 } : Room).slots) := by
  refine MetFree.of_bodySF (plainFor_of_name pn_rmCo) hisR ?_
  intro p e s m args below meth c s₁ Bd hml0 hP hK
  obtain ⟨rfl, hZ, hh⟩ := hP
  have hx := Bd.exec
  have hby := Bd.bytes
  have hml : c.maxLocals = 1 := hml0
  have hown : s.vm.findClass "java/lang/String" = some m.cls := findClass_of_methodNamed Bd.named
  have hnm := (name_of_methodNamed Bd.named Bd.method).1
  have X0 : Stand p l e ({ frames := 0, cells := 0, slots := 0, locals := 0 } : Room) s m #[(.ref st)] below meth c s₁ [] 0 0 := Stand.of_body Bd
  have e0 : s₁.heap = h0 := by rw [← hh, Bd.state]; rfl
  have N0 := Fr.nil n0
  have pre0 : ∀ tZ, Steps p.tables e below (s₁.setTop (mkF m 0 #[.val (.ref st)] [])) tZ → Steps p.tables e below (s₁.setTop (entryFrame m #[(.ref st)] 1)) tZ := fun tZ kZ => castTop (ef_dco_ m st) kZ
  obtain ⟨E, Fc, Fv, V⟩ := Q
  obtain ⟨T1, X1, e1, st1⟩ := getS2 X0 hx hZ hown (host := "") (Or.inl (hw _ (List.mem_of_getElem? (i := 93) rfl))) Via.refl e0 S (g := (mkF m 0 #[.val (.ref st)] [])) rfl (hb hby dco_0)
  obtain ⟨T2, X2, e2, st2⟩ := getF X1 hx hZ hown (host := "") (Or.inl (hw _ (List.mem_of_getElem? (i := 66) rfl))) Via.refl e1 Fc (g := (mkF m 7 #[.val (.ref st)] [(.ref st)])) rfl rfl (hb hby dco_7)
  obtain ⟨fs, hr, hrun, hended, hW, hsame⟩ := X2.leave (v := some (.int (0 : Int32))) (fun h => by rw [Bd.returns] at h; cases h)
  refine ⟨_, _, pre0 _ ?_, hrun, hended, _, _, rfl, ?_, ⟨_, rfl⟩, hW, hsame.mono (by decide) (by decide)⟩
  · show Steps p.tables e below (s₁.setTop (mkF m 0 #[.val (.ref st)] [])) _
    refine st1 _ ?_
    show Steps p.tables e below (T1.setTop (mkF m 3 #[.val (.ref st)] [(.int cs0)])) _
    refine XS.ifNo X1.here hx rfl (hb hby dco_3) rfl ((if0 _ _).trans (feq hcs).1) ?_
    show Steps p.tables e below (T1.setTop (mkF m 6 #[.val (.ref st)] [])) _
    refine XS.aloadN X1.here hx rfl (hb hby dco_6) rfl rfl ?_
    show Steps p.tables e below (T1.setTop (mkF m 7 #[.val (.ref st)] [(.ref st)])) _
    refine st2 _ ?_
    show Steps p.tables e below (T2.setTop (mkF m 10 #[.val (.ref st)] [(.int (0 : Int32))])) _
    refine XS.goto X2.here hx rfl (pc0 := 10) (pc' := 14) rfl (hb hby dco_10) (by decide) (by decide) ?_
    show Steps p.tables e below (T2.setTop (mkF m 14 #[.val (.ref st)] [(.int (0 : Int32))])) _
    exact retN X2 hx (t := .byte) Bd.returns (by simp) (hb hby dco_14) hr
  · show Q_rmCo Z st cs0 ar kb z xs h0 n0 _ T2.heap _
    rw [e2]
    exact ⟨rfl, N0, rfl⟩

theorem dla_0 : decode jdk_42_method_154_code 0 = .ok (.getstatic 38, 3) := by decide +kernel
theorem dla_3 : decode jdk_42_method_154_code 3 = .ok (.ifCond .eq 14, 3) := by decide +kernel
theorem dla_6 : decode jdk_42_method_154_code 6 = .ok (.aload_n 0, 1) := by decide +kernel
theorem dla_7 : decode jdk_42_method_154_code 7 = .ok (.getfield 15, 3) := by decide +kernel
theorem dla_10 : decode jdk_42_method_154_code 10 = .ok (.ifCond .ne 7, 3) := by decide +kernel
theorem dla_13 : decode jdk_42_method_154_code 13 = .ok (.iconst 1, 1) := by decide +kernel
theorem dla_14 : decode jdk_42_method_154_code 14 = .ok (.goto 4, 3) := by decide +kernel
theorem dla_18 : decode jdk_42_method_154_code 18 = .ok (.ireturn, 1) := by decide +kernel
theorem ef_dla_ (m : MethodId) (st : Addr) : entryFrame m #[(.ref st)] 1 = mkF m 0 #[.val (.ref st)] [] := by first | (simp [entryFrame, mkF, argsToLocals, Value.category]; done) | rfl
def Q_rmLa (Z : State) (st : Addr) (cs0 : Int32) (ar : Addr) (kb : ClassId) (z : Int32) (xs : List Int32) (h0 : Heap) (n0 : Nat) (v : Option Value) (h : Heap) (L : List Loc) : Prop := v = some (.int (1 : Int32)) ∧ Fr n0 L ∧ h = h0
theorem pn_rmLa : plainName "java/lang/String" = true := by first | (simp [plainName, overriddenIn]; done) | decide +kernel
set_option maxRecDepth 65536 in
set_option maxHeartbeats 40000000 in
theorem rmLa (l : Launch) (Z : State) (a0 : Array Value) (hw : ∀ d ∈ tables_1, d.before a0 Z = true) (ws : List Jvm.Cond) (st : Addr) (cs0 : Int32) (ar : Addr) (kb : ClassId) (z : Int32) (xs : List Int32) (h0 : Heap) (n0 : Nat) (Z0 : n0 ≤ h0.size) (S : Sta Z h0 "java/lang/String" "COMPACT_STRINGS" "Z" (.int cs0)) (hcs : ¬ cs0 = 0) (Q : own_S Z h0 st ar kb z xs) :
    MetFree l (⟨"java/lang/String", "isLatin1", "()Z"⟩ : MethodName) (head1 (Jvm.Cond.code (⟨"java/lang/String", "isLatin1", "()Z"⟩ : MethodName) jdk_42_method_154_code 1 (some .boolean) :: ws) ({ frames := 0, cells := 0, slots := 0, locals := 0 } : Room)) (fun aZ U => aZ = #[(.ref st)] ∧ Z.Warmed39 U.vm ∧ U.heap = h0) (fun _ _ _ _ _ => True) (fun _ U o U' => ∃ v L, o = .returned v ∧ Q_rmLa Z st cs0  ar  kb  z  xs  h0 n0 v U'.heap L ∧ FrameEnd U o U' L ({ frames := 0, cells := 0, slots := 0, locals := 0 } : Room).cells ({ frames := 0, cells := 0, slots := 0, locals := 0 } : Room).slots) := by
  refine MetFree.of_bodySF (plainFor_of_name pn_rmLa) hisR ?_
  intro p e s m args below meth c s₁ Bd hml0 hP hK
  obtain ⟨rfl, hZ, hh⟩ := hP
  have hx := Bd.exec
  have hby := Bd.bytes
  have hml : c.maxLocals = 1 := hml0
  have hown : s.vm.findClass "java/lang/String" = some m.cls := findClass_of_methodNamed Bd.named
  have hnm := (name_of_methodNamed Bd.named Bd.method).1
  have X0 : Stand p l e ({ frames := 0, cells := 0, slots := 0, locals := 0 } : Room) s m #[(.ref st)] below meth c s₁ [] 0 0 := Stand.of_body Bd
  have e0 : s₁.heap = h0 := by rw [← hh, Bd.state]; rfl
  have N0 := Fr.nil n0
  have pre0 : ∀ tZ, Steps p.tables e below (s₁.setTop (mkF m 0 #[.val (.ref st)] [])) tZ → Steps p.tables e below (s₁.setTop (entryFrame m #[(.ref st)] 1)) tZ := fun tZ kZ => castTop (ef_dla_ m st) kZ
  obtain ⟨E, Fc, Fv, V⟩ := Q
  obtain ⟨T1, X1, e1, st1⟩ := getS2 X0 hx hZ hown (host := "") (Or.inl (hw _ (List.mem_of_getElem? (i := 93) rfl))) Via.refl e0 S (g := (mkF m 0 #[.val (.ref st)] [])) rfl (hb hby dla_0)
  obtain ⟨T2, X2, e2, st2⟩ := getF X1 hx hZ hown (host := "") (Or.inl (hw _ (List.mem_of_getElem? (i := 66) rfl))) Via.refl e1 Fc (g := (mkF m 7 #[.val (.ref st)] [(.ref st)])) rfl rfl (hb hby dla_7)
  obtain ⟨fs, hr, hrun, hended, hW, hsame⟩ := X2.leave (v := some (.int (1 : Int32))) (fun h => by rw [Bd.returns] at h; cases h)
  refine ⟨_, _, pre0 _ ?_, hrun, hended, _, _, rfl, ?_, ⟨_, rfl⟩, hW, hsame.mono (by decide) (by decide)⟩
  · show Steps p.tables e below (s₁.setTop (mkF m 0 #[.val (.ref st)] [])) _
    refine st1 _ ?_
    show Steps p.tables e below (T1.setTop (mkF m 3 #[.val (.ref st)] [(.int cs0)])) _
    refine XS.ifNo X1.here hx rfl (hb hby dla_3) rfl ((if0 _ _).trans (feq hcs).1) ?_
    show Steps p.tables e below (T1.setTop (mkF m 6 #[.val (.ref st)] [])) _
    refine XS.aloadN X1.here hx rfl (hb hby dla_6) rfl rfl ?_
    show Steps p.tables e below (T1.setTop (mkF m 7 #[.val (.ref st)] [(.ref st)])) _
    refine st2 _ ?_
    show Steps p.tables e below (T2.setTop (mkF m 10 #[.val (.ref st)] [(.int (0 : Int32))])) _
    refine XS.ifNo X2.here hx rfl (hb hby dla_10) rfl ((if0 _ _).trans (teq (rfl : (0 : Int32) = 0)).2) ?_
    show Steps p.tables e below (T2.setTop (mkF m 13 #[.val (.ref st)] [])) _
    refine XS.iconst X2.here hx rfl (hb hby dla_13) ?_
    show Steps p.tables e below (T2.setTop (mkF m 14 #[.val (.ref st)] [(.int (1 : Int32))])) _
    refine XS.goto X2.here hx rfl (pc0 := 14) (pc' := 18) rfl (hb hby dla_14) (by decide) (by decide) ?_
    show Steps p.tables e below (T2.setTop (mkF m 18 #[.val (.ref st)] [(.int (1 : Int32))])) _
    exact retN X2 hx (t := .boolean) Bd.returns (by simp) (hb hby dla_18) hr
  · show Q_rmLa Z st cs0 ar kb z xs h0 n0 _ T2.heap _
    rw [e2]
    exact ⟨rfl, N0, rfl⟩

theorem dle_0 : decode jdk_42_method_54_code 0 = .ok (.aload_n 0, 1) := by decide +kernel
theorem dle_1 : decode jdk_42_method_54_code 1 = .ok (.getfield 9, 3) := by decide +kernel
theorem dle_4 : decode jdk_42_method_54_code 4 = .ok (.arraylength, 1) := by decide +kernel
theorem dle_5 : decode jdk_42_method_54_code 5 = .ok (.aload_n 0, 1) := by decide +kernel
theorem dle_6 : decode jdk_42_method_54_code 6 = .ok (.invokevirtual 335, 3) := by decide +kernel
theorem dle_9 : decode jdk_42_method_54_code 9 = .ok (.ishr, 1) := by decide +kernel
theorem dle_10 : decode jdk_42_method_54_code 10 = .ok (.ireturn, 1) := by decide +kernel
theorem pd_dle___B : parseMethodDescriptor "()B" = some ⟨[], some .byte⟩ := by decide +kernel
theorem ef_dle_ (m : MethodId) (st : Addr) : entryFrame m #[(.ref st)] 1 = mkF m 0 #[.val (.ref st)] [] := by first | (simp [entryFrame, mkF, argsToLocals, Value.category]; done) | rfl
def Q_rmLe (Z : State) (st : Addr) (cs0 : Int32) (ar : Addr) (kb : ClassId) (z : Int32) (xs : List Int32) (h0 : Heap) (n0 : Nat) (v : Option Value) (h : Heap) (L : List Loc) : Prop := v = some (.int z) ∧ Fr n0 L ∧ h = h0
theorem pn_rmLe : plainName "java/lang/String" = true := by first | (simp [plainName, overriddenIn]; done) | decide +kernel
set_option maxRecDepth 65536 in
set_option maxHeartbeats 40000000 in
theorem rmLe (l : Launch) (Z : State) (a0 : Array Value) (hw : ∀ d ∈ tables_1, d.before a0 Z = true) (ws : List Jvm.Cond) (st : Addr) (cs0 : Int32) (ar : Addr) (kb : ClassId) (z : Int32) (xs : List Int32) (h0 : Heap) (n0 : Nat) (Z0 : n0 ≤ h0.size) (S : Sta Z h0 "java/lang/String" "COMPACT_STRINGS" "Z" (.int cs0)) (hcs : ¬ cs0 = 0) (Q : own_S Z h0 st ar kb z xs) :
    MetFree l (⟨"java/lang/String", "length", "()I"⟩ : MethodName) (head1 (Jvm.Cond.code (⟨"java/lang/String", "length", "()I"⟩ : MethodName) jdk_42_method_54_code 1 (some .int) :: ws) ({ frames := 1, cells := 0, slots := 0, locals := 13 } : Room)) (fun aZ U => aZ = #[(.ref st)] ∧ Z.Warmed39 U.vm ∧ U.heap = h0) (fun _ _ _ _ _ => True) (fun _ U o U' => ∃ v L, o = .returned v ∧ Q_rmLe Z st cs0  ar  kb  z  xs  h0 n0 v U'.heap L ∧ FrameEnd U o U' L ({ frames := 1, cells := 0, slots := 0, locals := 13 } : Room).cells ({ frames := 1, cells := 0, slots := 0, locals := 13 } : Room).slots) := by
  refine MetFree.of_bodySF (plainFor_of_name pn_rmLe) hisR ?_
  intro p e s m args below meth c s₁ Bd hml0 hP hK
  obtain ⟨rfl, hZ, hh⟩ := hP
  have hx := Bd.exec
  have hby := Bd.bytes
  have hml : c.maxLocals = 1 := hml0
  have hown : s.vm.findClass "java/lang/String" = some m.cls := findClass_of_methodNamed Bd.named
  have hnm := (name_of_methodNamed Bd.named Bd.method).1
  have X0 : Stand p l e ({ frames := 1, cells := 0, slots := 0, locals := 13 } : Room) s m #[(.ref st)] below meth c s₁ [] 0 0 := Stand.of_body Bd
  have e0 : s₁.heap = h0 := by rw [← hh, Bd.state]; rfl
  have N0 := Fr.nil n0
  have pre0 : ∀ tZ, Steps p.tables e below (s₁.setTop (mkF m 0 #[.val (.ref st)] [])) tZ → Steps p.tables e below (s₁.setTop (entryFrame m #[(.ref st)] 1)) tZ := fun tZ kZ => castTop (ef_dle_ m st) kZ
  have Q0 := Q
  obtain ⟨E, Fc, Fv, V⟩ := Q
  obtain ⟨ca, Av, qv, Sv, Nv, Hv, Gv⟩ := V
  obtain ⟨T1, X1, e1, st1⟩ := getF X0 hx hZ hown (host := "") (Or.inl (hw _ (List.mem_of_getElem? (i := 81) rfl))) Via.refl e0 Fv (g := (mkF m 1 #[.val (.ref st)] [(.ref st)])) rfl rfl (hb hby dle_1)
  obtain ⟨cq2, kq2, q2a, q2b, q2c⟩ := isOf hZ e1 E
  obtain ⟨_, _, ⟨T2, L2, k2, n2⟩, -, X2, ⟨Lc2, hQ2, l2, y2, z2⟩, st2⟩ := X1.virtualBack hx (y := (⟨"java/lang/String", "coder", "()B"⟩ : MethodName)) (z := (⟨"java/lang/String", "coder", "()B"⟩ : MethodName)) hown (mvT hZ (hw _ (List.mem_of_getElem? (i := 88) rfl))) (mvT hZ (hw _ (List.mem_of_getElem? (i := 89) rfl))) (notFace_of_selects (args := #[]) (mvT hZ (hw _ (List.mem_of_getElem? (i := 91) rfl)))) (mvT hZ (hw _ (List.mem_of_getElem? (i := 91) rfl))) (mvT hZ (hw _ (List.mem_of_getElem? (i := 90) rfl))) (by decide) (backOf (W := 1) (rmCo l Z a0 hw [] st cs0 ar kb z xs h0 n0 Z0 S hcs Q0) hZ (hw _ (List.mem_of_getElem? (i := 92) rfl)) (hw _ (List.mem_of_getElem? (i := 22) rfl)) (by decide) (by decide)) q2a q2c (g := (mkF m 6 #[.val (.ref st)] [(.ref st), (.int z)])) rfl (by rw [hml]; rfl) (Steps.refl _) (argsL := []) (rest := [(.int z)]) (lenOf pd_dle___B rfl) rfl (by show 2 * 0 + _ ≤ _; exact Nat.le_of_eq rfl) (hb hby dle_6) (fun _ _ => ⟨rfl, e1, (by decide : 0 + 0 ≤ _), (by decide : 0 + 0 ≤ _)⟩)
  dsimp only [Pt.U, Pt.locs, Pt.cells, Pt.slots] at X2 l2 y2 z2 st2 hQ2
  subst l2 y2 z2
  obtain ⟨rfl, N2q, e2⟩ := hQ2
  have N2 := Fr.app N0 N2q
  obtain ⟨fs, hr, hrun, hended, hW, hsame⟩ := X2.leave (v := some (.int z)) (fun h => by rw [Bd.returns] at h; cases h)
  refine ⟨_, _, pre0 _ ?_, hrun, hended, _, _, rfl, ?_, ⟨_, rfl⟩, hW, hsame.mono (by decide) (by decide)⟩
  · show Steps p.tables e below (s₁.setTop (mkF m 0 #[.val (.ref st)] [])) _
    refine XS.aloadN X0.here hx rfl (hb hby dle_0) rfl rfl ?_
    show Steps p.tables e below (s₁.setTop (mkF m 1 #[.val (.ref st)] [(.ref st)])) _
    refine st1 _ ?_
    show Steps p.tables e below (T1.setTop (mkF m 4 #[.val (.ref st)] [(.ref ar)])) _
    refine X1.arraylength hx (by rw [e1]; exact Av.1) (State.isArrayOf_alike hZ.alike Av.2.1) (g := (mkF m 4 #[.val (.ref st)] [(.ref ar)])) rfl rfl (hb hby dle_4) _ ?_
    rw [len_of Sv Nv]
    show Steps p.tables e below (T1.setTop (mkF m 5 #[.val (.ref st)] [(.int z)])) _
    refine XS.aloadN X1.here hx rfl (hb hby dle_5) rfl rfl ?_
    show Steps p.tables e below (T1.setTop (mkF m 6 #[.val (.ref st)] [(.ref st), (.int z)])) _
    refine st2.trans ?_
    show Steps p.tables e below (T2.setTop (mkF m 9 #[.val (.ref st)] [(.int (0 : Int32)), (.int z)])) _
    refine XS.ishr X2.here hx rfl (hb hby dle_9) rfl ?_
    show Steps p.tables e below (T2.setTop (mkF m 10 #[.val (.ref st)] [(.int (z >>> ((0 : Int32) &&& 31)))])) _
    rw [own_sh0]
    show Steps p.tables e below (T2.setTop (mkF m 10 #[.val (.ref st)] [(.int z)])) _
    exact retI X2 hx Bd.returns (hb hby dle_10) hr
  · show Q_rmLe Z st cs0 ar kb z xs h0 n0 _ T2.heap _
    rw [e2]
    exact ⟨rfl, N2, rfl⟩

theorem dpc_0 : decode jdk_41_method_11_code 0 = .ok (.iload_n 0, 1) := by decide +kernel
theorem dpc_1 : decode jdk_41_method_11_code 1 = .ok (.ifCond .lt 8, 3) := by decide +kernel
theorem dpc_4 : decode jdk_41_method_11_code 4 = .ok (.iload_n 0, 1) := by decide +kernel
theorem dpc_5 : decode jdk_41_method_11_code 5 = .ok (.iload_n 1, 1) := by decide +kernel
theorem dpc_6 : decode jdk_41_method_11_code 6 = .ok (.if_icmp .lt 10, 3) := by decide +kernel
theorem dpc_16 : decode jdk_41_method_11_code 16 = .ok (.iload_n 0, 1) := by decide +kernel
theorem dpc_17 : decode jdk_41_method_11_code 17 = .ok (.ireturn, 1) := by decide +kernel
theorem ef_dpc_ (m : MethodId) (i1 : Int32) (n1 : Int32) (fm : Value) (hfm : fm.isRef = true) : entryFrame m #[(.int i1), (.int n1), fm] 3 = mkF m 0 #[.val (.int i1), .val (.int n1), .val fm] [] := by rcases ref_cases hfm with rfl | ⟨zq, rfl⟩ <;> first | (simp [entryFrame, mkF, argsToLocals, Value.category]; done) | rfl
def Q_rmPC (Z : State) (i1 : Int32) (n1 : Int32) (fm : Value)  (h0 : Heap) (n0 : Nat) (v : Option Value) (h : Heap) (L : List Loc) : Prop := v = some (.int i1) ∧ Fr n0 L ∧ h = h0
theorem pn_rmPC : plainName "jdk/internal/util/Preconditions" = true := by first | (simp [plainName, overriddenIn]; done) | decide +kernel
set_option maxRecDepth 65536 in
set_option maxHeartbeats 40000000 in
theorem rmPC (l : Launch) (Z : State) (a0 : Array Value) (hw : ∀ d ∈ tables_1, d.before a0 Z = true) (ws : List Jvm.Cond) (i1 : Int32) (n1 : Int32) (fm : Value)  (h0 : Heap) (n0 : Nat) (Z0 : n0 ≤ h0.size) (hfm : fm.isRef = true) (hi0 : ¬ i1 < 0) (hi1 : i1 < n1) :
    MetFree l (⟨"jdk/internal/util/Preconditions", "checkIndex", "(IILjava/util/function/BiFunction;)I"⟩ : MethodName) (head1 (Jvm.Cond.code (⟨"jdk/internal/util/Preconditions", "checkIndex", "(IILjava/util/function/BiFunction;)I"⟩ : MethodName) jdk_41_method_11_code 3 (some .int) :: ws) ({ frames := 0, cells := 0, slots := 0, locals := 0 } : Room)) (fun aZ U => aZ = #[(.int i1), (.int n1), fm] ∧ Z.Warmed39 U.vm ∧ U.heap = h0) (fun _ _ _ _ _ => True) (fun _ U o U' => ∃ v L, o = .returned v ∧ Q_rmPC Z i1 n1 fm  h0 n0 v U'.heap L ∧ FrameEnd U o U' L ({ frames := 0, cells := 0, slots := 0, locals := 0 } : Room).cells ({ frames := 0, cells := 0, slots := 0, locals := 0 } : Room).slots) := by
  refine MetFree.of_bodySF (plainFor_of_name pn_rmPC) hisR ?_
  intro p e s m args below meth c s₁ Bd hml0 hP hK
  obtain ⟨rfl, hZ, hh⟩ := hP
  have hx := Bd.exec
  have hby := Bd.bytes
  have hml : c.maxLocals = 3 := hml0
  have hown : s.vm.findClass "jdk/internal/util/Preconditions" = some m.cls := findClass_of_methodNamed Bd.named
  have hnm := (name_of_methodNamed Bd.named Bd.method).1
  have X0 : Stand p l e ({ frames := 0, cells := 0, slots := 0, locals := 0 } : Room) s m #[(.int i1), (.int n1), fm] below meth c s₁ [] 0 0 := Stand.of_body Bd
  have e0 : s₁.heap = h0 := by rw [← hh, Bd.state]; rfl
  have N0 := Fr.nil n0
  have pre0 : ∀ tZ, Steps p.tables e below (s₁.setTop (mkF m 0 #[.val (.int i1), .val (.int n1), .val fm] [])) tZ → Steps p.tables e below (s₁.setTop (entryFrame m #[(.int i1), (.int n1), fm] 3)) tZ := fun tZ kZ => castTop (ef_dpc_ m i1 n1 fm hfm) kZ
  obtain ⟨fs, hr, hrun, hended, hW, hsame⟩ := X0.leave (v := some (.int i1)) (fun h => by rw [Bd.returns] at h; cases h)
  refine ⟨_, _, pre0 _ ?_, hrun, hended, _, _, rfl, ?_, ⟨_, rfl⟩, hW, hsame.mono (by decide) (by decide)⟩
  · show Steps p.tables e below (s₁.setTop (mkF m 0 #[.val (.int i1), .val (.int n1), .val fm] [])) _
    refine XS.iloadN X0.here hx rfl (hb hby dpc_0) rfl ?_
    show Steps p.tables e below (s₁.setTop (mkF m 1 #[.val (.int i1), .val (.int n1), .val fm] [(.int i1)])) _
    refine XS.ifNo X0.here hx rfl (hb hby dpc_1) rfl ((if0 _ _).trans (flt hi0).1) ?_
    show Steps p.tables e below (s₁.setTop (mkF m 4 #[.val (.int i1), .val (.int n1), .val fm] [])) _
    refine XS.iloadN X0.here hx rfl (hb hby dpc_4) rfl ?_
    show Steps p.tables e below (s₁.setTop (mkF m 5 #[.val (.int i1), .val (.int n1), .val fm] [(.int i1)])) _
    refine XS.iloadN X0.here hx rfl (hb hby dpc_5) rfl ?_
    show Steps p.tables e below (s₁.setTop (mkF m 6 #[.val (.int i1), .val (.int n1), .val fm] [(.int n1), (.int i1)])) _
    refine XS.icmpYes X0.here hx rfl (pc0 := 6) (pc' := 16) rfl (hb hby dpc_6) rfl (tlt hi1).1 (by decide) (by decide) ?_
    show Steps p.tables e below (s₁.setTop (mkF m 16 #[.val (.int i1), .val (.int n1), .val fm] [])) _
    refine XS.iloadN X0.here hx rfl (hb hby dpc_16) rfl ?_
    show Steps p.tables e below (s₁.setTop (mkF m 17 #[.val (.int i1), .val (.int n1), .val fm] [(.int i1)])) _
    exact retI X0 hx Bd.returns (hb hby dpc_17) hr
  · show Q_rmPC Z i1 n1 fm h0 n0 _ s₁.heap _
    rw [e0]
    exact ⟨rfl, N0, rfl⟩

theorem dci_0 : decode jdk_42_method_155_code 0 = .ok (.iload_n 0, 1) := by decide +kernel
theorem dci_1 : decode jdk_42_method_155_code 1 = .ok (.iload_n 1, 1) := by decide +kernel
theorem dci_2 : decode jdk_42_method_155_code 2 = .ok (.getstatic 1053, 3) := by decide +kernel
theorem dci_5 : decode jdk_42_method_155_code 5 = .ok (.invokestatic 1059, 3) := by decide +kernel
theorem dci_8 : decode jdk_42_method_155_code 8 = .ok (.pop, 1) := by decide +kernel
theorem dci_9 : decode jdk_42_method_155_code 9 = .ok (.return_, 1) := by decide +kernel
theorem pd_dci__IILjava_util_function_BiFunction__I : parseMethodDescriptor "(IILjava/util/function/BiFunction;)I" = some ⟨[.int, .int, (.object "java/util/function/BiFunction")], some .int⟩ := by decide +kernel
theorem ef_dci_ (m : MethodId) (i1 : Int32) (n1 : Int32) : entryFrame m #[(.int i1), (.int n1)] 2 = mkF m 0 #[.val (.int i1), .val (.int n1)] [] := by first | (simp [entryFrame, mkF, argsToLocals, Value.category]; done) | rfl
def Q_rmCI (Z : State) (i1 : Int32) (n1 : Int32) (fm : Value) (h0 : Heap) (n0 : Nat) (v : Option Value) (h : Heap) (L : List Loc) : Prop := v = none ∧ Fr n0 L ∧ h = h0
theorem pn_rmCI : plainName "java/lang/String" = true := by first | (simp [plainName, overriddenIn]; done) | decide +kernel
set_option maxRecDepth 65536 in
set_option maxHeartbeats 40000000 in
theorem rmCI (l : Launch) (Z : State) (a0 : Array Value) (hw : ∀ d ∈ tables_1, d.before a0 Z = true) (ws : List Jvm.Cond) (i1 : Int32) (n1 : Int32) (fm : Value) (h0 : Heap) (n0 : Nat) (Z0 : n0 ≤ h0.size) (Sf : Sta Z h0 "jdk/internal/util/Preconditions" "SIOOBE_FORMATTER" "Ljava/util/function/BiFunction;" fm) (hfm : fm.isRef = true) (hi0 : ¬ i1 < 0) (hi1 : i1 < n1) :
    MetFree l (⟨"java/lang/String", "checkIndex", "(II)V"⟩ : MethodName) (head1 (Jvm.Cond.code (⟨"java/lang/String", "checkIndex", "(II)V"⟩ : MethodName) jdk_42_method_155_code 2 none :: ws) ({ frames := 1, cells := 0, slots := 0, locals := 14 } : Room)) (fun aZ U => aZ = #[(.int i1), (.int n1)] ∧ Z.Warmed39 U.vm ∧ U.heap = h0) (fun _ _ _ _ _ => True) (fun _ U o U' => ∃ v L, o = .returned v ∧ Q_rmCI Z i1 n1 fm  h0 n0 v U'.heap L ∧ FrameEnd U o U' L ({ frames := 1, cells := 0, slots := 0, locals := 14 } : Room).cells ({ frames := 1, cells := 0, slots := 0, locals := 14 } : Room).slots) := by
  refine MetFree.of_bodySF (plainFor_of_name pn_rmCI) hisR ?_
  intro p e s m args below meth c s₁ Bd hml0 hP hK
  obtain ⟨rfl, hZ, hh⟩ := hP
  have hx := Bd.exec
  have hby := Bd.bytes
  have hml : c.maxLocals = 2 := hml0
  have hown : s.vm.findClass "java/lang/String" = some m.cls := findClass_of_methodNamed Bd.named
  have hnm := (name_of_methodNamed Bd.named Bd.method).1
  have X0 : Stand p l e ({ frames := 1, cells := 0, slots := 0, locals := 14 } : Room) s m #[(.int i1), (.int n1)] below meth c s₁ [] 0 0 := Stand.of_body Bd
  have e0 : s₁.heap = h0 := by rw [← hh, Bd.state]; rfl
  have N0 := Fr.nil n0
  have pre0 : ∀ tZ, Steps p.tables e below (s₁.setTop (mkF m 0 #[.val (.int i1), .val (.int n1)] [])) tZ → Steps p.tables e below (s₁.setTop (entryFrame m #[(.int i1), (.int n1)] 2)) tZ := fun tZ kZ => castTop (ef_dci_ m i1 n1) kZ
  obtain ⟨T1, X1, e1, st1⟩ := getS2 X0 hx hZ hown (host := "") (Or.inl (hw _ (List.mem_of_getElem? (i := 153) rfl))) Via.refl e0 Sf (g := (mkF m 2 #[.val (.int i1), .val (.int n1)] [(.int n1), (.int i1)])) rfl (hb hby dci_2)
  obtain ⟨_, _, ⟨T2, L2, k2, n2⟩, -, X2, ⟨Lc2, hQ2, l2, y2, z2⟩, st2⟩ := Jvm.LawKit.callS X1 hx (y := (⟨"jdk/internal/util/Preconditions", "checkIndex", "(IILjava/util/function/BiFunction;)I"⟩ : MethodName)) hown (mvT hZ (hw _ (List.mem_of_getElem? (i := 155) rfl))) (mvT hZ (hw _ (List.mem_of_getElem? (i := 156) rfl))) (mvT hZ (hw _ (List.mem_of_getElem? (i := 154) rfl))) (mvT hZ (hw _ (List.mem_of_getElem? (i := 157) rfl))) (by decide) (backOf (W := 0) (rmPC l Z a0 hw [] i1 n1 fm h0 n0 Z0 hfm hi0 hi1) hZ (hw _ (List.mem_of_getElem? (i := 157) rfl)) (hw _ (List.mem_of_getElem? (i := 154) rfl)) (by decide) (by decide)) (g := (mkF m 5 #[.val (.int i1), .val (.int n1)] [fm, (.int n1), (.int i1)])) rfl (by rw [hml]; rfl) (argsL := [(.int i1), (.int n1), fm]) (rest := []) (lenOf pd_dci__IILjava_util_function_BiFunction__I rfl) rfl (by show 2 * 0 + _ ≤ _; exact Nat.le_of_eq rfl) (hb hby dci_5) (fun _ _ => ⟨rfl, e1, (by decide : 0 + 0 ≤ _), (by decide : 0 + 0 ≤ _)⟩)
  dsimp only [Pt.U, Pt.locs, Pt.cells, Pt.slots] at X2 l2 y2 z2 st2 hQ2
  subst l2 y2 z2
  obtain ⟨rfl, N2q, e2⟩ := hQ2
  have N2 := Fr.app N0 N2q
  obtain ⟨fs, hr, hrun, hended, hW, hsame⟩ := X2.leave (v := none) (fun _ => rfl)
  refine ⟨_, _, pre0 _ ?_, hrun, hended, _, _, rfl, ?_, ⟨_, rfl⟩, hW, hsame.mono (by decide) (by decide)⟩
  · show Steps p.tables e below (s₁.setTop (mkF m 0 #[.val (.int i1), .val (.int n1)] [])) _
    refine XS.iloadN X0.here hx rfl (hb hby dci_0) rfl ?_
    show Steps p.tables e below (s₁.setTop (mkF m 1 #[.val (.int i1), .val (.int n1)] [(.int i1)])) _
    refine XS.iloadN X0.here hx rfl (hb hby dci_1) rfl ?_
    show Steps p.tables e below (s₁.setTop (mkF m 2 #[.val (.int i1), .val (.int n1)] [(.int n1), (.int i1)])) _
    refine st1 _ ?_
    show Steps p.tables e below (T1.setTop (mkF m 5 #[.val (.int i1), .val (.int n1)] [fm, (.int n1), (.int i1)])) _
    refine st2 _ ?_
    show Steps p.tables e below (T2.setTop (mkF m 8 #[.val (.int i1), .val (.int n1)] [(.int i1)])) _
    refine XS.pop X2.here hx rfl (hb hby dci_8) rfl rfl ?_
    show Steps p.tables e below (T2.setTop (mkF m 9 #[.val (.int i1), .val (.int n1)] [])) _
    exact X2.returnOut hx Bd.returns (hb hby dci_9) hr
  · show Q_rmCI Z i1 n1 fm h0 n0 _ T2.heap _
    rw [e2]
    exact ⟨rfl, N2, rfl⟩

theorem own_c16 {x : Int32} (h : 0 ≤ x.toInt ∧ x.toInt < 65536) : x.toUInt32.toUInt16.toUInt32.toInt32 = x := by
  apply Int32.toInt_inj.mp
  have := c_i2c x
  omega
theorem own_m255 {x : Int32} (h : 0 ≤ x.toInt ∧ x.toInt < 128) : x &&& (255 : Int32) = x := by
  apply Int32.toInt_inj.mp
  have e := c_mask x 255 8 (by decide) (by decide)
  have k : ((2 ^ 8 : Nat) : Int) = 256 := by decide
  rw [e, k]; omega
theorem dlc_0 : decode jdk_43_method_2_code 0 = .ok (.iload_n 1, 1) := by decide +kernel
theorem dlc_1 : decode jdk_43_method_2_code 1 = .ok (.aload_n 0, 1) := by decide +kernel
theorem dlc_2 : decode jdk_43_method_2_code 2 = .ok (.arraylength, 1) := by decide +kernel
theorem dlc_3 : decode jdk_43_method_2_code 3 = .ok (.invokestatic 9, 3) := by decide +kernel
theorem dlc_6 : decode jdk_43_method_2_code 6 = .ok (.aload_n 0, 1) := by decide +kernel
theorem dlc_7 : decode jdk_43_method_2_code 7 = .ok (.iload_n 1, 1) := by decide +kernel
theorem dlc_8 : decode jdk_43_method_2_code 8 = .ok (.baload, 1) := by decide +kernel
theorem dlc_9 : decode jdk_43_method_2_code 9 = .ok (.sipush 255, 3) := by decide +kernel
theorem dlc_12 : decode jdk_43_method_2_code 12 = .ok (.iand, 1) := by decide +kernel
theorem dlc_13 : decode jdk_43_method_2_code 13 = .ok (.i2c, 1) := by decide +kernel
theorem dlc_14 : decode jdk_43_method_2_code 14 = .ok (.ireturn, 1) := by decide +kernel
theorem pd_dlc__II_V : parseMethodDescriptor "(II)V" = some ⟨[.int, .int], none⟩ := by decide +kernel
theorem ef_dlc_ (m : MethodId) (ar : Addr) (i1 : Int32) : entryFrame m #[(.ref ar), (.int i1)] 2 = mkF m 0 #[.val (.ref ar), .val (.int i1)] [] := by first | (simp [entryFrame, mkF, argsToLocals, Value.category]; done) | rfl
def Q_rmLC (Z : State) (ar : Addr) (i1 : Int32) (x1 : Int32) (fm : Value) (kb : ClassId) (z : Int32) (xs : List Int32) (h0 : Heap) (n0 : Nat) (v : Option Value) (h : Heap) (L : List Loc) : Prop := v = some (.int x1) ∧ Fr n0 L ∧ h = h0
theorem pn_rmLC : plainName "java/lang/StringLatin1" = true := by first | (simp [plainName, overriddenIn]; done) | decide +kernel
set_option maxRecDepth 65536 in
set_option maxHeartbeats 40000000 in
theorem rmLC (l : Launch) (Z : State) (a0 : Array Value) (hw : ∀ d ∈ tables_1, d.before a0 Z = true) (ws : List Jvm.Cond) (ar : Addr) (i1 : Int32) (x1 : Int32) (fm : Value) (kb : ClassId) (z : Int32) (xs : List Int32) (h0 : Heap) (n0 : Nat) (Z0 : n0 ≤ h0.size) (Sf : Sta Z h0 "jdk/internal/util/Preconditions" "SIOOBE_FORMATTER" "Ljava/util/function/BiFunction;" fm) (hfm : fm.isRef = true) (V : Arv Z h0 ar kb .byte z (xs.map Value.int) (.int (0 : Int32))) (hi : ¬ i1 < 0 ∧ i1 < z) (hxr : 0 ≤ x1.toInt ∧ x1.toInt < 128) (hat : (xs.map Value.int).getD i1.toNatClampNeg (.int (0 : Int32)) = .int x1) :
    MetFree l (⟨"java/lang/StringLatin1", "charAt", "([BI)C"⟩ : MethodName) (head1 (Jvm.Cond.code (⟨"java/lang/StringLatin1", "charAt", "([BI)C"⟩ : MethodName) jdk_43_method_2_code 2 (some .char) :: ws) ({ frames := 2, cells := 0, slots := 0, locals := 27 } : Room)) (fun aZ U => aZ = #[(.ref ar), (.int i1)] ∧ Z.Warmed39 U.vm ∧ U.heap = h0) (fun _ _ _ _ _ => True) (fun _ U o U' => ∃ v L, o = .returned v ∧ Q_rmLC Z ar i1 x1  fm  kb  z  xs  h0 n0 v U'.heap L ∧ FrameEnd U o U' L ({ frames := 2, cells := 0, slots := 0, locals := 27 } : Room).cells ({ frames := 2, cells := 0, slots := 0, locals := 27 } : Room).slots) := by
  refine MetFree.of_bodySF (plainFor_of_name pn_rmLC) hisR ?_
  intro p e s m args below meth c s₁ Bd hml0 hP hK
  obtain ⟨rfl, hZ, hh⟩ := hP
  have hx := Bd.exec
  have hby := Bd.bytes
  have hml : c.maxLocals = 2 := hml0
  have hown : s.vm.findClass "java/lang/StringLatin1" = some m.cls := findClass_of_methodNamed Bd.named
  have hnm := (name_of_methodNamed Bd.named Bd.method).1
  have X0 : Stand p l e ({ frames := 2, cells := 0, slots := 0, locals := 27 } : Room) s m #[(.ref ar), (.int i1)] below meth c s₁ [] 0 0 := Stand.of_body Bd
  have e0 : s₁.heap = h0 := by rw [← hh, Bd.state]; rfl
  have N0 := Fr.nil n0
  have pre0 : ∀ tZ, Steps p.tables e below (s₁.setTop (mkF m 0 #[.val (.ref ar), .val (.int i1)] [])) tZ → Steps p.tables e below (s₁.setTop (entryFrame m #[(.ref ar), (.int i1)] 2)) tZ := fun tZ kZ => castTop (ef_dlc_ m ar i1) kZ
  obtain ⟨ca, Av, qv, Sv, Nv, Hv, Gv⟩ := V
  have hin := inb_of Sv hi
  obtain ⟨_, _, ⟨T1, L1, k1, n1⟩, -, X1, ⟨Lc1, hQ1, l1, y1, z1⟩, st1⟩ := Jvm.LawKit.callS X0 hx (y := (⟨"java/lang/String", "checkIndex", "(II)V"⟩ : MethodName)) hown (mvT hZ (hw _ (List.mem_of_getElem? (i := 150) rfl))) (mvT hZ (hw _ (List.mem_of_getElem? (i := 151) rfl))) (mvT hZ (hw _ (List.mem_of_getElem? (i := 22) rfl))) (mvT hZ (hw _ (List.mem_of_getElem? (i := 152) rfl))) (by decide) (backOf (W := 0) (rmCI l Z a0 hw [] i1 z fm h0 n0 Z0 Sf hfm hi.1 hi.2) hZ (hw _ (List.mem_of_getElem? (i := 152) rfl)) (hw _ (List.mem_of_getElem? (i := 22) rfl)) (by decide) (by decide)) (g := (mkF m 3 #[.val (.ref ar), .val (.int i1)] [(.int z), (.int i1)])) rfl (by rw [hml]; rfl) (argsL := [(.int i1), (.int z)]) (rest := []) (lenOf pd_dlc__II_V rfl) rfl (by show 2 * 0 + _ ≤ _; exact Nat.le_of_eq rfl) (hb hby dlc_3) (fun _ _ => ⟨rfl, e0, (by decide : 0 + 0 ≤ _), (by decide : 0 + 0 ≤ _)⟩)
  dsimp only [Pt.U, Pt.locs, Pt.cells, Pt.slots] at X1 l1 y1 z1 st1 hQ1
  subst l1 y1 z1
  obtain ⟨rfl, N1q, e1⟩ := hQ1
  have N1 := Fr.app N0 N1q
  obtain ⟨fs, hr, hrun, hended, hW, hsame⟩ := X1.leave (v := some (.int (nar .char ((x1 &&& (255 : Int32)).toUInt32.toUInt16.toUInt32.toInt32)))) (fun h => by rw [Bd.returns] at h; cases h)
  refine ⟨_, _, pre0 _ ?_, hrun, hended, _, _, rfl, ?_, ⟨_, rfl⟩, hW, hsame.mono (by decide) (by decide)⟩
  · show Steps p.tables e below (s₁.setTop (mkF m 0 #[.val (.ref ar), .val (.int i1)] [])) _
    refine XS.iloadN X0.here hx rfl (hb hby dlc_0) rfl ?_
    show Steps p.tables e below (s₁.setTop (mkF m 1 #[.val (.ref ar), .val (.int i1)] [(.int i1)])) _
    refine XS.aloadN X0.here hx rfl (hb hby dlc_1) rfl rfl ?_
    show Steps p.tables e below (s₁.setTop (mkF m 2 #[.val (.ref ar), .val (.int i1)] [(.ref ar), (.int i1)])) _
    refine X0.arraylength hx (by rw [e0]; exact Av.1) (State.isArrayOf_alike hZ.alike Av.2.1) (g := (mkF m 2 #[.val (.ref ar), .val (.int i1)] [(.ref ar), (.int i1)])) rfl rfl (hb hby dlc_2) _ ?_
    rw [len_of Sv Nv]
    show Steps p.tables e below (s₁.setTop (mkF m 3 #[.val (.ref ar), .val (.int i1)] [(.int z), (.int i1)])) _
    refine st1 _ ?_
    show Steps p.tables e below (T1.setTop (mkF m 6 #[.val (.ref ar), .val (.int i1)] [])) _
    refine XS.aloadN X1.here hx rfl (hb hby dlc_6) rfl rfl ?_
    show Steps p.tables e below (T1.setTop (mkF m 7 #[.val (.ref ar), .val (.int i1)] [(.ref ar)])) _
    refine XS.iloadN X1.here hx rfl (hb hby dlc_7) rfl ?_
    show Steps p.tables e below (T1.setTop (mkF m 8 #[.val (.ref ar), .val (.int i1)] [(.int i1), (.ref ar)])) _
    refine X1.baloadBytes hx (j := i1) (v := (.int x1)) (by rw [e1]; exact Av.1) (State.isArrayOf_alike hZ.alike Av.2.1) Av.2.2 hin (Has.at Hv hin hat) (g := (mkF m 8 #[.val (.ref ar), .val (.int i1)] [(.int i1), (.ref ar)])) rfl rfl (hb hby dlc_8) _ ?_
    show Steps p.tables e below (T1.setTop (mkF m 9 #[.val (.ref ar), .val (.int i1)] [(.int x1)])) _
    refine XS.sipush X1.here hx rfl (hb hby dlc_9) ?_
    show Steps p.tables e below (T1.setTop (mkF m 12 #[.val (.ref ar), .val (.int i1)] [(.int (255 : Int32)), (.int x1)])) _
    refine XS.iand X1.here hx rfl (hb hby dlc_12) rfl ?_
    show Steps p.tables e below (T1.setTop (mkF m 13 #[.val (.ref ar), .val (.int i1)] [(.int (x1 &&& (255 : Int32)))])) _
    refine XS.i2c X1.here hx rfl (hb hby dlc_13) rfl ?_
    show Steps p.tables e below (T1.setTop (mkF m 14 #[.val (.ref ar), .val (.int i1)] [(.int ((x1 &&& (255 : Int32)).toUInt32.toUInt16.toUInt32.toInt32))])) _
    exact retN X1 hx (t := .char) Bd.returns (by simp) (hb hby dlc_14) hr
  · show Q_rmLC Z ar i1 x1 fm kb z xs h0 n0 _ T1.heap _
    rw [e1]
    exact ⟨by show some (Value.int ((((x1 &&& (255 : Int32)).toUInt32.toUInt16.toUInt32.toInt32)).toUInt32.toUInt16.toUInt32.toInt32)) = _; rw [own_m255 hxr, own_c16 (x := x1) (by omega), own_c16 (x := x1) (by omega)], N1, rfl⟩

theorem dca_0 : decode jdk_42_method_56_code 0 = .ok (.aload_n 0, 1) := by decide +kernel
theorem dca_1 : decode jdk_42_method_56_code 1 = .ok (.invokevirtual 492, 3) := by decide +kernel
theorem dca_4 : decode jdk_42_method_56_code 4 = .ok (.ifCond .eq 12, 3) := by decide +kernel
theorem dca_7 : decode jdk_42_method_56_code 7 = .ok (.aload_n 0, 1) := by decide +kernel
theorem dca_8 : decode jdk_42_method_56_code 8 = .ok (.getfield 9, 3) := by decide +kernel
theorem dca_11 : decode jdk_42_method_56_code 11 = .ok (.iload_n 1, 1) := by decide +kernel
theorem dca_12 : decode jdk_42_method_56_code 12 = .ok (.invokestatic 495, 3) := by decide +kernel
theorem dca_15 : decode jdk_42_method_56_code 15 = .ok (.ireturn, 1) := by decide +kernel
theorem pd_dca___Z : parseMethodDescriptor "()Z" = some ⟨[], some .boolean⟩ := by decide +kernel
theorem pd_dca___BI_C : parseMethodDescriptor "([BI)C" = some ⟨[(.array .byte), .int], some .char⟩ := by decide +kernel
theorem ef_dca_ (m : MethodId) (st : Addr) (i1 : Int32) : entryFrame m #[(.ref st), (.int i1)] 2 = mkF m 0 #[.val (.ref st), .val (.int i1)] [] := by first | (simp [entryFrame, mkF, argsToLocals, Value.category]; done) | rfl
def Q_rmCA (Z : State) (st : Addr) (i1 : Int32) (x1 : Int32) (fm : Value) (cs0 : Int32) (ar : Addr) (kb : ClassId) (z : Int32) (xs : List Int32) (h0 : Heap) (n0 : Nat) (v : Option Value) (h : Heap) (L : List Loc) : Prop := v = some (.int x1) ∧ Fr n0 L ∧ h = h0
theorem pn_rmCA : plainName "java/lang/String" = true := by first | (simp [plainName, overriddenIn]; done) | decide +kernel
set_option maxRecDepth 65536 in
set_option maxHeartbeats 40000000 in
theorem rmCA (l : Launch) (Z : State) (a0 : Array Value) (hw : ∀ d ∈ tables_1, d.before a0 Z = true) (ws : List Jvm.Cond) (st : Addr) (i1 : Int32) (x1 : Int32) (fm : Value) (cs0 : Int32) (ar : Addr) (kb : ClassId) (z : Int32) (xs : List Int32) (h0 : Heap) (n0 : Nat) (Z0 : n0 ≤ h0.size) (S : Sta Z h0 "java/lang/String" "COMPACT_STRINGS" "Z" (.int cs0)) (hcs : ¬ cs0 = 0) (Sf : Sta Z h0 "jdk/internal/util/Preconditions" "SIOOBE_FORMATTER" "Ljava/util/function/BiFunction;" fm) (hfm : fm.isRef = true) (Q : own_S Z h0 st ar kb z xs) (hi : ¬ i1 < 0 ∧ i1 < z) (hxr : 0 ≤ x1.toInt ∧ x1.toInt < 128) (hat : (xs.map Value.int).getD i1.toNatClampNeg (.int (0 : Int32)) = .int x1) :
    MetFree l (⟨"java/lang/String", "charAt", "(I)C"⟩ : MethodName) (head1 (Jvm.Cond.code (⟨"java/lang/String", "charAt", "(I)C"⟩ : MethodName) jdk_42_method_56_code 2 (some .char) :: ws) ({ frames := 3, cells := 0, slots := 0, locals := 40 } : Room)) (fun aZ U => aZ = #[(.ref st), (.int i1)] ∧ Z.Warmed39 U.vm ∧ U.heap = h0) (fun _ _ _ _ _ => True) (fun _ U o U' => ∃ v L, o = .returned v ∧ Q_rmCA Z st i1 x1  fm  cs0  ar  kb  z  xs  h0 n0 v U'.heap L ∧ FrameEnd U o U' L ({ frames := 3, cells := 0, slots := 0, locals := 40 } : Room).cells ({ frames := 3, cells := 0, slots := 0, locals := 40 } : Room).slots) := by
  refine MetFree.of_bodySF (plainFor_of_name pn_rmCA) hisR ?_
  intro p e s m args below meth c s₁ Bd hml0 hP hK
  obtain ⟨rfl, hZ, hh⟩ := hP
  have hx := Bd.exec
  have hby := Bd.bytes
  have hml : c.maxLocals = 2 := hml0
  have hown : s.vm.findClass "java/lang/String" = some m.cls := findClass_of_methodNamed Bd.named
  have hnm := (name_of_methodNamed Bd.named Bd.method).1
  have X0 : Stand p l e ({ frames := 3, cells := 0, slots := 0, locals := 40 } : Room) s m #[(.ref st), (.int i1)] below meth c s₁ [] 0 0 := Stand.of_body Bd
  have e0 : s₁.heap = h0 := by rw [← hh, Bd.state]; rfl
  have N0 := Fr.nil n0
  have pre0 : ∀ tZ, Steps p.tables e below (s₁.setTop (mkF m 0 #[.val (.ref st), .val (.int i1)] [])) tZ → Steps p.tables e below (s₁.setTop (entryFrame m #[(.ref st), (.int i1)] 2)) tZ := fun tZ kZ => castTop (ef_dca_ m st i1) kZ
  have Q0 := Q
  obtain ⟨E, Fc, Fv, V⟩ := Q
  obtain ⟨cq1, kq1, q1a, q1b, q1c⟩ := isOf hZ e0 E
  obtain ⟨_, _, ⟨T1, L1, k1, n1⟩, -, X1, ⟨Lc1, hQ1, l1, y1, z1⟩, st1⟩ := X0.virtualBack hx (y := (⟨"java/lang/String", "isLatin1", "()Z"⟩ : MethodName)) (z := (⟨"java/lang/String", "isLatin1", "()Z"⟩ : MethodName)) hown (mvT hZ (hw _ (List.mem_of_getElem? (i := 142) rfl))) (mvT hZ (hw _ (List.mem_of_getElem? (i := 143) rfl))) (notFace_of_selects (args := #[]) (mvT hZ (hw _ (List.mem_of_getElem? (i := 145) rfl)))) (mvT hZ (hw _ (List.mem_of_getElem? (i := 145) rfl))) (mvT hZ (hw _ (List.mem_of_getElem? (i := 144) rfl))) (by decide) (backOf (W := 0) (rmLa l Z a0 hw [] st cs0 ar kb z xs h0 n0 Z0 S hcs Q0) hZ (hw _ (List.mem_of_getElem? (i := 146) rfl)) (hw _ (List.mem_of_getElem? (i := 22) rfl)) (by decide) (by decide)) q1a q1c (g := (mkF m 1 #[.val (.ref st), .val (.int i1)] [(.ref st)])) rfl (by rw [hml]; rfl) (Steps.refl _) (argsL := []) (rest := []) (lenOf pd_dca___Z rfl) rfl (by show 2 * 0 + _ ≤ _; exact Nat.le_of_eq rfl) (hb hby dca_1) (fun _ _ => ⟨rfl, e0, (by decide : 0 + 0 ≤ _), (by decide : 0 + 0 ≤ _)⟩)
  dsimp only [Pt.U, Pt.locs, Pt.cells, Pt.slots] at X1 l1 y1 z1 st1 hQ1
  subst l1 y1 z1
  obtain ⟨rfl, N1q, e1⟩ := hQ1
  have N1 := Fr.app N0 N1q
  obtain ⟨T2, X2, e2, st2⟩ := getF X1 hx hZ hown (host := "") (Or.inl (hw _ (List.mem_of_getElem? (i := 81) rfl))) Via.refl e1 Fv (g := (mkF m 8 #[.val (.ref st), .val (.int i1)] [(.ref st)])) rfl rfl (hb hby dca_8)
  obtain ⟨_, _, ⟨T3, L3, k3, n3⟩, -, X3, ⟨Lc3, hQ3, l3, y3, z3⟩, st3⟩ := Jvm.LawKit.callS X2 hx (y := (⟨"java/lang/StringLatin1", "charAt", "([BI)C"⟩ : MethodName)) hown (mvT hZ (hw _ (List.mem_of_getElem? (i := 147) rfl))) (mvT hZ (hw _ (List.mem_of_getElem? (i := 148) rfl))) (mvT hZ (hw _ (List.mem_of_getElem? (i := 131) rfl))) (mvT hZ (hw _ (List.mem_of_getElem? (i := 149) rfl))) (by decide) (backOf (W := 0) (rmLC l Z a0 hw [] ar i1 x1 fm kb z xs h0 n0 Z0 Sf hfm V hi hxr hat) hZ (hw _ (List.mem_of_getElem? (i := 149) rfl)) (hw _ (List.mem_of_getElem? (i := 131) rfl)) (by decide) (by decide)) (g := (mkF m 12 #[.val (.ref st), .val (.int i1)] [(.int i1), (.ref ar)])) rfl (by rw [hml]; rfl) (argsL := [(.ref ar), (.int i1)]) (rest := []) (lenOf pd_dca___BI_C rfl) rfl (by show 2 * 0 + _ ≤ _; exact Nat.le_of_eq rfl) (hb hby dca_12) (fun _ _ => ⟨rfl, e2, (by decide : 0 + 0 ≤ _), (by decide : 0 + 0 ≤ _)⟩)
  dsimp only [Pt.U, Pt.locs, Pt.cells, Pt.slots] at X3 l3 y3 z3 st3 hQ3
  subst l3 y3 z3
  obtain ⟨rfl, N3q, e3⟩ := hQ3
  have N3 := Fr.app N1 N3q
  obtain ⟨fs, hr, hrun, hended, hW, hsame⟩ := X3.leave (v := some (.int (nar .char x1))) (fun h => by rw [Bd.returns] at h; cases h)
  refine ⟨_, _, pre0 _ ?_, hrun, hended, _, _, rfl, ?_, ⟨_, rfl⟩, hW, hsame.mono (by decide) (by decide)⟩
  · show Steps p.tables e below (s₁.setTop (mkF m 0 #[.val (.ref st), .val (.int i1)] [])) _
    refine XS.aloadN X0.here hx rfl (hb hby dca_0) rfl rfl ?_
    show Steps p.tables e below (s₁.setTop (mkF m 1 #[.val (.ref st), .val (.int i1)] [(.ref st)])) _
    refine st1.trans ?_
    show Steps p.tables e below (T1.setTop (mkF m 4 #[.val (.ref st), .val (.int i1)] [(.int (1 : Int32))])) _
    refine XS.ifNo X1.here hx rfl (hb hby dca_4) rfl ((if0 _ _).trans (feq (by decide : ¬ (1 : Int32) = 0)).1) ?_
    show Steps p.tables e below (T1.setTop (mkF m 7 #[.val (.ref st), .val (.int i1)] [])) _
    refine XS.aloadN X1.here hx rfl (hb hby dca_7) rfl rfl ?_
    show Steps p.tables e below (T1.setTop (mkF m 8 #[.val (.ref st), .val (.int i1)] [(.ref st)])) _
    refine st2 _ ?_
    show Steps p.tables e below (T2.setTop (mkF m 11 #[.val (.ref st), .val (.int i1)] [(.ref ar)])) _
    refine XS.iloadN X2.here hx rfl (hb hby dca_11) rfl ?_
    show Steps p.tables e below (T2.setTop (mkF m 12 #[.val (.ref st), .val (.int i1)] [(.int i1), (.ref ar)])) _
    refine st3 _ ?_
    show Steps p.tables e below (T3.setTop (mkF m 15 #[.val (.ref st), .val (.int i1)] [(.int x1)])) _
    exact retN X3 hx (t := .char) Bd.returns (by simp) (hb hby dca_15) hr
  · show Q_rmCA Z st i1 x1 fm cs0 ar kb z xs h0 n0 _ T3.heap _
    rw [e3]
    exact ⟨by show some (Value.int (x1.toUInt32.toUInt16.toUInt32.toInt32)) = _; rw [own_c16 (x := x1) (by omega)], N3, rfl⟩

theorem dmx_0 : decode jdk_29_method_65_code 0 = .ok (.iload_n 0, 1) := by decide +kernel
theorem dmx_1 : decode jdk_29_method_65_code 1 = .ok (.iload_n 1, 1) := by decide +kernel
theorem dmx_2 : decode jdk_29_method_65_code 2 = .ok (.if_icmp .lt 7, 3) := by decide +kernel
theorem dmx_5 : decode jdk_29_method_65_code 5 = .ok (.iload_n 0, 1) := by decide +kernel
theorem dmx_6 : decode jdk_29_method_65_code 6 = .ok (.goto 4, 3) := by decide +kernel
theorem dmx_9 : decode jdk_29_method_65_code 9 = .ok (.iload_n 1, 1) := by decide +kernel
theorem dmx_10 : decode jdk_29_method_65_code 10 = .ok (.ireturn, 1) := by decide +kernel
theorem ef_dmx_ (m : MethodId) (a1 : Int32) (b1 : Int32) : entryFrame m #[(.int a1), (.int b1)] 2 = mkF m 0 #[.val (.int a1), .val (.int b1)] [] := by first | (simp [entryFrame, mkF, argsToLocals, Value.category]; done) | rfl
def Q_rm_max (Z : State) (a1 : Int32) (b1 : Int32)  (h0 : Heap) (n0 : Nat) (v : Option Value) (h : Heap) (L : List Loc) : Prop := v = some (.int (if a1 < b1 then b1 else a1)) ∧ Fr n0 L ∧ h = h0
set_option maxRecDepth 65536 in
set_option maxHeartbeats 40000000 in
theorem rm_max (l : Launch) (Z : State) (a0 : Array Value) (hw : ∀ d ∈ tables_1, d.before a0 Z = true) (ws : List Jvm.Cond) (a1 : Int32) (b1 : Int32)  (h0 : Heap) (n0 : Nat) (Z0 : n0 ≤ h0.size)  :
    MetFree l (⟨"java/lang/Math", "max", "(II)I"⟩ : MethodName) (head1 (Jvm.Cond.code (⟨"java/lang/Math", "max", "(II)I"⟩ : MethodName) jdk_29_method_65_code 2 (some .int) :: ws) ({ frames := 0, cells := 0, slots := 0, locals := 0 } : Room)) (fun aZ U => aZ = #[(.int a1), (.int b1)] ∧ Z.Warmed39 U.vm ∧ U.heap = h0) (fun _ _ _ _ _ => True) (fun _ U o U' => ∃ v L, o = .returned v ∧ Q_rm_max Z a1 b1  h0 n0 v U'.heap L ∧ FrameEnd U o U' L ({ frames := 0, cells := 0, slots := 0, locals := 0 } : Room).cells ({ frames := 0, cells := 0, slots := 0, locals := 0 } : Room).slots) := by
  refine MetFree.of_bodySF (Jvm.Free.JP.mathPlain rfl (by decide +kernel)) hisR ?_
  intro p e s m args below meth c s₁ Bd hml0 hP hK
  obtain ⟨rfl, hZ, hh⟩ := hP
  have hx := Bd.exec
  have hby := Bd.bytes
  have hml : c.maxLocals = 2 := hml0
  have hown : s.vm.findClass "java/lang/Math" = some m.cls := findClass_of_methodNamed Bd.named
  have hnm := (name_of_methodNamed Bd.named Bd.method).1
  have X0 : Stand p l e ({ frames := 0, cells := 0, slots := 0, locals := 0 } : Room) s m #[(.int a1), (.int b1)] below meth c s₁ [] 0 0 := Stand.of_body Bd
  have e0 : s₁.heap = h0 := by rw [← hh, Bd.state]; rfl
  have N0 := Fr.nil n0
  have pre0 : ∀ tZ, Steps p.tables e below (s₁.setTop (mkF m 0 #[.val (.int a1), .val (.int b1)] [])) tZ → Steps p.tables e below (s₁.setTop (entryFrame m #[(.int a1), (.int b1)] 2)) tZ := fun tZ kZ => castTop (ef_dmx_ m a1 b1) kZ
  obtain ⟨fs, hr, hrun, hended, hW, hsame⟩ := X0.leave (v := some (.int (if a1 < b1 then b1 else a1))) (fun h => by rw [Bd.returns] at h; cases h)
  refine ⟨_, _, pre0 _ ?_, hrun, hended, _, _, rfl, ?_, ⟨_, rfl⟩, hW, hsame.mono (by decide) (by decide)⟩
  · show Steps p.tables e below (s₁.setTop (mkF m 0 #[.val (.int a1), .val (.int b1)] [])) _
    refine XS.iloadN X0.here hx rfl (hb hby dmx_0) rfl ?_
    show Steps p.tables e below (s₁.setTop (mkF m 1 #[.val (.int a1), .val (.int b1)] [(.int a1)])) _
    refine XS.iloadN X0.here hx rfl (hb hby dmx_1) rfl ?_
    show Steps p.tables e below (s₁.setTop (mkF m 2 #[.val (.int a1), .val (.int b1)] [(.int b1), (.int a1)])) _
    have sg2 : ∀ target, Steps p.tables e below (s₁.setTop (mkF m 10 #[.val (.int a1), .val (.int b1)] [(.int (if a1 < b1 then b1 else a1))])) target → Steps p.tables e below (s₁.setTop (mkF m 2 #[.val (.int a1), .val (.int b1)] [(.int b1), (.int a1)])) target := by
      intro target kt
      rcases Classical.em (a1 < b1) with hr2_0 | hr2_0
      · (try simp only [if_pos hr2_0] at kt)
        refine XS.icmpYes X0.here hx rfl (pc0 := 2) (pc' := 9) rfl (hb hby dmx_2) rfl (tlt hr2_0).1 (by decide) (by decide) ?_
        show Steps p.tables e below (s₁.setTop (mkF m 9 #[.val (.int a1), .val (.int b1)] [])) _
        refine XS.iloadN X0.here hx rfl (hb hby dmx_9) rfl ?_
        show Steps p.tables e below (s₁.setTop (mkF m 10 #[.val (.int a1), .val (.int b1)] [(.int b1)])) _
        exact kt
      · (try simp only [if_neg hr2_0] at kt)
        refine XS.icmpNo X0.here hx rfl (hb hby dmx_2) rfl (flt hr2_0).1 ?_
        show Steps p.tables e below (s₁.setTop (mkF m 5 #[.val (.int a1), .val (.int b1)] [])) _
        refine XS.iloadN X0.here hx rfl (hb hby dmx_5) rfl ?_
        show Steps p.tables e below (s₁.setTop (mkF m 6 #[.val (.int a1), .val (.int b1)] [(.int a1)])) _
        refine XS.goto X0.here hx rfl (pc0 := 6) (pc' := 10) rfl (hb hby dmx_6) (by decide) (by decide) ?_
        show Steps p.tables e below (s₁.setTop (mkF m 10 #[.val (.int a1), .val (.int b1)] [(.int a1)])) _
        exact kt
    refine sg2 _ ?_
    show Steps p.tables e below (s₁.setTop (mkF m 10 #[.val (.int a1), .val (.int b1)] [(.int (if a1 < b1 then b1 else a1))])) _
    exact retI X0 hx Bd.returns (hb hby dmx_10) hr
  · show Q_rm_max Z a1 b1 h0 n0 _ s₁.heap _
    rw [e0]
    exact ⟨rfl, N0, rfl⟩

theorem dmn_0 : decode jdk_29_method_69_code 0 = .ok (.iload_n 0, 1) := by decide +kernel
theorem dmn_1 : decode jdk_29_method_69_code 1 = .ok (.iload_n 1, 1) := by decide +kernel
theorem dmn_2 : decode jdk_29_method_69_code 2 = .ok (.if_icmp .gt 7, 3) := by decide +kernel
theorem dmn_5 : decode jdk_29_method_69_code 5 = .ok (.iload_n 0, 1) := by decide +kernel
theorem dmn_6 : decode jdk_29_method_69_code 6 = .ok (.goto 4, 3) := by decide +kernel
theorem dmn_9 : decode jdk_29_method_69_code 9 = .ok (.iload_n 1, 1) := by decide +kernel
theorem dmn_10 : decode jdk_29_method_69_code 10 = .ok (.ireturn, 1) := by decide +kernel
theorem ef_dmn_ (m : MethodId) (a1 : Int32) (b1 : Int32) : entryFrame m #[(.int a1), (.int b1)] 2 = mkF m 0 #[.val (.int a1), .val (.int b1)] [] := by first | (simp [entryFrame, mkF, argsToLocals, Value.category]; done) | rfl
def Q_rm_min (Z : State) (a1 : Int32) (b1 : Int32)  (h0 : Heap) (n0 : Nat) (v : Option Value) (h : Heap) (L : List Loc) : Prop := v = some (.int (if b1 < a1 then b1 else a1)) ∧ Fr n0 L ∧ h = h0
set_option maxRecDepth 65536 in
set_option maxHeartbeats 40000000 in
theorem rm_min (l : Launch) (Z : State) (a0 : Array Value) (hw : ∀ d ∈ tables_1, d.before a0 Z = true) (ws : List Jvm.Cond) (a1 : Int32) (b1 : Int32)  (h0 : Heap) (n0 : Nat) (Z0 : n0 ≤ h0.size)  :
    MetFree l (⟨"java/lang/Math", "min", "(II)I"⟩ : MethodName) (head1 (Jvm.Cond.code (⟨"java/lang/Math", "min", "(II)I"⟩ : MethodName) jdk_29_method_69_code 2 (some .int) :: ws) ({ frames := 0, cells := 0, slots := 0, locals := 0 } : Room)) (fun aZ U => aZ = #[(.int a1), (.int b1)] ∧ Z.Warmed39 U.vm ∧ U.heap = h0) (fun _ _ _ _ _ => True) (fun _ U o U' => ∃ v L, o = .returned v ∧ Q_rm_min Z a1 b1  h0 n0 v U'.heap L ∧ FrameEnd U o U' L ({ frames := 0, cells := 0, slots := 0, locals := 0 } : Room).cells ({ frames := 0, cells := 0, slots := 0, locals := 0 } : Room).slots) := by
  refine MetFree.of_bodySF (Jvm.Free.JP.mathPlain rfl (by decide +kernel)) hisR ?_
  intro p e s m args below meth c s₁ Bd hml0 hP hK
  obtain ⟨rfl, hZ, hh⟩ := hP
  have hx := Bd.exec
  have hby := Bd.bytes
  have hml : c.maxLocals = 2 := hml0
  have hown : s.vm.findClass "java/lang/Math" = some m.cls := findClass_of_methodNamed Bd.named
  have hnm := (name_of_methodNamed Bd.named Bd.method).1
  have X0 : Stand p l e ({ frames := 0, cells := 0, slots := 0, locals := 0 } : Room) s m #[(.int a1), (.int b1)] below meth c s₁ [] 0 0 := Stand.of_body Bd
  have e0 : s₁.heap = h0 := by rw [← hh, Bd.state]; rfl
  have N0 := Fr.nil n0
  have pre0 : ∀ tZ, Steps p.tables e below (s₁.setTop (mkF m 0 #[.val (.int a1), .val (.int b1)] [])) tZ → Steps p.tables e below (s₁.setTop (entryFrame m #[(.int a1), (.int b1)] 2)) tZ := fun tZ kZ => castTop (ef_dmn_ m a1 b1) kZ
  obtain ⟨fs, hr, hrun, hended, hW, hsame⟩ := X0.leave (v := some (.int (if b1 < a1 then b1 else a1))) (fun h => by rw [Bd.returns] at h; cases h)
  refine ⟨_, _, pre0 _ ?_, hrun, hended, _, _, rfl, ?_, ⟨_, rfl⟩, hW, hsame.mono (by decide) (by decide)⟩
  · show Steps p.tables e below (s₁.setTop (mkF m 0 #[.val (.int a1), .val (.int b1)] [])) _
    refine XS.iloadN X0.here hx rfl (hb hby dmn_0) rfl ?_
    show Steps p.tables e below (s₁.setTop (mkF m 1 #[.val (.int a1), .val (.int b1)] [(.int a1)])) _
    refine XS.iloadN X0.here hx rfl (hb hby dmn_1) rfl ?_
    show Steps p.tables e below (s₁.setTop (mkF m 2 #[.val (.int a1), .val (.int b1)] [(.int b1), (.int a1)])) _
    have sg2 : ∀ target, Steps p.tables e below (s₁.setTop (mkF m 10 #[.val (.int a1), .val (.int b1)] [(.int (if b1 < a1 then b1 else a1))])) target → Steps p.tables e below (s₁.setTop (mkF m 2 #[.val (.int a1), .val (.int b1)] [(.int b1), (.int a1)])) target := by
      intro target kt
      rcases Classical.em (b1 < a1) with hr2_0 | hr2_0
      · (try simp only [if_pos hr2_0] at kt)
        refine XS.icmpYes X0.here hx rfl (pc0 := 2) (pc' := 9) rfl (hb hby dmn_2) rfl (tlt hr2_0).2.2.1 (by decide) (by decide) ?_
        show Steps p.tables e below (s₁.setTop (mkF m 9 #[.val (.int a1), .val (.int b1)] [])) _
        refine XS.iloadN X0.here hx rfl (hb hby dmn_9) rfl ?_
        show Steps p.tables e below (s₁.setTop (mkF m 10 #[.val (.int a1), .val (.int b1)] [(.int b1)])) _
        exact kt
      · (try simp only [if_neg hr2_0] at kt)
        refine XS.icmpNo X0.here hx rfl (hb hby dmn_2) rfl (flt hr2_0).2.2.1 ?_
        show Steps p.tables e below (s₁.setTop (mkF m 5 #[.val (.int a1), .val (.int b1)] [])) _
        refine XS.iloadN X0.here hx rfl (hb hby dmn_5) rfl ?_
        show Steps p.tables e below (s₁.setTop (mkF m 6 #[.val (.int a1), .val (.int b1)] [(.int a1)])) _
        refine XS.goto X0.here hx rfl (pc0 := 6) (pc' := 10) rfl (hb hby dmn_6) (by decide) (by decide) ?_
        show Steps p.tables e below (s₁.setTop (mkF m 10 #[.val (.int a1), .val (.int b1)] [(.int a1)])) _
        exact kt
    refine sg2 _ ?_
    show Steps p.tables e below (s₁.setTop (mkF m 10 #[.val (.int a1), .val (.int b1)] [(.int (if b1 < a1 then b1 else a1))])) _
    exact retI X0 hx Bd.returns (hb hby dmn_10) hr
  · show Q_rm_min Z a1 b1 h0 n0 _ s₁.heap _
    rw [e0]
    exact ⟨rfl, N0, rfl⟩

def own_keep (q1 : Int64) (k1 : Int32) : Int64 := ((((q1 &&& (1099511627775 : Int64)).toUInt64 >>> (((8 : Int32) * ((5 : Int32) - k1)) &&& 0x3f).toInt64.toUInt64).toInt64) <<< (((8 : Int32) * ((5 : Int32) - k1)) &&& 0x3f).toInt64)
theorem dke_0 : decode method_4_code 0 = .ok (.lload_n 0, 1) := by decide +kernel
theorem dke_1 : decode method_4_code 1 = .ok (.ldc2_w 43, 3) := by decide +kernel
theorem dke_4 : decode method_4_code 4 = .ok (.land, 1) := by decide +kernel
theorem dke_5 : decode method_4_code 5 = .ok (.lstore_n 3, 1) := by decide +kernel
theorem dke_6 : decode method_4_code 6 = .ok (.bipush 8, 2) := by decide +kernel
theorem dke_8 : decode method_4_code 8 = .ok (.iconst 5, 1) := by decide +kernel
theorem dke_9 : decode method_4_code 9 = .ok (.iload_n 2, 1) := by decide +kernel
theorem dke_10 : decode method_4_code 10 = .ok (.isub, 1) := by decide +kernel
theorem dke_11 : decode method_4_code 11 = .ok (.imul, 1) := by decide +kernel
theorem dke_12 : decode method_4_code 12 = .ok (.istore 5, 2) := by decide +kernel
theorem dke_14 : decode method_4_code 14 = .ok (.lload_n 3, 1) := by decide +kernel
theorem dke_15 : decode method_4_code 15 = .ok (.iload 5, 2) := by decide +kernel
theorem dke_17 : decode method_4_code 17 = .ok (.lushr, 1) := by decide +kernel
theorem dke_18 : decode method_4_code 18 = .ok (.iload 5, 2) := by decide +kernel
theorem dke_20 : decode method_4_code 20 = .ok (.lshl, 1) := by decide +kernel
theorem dke_21 : decode method_4_code 21 = .ok (.lreturn, 1) := by decide +kernel
theorem ef_dke_ (m : MethodId) (q1 : Int64) (k1 : Int32) : entryFrame m #[(.long q1), (.int k1)] 6 = mkF m 0 #[.val (.long q1), .second, .val (.int k1), .unset, .unset, .unset] [] := by first | (simp [entryFrame, mkF, argsToLocals, Value.category]; done) | rfl
def Q_rmKe (Z : State) (q1 : Int64) (k1 : Int32)  (h0 : Heap) (n0 : Nat) (v : Option Value) (h : Heap) (L : List Loc) : Prop := v = some (.long (own_keep q1 k1)) ∧ Fr n0 L ∧ h = h0
theorem pn_rmKe : plainName "com/example/harrier/harrier/warc/Base32EncodePinLaw" = true := by first | (simp [plainName, overriddenIn]; done) | decide +kernel
set_option maxRecDepth 65536 in
set_option maxHeartbeats 40000000 in
theorem rmKe (l : Launch) (Z : State) (a0 : Array Value) (hw : ∀ d ∈ tables_1, d.before a0 Z = true) (ws : List Jvm.Cond) (q1 : Int64) (k1 : Int32)  (h0 : Heap) (n0 : Nat) (Z0 : n0 ≤ h0.size)  :
    MetFree l (⟨"com/example/harrier/harrier/warc/Base32EncodePinLaw", "keep", "(JI)J"⟩ : MethodName) (head1 (Jvm.Cond.code (⟨"com/example/harrier/harrier/warc/Base32EncodePinLaw", "keep", "(JI)J"⟩ : MethodName) method_4_code 6 (some .long) :: ws) ({ frames := 0, cells := 0, slots := 0, locals := 0 } : Room)) (fun aZ U => aZ = #[(.long q1), (.int k1)] ∧ Z.Warmed39 U.vm ∧ U.heap = h0) (fun _ _ _ _ _ => True) (fun _ U o U' => ∃ v L, o = .returned v ∧ Q_rmKe Z q1 k1  h0 n0 v U'.heap L ∧ FrameEnd U o U' L ({ frames := 0, cells := 0, slots := 0, locals := 0 } : Room).cells ({ frames := 0, cells := 0, slots := 0, locals := 0 } : Room).slots) := by
  refine MetFree.of_bodySF (plainFor_of_name pn_rmKe) hisR ?_
  intro p e s m args below meth c s₁ Bd hml0 hP hK
  obtain ⟨rfl, hZ, hh⟩ := hP
  have hx := Bd.exec
  have hby := Bd.bytes
  have hml : c.maxLocals = 6 := hml0
  have hown : s.vm.findClass "com/example/harrier/harrier/warc/Base32EncodePinLaw" = some m.cls := findClass_of_methodNamed Bd.named
  have hnm := (name_of_methodNamed Bd.named Bd.method).1
  have X0 : Stand p l e ({ frames := 0, cells := 0, slots := 0, locals := 0 } : Room) s m #[(.long q1), (.int k1)] below meth c s₁ [] 0 0 := Stand.of_body Bd
  have e0 : s₁.heap = h0 := by rw [← hh, Bd.state]; rfl
  have N0 := Fr.nil n0
  have pre0 : ∀ tZ, Steps p.tables e below (s₁.setTop (mkF m 0 #[.val (.long q1), .second, .val (.int k1), .unset, .unset, .unset] [])) tZ → Steps p.tables e below (s₁.setTop (entryFrame m #[(.long q1), (.int k1)] 6)) tZ := fun tZ kZ => castTop (ef_dke_ m q1 k1) kZ
  obtain ⟨fs, hr, hrun, hended, hW, hsame⟩ := X0.leave (v := some (.long ((((q1 &&& (1099511627775 : Int64)).toUInt64 >>> (((8 : Int32) * ((5 : Int32) - k1)) &&& 0x3f).toInt64.toUInt64).toInt64) <<< (((8 : Int32) * ((5 : Int32) - k1)) &&& 0x3f).toInt64))) (fun h => by rw [Bd.returns] at h; cases h)
  refine ⟨_, _, pre0 _ ?_, hrun, hended, _, _, rfl, ?_, ⟨_, rfl⟩, hW, hsame.mono (by decide) (by decide)⟩
  · show Steps p.tables e below (s₁.setTop (mkF m 0 #[.val (.long q1), .second, .val (.int k1), .unset, .unset, .unset] [])) _
    refine XS.lloadN X0.here hx rfl (hb hby dke_0) rfl ?_
    show Steps p.tables e below (s₁.setTop (mkF m 1 #[.val (.long q1), .second, .val (.int k1), .unset, .unset, .unset] [(.long q1)])) _
    refine X0.ldc2Long hx hown (mvT hZ (hw _ (List.mem_of_getElem? (i := 105) rfl))) (g := (mkF m 1 #[.val (.long q1), .second, .val (.int k1), .unset, .unset, .unset] [(.long q1)])) rfl (hb hby dke_1) _ ?_
    show Steps p.tables e below (s₁.setTop (mkF m 4 #[.val (.long q1), .second, .val (.int k1), .unset, .unset, .unset] [(.long (1099511627775 : Int64)), (.long q1)])) _
    refine XS.land X0.here hx rfl (hb hby dke_4) rfl ?_
    show Steps p.tables e below (s₁.setTop (mkF m 5 #[.val (.long q1), .second, .val (.int k1), .unset, .unset, .unset] [(.long (q1 &&& (1099511627775 : Int64)))])) _
    refine XS.lstoreN X0.here hx rfl (hb hby dke_5) rfl (l' := #[.val (.long q1), .second, .val (.int k1), .val (.long (q1 &&& (1099511627775 : Int64))), .second, .unset]) rfl ?_
    show Steps p.tables e below (s₁.setTop (mkF m 6 #[.val (.long q1), .second, .val (.int k1), .val (.long (q1 &&& (1099511627775 : Int64))), .second, .unset] [])) _
    refine XS.bipush X0.here hx rfl (hb hby dke_6) ?_
    show Steps p.tables e below (s₁.setTop (mkF m 8 #[.val (.long q1), .second, .val (.int k1), .val (.long (q1 &&& (1099511627775 : Int64))), .second, .unset] [(.int (8 : Int32))])) _
    refine XS.iconst X0.here hx rfl (hb hby dke_8) ?_
    show Steps p.tables e below (s₁.setTop (mkF m 9 #[.val (.long q1), .second, .val (.int k1), .val (.long (q1 &&& (1099511627775 : Int64))), .second, .unset] [(.int (5 : Int32)), (.int (8 : Int32))])) _
    refine XS.iloadN X0.here hx rfl (hb hby dke_9) rfl ?_
    show Steps p.tables e below (s₁.setTop (mkF m 10 #[.val (.long q1), .second, .val (.int k1), .val (.long (q1 &&& (1099511627775 : Int64))), .second, .unset] [(.int k1), (.int (5 : Int32)), (.int (8 : Int32))])) _
    refine XS.isub X0.here hx rfl (hb hby dke_10) rfl ?_
    show Steps p.tables e below (s₁.setTop (mkF m 11 #[.val (.long q1), .second, .val (.int k1), .val (.long (q1 &&& (1099511627775 : Int64))), .second, .unset] [(.int ((5 : Int32) - k1)), (.int (8 : Int32))])) _
    refine XS.imul X0.here hx rfl (hb hby dke_11) rfl ?_
    show Steps p.tables e below (s₁.setTop (mkF m 12 #[.val (.long q1), .second, .val (.int k1), .val (.long (q1 &&& (1099511627775 : Int64))), .second, .unset] [(.int ((8 : Int32) * ((5 : Int32) - k1)))])) _
    refine XS.istore X0.here hx rfl (hb hby dke_12) rfl (l' := #[.val (.long q1), .second, .val (.int k1), .val (.long (q1 &&& (1099511627775 : Int64))), .second, .val (.int ((8 : Int32) * ((5 : Int32) - k1)))]) rfl ?_
    show Steps p.tables e below (s₁.setTop (mkF m 14 #[.val (.long q1), .second, .val (.int k1), .val (.long (q1 &&& (1099511627775 : Int64))), .second, .val (.int ((8 : Int32) * ((5 : Int32) - k1)))] [])) _
    refine XS.lloadN X0.here hx rfl (hb hby dke_14) rfl ?_
    show Steps p.tables e below (s₁.setTop (mkF m 15 #[.val (.long q1), .second, .val (.int k1), .val (.long (q1 &&& (1099511627775 : Int64))), .second, .val (.int ((8 : Int32) * ((5 : Int32) - k1)))] [(.long (q1 &&& (1099511627775 : Int64)))])) _
    refine XS.iload X0.here hx rfl (hb hby dke_15) rfl ?_
    show Steps p.tables e below (s₁.setTop (mkF m 17 #[.val (.long q1), .second, .val (.int k1), .val (.long (q1 &&& (1099511627775 : Int64))), .second, .val (.int ((8 : Int32) * ((5 : Int32) - k1)))] [(.int ((8 : Int32) * ((5 : Int32) - k1))), (.long (q1 &&& (1099511627775 : Int64)))])) _
    refine XS.lushr X0.here hx rfl (hb hby dke_17) rfl ?_
    show Steps p.tables e below (s₁.setTop (mkF m 18 #[.val (.long q1), .second, .val (.int k1), .val (.long (q1 &&& (1099511627775 : Int64))), .second, .val (.int ((8 : Int32) * ((5 : Int32) - k1)))] [(.long (((q1 &&& (1099511627775 : Int64)).toUInt64 >>> (((8 : Int32) * ((5 : Int32) - k1)) &&& 0x3f).toInt64.toUInt64).toInt64))])) _
    refine XS.iload X0.here hx rfl (hb hby dke_18) rfl ?_
    show Steps p.tables e below (s₁.setTop (mkF m 20 #[.val (.long q1), .second, .val (.int k1), .val (.long (q1 &&& (1099511627775 : Int64))), .second, .val (.int ((8 : Int32) * ((5 : Int32) - k1)))] [(.int ((8 : Int32) * ((5 : Int32) - k1))), (.long (((q1 &&& (1099511627775 : Int64)).toUInt64 >>> (((8 : Int32) * ((5 : Int32) - k1)) &&& 0x3f).toInt64.toUInt64).toInt64))])) _
    refine XS.lshl X0.here hx rfl (hb hby dke_20) rfl ?_
    show Steps p.tables e below (s₁.setTop (mkF m 21 #[.val (.long q1), .second, .val (.int k1), .val (.long (q1 &&& (1099511627775 : Int64))), .second, .val (.int ((8 : Int32) * ((5 : Int32) - k1)))] [(.long ((((q1 &&& (1099511627775 : Int64)).toUInt64 >>> (((8 : Int32) * ((5 : Int32) - k1)) &&& 0x3f).toInt64.toUInt64).toInt64) <<< (((8 : Int32) * ((5 : Int32) - k1)) &&& 0x3f).toInt64))])) _
    exact X0.lreturnOut hx Bd.returns (hb hby dke_21) hr
  · show Q_rmKe Z q1 k1 h0 n0 _ s₁.heap _
    rw [e0]
    exact ⟨rfl, N0, rfl⟩

def own_byteOf (q1 : Int64) (j1 : Int32) : Int32 := ((((q1.toUInt64 >>> (((32 : Int32) - ((8 : Int32) * j1)) &&& 0x3f).toInt64.toUInt64).toInt64).toInt32).toInt8.toInt32)
theorem own_nb (x : Int32) : nar .byte (x.toInt8.toInt32) = x.toInt8.toInt32 := by
  show x.toInt8.toInt32.toInt8.toInt32 = x.toInt8.toInt32
  rw [Int8.toInt8_toInt32]
theorem dby_0 : decode method_3_code 0 = .ok (.lload_n 0, 1) := by decide +kernel
theorem dby_1 : decode method_3_code 1 = .ok (.bipush 32, 2) := by decide +kernel
theorem dby_3 : decode method_3_code 3 = .ok (.bipush 8, 2) := by decide +kernel
theorem dby_5 : decode method_3_code 5 = .ok (.iload_n 2, 1) := by decide +kernel
theorem dby_6 : decode method_3_code 6 = .ok (.imul, 1) := by decide +kernel
theorem dby_7 : decode method_3_code 7 = .ok (.isub, 1) := by decide +kernel
theorem dby_8 : decode method_3_code 8 = .ok (.lushr, 1) := by decide +kernel
theorem dby_9 : decode method_3_code 9 = .ok (.l2i, 1) := by decide +kernel
theorem dby_10 : decode method_3_code 10 = .ok (.i2b, 1) := by decide +kernel
theorem dby_11 : decode method_3_code 11 = .ok (.ireturn, 1) := by decide +kernel
theorem ef_dby_ (m : MethodId) (q1 : Int64) (j1 : Int32) : entryFrame m #[(.long q1), (.int j1)] 3 = mkF m 0 #[.val (.long q1), .second, .val (.int j1)] [] := by first | (simp [entryFrame, mkF, argsToLocals, Value.category]; done) | rfl
def Q_rmBy (Z : State) (q1 : Int64) (j1 : Int32)  (h0 : Heap) (n0 : Nat) (v : Option Value) (h : Heap) (L : List Loc) : Prop := v = some (.int (own_byteOf q1 j1)) ∧ Fr n0 L ∧ h = h0
theorem pn_rmBy : plainName "com/example/harrier/harrier/warc/Base32EncodePinLaw" = true := by first | (simp [plainName, overriddenIn]; done) | decide +kernel
set_option maxRecDepth 65536 in
set_option maxHeartbeats 40000000 in
theorem rmBy (l : Launch) (Z : State) (a0 : Array Value) (hw : ∀ d ∈ tables_1, d.before a0 Z = true) (ws : List Jvm.Cond) (q1 : Int64) (j1 : Int32)  (h0 : Heap) (n0 : Nat) (Z0 : n0 ≤ h0.size)  :
    MetFree l (⟨"com/example/harrier/harrier/warc/Base32EncodePinLaw", "byteOf", "(JI)B"⟩ : MethodName) (head1 (Jvm.Cond.code (⟨"com/example/harrier/harrier/warc/Base32EncodePinLaw", "byteOf", "(JI)B"⟩ : MethodName) method_3_code 3 (some .byte) :: ws) ({ frames := 0, cells := 0, slots := 0, locals := 0 } : Room)) (fun aZ U => aZ = #[(.long q1), (.int j1)] ∧ Z.Warmed39 U.vm ∧ U.heap = h0) (fun _ _ _ _ _ => True) (fun _ U o U' => ∃ v L, o = .returned v ∧ Q_rmBy Z q1 j1  h0 n0 v U'.heap L ∧ FrameEnd U o U' L ({ frames := 0, cells := 0, slots := 0, locals := 0 } : Room).cells ({ frames := 0, cells := 0, slots := 0, locals := 0 } : Room).slots) := by
  refine MetFree.of_bodySF (plainFor_of_name pn_rmBy) hisR ?_
  intro p e s m args below meth c s₁ Bd hml0 hP hK
  obtain ⟨rfl, hZ, hh⟩ := hP
  have hx := Bd.exec
  have hby := Bd.bytes
  have hml : c.maxLocals = 3 := hml0
  have hown : s.vm.findClass "com/example/harrier/harrier/warc/Base32EncodePinLaw" = some m.cls := findClass_of_methodNamed Bd.named
  have hnm := (name_of_methodNamed Bd.named Bd.method).1
  have X0 : Stand p l e ({ frames := 0, cells := 0, slots := 0, locals := 0 } : Room) s m #[(.long q1), (.int j1)] below meth c s₁ [] 0 0 := Stand.of_body Bd
  have e0 : s₁.heap = h0 := by rw [← hh, Bd.state]; rfl
  have N0 := Fr.nil n0
  have pre0 : ∀ tZ, Steps p.tables e below (s₁.setTop (mkF m 0 #[.val (.long q1), .second, .val (.int j1)] [])) tZ → Steps p.tables e below (s₁.setTop (entryFrame m #[(.long q1), (.int j1)] 3)) tZ := fun tZ kZ => castTop (ef_dby_ m q1 j1) kZ
  obtain ⟨fs, hr, hrun, hended, hW, hsame⟩ := X0.leave (v := some (.int (nar .byte ((((q1.toUInt64 >>> (((32 : Int32) - ((8 : Int32) * j1)) &&& 0x3f).toInt64.toUInt64).toInt64).toInt32).toInt8.toInt32)))) (fun h => by rw [Bd.returns] at h; cases h)
  refine ⟨_, _, pre0 _ ?_, hrun, hended, _, _, rfl, ?_, ⟨_, rfl⟩, hW, hsame.mono (by decide) (by decide)⟩
  · show Steps p.tables e below (s₁.setTop (mkF m 0 #[.val (.long q1), .second, .val (.int j1)] [])) _
    refine XS.lloadN X0.here hx rfl (hb hby dby_0) rfl ?_
    show Steps p.tables e below (s₁.setTop (mkF m 1 #[.val (.long q1), .second, .val (.int j1)] [(.long q1)])) _
    refine XS.bipush X0.here hx rfl (hb hby dby_1) ?_
    show Steps p.tables e below (s₁.setTop (mkF m 3 #[.val (.long q1), .second, .val (.int j1)] [(.int (32 : Int32)), (.long q1)])) _
    refine XS.bipush X0.here hx rfl (hb hby dby_3) ?_
    show Steps p.tables e below (s₁.setTop (mkF m 5 #[.val (.long q1), .second, .val (.int j1)] [(.int (8 : Int32)), (.int (32 : Int32)), (.long q1)])) _
    refine XS.iloadN X0.here hx rfl (hb hby dby_5) rfl ?_
    show Steps p.tables e below (s₁.setTop (mkF m 6 #[.val (.long q1), .second, .val (.int j1)] [(.int j1), (.int (8 : Int32)), (.int (32 : Int32)), (.long q1)])) _
    refine XS.imul X0.here hx rfl (hb hby dby_6) rfl ?_
    show Steps p.tables e below (s₁.setTop (mkF m 7 #[.val (.long q1), .second, .val (.int j1)] [(.int ((8 : Int32) * j1)), (.int (32 : Int32)), (.long q1)])) _
    refine XS.isub X0.here hx rfl (hb hby dby_7) rfl ?_
    show Steps p.tables e below (s₁.setTop (mkF m 8 #[.val (.long q1), .second, .val (.int j1)] [(.int ((32 : Int32) - ((8 : Int32) * j1))), (.long q1)])) _
    refine XS.lushr X0.here hx rfl (hb hby dby_8) rfl ?_
    show Steps p.tables e below (s₁.setTop (mkF m 9 #[.val (.long q1), .second, .val (.int j1)] [(.long ((q1.toUInt64 >>> (((32 : Int32) - ((8 : Int32) * j1)) &&& 0x3f).toInt64.toUInt64).toInt64))])) _
    refine XS.l2i X0.here hx rfl (hb hby dby_9) rfl ?_
    show Steps p.tables e below (s₁.setTop (mkF m 10 #[.val (.long q1), .second, .val (.int j1)] [(.int (((q1.toUInt64 >>> (((32 : Int32) - ((8 : Int32) * j1)) &&& 0x3f).toInt64.toUInt64).toInt64).toInt32))])) _
    refine XS.i2b X0.here hx rfl (hb hby dby_10) rfl ?_
    show Steps p.tables e below (s₁.setTop (mkF m 11 #[.val (.long q1), .second, .val (.int j1)] [(.int ((((q1.toUInt64 >>> (((32 : Int32) - ((8 : Int32) * j1)) &&& 0x3f).toInt64.toUInt64).toInt64).toInt32).toInt8.toInt32))])) _
    exact retN X0 hx (t := .byte) Bd.returns (by simp) (hb hby dby_11) hr
  · show Q_rmBy Z q1 j1 h0 n0 _ s₁.heap _
    rw [e0]
    exact ⟨congrArg (fun z => some (Value.int z)) (own_nb _), N0, rfl⟩

def own_al (d : Int32) : Int32 := if d < (26 : Int32) then (65 : Int32) + d else (50 : Int32) + (d - (26 : Int32))
theorem own_al_r : ∀ k : Fin 32, 0 ≤ (own_al (Int32.ofNat k.1)).toInt ∧ (own_al (Int32.ofNat k.1)).toInt < 128 := by decide
theorem own_fin {d : Int32} (h : 0 ≤ d.toInt ∧ d.toInt < 32) : ∃ k : Fin 32, d = Int32.ofNat k.1 ∧ d.toNatClampNeg = k.1 := by
  have k0 : (0 : Int32).toInt = 0 := by decide
  have hn : ¬ d < 0 := by rw [Int32.lt_iff_toInt_lt, k0]; omega
  have e := nat_of hn
  refine ⟨⟨d.toNatClampNeg, by omega⟩, ?_, rfl⟩
  apply Int32.toInt_inj.mp
  show d.toInt = (Int32.ofNat d.toNatClampNeg).toInt
  rw [own_ofNat (by omega)]; exact e
theorem own_alr {d : Int32} (h : 0 ≤ d.toInt ∧ d.toInt < 32) : 0 ≤ (own_al d).toInt ∧ (own_al d).toInt < 128 := by
  obtain ⟨k, rfl, -⟩ := own_fin h
  exact own_al_r k
theorem dsy_0 : decode method_5_code 0 = .ok (.iload_n 0, 1) := by decide +kernel
theorem dsy_1 : decode method_5_code 1 = .ok (.bipush 26, 2) := by decide +kernel
theorem dsy_3 : decode method_5_code 3 = .ok (.if_icmp .ge 9, 3) := by decide +kernel
theorem dsy_6 : decode method_5_code 6 = .ok (.bipush 65, 2) := by decide +kernel
theorem dsy_8 : decode method_5_code 8 = .ok (.iload_n 0, 1) := by decide +kernel
theorem dsy_9 : decode method_5_code 9 = .ok (.iadd, 1) := by decide +kernel
theorem dsy_10 : decode method_5_code 10 = .ok (.i2c, 1) := by decide +kernel
theorem dsy_11 : decode method_5_code 11 = .ok (.ireturn, 1) := by decide +kernel
theorem dsy_12 : decode method_5_code 12 = .ok (.bipush 50, 2) := by decide +kernel
theorem dsy_14 : decode method_5_code 14 = .ok (.iload_n 0, 1) := by decide +kernel
theorem dsy_15 : decode method_5_code 15 = .ok (.bipush 26, 2) := by decide +kernel
theorem dsy_17 : decode method_5_code 17 = .ok (.isub, 1) := by decide +kernel
theorem dsy_18 : decode method_5_code 18 = .ok (.iadd, 1) := by decide +kernel
theorem dsy_19 : decode method_5_code 19 = .ok (.i2c, 1) := by decide +kernel
theorem dsy_20 : decode method_5_code 20 = .ok (.ireturn, 1) := by decide +kernel
theorem ef_dsy_ (m : MethodId) (d1 : Int32) : entryFrame m #[(.int d1)] 1 = mkF m 0 #[.val (.int d1)] [] := by first | (simp [entryFrame, mkF, argsToLocals, Value.category]; done) | rfl
def Q_rmSy (Z : State) (d1 : Int32)  (h0 : Heap) (n0 : Nat) (v : Option Value) (h : Heap) (L : List Loc) : Prop := v = some (.int (own_al d1)) ∧ Fr n0 L ∧ h = h0
theorem pn_rmSy : plainName "com/example/harrier/harrier/warc/Base32EncodePinLaw" = true := by first | (simp [plainName, overriddenIn]; done) | decide +kernel
set_option maxRecDepth 65536 in
set_option maxHeartbeats 40000000 in
theorem rmSy (l : Launch) (Z : State) (a0 : Array Value) (hw : ∀ d ∈ tables_1, d.before a0 Z = true) (ws : List Jvm.Cond) (d1 : Int32)  (h0 : Heap) (n0 : Nat) (Z0 : n0 ≤ h0.size) (hd : 0 ≤ d1.toInt ∧ d1.toInt < 32) :
    MetFree l (⟨"com/example/harrier/harrier/warc/Base32EncodePinLaw", "symbol", "(I)C"⟩ : MethodName) (head1 (Jvm.Cond.code (⟨"com/example/harrier/harrier/warc/Base32EncodePinLaw", "symbol", "(I)C"⟩ : MethodName) method_5_code 1 (some .char) :: ws) ({ frames := 0, cells := 0, slots := 0, locals := 0 } : Room)) (fun aZ U => aZ = #[(.int d1)] ∧ Z.Warmed39 U.vm ∧ U.heap = h0) (fun _ _ _ _ _ => True) (fun _ U o U' => ∃ v L, o = .returned v ∧ Q_rmSy Z d1  h0 n0 v U'.heap L ∧ FrameEnd U o U' L ({ frames := 0, cells := 0, slots := 0, locals := 0 } : Room).cells ({ frames := 0, cells := 0, slots := 0, locals := 0 } : Room).slots) := by
  refine MetFree.of_bodySF (plainFor_of_name pn_rmSy) hisR ?_
  intro p e s m args below meth c s₁ Bd hml0 hP hK
  obtain ⟨rfl, hZ, hh⟩ := hP
  have hx := Bd.exec
  have hby := Bd.bytes
  have hml : c.maxLocals = 1 := hml0
  have hown : s.vm.findClass "com/example/harrier/harrier/warc/Base32EncodePinLaw" = some m.cls := findClass_of_methodNamed Bd.named
  have hnm := (name_of_methodNamed Bd.named Bd.method).1
  have X0 : Stand p l e ({ frames := 0, cells := 0, slots := 0, locals := 0 } : Room) s m #[(.int d1)] below meth c s₁ [] 0 0 := Stand.of_body Bd
  have e0 : s₁.heap = h0 := by rw [← hh, Bd.state]; rfl
  have N0 := Fr.nil n0
  have pre0 : ∀ tZ, Steps p.tables e below (s₁.setTop (mkF m 0 #[.val (.int d1)] [])) tZ → Steps p.tables e below (s₁.setTop (entryFrame m #[(.int d1)] 1)) tZ := fun tZ kZ => castTop (ef_dsy_ m d1) kZ
  have hr0 := own_alr hd
  rcases Classical.em (d1 < (26 : Int32)) with c0 | c0
  · have e1 : own_al d1 = ((65 : Int32) + d1) := if_pos c0
    rw [e1] at hr0
    obtain ⟨fs, hr, hrun, hended, hW, hsame⟩ := X0.leave (v := some (.int (nar .char (((65 : Int32) + d1).toUInt32.toUInt16.toUInt32.toInt32)))) (fun h => by rw [Bd.returns] at h; cases h)
    refine ⟨_, _, pre0 _ ?_, hrun, hended, _, _, rfl, ?_, ⟨_, rfl⟩, hW, hsame.mono (by decide) (by decide)⟩
    · show Steps p.tables e below (s₁.setTop (mkF m 0 #[.val (.int d1)] [])) _
      refine XS.iloadN X0.here hx rfl (hb hby dsy_0) rfl ?_
      show Steps p.tables e below (s₁.setTop (mkF m 1 #[.val (.int d1)] [(.int d1)])) _
      refine XS.bipush X0.here hx rfl (hb hby dsy_1) ?_
      show Steps p.tables e below (s₁.setTop (mkF m 3 #[.val (.int d1)] [(.int (26 : Int32)), (.int d1)])) _
      refine XS.icmpNo X0.here hx rfl (hb hby dsy_3) rfl (tlt c0).2.1 ?_
      show Steps p.tables e below (s₁.setTop (mkF m 6 #[.val (.int d1)] [])) _
      refine XS.bipush X0.here hx rfl (hb hby dsy_6) ?_
      show Steps p.tables e below (s₁.setTop (mkF m 8 #[.val (.int d1)] [(.int (65 : Int32))])) _
      refine XS.iloadN X0.here hx rfl (hb hby dsy_8) rfl ?_
      show Steps p.tables e below (s₁.setTop (mkF m 9 #[.val (.int d1)] [(.int d1), (.int (65 : Int32))])) _
      refine XS.iadd X0.here hx rfl (hb hby dsy_9) rfl ?_
      show Steps p.tables e below (s₁.setTop (mkF m 10 #[.val (.int d1)] [(.int ((65 : Int32) + d1))])) _
      refine XS.i2c X0.here hx rfl (hb hby dsy_10) rfl ?_
      show Steps p.tables e below (s₁.setTop (mkF m 11 #[.val (.int d1)] [(.int (((65 : Int32) + d1).toUInt32.toUInt16.toUInt32.toInt32))])) _
      exact retN X0 hx (t := .char) Bd.returns (by simp) (hb hby dsy_11) hr
    · show Q_rmSy Z d1 h0 n0 _ s₁.heap _
      rw [e0]
      exact ⟨by show some (Value.int (((((65 : Int32) + d1).toUInt32.toUInt16.toUInt32.toInt32)).toUInt32.toUInt16.toUInt32.toInt32)) = _; rw [own_c16 (x := ((65 : Int32) + d1)) (by omega), own_c16 (x := ((65 : Int32) + d1)) (by omega), e1], N0, rfl⟩
  · have e1 : own_al d1 = ((50 : Int32) + (d1 - (26 : Int32))) := if_neg c0
    rw [e1] at hr0
    obtain ⟨fs, hr, hrun, hended, hW, hsame⟩ := X0.leave (v := some (.int (nar .char (((50 : Int32) + (d1 - (26 : Int32))).toUInt32.toUInt16.toUInt32.toInt32)))) (fun h => by rw [Bd.returns] at h; cases h)
    refine ⟨_, _, pre0 _ ?_, hrun, hended, _, _, rfl, ?_, ⟨_, rfl⟩, hW, hsame.mono (by decide) (by decide)⟩
    · show Steps p.tables e below (s₁.setTop (mkF m 0 #[.val (.int d1)] [])) _
      refine XS.iloadN X0.here hx rfl (hb hby dsy_0) rfl ?_
      show Steps p.tables e below (s₁.setTop (mkF m 1 #[.val (.int d1)] [(.int d1)])) _
      refine XS.bipush X0.here hx rfl (hb hby dsy_1) ?_
      show Steps p.tables e below (s₁.setTop (mkF m 3 #[.val (.int d1)] [(.int (26 : Int32)), (.int d1)])) _
      refine XS.icmpYes X0.here hx rfl (pc0 := 3) (pc' := 12) rfl (hb hby dsy_3) rfl (flt c0).2.1 (by decide) (by decide) ?_
      show Steps p.tables e below (s₁.setTop (mkF m 12 #[.val (.int d1)] [])) _
      refine XS.bipush X0.here hx rfl (hb hby dsy_12) ?_
      show Steps p.tables e below (s₁.setTop (mkF m 14 #[.val (.int d1)] [(.int (50 : Int32))])) _
      refine XS.iloadN X0.here hx rfl (hb hby dsy_14) rfl ?_
      show Steps p.tables e below (s₁.setTop (mkF m 15 #[.val (.int d1)] [(.int d1), (.int (50 : Int32))])) _
      refine XS.bipush X0.here hx rfl (hb hby dsy_15) ?_
      show Steps p.tables e below (s₁.setTop (mkF m 17 #[.val (.int d1)] [(.int (26 : Int32)), (.int d1), (.int (50 : Int32))])) _
      refine XS.isub X0.here hx rfl (hb hby dsy_17) rfl ?_
      show Steps p.tables e below (s₁.setTop (mkF m 18 #[.val (.int d1)] [(.int (d1 - (26 : Int32))), (.int (50 : Int32))])) _
      refine XS.iadd X0.here hx rfl (hb hby dsy_18) rfl ?_
      show Steps p.tables e below (s₁.setTop (mkF m 19 #[.val (.int d1)] [(.int ((50 : Int32) + (d1 - (26 : Int32))))])) _
      refine XS.i2c X0.here hx rfl (hb hby dsy_19) rfl ?_
      show Steps p.tables e below (s₁.setTop (mkF m 20 #[.val (.int d1)] [(.int (((50 : Int32) + (d1 - (26 : Int32))).toUInt32.toUInt16.toUInt32.toInt32))])) _
      exact retN X0 hx (t := .char) Bd.returns (by simp) (hb hby dsy_20) hr
    · show Q_rmSy Z d1 h0 n0 _ s₁.heap _
      rw [e0]
      exact ⟨by show some (Value.int (((((50 : Int32) + (d1 - (26 : Int32))).toUInt32.toUInt16.toUInt32.toInt32)).toUInt32.toUInt16.toUInt32.toInt32)) = _; rw [own_c16 (x := ((50 : Int32) + (d1 - (26 : Int32)))) (by omega), own_c16 (x := ((50 : Int32) + (d1 - (26 : Int32)))) (by omega), e1], N0, rfl⟩

def own_d (p1 : Int32) (q2 : Int64) : Int32 := ((((q2.toUInt64 >>> (((35 : Int32) - ((5 : Int32) * (p1 &&& (7 : Int32)))) &&& 0x3f).toInt64.toUInt64).toInt64) &&& (31 : Int64)).toInt32)
def own_ex (p1 : Int32) (q2 : Int64) (k2 : Int32) : Int32 := if (p1 &&& (7 : Int32)) < ((((8 : Int32) * k2) + (4 : Int32)) / (5 : Int32)) then own_al (own_d p1 q2) else (61 : Int32)
theorem own_d_r (p1 : Int32) (q2 : Int64) : 0 ≤ (own_d p1 q2).toInt ∧ (own_d p1 q2).toInt < 32 := by
  unfold own_d
  have e1 := c_l2i (((q2.toUInt64 >>> (((35 : Int32) - ((5 : Int32) * (p1 &&& (7 : Int32)))) &&& 0x3f).toInt64.toUInt64).toInt64) &&& (31 : Int64))
  have r1 := rng32 ((((q2.toUInt64 >>> (((35 : Int32) - ((5 : Int32) * (p1 &&& (7 : Int32)))) &&& 0x3f).toInt64.toUInt64).toInt64) &&& (31 : Int64))).toInt32
  have e2 := c_maskL ((q2.toUInt64 >>> (((35 : Int32) - ((5 : Int32) * (p1 &&& (7 : Int32)))) &&& 0x3f).toInt64.toUInt64).toInt64) 31 5 (by decide) (by decide)
  have k : ((2 ^ 5 : Nat) : Int) = 32 := by decide
  rw [k] at e2
  omega
theorem dat2_0 : decode method_6_code 0 = .ok (.iload_n 1, 1) := by decide +kernel
theorem dat2_1 : decode method_6_code 1 = .ok (.aload_n 0, 1) := by decide +kernel
theorem dat2_2 : decode method_6_code 2 = .ok (.invokevirtual 20, 3) := by decide +kernel
theorem dat2_5 : decode method_6_code 5 = .ok (.if_icmp .lt 5, 3) := by decide +kernel
theorem dat2_8 : decode method_6_code 8 = .ok (.iconst 1, 1) := by decide +kernel
theorem dat2_9 : decode method_6_code 9 = .ok (.ireturn, 1) := by decide +kernel
theorem dat2_10 : decode method_6_code 10 = .ok (.iload_n 1, 1) := by decide +kernel
theorem dat2_11 : decode method_6_code 11 = .ok (.bipush 7, 2) := by decide +kernel
theorem dat2_13 : decode method_6_code 13 = .ok (.iand, 1) := by decide +kernel
theorem dat2_14 : decode method_6_code 14 = .ok (.istore 5, 2) := by decide +kernel
theorem dat2_16 : decode method_6_code 16 = .ok (.bipush 8, 2) := by decide +kernel
theorem dat2_18 : decode method_6_code 18 = .ok (.iload 4, 2) := by decide +kernel
theorem dat2_20 : decode method_6_code 20 = .ok (.imul, 1) := by decide +kernel
theorem dat2_21 : decode method_6_code 21 = .ok (.iconst 4, 1) := by decide +kernel
theorem dat2_22 : decode method_6_code 22 = .ok (.iadd, 1) := by decide +kernel
theorem dat2_23 : decode method_6_code 23 = .ok (.iconst 5, 1) := by decide +kernel
theorem dat2_24 : decode method_6_code 24 = .ok (.idiv, 1) := by decide +kernel
theorem dat2_25 : decode method_6_code 25 = .ok (.istore 6, 2) := by decide +kernel
theorem dat2_27 : decode method_6_code 27 = .ok (.iload 5, 2) := by decide +kernel
theorem dat2_29 : decode method_6_code 29 = .ok (.iload 6, 2) := by decide +kernel
theorem dat2_31 : decode method_6_code 31 = .ok (.if_icmp .ge 25, 3) := by decide +kernel
theorem dat2_34 : decode method_6_code 34 = .ok (.lload_n 2, 1) := by decide +kernel
theorem dat2_35 : decode method_6_code 35 = .ok (.bipush 35, 2) := by decide +kernel
theorem dat2_37 : decode method_6_code 37 = .ok (.iconst 5, 1) := by decide +kernel
theorem dat2_38 : decode method_6_code 38 = .ok (.iload 5, 2) := by decide +kernel
theorem dat2_40 : decode method_6_code 40 = .ok (.imul, 1) := by decide +kernel
theorem dat2_41 : decode method_6_code 41 = .ok (.isub, 1) := by decide +kernel
theorem dat2_42 : decode method_6_code 42 = .ok (.lushr, 1) := by decide +kernel
theorem dat2_43 : decode method_6_code 43 = .ok (.ldc2_w 45, 3) := by decide +kernel
theorem dat2_46 : decode method_6_code 46 = .ok (.land, 1) := by decide +kernel
theorem dat2_47 : decode method_6_code 47 = .ok (.l2i, 1) := by decide +kernel
theorem dat2_48 : decode method_6_code 48 = .ok (.invokestatic 47, 3) := by decide +kernel
theorem dat2_51 : decode method_6_code 51 = .ok (.istore 7, 2) := by decide +kernel
theorem dat2_53 : decode method_6_code 53 = .ok (.goto 7, 3) := by decide +kernel
theorem dat2_56 : decode method_6_code 56 = .ok (.bipush 61, 2) := by decide +kernel
theorem dat2_58 : decode method_6_code 58 = .ok (.istore 7, 2) := by decide +kernel
theorem dat2_60 : decode method_6_code 60 = .ok (.aload_n 0, 1) := by decide +kernel
theorem dat2_61 : decode method_6_code 61 = .ok (.iload_n 1, 1) := by decide +kernel
theorem dat2_62 : decode method_6_code 62 = .ok (.invokevirtual 51, 3) := by decide +kernel
theorem dat2_65 : decode method_6_code 65 = .ok (.iload 7, 2) := by decide +kernel
theorem dat2_67 : decode method_6_code 67 = .ok (.if_icmp .ne 7, 3) := by decide +kernel
theorem dat2_70 : decode method_6_code 70 = .ok (.iconst 1, 1) := by decide +kernel
theorem dat2_71 : decode method_6_code 71 = .ok (.goto 4, 3) := by decide +kernel
theorem dat2_75 : decode method_6_code 75 = .ok (.ireturn, 1) := by decide +kernel
theorem pd_dat2___I : parseMethodDescriptor "()I" = some ⟨[], some .int⟩ := by decide +kernel
theorem pd_dat2__I_C : parseMethodDescriptor "(I)C" = some ⟨[.int], some .char⟩ := by decide +kernel
theorem ef_dat2_ (m : MethodId) (st : Addr) (p1 : Int32) (q2 : Int64) (k2 : Int32) : entryFrame m #[(.ref st), (.int p1), (.long q2), (.int k2)] 8 = mkF m 0 #[.val (.ref st), .val (.int p1), .val (.long q2), .second, .val (.int k2), .unset, .unset, .unset] [] := by first | (simp [entryFrame, mkF, argsToLocals, Value.category]; done) | rfl
def Q_rmAt (Z : State) (st : Addr) (p1 : Int32) (q2 : Int64) (k2 : Int32) (fm : Value) (cs0 : Int32) (ar : Addr) (kb : ClassId) (z : Int32) (xs : List Int32) (h0 : Heap) (n0 : Nat) (v : Option Value) (h : Heap) (L : List Loc) : Prop := v = some (.int (1 : Int32)) ∧ Fr n0 L ∧ h = h0
theorem pn_rmAt : plainName "com/example/harrier/harrier/warc/Base32EncodePinLaw" = true := by first | (simp [plainName, overriddenIn]; done) | decide +kernel
set_option maxRecDepth 65536 in
set_option maxHeartbeats 40000000 in
theorem rmAt (l : Launch) (Z : State) (a0 : Array Value) (hw : ∀ d ∈ tables_1, d.before a0 Z = true) (ws : List Jvm.Cond) (st : Addr) (p1 : Int32) (q2 : Int64) (k2 : Int32) (fm : Value) (cs0 : Int32) (ar : Addr) (kb : ClassId) (z : Int32) (xs : List Int32) (h0 : Heap) (n0 : Nat) (Z0 : n0 ≤ h0.size) (S : Sta Z h0 "java/lang/String" "COMPACT_STRINGS" "Z" (.int cs0)) (hcs : ¬ cs0 = 0) (Sf : Sta Z h0 "jdk/internal/util/Preconditions" "SIOOBE_FORMATTER" "Ljava/util/function/BiFunction;" fm) (hfm : fm.isRef = true) (Q : own_S Z h0 st ar kb z xs) (hg : p1 < z → (¬ p1 < 0 ∧ p1 < z) ∧ (xs.map Value.int).getD p1.toNatClampNeg (.int (0 : Int32)) = .int (own_ex p1 q2 k2)) :
    MetFree l (⟨"com/example/harrier/harrier/warc/Base32EncodePinLaw", "at", "(Ljava/lang/String;IJI)Z"⟩ : MethodName) (head1 (Jvm.Cond.code (⟨"com/example/harrier/harrier/warc/Base32EncodePinLaw", "at", "(Ljava/lang/String;IJI)Z"⟩ : MethodName) method_6_code 8 (some .boolean) :: ws) ({ frames := 4, cells := 0, slots := 0, locals := 60 } : Room)) (fun aZ U => aZ = #[(.ref st), (.int p1), (.long q2), (.int k2)] ∧ Z.Warmed39 U.vm ∧ U.heap = h0) (fun _ _ _ _ _ => True) (fun _ U o U' => ∃ v L, o = .returned v ∧ Q_rmAt Z st p1 q2 k2 fm  cs0  ar  kb  z  xs  h0 n0 v U'.heap L ∧ FrameEnd U o U' L ({ frames := 4, cells := 0, slots := 0, locals := 60 } : Room).cells ({ frames := 4, cells := 0, slots := 0, locals := 60 } : Room).slots) := by
  refine MetFree.of_bodySF (plainFor_of_name pn_rmAt) hisR ?_
  intro p e s m args below meth c s₁ Bd hml0 hP hK
  obtain ⟨rfl, hZ, hh⟩ := hP
  have hx := Bd.exec
  have hby := Bd.bytes
  have hml : c.maxLocals = 8 := hml0
  have hown : s.vm.findClass "com/example/harrier/harrier/warc/Base32EncodePinLaw" = some m.cls := findClass_of_methodNamed Bd.named
  have hnm := (name_of_methodNamed Bd.named Bd.method).1
  have X0 : Stand p l e ({ frames := 4, cells := 0, slots := 0, locals := 60 } : Room) s m #[(.ref st), (.int p1), (.long q2), (.int k2)] below meth c s₁ [] 0 0 := Stand.of_body Bd
  have e0 : s₁.heap = h0 := by rw [← hh, Bd.state]; rfl
  have N0 := Fr.nil n0
  have pre0 : ∀ tZ, Steps p.tables e below (s₁.setTop (mkF m 0 #[.val (.ref st), .val (.int p1), .val (.long q2), .second, .val (.int k2), .unset, .unset, .unset] [])) tZ → Steps p.tables e below (s₁.setTop (entryFrame m #[(.ref st), (.int p1), (.long q2), (.int k2)] 8)) tZ := fun tZ kZ => castTop (ef_dat2_ m st p1 q2 k2) kZ
  rcases Classical.em (p1 < z) with c0 | c0
  · have hat := (hg c0).2
    unfold own_ex at hat
    rcases Classical.em ((p1 &&& (7 : Int32)) < ((((8 : Int32) * k2) + (4 : Int32)) / (5 : Int32))) with c1 | c1
    · rw [if_pos c1] at hat
      obtain ⟨cq1, kq1, q1a, q1b, q1c⟩ := isOf hZ e0 Q.1
      obtain ⟨_, _, ⟨T1, L1, k1, n1⟩, -, X1, ⟨Lc1, hQ1, l1, y1, z1⟩, st1⟩ := X0.virtualBack hx (y := (⟨"java/lang/String", "length", "()I"⟩ : MethodName)) (z := (⟨"java/lang/String", "length", "()I"⟩ : MethodName)) hown (mvT hZ (hw _ (List.mem_of_getElem? (i := 83) rfl))) (mvT hZ (hw _ (List.mem_of_getElem? (i := 84) rfl))) (notFace_of_selects (args := #[]) (mvT hZ (hw _ (List.mem_of_getElem? (i := 86) rfl)))) (mvT hZ (hw _ (List.mem_of_getElem? (i := 86) rfl))) (mvT hZ (hw _ (List.mem_of_getElem? (i := 85) rfl))) (by decide) (backOf (W := 1) (rmLe l Z a0 hw [] st cs0 ar kb z xs h0 n0 Z0 S hcs Q) hZ (hw _ (List.mem_of_getElem? (i := 87) rfl)) (hw _ (List.mem_of_getElem? (i := 22) rfl)) (by decide) (by decide)) q1a q1c (g := (mkF m 2 #[.val (.ref st), .val (.int p1), .val (.long q2), .second, .val (.int k2), .unset, .unset, .unset] [(.ref st), (.int p1)])) rfl (by rw [hml]; rfl) (Steps.refl _) (argsL := []) (rest := [(.int p1)]) (lenOf pd_dat2___I rfl) rfl (by show 2 * 0 + _ ≤ _; exact Nat.le_of_eq rfl) (hb hby dat2_2) (fun _ _ => ⟨rfl, e0, (by decide : 0 + 0 ≤ _), (by decide : 0 + 0 ≤ _)⟩)
      dsimp only [Pt.U, Pt.locs, Pt.cells, Pt.slots] at X1 l1 y1 z1 st1 hQ1
      subst l1 y1 z1
      obtain ⟨rfl, N1q, e1⟩ := hQ1
      have N1 := Fr.app N0 N1q
      obtain ⟨_, _, ⟨T2, L2, k2, n2⟩, -, X2, ⟨Lc2, hQ2, l2, y2, z2⟩, st2⟩ := Jvm.LawKit.callS X1 hx (y := (⟨"com/example/harrier/harrier/warc/Base32EncodePinLaw", "symbol", "(I)C"⟩ : MethodName)) hown (mvT hZ (hw _ (List.mem_of_getElem? (i := 134) rfl))) (mvT hZ (hw _ (List.mem_of_getElem? (i := 135) rfl))) (mvT hZ (hw _ (List.mem_of_getElem? (i := 103) rfl))) (mvT hZ (hw _ (List.mem_of_getElem? (i := 136) rfl))) (by decide) (backOf (W := 0) (rmSy l Z a0 hw [] (own_d p1 q2) h0 n0 Z0 (own_d_r p1 q2)) hZ (hw _ (List.mem_of_getElem? (i := 136) rfl)) (hw _ (List.mem_of_getElem? (i := 103) rfl)) (by decide) (by decide)) (g := (mkF m 48 #[.val (.ref st), .val (.int p1), .val (.long q2), .second, .val (.int k2), .val (.int (p1 &&& (7 : Int32))), .val (.int ((((8 : Int32) * k2) + (4 : Int32)) / (5 : Int32))), .unset] [(.int ((((q2.toUInt64 >>> (((35 : Int32) - ((5 : Int32) * (p1 &&& (7 : Int32)))) &&& 0x3f).toInt64.toUInt64).toInt64) &&& (31 : Int64)).toInt32))])) rfl (by rw [hml]; rfl) (argsL := [(.int ((((q2.toUInt64 >>> (((35 : Int32) - ((5 : Int32) * (p1 &&& (7 : Int32)))) &&& 0x3f).toInt64.toUInt64).toInt64) &&& (31 : Int64)).toInt32))]) (rest := []) (lenOf pd_dat2__I_C rfl) rfl (by show 2 * 0 + _ ≤ _; exact Nat.le_of_eq rfl) (hb hby dat2_48) (fun _ _ => ⟨rfl, e1, (by decide : 0 + 0 ≤ _), (by decide : 0 + 0 ≤ _)⟩)
      dsimp only [Pt.U, Pt.locs, Pt.cells, Pt.slots] at X2 l2 y2 z2 st2 hQ2
      subst l2 y2 z2
      obtain ⟨rfl, N2q, e2⟩ := hQ2
      have N2 := Fr.app N1 N2q
      obtain ⟨cq3, kq3, q3a, q3b, q3c⟩ := isOf hZ e2 Q.1
      obtain ⟨_, _, ⟨T3, L3, k3, n3⟩, -, X3, ⟨Lc3, hQ3, l3, y3, z3⟩, st3⟩ := X2.virtualBack hx (y := (⟨"java/lang/String", "charAt", "(I)C"⟩ : MethodName)) (z := (⟨"java/lang/String", "charAt", "(I)C"⟩ : MethodName)) hown (mvT hZ (hw _ (List.mem_of_getElem? (i := 137) rfl))) (mvT hZ (hw _ (List.mem_of_getElem? (i := 138) rfl))) (notFace_of_selects (args := #[]) (mvT hZ (hw _ (List.mem_of_getElem? (i := 140) rfl)))) (mvT hZ (hw _ (List.mem_of_getElem? (i := 140) rfl))) (mvT hZ (hw _ (List.mem_of_getElem? (i := 139) rfl))) (by decide) (backOf (W := 0) (rmCA l Z a0 hw [] st p1 (own_al (own_d p1 q2)) fm cs0 ar kb z xs h0 n0 Z0 S hcs Sf hfm Q (hg c0).1 (own_alr (own_d_r p1 q2)) hat) hZ (hw _ (List.mem_of_getElem? (i := 141) rfl)) (hw _ (List.mem_of_getElem? (i := 22) rfl)) (by decide) (by decide)) q3a q3c (g := (mkF m 62 #[.val (.ref st), .val (.int p1), .val (.long q2), .second, .val (.int k2), .val (.int (p1 &&& (7 : Int32))), .val (.int ((((8 : Int32) * k2) + (4 : Int32)) / (5 : Int32))), .val (.int (own_al (own_d p1 q2)))] [(.int p1), (.ref st)])) rfl (by rw [hml]; rfl) (Steps.refl _) (argsL := [(.int p1)]) (rest := []) (lenOf pd_dat2__I_C rfl) rfl (by show 2 * 0 + _ ≤ _; exact Nat.le_of_eq rfl) (hb hby dat2_62) (fun _ _ => ⟨rfl, e2, (by decide : 0 + 0 ≤ _), (by decide : 0 + 0 ≤ _)⟩)
      dsimp only [Pt.U, Pt.locs, Pt.cells, Pt.slots] at X3 l3 y3 z3 st3 hQ3
      subst l3 y3 z3
      obtain ⟨rfl, N3q, e3⟩ := hQ3
      have N3 := Fr.app N2 N3q
      obtain ⟨fs, hr, hrun, hended, hW, hsame⟩ := X3.leave (v := some (.int (1 : Int32))) (fun h => by rw [Bd.returns] at h; cases h)
      refine ⟨_, _, pre0 _ ?_, hrun, hended, _, _, rfl, ?_, ⟨_, rfl⟩, hW, hsame.mono (by decide) (by decide)⟩
      · show Steps p.tables e below (s₁.setTop (mkF m 0 #[.val (.ref st), .val (.int p1), .val (.long q2), .second, .val (.int k2), .unset, .unset, .unset] [])) _
        refine XS.iloadN X0.here hx rfl (hb hby dat2_0) rfl ?_
        show Steps p.tables e below (s₁.setTop (mkF m 1 #[.val (.ref st), .val (.int p1), .val (.long q2), .second, .val (.int k2), .unset, .unset, .unset] [(.int p1)])) _
        refine XS.aloadN X0.here hx rfl (hb hby dat2_1) rfl rfl ?_
        show Steps p.tables e below (s₁.setTop (mkF m 2 #[.val (.ref st), .val (.int p1), .val (.long q2), .second, .val (.int k2), .unset, .unset, .unset] [(.ref st), (.int p1)])) _
        refine st1.trans ?_
        show Steps p.tables e below (T1.setTop (mkF m 5 #[.val (.ref st), .val (.int p1), .val (.long q2), .second, .val (.int k2), .unset, .unset, .unset] [(.int z), (.int p1)])) _
        refine XS.icmpYes X1.here hx rfl (pc0 := 5) (pc' := 10) rfl (hb hby dat2_5) rfl (tlt c0).1 (by decide) (by decide) ?_
        show Steps p.tables e below (T1.setTop (mkF m 10 #[.val (.ref st), .val (.int p1), .val (.long q2), .second, .val (.int k2), .unset, .unset, .unset] [])) _
        refine XS.iloadN X1.here hx rfl (hb hby dat2_10) rfl ?_
        show Steps p.tables e below (T1.setTop (mkF m 11 #[.val (.ref st), .val (.int p1), .val (.long q2), .second, .val (.int k2), .unset, .unset, .unset] [(.int p1)])) _
        refine XS.bipush X1.here hx rfl (hb hby dat2_11) ?_
        show Steps p.tables e below (T1.setTop (mkF m 13 #[.val (.ref st), .val (.int p1), .val (.long q2), .second, .val (.int k2), .unset, .unset, .unset] [(.int (7 : Int32)), (.int p1)])) _
        refine XS.iand X1.here hx rfl (hb hby dat2_13) rfl ?_
        show Steps p.tables e below (T1.setTop (mkF m 14 #[.val (.ref st), .val (.int p1), .val (.long q2), .second, .val (.int k2), .unset, .unset, .unset] [(.int (p1 &&& (7 : Int32)))])) _
        refine XS.istore X1.here hx rfl (hb hby dat2_14) rfl (l' := #[.val (.ref st), .val (.int p1), .val (.long q2), .second, .val (.int k2), .val (.int (p1 &&& (7 : Int32))), .unset, .unset]) rfl ?_
        show Steps p.tables e below (T1.setTop (mkF m 16 #[.val (.ref st), .val (.int p1), .val (.long q2), .second, .val (.int k2), .val (.int (p1 &&& (7 : Int32))), .unset, .unset] [])) _
        refine XS.bipush X1.here hx rfl (hb hby dat2_16) ?_
        show Steps p.tables e below (T1.setTop (mkF m 18 #[.val (.ref st), .val (.int p1), .val (.long q2), .second, .val (.int k2), .val (.int (p1 &&& (7 : Int32))), .unset, .unset] [(.int (8 : Int32))])) _
        refine XS.iload X1.here hx rfl (hb hby dat2_18) rfl ?_
        show Steps p.tables e below (T1.setTop (mkF m 20 #[.val (.ref st), .val (.int p1), .val (.long q2), .second, .val (.int k2), .val (.int (p1 &&& (7 : Int32))), .unset, .unset] [(.int k2), (.int (8 : Int32))])) _
        refine XS.imul X1.here hx rfl (hb hby dat2_20) rfl ?_
        show Steps p.tables e below (T1.setTop (mkF m 21 #[.val (.ref st), .val (.int p1), .val (.long q2), .second, .val (.int k2), .val (.int (p1 &&& (7 : Int32))), .unset, .unset] [(.int ((8 : Int32) * k2))])) _
        refine XS.iconst X1.here hx rfl (hb hby dat2_21) ?_
        show Steps p.tables e below (T1.setTop (mkF m 22 #[.val (.ref st), .val (.int p1), .val (.long q2), .second, .val (.int k2), .val (.int (p1 &&& (7 : Int32))), .unset, .unset] [(.int (4 : Int32)), (.int ((8 : Int32) * k2))])) _
        refine XS.iadd X1.here hx rfl (hb hby dat2_22) rfl ?_
        show Steps p.tables e below (T1.setTop (mkF m 23 #[.val (.ref st), .val (.int p1), .val (.long q2), .second, .val (.int k2), .val (.int (p1 &&& (7 : Int32))), .unset, .unset] [(.int (((8 : Int32) * k2) + (4 : Int32)))])) _
        refine XS.iconst X1.here hx rfl (hb hby dat2_23) ?_
        show Steps p.tables e below (T1.setTop (mkF m 24 #[.val (.ref st), .val (.int p1), .val (.long q2), .second, .val (.int k2), .val (.int (p1 &&& (7 : Int32))), .unset, .unset] [(.int (5 : Int32)), (.int (((8 : Int32) * k2) + (4 : Int32)))])) _
        refine XS.idiv X1.here hx rfl (hb hby dat2_24) rfl (by decide) ?_
        show Steps p.tables e below (T1.setTop (mkF m 25 #[.val (.ref st), .val (.int p1), .val (.long q2), .second, .val (.int k2), .val (.int (p1 &&& (7 : Int32))), .unset, .unset] [(.int ((((8 : Int32) * k2) + (4 : Int32)) / (5 : Int32)))])) _
        refine XS.istore X1.here hx rfl (hb hby dat2_25) rfl (l' := #[.val (.ref st), .val (.int p1), .val (.long q2), .second, .val (.int k2), .val (.int (p1 &&& (7 : Int32))), .val (.int ((((8 : Int32) * k2) + (4 : Int32)) / (5 : Int32))), .unset]) rfl ?_
        show Steps p.tables e below (T1.setTop (mkF m 27 #[.val (.ref st), .val (.int p1), .val (.long q2), .second, .val (.int k2), .val (.int (p1 &&& (7 : Int32))), .val (.int ((((8 : Int32) * k2) + (4 : Int32)) / (5 : Int32))), .unset] [])) _
        refine XS.iload X1.here hx rfl (hb hby dat2_27) rfl ?_
        show Steps p.tables e below (T1.setTop (mkF m 29 #[.val (.ref st), .val (.int p1), .val (.long q2), .second, .val (.int k2), .val (.int (p1 &&& (7 : Int32))), .val (.int ((((8 : Int32) * k2) + (4 : Int32)) / (5 : Int32))), .unset] [(.int (p1 &&& (7 : Int32)))])) _
        refine XS.iload X1.here hx rfl (hb hby dat2_29) rfl ?_
        show Steps p.tables e below (T1.setTop (mkF m 31 #[.val (.ref st), .val (.int p1), .val (.long q2), .second, .val (.int k2), .val (.int (p1 &&& (7 : Int32))), .val (.int ((((8 : Int32) * k2) + (4 : Int32)) / (5 : Int32))), .unset] [(.int ((((8 : Int32) * k2) + (4 : Int32)) / (5 : Int32))), (.int (p1 &&& (7 : Int32)))])) _
        refine XS.icmpNo X1.here hx rfl (hb hby dat2_31) rfl (tlt c1).2.1 ?_
        show Steps p.tables e below (T1.setTop (mkF m 34 #[.val (.ref st), .val (.int p1), .val (.long q2), .second, .val (.int k2), .val (.int (p1 &&& (7 : Int32))), .val (.int ((((8 : Int32) * k2) + (4 : Int32)) / (5 : Int32))), .unset] [])) _
        refine XS.lloadN X1.here hx rfl (hb hby dat2_34) rfl ?_
        show Steps p.tables e below (T1.setTop (mkF m 35 #[.val (.ref st), .val (.int p1), .val (.long q2), .second, .val (.int k2), .val (.int (p1 &&& (7 : Int32))), .val (.int ((((8 : Int32) * k2) + (4 : Int32)) / (5 : Int32))), .unset] [(.long q2)])) _
        refine XS.bipush X1.here hx rfl (hb hby dat2_35) ?_
        show Steps p.tables e below (T1.setTop (mkF m 37 #[.val (.ref st), .val (.int p1), .val (.long q2), .second, .val (.int k2), .val (.int (p1 &&& (7 : Int32))), .val (.int ((((8 : Int32) * k2) + (4 : Int32)) / (5 : Int32))), .unset] [(.int (35 : Int32)), (.long q2)])) _
        refine XS.iconst X1.here hx rfl (hb hby dat2_37) ?_
        show Steps p.tables e below (T1.setTop (mkF m 38 #[.val (.ref st), .val (.int p1), .val (.long q2), .second, .val (.int k2), .val (.int (p1 &&& (7 : Int32))), .val (.int ((((8 : Int32) * k2) + (4 : Int32)) / (5 : Int32))), .unset] [(.int (5 : Int32)), (.int (35 : Int32)), (.long q2)])) _
        refine XS.iload X1.here hx rfl (hb hby dat2_38) rfl ?_
        show Steps p.tables e below (T1.setTop (mkF m 40 #[.val (.ref st), .val (.int p1), .val (.long q2), .second, .val (.int k2), .val (.int (p1 &&& (7 : Int32))), .val (.int ((((8 : Int32) * k2) + (4 : Int32)) / (5 : Int32))), .unset] [(.int (p1 &&& (7 : Int32))), (.int (5 : Int32)), (.int (35 : Int32)), (.long q2)])) _
        refine XS.imul X1.here hx rfl (hb hby dat2_40) rfl ?_
        show Steps p.tables e below (T1.setTop (mkF m 41 #[.val (.ref st), .val (.int p1), .val (.long q2), .second, .val (.int k2), .val (.int (p1 &&& (7 : Int32))), .val (.int ((((8 : Int32) * k2) + (4 : Int32)) / (5 : Int32))), .unset] [(.int ((5 : Int32) * (p1 &&& (7 : Int32)))), (.int (35 : Int32)), (.long q2)])) _
        refine XS.isub X1.here hx rfl (hb hby dat2_41) rfl ?_
        show Steps p.tables e below (T1.setTop (mkF m 42 #[.val (.ref st), .val (.int p1), .val (.long q2), .second, .val (.int k2), .val (.int (p1 &&& (7 : Int32))), .val (.int ((((8 : Int32) * k2) + (4 : Int32)) / (5 : Int32))), .unset] [(.int ((35 : Int32) - ((5 : Int32) * (p1 &&& (7 : Int32))))), (.long q2)])) _
        refine XS.lushr X1.here hx rfl (hb hby dat2_42) rfl ?_
        show Steps p.tables e below (T1.setTop (mkF m 43 #[.val (.ref st), .val (.int p1), .val (.long q2), .second, .val (.int k2), .val (.int (p1 &&& (7 : Int32))), .val (.int ((((8 : Int32) * k2) + (4 : Int32)) / (5 : Int32))), .unset] [(.long ((q2.toUInt64 >>> (((35 : Int32) - ((5 : Int32) * (p1 &&& (7 : Int32)))) &&& 0x3f).toInt64.toUInt64).toInt64))])) _
        refine X1.ldc2Long hx hown (mvT hZ (hw _ (List.mem_of_getElem? (i := 133) rfl))) (g := (mkF m 43 #[.val (.ref st), .val (.int p1), .val (.long q2), .second, .val (.int k2), .val (.int (p1 &&& (7 : Int32))), .val (.int ((((8 : Int32) * k2) + (4 : Int32)) / (5 : Int32))), .unset] [(.long ((q2.toUInt64 >>> (((35 : Int32) - ((5 : Int32) * (p1 &&& (7 : Int32)))) &&& 0x3f).toInt64.toUInt64).toInt64))])) rfl (hb hby dat2_43) _ ?_
        show Steps p.tables e below (T1.setTop (mkF m 46 #[.val (.ref st), .val (.int p1), .val (.long q2), .second, .val (.int k2), .val (.int (p1 &&& (7 : Int32))), .val (.int ((((8 : Int32) * k2) + (4 : Int32)) / (5 : Int32))), .unset] [(.long (31 : Int64)), (.long ((q2.toUInt64 >>> (((35 : Int32) - ((5 : Int32) * (p1 &&& (7 : Int32)))) &&& 0x3f).toInt64.toUInt64).toInt64))])) _
        refine XS.land X1.here hx rfl (hb hby dat2_46) rfl ?_
        show Steps p.tables e below (T1.setTop (mkF m 47 #[.val (.ref st), .val (.int p1), .val (.long q2), .second, .val (.int k2), .val (.int (p1 &&& (7 : Int32))), .val (.int ((((8 : Int32) * k2) + (4 : Int32)) / (5 : Int32))), .unset] [(.long (((q2.toUInt64 >>> (((35 : Int32) - ((5 : Int32) * (p1 &&& (7 : Int32)))) &&& 0x3f).toInt64.toUInt64).toInt64) &&& (31 : Int64)))])) _
        refine XS.l2i X1.here hx rfl (hb hby dat2_47) rfl ?_
        show Steps p.tables e below (T1.setTop (mkF m 48 #[.val (.ref st), .val (.int p1), .val (.long q2), .second, .val (.int k2), .val (.int (p1 &&& (7 : Int32))), .val (.int ((((8 : Int32) * k2) + (4 : Int32)) / (5 : Int32))), .unset] [(.int ((((q2.toUInt64 >>> (((35 : Int32) - ((5 : Int32) * (p1 &&& (7 : Int32)))) &&& 0x3f).toInt64.toUInt64).toInt64) &&& (31 : Int64)).toInt32))])) _
        refine st2 _ ?_
        show Steps p.tables e below (T2.setTop (mkF m 51 #[.val (.ref st), .val (.int p1), .val (.long q2), .second, .val (.int k2), .val (.int (p1 &&& (7 : Int32))), .val (.int ((((8 : Int32) * k2) + (4 : Int32)) / (5 : Int32))), .unset] [(.int (own_al (own_d p1 q2)))])) _
        refine XS.istore X2.here hx rfl (hb hby dat2_51) rfl (l' := #[.val (.ref st), .val (.int p1), .val (.long q2), .second, .val (.int k2), .val (.int (p1 &&& (7 : Int32))), .val (.int ((((8 : Int32) * k2) + (4 : Int32)) / (5 : Int32))), .val (.int (own_al (own_d p1 q2)))]) rfl ?_
        show Steps p.tables e below (T2.setTop (mkF m 53 #[.val (.ref st), .val (.int p1), .val (.long q2), .second, .val (.int k2), .val (.int (p1 &&& (7 : Int32))), .val (.int ((((8 : Int32) * k2) + (4 : Int32)) / (5 : Int32))), .val (.int (own_al (own_d p1 q2)))] [])) _
        refine XS.goto X2.here hx rfl (pc0 := 53) (pc' := 60) rfl (hb hby dat2_53) (by decide) (by decide) ?_
        show Steps p.tables e below (T2.setTop (mkF m 60 #[.val (.ref st), .val (.int p1), .val (.long q2), .second, .val (.int k2), .val (.int (p1 &&& (7 : Int32))), .val (.int ((((8 : Int32) * k2) + (4 : Int32)) / (5 : Int32))), .val (.int (own_al (own_d p1 q2)))] [])) _
        refine XS.aloadN X2.here hx rfl (hb hby dat2_60) rfl rfl ?_
        show Steps p.tables e below (T2.setTop (mkF m 61 #[.val (.ref st), .val (.int p1), .val (.long q2), .second, .val (.int k2), .val (.int (p1 &&& (7 : Int32))), .val (.int ((((8 : Int32) * k2) + (4 : Int32)) / (5 : Int32))), .val (.int (own_al (own_d p1 q2)))] [(.ref st)])) _
        refine XS.iloadN X2.here hx rfl (hb hby dat2_61) rfl ?_
        show Steps p.tables e below (T2.setTop (mkF m 62 #[.val (.ref st), .val (.int p1), .val (.long q2), .second, .val (.int k2), .val (.int (p1 &&& (7 : Int32))), .val (.int ((((8 : Int32) * k2) + (4 : Int32)) / (5 : Int32))), .val (.int (own_al (own_d p1 q2)))] [(.int p1), (.ref st)])) _
        refine st3.trans ?_
        show Steps p.tables e below (T3.setTop (mkF m 65 #[.val (.ref st), .val (.int p1), .val (.long q2), .second, .val (.int k2), .val (.int (p1 &&& (7 : Int32))), .val (.int ((((8 : Int32) * k2) + (4 : Int32)) / (5 : Int32))), .val (.int (own_al (own_d p1 q2)))] [(.int (own_al (own_d p1 q2)))])) _
        refine XS.iload X3.here hx rfl (hb hby dat2_65) rfl ?_
        show Steps p.tables e below (T3.setTop (mkF m 67 #[.val (.ref st), .val (.int p1), .val (.long q2), .second, .val (.int k2), .val (.int (p1 &&& (7 : Int32))), .val (.int ((((8 : Int32) * k2) + (4 : Int32)) / (5 : Int32))), .val (.int (own_al (own_d p1 q2)))] [(.int (own_al (own_d p1 q2))), (.int (own_al (own_d p1 q2)))])) _
        refine XS.icmpNo X3.here hx rfl (hb hby dat2_67) rfl (teq (rfl : (own_al (own_d p1 q2)) = (own_al (own_d p1 q2)))).2 ?_
        show Steps p.tables e below (T3.setTop (mkF m 70 #[.val (.ref st), .val (.int p1), .val (.long q2), .second, .val (.int k2), .val (.int (p1 &&& (7 : Int32))), .val (.int ((((8 : Int32) * k2) + (4 : Int32)) / (5 : Int32))), .val (.int (own_al (own_d p1 q2)))] [])) _
        refine XS.iconst X3.here hx rfl (hb hby dat2_70) ?_
        show Steps p.tables e below (T3.setTop (mkF m 71 #[.val (.ref st), .val (.int p1), .val (.long q2), .second, .val (.int k2), .val (.int (p1 &&& (7 : Int32))), .val (.int ((((8 : Int32) * k2) + (4 : Int32)) / (5 : Int32))), .val (.int (own_al (own_d p1 q2)))] [(.int (1 : Int32))])) _
        refine XS.goto X3.here hx rfl (pc0 := 71) (pc' := 75) rfl (hb hby dat2_71) (by decide) (by decide) ?_
        show Steps p.tables e below (T3.setTop (mkF m 75 #[.val (.ref st), .val (.int p1), .val (.long q2), .second, .val (.int k2), .val (.int (p1 &&& (7 : Int32))), .val (.int ((((8 : Int32) * k2) + (4 : Int32)) / (5 : Int32))), .val (.int (own_al (own_d p1 q2)))] [(.int (1 : Int32))])) _
        exact retN X3 hx (t := .boolean) Bd.returns (by simp) (hb hby dat2_75) hr
      · show Q_rmAt Z st p1 q2 k2 fm cs0 ar kb z xs h0 n0 _ T3.heap _
        rw [e3]
        exact ⟨rfl, N3, rfl⟩
    · rw [if_neg c1] at hat
      obtain ⟨cq1, kq1, q1a, q1b, q1c⟩ := isOf hZ e0 Q.1
      obtain ⟨_, _, ⟨T1, L1, k1, n1⟩, -, X1, ⟨Lc1, hQ1, l1, y1, z1⟩, st1⟩ := X0.virtualBack hx (y := (⟨"java/lang/String", "length", "()I"⟩ : MethodName)) (z := (⟨"java/lang/String", "length", "()I"⟩ : MethodName)) hown (mvT hZ (hw _ (List.mem_of_getElem? (i := 83) rfl))) (mvT hZ (hw _ (List.mem_of_getElem? (i := 84) rfl))) (notFace_of_selects (args := #[]) (mvT hZ (hw _ (List.mem_of_getElem? (i := 86) rfl)))) (mvT hZ (hw _ (List.mem_of_getElem? (i := 86) rfl))) (mvT hZ (hw _ (List.mem_of_getElem? (i := 85) rfl))) (by decide) (backOf (W := 1) (rmLe l Z a0 hw [] st cs0 ar kb z xs h0 n0 Z0 S hcs Q) hZ (hw _ (List.mem_of_getElem? (i := 87) rfl)) (hw _ (List.mem_of_getElem? (i := 22) rfl)) (by decide) (by decide)) q1a q1c (g := (mkF m 2 #[.val (.ref st), .val (.int p1), .val (.long q2), .second, .val (.int k2), .unset, .unset, .unset] [(.ref st), (.int p1)])) rfl (by rw [hml]; rfl) (Steps.refl _) (argsL := []) (rest := [(.int p1)]) (lenOf pd_dat2___I rfl) rfl (by show 2 * 0 + _ ≤ _; exact Nat.le_of_eq rfl) (hb hby dat2_2) (fun _ _ => ⟨rfl, e0, (by decide : 0 + 0 ≤ _), (by decide : 0 + 0 ≤ _)⟩)
      dsimp only [Pt.U, Pt.locs, Pt.cells, Pt.slots] at X1 l1 y1 z1 st1 hQ1
      subst l1 y1 z1
      obtain ⟨rfl, N1q, e1⟩ := hQ1
      have N1 := Fr.app N0 N1q
      obtain ⟨cq2, kq2, q2a, q2b, q2c⟩ := isOf hZ e1 Q.1
      obtain ⟨_, _, ⟨T2, L2, k2, n2⟩, -, X2, ⟨Lc2, hQ2, l2, y2, z2⟩, st2⟩ := X1.virtualBack hx (y := (⟨"java/lang/String", "charAt", "(I)C"⟩ : MethodName)) (z := (⟨"java/lang/String", "charAt", "(I)C"⟩ : MethodName)) hown (mvT hZ (hw _ (List.mem_of_getElem? (i := 137) rfl))) (mvT hZ (hw _ (List.mem_of_getElem? (i := 138) rfl))) (notFace_of_selects (args := #[]) (mvT hZ (hw _ (List.mem_of_getElem? (i := 140) rfl)))) (mvT hZ (hw _ (List.mem_of_getElem? (i := 140) rfl))) (mvT hZ (hw _ (List.mem_of_getElem? (i := 139) rfl))) (by decide) (backOf (W := 0) (rmCA l Z a0 hw [] st p1 (61 : Int32) fm cs0 ar kb z xs h0 n0 Z0 S hcs Sf hfm Q (hg c0).1 (by decide) hat) hZ (hw _ (List.mem_of_getElem? (i := 141) rfl)) (hw _ (List.mem_of_getElem? (i := 22) rfl)) (by decide) (by decide)) q2a q2c (g := (mkF m 62 #[.val (.ref st), .val (.int p1), .val (.long q2), .second, .val (.int k2), .val (.int (p1 &&& (7 : Int32))), .val (.int ((((8 : Int32) * k2) + (4 : Int32)) / (5 : Int32))), .val (.int (61 : Int32))] [(.int p1), (.ref st)])) rfl (by rw [hml]; rfl) (Steps.refl _) (argsL := [(.int p1)]) (rest := []) (lenOf pd_dat2__I_C rfl) rfl (by show 2 * 0 + _ ≤ _; exact Nat.le_of_eq rfl) (hb hby dat2_62) (fun _ _ => ⟨rfl, e1, (by decide : 0 + 0 ≤ _), (by decide : 0 + 0 ≤ _)⟩)
      dsimp only [Pt.U, Pt.locs, Pt.cells, Pt.slots] at X2 l2 y2 z2 st2 hQ2
      subst l2 y2 z2
      obtain ⟨rfl, N2q, e2⟩ := hQ2
      have N2 := Fr.app N1 N2q
      obtain ⟨fs, hr, hrun, hended, hW, hsame⟩ := X2.leave (v := some (.int (1 : Int32))) (fun h => by rw [Bd.returns] at h; cases h)
      refine ⟨_, _, pre0 _ ?_, hrun, hended, _, _, rfl, ?_, ⟨_, rfl⟩, hW, hsame.mono (by decide) (by decide)⟩
      · show Steps p.tables e below (s₁.setTop (mkF m 0 #[.val (.ref st), .val (.int p1), .val (.long q2), .second, .val (.int k2), .unset, .unset, .unset] [])) _
        refine XS.iloadN X0.here hx rfl (hb hby dat2_0) rfl ?_
        show Steps p.tables e below (s₁.setTop (mkF m 1 #[.val (.ref st), .val (.int p1), .val (.long q2), .second, .val (.int k2), .unset, .unset, .unset] [(.int p1)])) _
        refine XS.aloadN X0.here hx rfl (hb hby dat2_1) rfl rfl ?_
        show Steps p.tables e below (s₁.setTop (mkF m 2 #[.val (.ref st), .val (.int p1), .val (.long q2), .second, .val (.int k2), .unset, .unset, .unset] [(.ref st), (.int p1)])) _
        refine st1.trans ?_
        show Steps p.tables e below (T1.setTop (mkF m 5 #[.val (.ref st), .val (.int p1), .val (.long q2), .second, .val (.int k2), .unset, .unset, .unset] [(.int z), (.int p1)])) _
        refine XS.icmpYes X1.here hx rfl (pc0 := 5) (pc' := 10) rfl (hb hby dat2_5) rfl (tlt c0).1 (by decide) (by decide) ?_
        show Steps p.tables e below (T1.setTop (mkF m 10 #[.val (.ref st), .val (.int p1), .val (.long q2), .second, .val (.int k2), .unset, .unset, .unset] [])) _
        refine XS.iloadN X1.here hx rfl (hb hby dat2_10) rfl ?_
        show Steps p.tables e below (T1.setTop (mkF m 11 #[.val (.ref st), .val (.int p1), .val (.long q2), .second, .val (.int k2), .unset, .unset, .unset] [(.int p1)])) _
        refine XS.bipush X1.here hx rfl (hb hby dat2_11) ?_
        show Steps p.tables e below (T1.setTop (mkF m 13 #[.val (.ref st), .val (.int p1), .val (.long q2), .second, .val (.int k2), .unset, .unset, .unset] [(.int (7 : Int32)), (.int p1)])) _
        refine XS.iand X1.here hx rfl (hb hby dat2_13) rfl ?_
        show Steps p.tables e below (T1.setTop (mkF m 14 #[.val (.ref st), .val (.int p1), .val (.long q2), .second, .val (.int k2), .unset, .unset, .unset] [(.int (p1 &&& (7 : Int32)))])) _
        refine XS.istore X1.here hx rfl (hb hby dat2_14) rfl (l' := #[.val (.ref st), .val (.int p1), .val (.long q2), .second, .val (.int k2), .val (.int (p1 &&& (7 : Int32))), .unset, .unset]) rfl ?_
        show Steps p.tables e below (T1.setTop (mkF m 16 #[.val (.ref st), .val (.int p1), .val (.long q2), .second, .val (.int k2), .val (.int (p1 &&& (7 : Int32))), .unset, .unset] [])) _
        refine XS.bipush X1.here hx rfl (hb hby dat2_16) ?_
        show Steps p.tables e below (T1.setTop (mkF m 18 #[.val (.ref st), .val (.int p1), .val (.long q2), .second, .val (.int k2), .val (.int (p1 &&& (7 : Int32))), .unset, .unset] [(.int (8 : Int32))])) _
        refine XS.iload X1.here hx rfl (hb hby dat2_18) rfl ?_
        show Steps p.tables e below (T1.setTop (mkF m 20 #[.val (.ref st), .val (.int p1), .val (.long q2), .second, .val (.int k2), .val (.int (p1 &&& (7 : Int32))), .unset, .unset] [(.int k2), (.int (8 : Int32))])) _
        refine XS.imul X1.here hx rfl (hb hby dat2_20) rfl ?_
        show Steps p.tables e below (T1.setTop (mkF m 21 #[.val (.ref st), .val (.int p1), .val (.long q2), .second, .val (.int k2), .val (.int (p1 &&& (7 : Int32))), .unset, .unset] [(.int ((8 : Int32) * k2))])) _
        refine XS.iconst X1.here hx rfl (hb hby dat2_21) ?_
        show Steps p.tables e below (T1.setTop (mkF m 22 #[.val (.ref st), .val (.int p1), .val (.long q2), .second, .val (.int k2), .val (.int (p1 &&& (7 : Int32))), .unset, .unset] [(.int (4 : Int32)), (.int ((8 : Int32) * k2))])) _
        refine XS.iadd X1.here hx rfl (hb hby dat2_22) rfl ?_
        show Steps p.tables e below (T1.setTop (mkF m 23 #[.val (.ref st), .val (.int p1), .val (.long q2), .second, .val (.int k2), .val (.int (p1 &&& (7 : Int32))), .unset, .unset] [(.int (((8 : Int32) * k2) + (4 : Int32)))])) _
        refine XS.iconst X1.here hx rfl (hb hby dat2_23) ?_
        show Steps p.tables e below (T1.setTop (mkF m 24 #[.val (.ref st), .val (.int p1), .val (.long q2), .second, .val (.int k2), .val (.int (p1 &&& (7 : Int32))), .unset, .unset] [(.int (5 : Int32)), (.int (((8 : Int32) * k2) + (4 : Int32)))])) _
        refine XS.idiv X1.here hx rfl (hb hby dat2_24) rfl (by decide) ?_
        show Steps p.tables e below (T1.setTop (mkF m 25 #[.val (.ref st), .val (.int p1), .val (.long q2), .second, .val (.int k2), .val (.int (p1 &&& (7 : Int32))), .unset, .unset] [(.int ((((8 : Int32) * k2) + (4 : Int32)) / (5 : Int32)))])) _
        refine XS.istore X1.here hx rfl (hb hby dat2_25) rfl (l' := #[.val (.ref st), .val (.int p1), .val (.long q2), .second, .val (.int k2), .val (.int (p1 &&& (7 : Int32))), .val (.int ((((8 : Int32) * k2) + (4 : Int32)) / (5 : Int32))), .unset]) rfl ?_
        show Steps p.tables e below (T1.setTop (mkF m 27 #[.val (.ref st), .val (.int p1), .val (.long q2), .second, .val (.int k2), .val (.int (p1 &&& (7 : Int32))), .val (.int ((((8 : Int32) * k2) + (4 : Int32)) / (5 : Int32))), .unset] [])) _
        refine XS.iload X1.here hx rfl (hb hby dat2_27) rfl ?_
        show Steps p.tables e below (T1.setTop (mkF m 29 #[.val (.ref st), .val (.int p1), .val (.long q2), .second, .val (.int k2), .val (.int (p1 &&& (7 : Int32))), .val (.int ((((8 : Int32) * k2) + (4 : Int32)) / (5 : Int32))), .unset] [(.int (p1 &&& (7 : Int32)))])) _
        refine XS.iload X1.here hx rfl (hb hby dat2_29) rfl ?_
        show Steps p.tables e below (T1.setTop (mkF m 31 #[.val (.ref st), .val (.int p1), .val (.long q2), .second, .val (.int k2), .val (.int (p1 &&& (7 : Int32))), .val (.int ((((8 : Int32) * k2) + (4 : Int32)) / (5 : Int32))), .unset] [(.int ((((8 : Int32) * k2) + (4 : Int32)) / (5 : Int32))), (.int (p1 &&& (7 : Int32)))])) _
        refine XS.icmpYes X1.here hx rfl (pc0 := 31) (pc' := 56) rfl (hb hby dat2_31) rfl (flt c1).2.1 (by decide) (by decide) ?_
        show Steps p.tables e below (T1.setTop (mkF m 56 #[.val (.ref st), .val (.int p1), .val (.long q2), .second, .val (.int k2), .val (.int (p1 &&& (7 : Int32))), .val (.int ((((8 : Int32) * k2) + (4 : Int32)) / (5 : Int32))), .unset] [])) _
        refine XS.bipush X1.here hx rfl (hb hby dat2_56) ?_
        show Steps p.tables e below (T1.setTop (mkF m 58 #[.val (.ref st), .val (.int p1), .val (.long q2), .second, .val (.int k2), .val (.int (p1 &&& (7 : Int32))), .val (.int ((((8 : Int32) * k2) + (4 : Int32)) / (5 : Int32))), .unset] [(.int (61 : Int32))])) _
        refine XS.istore X1.here hx rfl (hb hby dat2_58) rfl (l' := #[.val (.ref st), .val (.int p1), .val (.long q2), .second, .val (.int k2), .val (.int (p1 &&& (7 : Int32))), .val (.int ((((8 : Int32) * k2) + (4 : Int32)) / (5 : Int32))), .val (.int (61 : Int32))]) rfl ?_
        show Steps p.tables e below (T1.setTop (mkF m 60 #[.val (.ref st), .val (.int p1), .val (.long q2), .second, .val (.int k2), .val (.int (p1 &&& (7 : Int32))), .val (.int ((((8 : Int32) * k2) + (4 : Int32)) / (5 : Int32))), .val (.int (61 : Int32))] [])) _
        refine XS.aloadN X1.here hx rfl (hb hby dat2_60) rfl rfl ?_
        show Steps p.tables e below (T1.setTop (mkF m 61 #[.val (.ref st), .val (.int p1), .val (.long q2), .second, .val (.int k2), .val (.int (p1 &&& (7 : Int32))), .val (.int ((((8 : Int32) * k2) + (4 : Int32)) / (5 : Int32))), .val (.int (61 : Int32))] [(.ref st)])) _
        refine XS.iloadN X1.here hx rfl (hb hby dat2_61) rfl ?_
        show Steps p.tables e below (T1.setTop (mkF m 62 #[.val (.ref st), .val (.int p1), .val (.long q2), .second, .val (.int k2), .val (.int (p1 &&& (7 : Int32))), .val (.int ((((8 : Int32) * k2) + (4 : Int32)) / (5 : Int32))), .val (.int (61 : Int32))] [(.int p1), (.ref st)])) _
        refine st2.trans ?_
        show Steps p.tables e below (T2.setTop (mkF m 65 #[.val (.ref st), .val (.int p1), .val (.long q2), .second, .val (.int k2), .val (.int (p1 &&& (7 : Int32))), .val (.int ((((8 : Int32) * k2) + (4 : Int32)) / (5 : Int32))), .val (.int (61 : Int32))] [(.int (61 : Int32))])) _
        refine XS.iload X2.here hx rfl (hb hby dat2_65) rfl ?_
        show Steps p.tables e below (T2.setTop (mkF m 67 #[.val (.ref st), .val (.int p1), .val (.long q2), .second, .val (.int k2), .val (.int (p1 &&& (7 : Int32))), .val (.int ((((8 : Int32) * k2) + (4 : Int32)) / (5 : Int32))), .val (.int (61 : Int32))] [(.int (61 : Int32)), (.int (61 : Int32))])) _
        refine XS.icmpNo X2.here hx rfl (hb hby dat2_67) rfl (teq (rfl : (61 : Int32) = (61 : Int32))).2 ?_
        show Steps p.tables e below (T2.setTop (mkF m 70 #[.val (.ref st), .val (.int p1), .val (.long q2), .second, .val (.int k2), .val (.int (p1 &&& (7 : Int32))), .val (.int ((((8 : Int32) * k2) + (4 : Int32)) / (5 : Int32))), .val (.int (61 : Int32))] [])) _
        refine XS.iconst X2.here hx rfl (hb hby dat2_70) ?_
        show Steps p.tables e below (T2.setTop (mkF m 71 #[.val (.ref st), .val (.int p1), .val (.long q2), .second, .val (.int k2), .val (.int (p1 &&& (7 : Int32))), .val (.int ((((8 : Int32) * k2) + (4 : Int32)) / (5 : Int32))), .val (.int (61 : Int32))] [(.int (1 : Int32))])) _
        refine XS.goto X2.here hx rfl (pc0 := 71) (pc' := 75) rfl (hb hby dat2_71) (by decide) (by decide) ?_
        show Steps p.tables e below (T2.setTop (mkF m 75 #[.val (.ref st), .val (.int p1), .val (.long q2), .second, .val (.int k2), .val (.int (p1 &&& (7 : Int32))), .val (.int ((((8 : Int32) * k2) + (4 : Int32)) / (5 : Int32))), .val (.int (61 : Int32))] [(.int (1 : Int32))])) _
        exact retN X2 hx (t := .boolean) Bd.returns (by simp) (hb hby dat2_75) hr
      · show Q_rmAt Z st p1 q2 k2 fm cs0 ar kb z xs h0 n0 _ T2.heap _
        rw [e2]
        exact ⟨rfl, N2, rfl⟩
  · skip
    obtain ⟨cq1, kq1, q1a, q1b, q1c⟩ := isOf hZ e0 Q.1
    obtain ⟨_, _, ⟨T1, L1, k1, n1⟩, -, X1, ⟨Lc1, hQ1, l1, y1, z1⟩, st1⟩ := X0.virtualBack hx (y := (⟨"java/lang/String", "length", "()I"⟩ : MethodName)) (z := (⟨"java/lang/String", "length", "()I"⟩ : MethodName)) hown (mvT hZ (hw _ (List.mem_of_getElem? (i := 83) rfl))) (mvT hZ (hw _ (List.mem_of_getElem? (i := 84) rfl))) (notFace_of_selects (args := #[]) (mvT hZ (hw _ (List.mem_of_getElem? (i := 86) rfl)))) (mvT hZ (hw _ (List.mem_of_getElem? (i := 86) rfl))) (mvT hZ (hw _ (List.mem_of_getElem? (i := 85) rfl))) (by decide) (backOf (W := 1) (rmLe l Z a0 hw [] st cs0 ar kb z xs h0 n0 Z0 S hcs Q) hZ (hw _ (List.mem_of_getElem? (i := 87) rfl)) (hw _ (List.mem_of_getElem? (i := 22) rfl)) (by decide) (by decide)) q1a q1c (g := (mkF m 2 #[.val (.ref st), .val (.int p1), .val (.long q2), .second, .val (.int k2), .unset, .unset, .unset] [(.ref st), (.int p1)])) rfl (by rw [hml]; rfl) (Steps.refl _) (argsL := []) (rest := [(.int p1)]) (lenOf pd_dat2___I rfl) rfl (by show 2 * 0 + _ ≤ _; exact Nat.le_of_eq rfl) (hb hby dat2_2) (fun _ _ => ⟨rfl, e0, (by decide : 0 + 0 ≤ _), (by decide : 0 + 0 ≤ _)⟩)
    dsimp only [Pt.U, Pt.locs, Pt.cells, Pt.slots] at X1 l1 y1 z1 st1 hQ1
    subst l1 y1 z1
    obtain ⟨rfl, N1q, e1⟩ := hQ1
    have N1 := Fr.app N0 N1q
    obtain ⟨fs, hr, hrun, hended, hW, hsame⟩ := X1.leave (v := some (.int (1 : Int32))) (fun h => by rw [Bd.returns] at h; cases h)
    refine ⟨_, _, pre0 _ ?_, hrun, hended, _, _, rfl, ?_, ⟨_, rfl⟩, hW, hsame.mono (by decide) (by decide)⟩
    · show Steps p.tables e below (s₁.setTop (mkF m 0 #[.val (.ref st), .val (.int p1), .val (.long q2), .second, .val (.int k2), .unset, .unset, .unset] [])) _
      refine XS.iloadN X0.here hx rfl (hb hby dat2_0) rfl ?_
      show Steps p.tables e below (s₁.setTop (mkF m 1 #[.val (.ref st), .val (.int p1), .val (.long q2), .second, .val (.int k2), .unset, .unset, .unset] [(.int p1)])) _
      refine XS.aloadN X0.here hx rfl (hb hby dat2_1) rfl rfl ?_
      show Steps p.tables e below (s₁.setTop (mkF m 2 #[.val (.ref st), .val (.int p1), .val (.long q2), .second, .val (.int k2), .unset, .unset, .unset] [(.ref st), (.int p1)])) _
      refine st1.trans ?_
      show Steps p.tables e below (T1.setTop (mkF m 5 #[.val (.ref st), .val (.int p1), .val (.long q2), .second, .val (.int k2), .unset, .unset, .unset] [(.int z), (.int p1)])) _
      refine XS.icmpNo X1.here hx rfl (hb hby dat2_5) rfl (flt c0).1 ?_
      show Steps p.tables e below (T1.setTop (mkF m 8 #[.val (.ref st), .val (.int p1), .val (.long q2), .second, .val (.int k2), .unset, .unset, .unset] [])) _
      refine XS.iconst X1.here hx rfl (hb hby dat2_8) ?_
      show Steps p.tables e below (T1.setTop (mkF m 9 #[.val (.ref st), .val (.int p1), .val (.long q2), .second, .val (.int k2), .unset, .unset, .unset] [(.int (1 : Int32))])) _
      exact retN X1 hx (t := .boolean) Bd.returns (by simp) (hb hby dat2_9) hr
    · show Q_rmAt Z st p1 q2 k2 fm cs0 ar kb z xs h0 n0 _ T1.heap _
      rw [e1]
      exact ⟨rfl, N1, rfl⟩

def own_alv : List Value := [(.int (65 : Int32)), (.int (66 : Int32)), (.int (67 : Int32)), (.int (68 : Int32)), (.int (69 : Int32)), (.int (70 : Int32)), (.int (71 : Int32)), (.int (72 : Int32)), (.int (73 : Int32)), (.int (74 : Int32)), (.int (75 : Int32)), (.int (76 : Int32)), (.int (77 : Int32)), (.int (78 : Int32)), (.int (79 : Int32)), (.int (80 : Int32)), (.int (81 : Int32)), (.int (82 : Int32)), (.int (83 : Int32)), (.int (84 : Int32)), (.int (85 : Int32)), (.int (86 : Int32)), (.int (87 : Int32)), (.int (88 : Int32)), (.int (89 : Int32)), (.int (90 : Int32)), (.int (50 : Int32)), (.int (51 : Int32)), (.int (52 : Int32)), (.int (53 : Int32)), (.int (54 : Int32)), (.int (55 : Int32))]
theorem own_alv_at : ∀ k : Fin 32, own_alv.getD k.1 (.int (0 : Int32)) = Value.int (own_al (Int32.ofNat k.1)) := by decide
theorem own_alat {d : Int32} (h : 0 ≤ d.toInt ∧ d.toInt < 32) : own_alv.getD d.toNatClampNeg (.int (0 : Int32)) = Value.int (own_al d) := by
  obtain ⟨k, e1, e2⟩ := own_fin h
  rw [e2, e1]; exact own_alv_at k
theorem own_al_in {d : Int32} (h : 0 ≤ d.toInt ∧ d.toInt < 32) : ¬ d < 0 ∧ d < (32 : Int32) := by
  have k0 : (0 : Int32).toInt = 0 := by decide
  have k1 : (32 : Int32).toInt = 32 := by decide
  rw [Int32.lt_iff_toInt_lt, Int32.lt_iff_toInt_lt]; omega
theorem own_r31 (x : Int32) : 0 ≤ (x &&& (31 : Int32)).toInt ∧ (x &&& (31 : Int32)).toInt < 32 := by
  have e := c_mask x 31 5 (by decide) (by decide)
  have k : ((2 ^ 5 : Nat) : Int) = 32 := by decide
  rw [e, k]; omega
def own_nv (v x : Int32) : Int32 := ((v <<< ((8 : Int32) &&& 31)) ||| (x &&& (255 : Int32)))
def own_ix (v b : Int32) : Int32 := (((v.toUInt32 >>> (b &&& 31).toUInt32).toInt32) &&& (31 : Int32))
def own_tx (v b : Int32) : Int32 := ((v <<< (((5 : Int32) - b) &&& 31)) &&& (31 : Int32))
theorem own_ixr (v b : Int32) : 0 ≤ (own_ix v b).toInt ∧ (own_ix v b).toInt < 32 := own_r31 _
theorem own_txr (v b : Int32) : 0 ≤ (own_tx v b).toInt ∧ (own_tx v b).toInt < 32 := own_r31 _
def own_emit : Nat → Int32 → List Int32
  | 0, v => [own_al (own_ix v 3)]
  | 3, v => [own_al (own_ix v 6), own_al (own_ix v 1)]
  | 1, v => [own_al (own_ix v 4)]
  | 4, v => [own_al (own_ix v 7), own_al (own_ix v 2)]
  | 2, v => [own_al (own_ix v 5), own_al (own_ix v 0)]
  | _, _ => []
def own_nr : Nat → Nat
  | 0 => 3
  | 3 => 1
  | 1 => 4
  | 4 => 2
  | _ => 0
def own_tl : Nat → Int32 → List Int32
  | 0, _ => []
  | r, v => [own_al (own_tx v (Int32.ofNat r))]
def own_run : Nat → Int32 → List Int32 → List Int32 × Nat × Int32
  | r, v, [] => ([], r, v)
  | r, v, x :: ys => (own_emit r (own_nv v x) ++ (own_run (own_nr r) (own_nv v x) ys).1, (own_run (own_nr r) (own_nv v x) ys).2)
def own_C (Z : State) (h : Heap) (cs0 : Int32) (al : Addr) (kA : ClassId) (ba : Addr) (kB : ClassId) (nn : Int32) (bs : List Int32) : Prop :=
  Sta Z h "java/lang/String" "COMPACT_STRINGS" "Z" (.int cs0) ∧ Sta Z h "com/example/harrier/harrier/warc/Base32" "ALPHABET" "[C" (.ref al) ∧ Arv Z h al kA .char (32 : Int32) own_alv (.int (0 : Int32)) ∧ Arv Z h ba kB .byte nn (bs.map Value.int) (.int (0 : Int32))
theorem own_C_step {Z : State} {h h' : Heap} {cs0 : Int32} {al : Addr} {kA : ClassId} {ba : Addr} {kB : ClassId} {nn : Int32} {bs : List Int32} {sb ar : Addr} (K : Keep h h' [sb, ar]) (St : own_St Z h h') (n1 : al ≠ sb) (n2 : al ≠ ar) (n3 : ba ≠ sb) (n4 : ba ≠ ar) (C : own_C Z h cs0 al kA ba kB nn bs) : own_C Z h' cs0 al kA ba kB nn bs :=
  ⟨St _ _ _ _ C.1, St _ _ _ _ C.2.1, C.2.2.1.keep K (ninS n1 (ninS n2 nin0)), C.2.2.2.keep K (ninS n3 (ninS n4 nin0))⟩
theorem own_os7 {z0 z1 z2 z3 z4 z5 z6 : Value} {s7 : Slot} {v : Int32} (h : One s7) : storeLocals #[.val z0, .val z1, .val z2, .val z3, .val z4, .val z5, .val z6, s7] 7 (.int v) = some #[.val z0, .val z1, .val z2, .val z3, .val z4, .val z5, .val z6, .val (.int v)] := by
  rcases h with rfl | ⟨w, rfl, hw⟩
  · rfl
  · cases w <;> first | rfl | (simp [Value.category] at hw)
theorem den2_0 : decode prog_19_method_2_code 0 = .ok (.new 7, 3) := by decide +kernel
theorem den2_3 : decode prog_19_method_2_code 3 = .ok (.dup, 1) := by decide +kernel
theorem den2_4 : decode prog_19_method_2_code 4 = .ok (.aload_n 0, 1) := by decide +kernel
theorem den2_5 : decode prog_19_method_2_code 5 = .ok (.arraylength, 1) := by decide +kernel
theorem den2_6 : decode prog_19_method_2_code 6 = .ok (.iconst 4, 1) := by decide +kernel
theorem den2_7 : decode prog_19_method_2_code 7 = .ok (.iadd, 1) := by decide +kernel
theorem den2_8 : decode prog_19_method_2_code 8 = .ok (.iconst 5, 1) := by decide +kernel
theorem den2_9 : decode prog_19_method_2_code 9 = .ok (.idiv, 1) := by decide +kernel
theorem den2_10 : decode prog_19_method_2_code 10 = .ok (.bipush 8, 2) := by decide +kernel
theorem den2_12 : decode prog_19_method_2_code 12 = .ok (.imul, 1) := by decide +kernel
theorem den2_13 : decode prog_19_method_2_code 13 = .ok (.invokespecial 11, 3) := by decide +kernel
theorem den2_16 : decode prog_19_method_2_code 16 = .ok (.astore_n 1, 1) := by decide +kernel
theorem den2_17 : decode prog_19_method_2_code 17 = .ok (.iconst 0, 1) := by decide +kernel
theorem den2_18 : decode prog_19_method_2_code 18 = .ok (.istore_n 2, 1) := by decide +kernel
theorem den2_19 : decode prog_19_method_2_code 19 = .ok (.iconst 0, 1) := by decide +kernel
theorem den2_20 : decode prog_19_method_2_code 20 = .ok (.istore_n 3, 1) := by decide +kernel
theorem den2_21 : decode prog_19_method_2_code 21 = .ok (.aload_n 0, 1) := by decide +kernel
theorem den2_22 : decode prog_19_method_2_code 22 = .ok (.astore 4, 2) := by decide +kernel
theorem den2_24 : decode prog_19_method_2_code 24 = .ok (.aload 4, 2) := by decide +kernel
theorem den2_26 : decode prog_19_method_2_code 26 = .ok (.arraylength, 1) := by decide +kernel
theorem den2_27 : decode prog_19_method_2_code 27 = .ok (.istore 5, 2) := by decide +kernel
theorem den2_29 : decode prog_19_method_2_code 29 = .ok (.iconst 0, 1) := by decide +kernel
theorem den2_30 : decode prog_19_method_2_code 30 = .ok (.istore 6, 2) := by decide +kernel
theorem den2_32 : decode prog_19_method_2_code 32 = .ok (.iload 6, 2) := by decide +kernel
theorem den2_34 : decode prog_19_method_2_code 34 = .ok (.iload 5, 2) := by decide +kernel
theorem den2_36 : decode prog_19_method_2_code 36 = .ok (.if_icmp .ge 57, 3) := by decide +kernel
theorem den2_39 : decode prog_19_method_2_code 39 = .ok (.aload 4, 2) := by decide +kernel
theorem den2_41 : decode prog_19_method_2_code 41 = .ok (.iload 6, 2) := by decide +kernel
theorem den2_43 : decode prog_19_method_2_code 43 = .ok (.baload, 1) := by decide +kernel
theorem den2_44 : decode prog_19_method_2_code 44 = .ok (.istore 7, 2) := by decide +kernel
theorem den2_46 : decode prog_19_method_2_code 46 = .ok (.iload_n 2, 1) := by decide +kernel
theorem den2_47 : decode prog_19_method_2_code 47 = .ok (.bipush 8, 2) := by decide +kernel
theorem den2_49 : decode prog_19_method_2_code 49 = .ok (.ishl, 1) := by decide +kernel
theorem den2_50 : decode prog_19_method_2_code 50 = .ok (.iload 7, 2) := by decide +kernel
theorem den2_52 : decode prog_19_method_2_code 52 = .ok (.sipush 255, 3) := by decide +kernel
theorem den2_55 : decode prog_19_method_2_code 55 = .ok (.iand, 1) := by decide +kernel
theorem den2_56 : decode prog_19_method_2_code 56 = .ok (.ior, 1) := by decide +kernel
theorem den2_57 : decode prog_19_method_2_code 57 = .ok (.istore_n 2, 1) := by decide +kernel
theorem den2_58 : decode prog_19_method_2_code 58 = .ok (.iinc 3 8, 3) := by decide +kernel
theorem den2_61 : decode prog_19_method_2_code 61 = .ok (.iload_n 3, 1) := by decide +kernel
theorem den2_62 : decode prog_19_method_2_code 62 = .ok (.iconst 5, 1) := by decide +kernel
theorem den2_63 : decode prog_19_method_2_code 63 = .ok (.if_icmp .lt 24, 3) := by decide +kernel
theorem den2_66 : decode prog_19_method_2_code 66 = .ok (.iinc 3 (-5), 3) := by decide +kernel
theorem den2_69 : decode prog_19_method_2_code 69 = .ok (.aload_n 1, 1) := by decide +kernel
theorem den2_70 : decode prog_19_method_2_code 70 = .ok (.getstatic 16, 3) := by decide +kernel
theorem den2_73 : decode prog_19_method_2_code 73 = .ok (.iload_n 2, 1) := by decide +kernel
theorem den2_74 : decode prog_19_method_2_code 74 = .ok (.iload_n 3, 1) := by decide +kernel
theorem den2_75 : decode prog_19_method_2_code 75 = .ok (.iushr, 1) := by decide +kernel
theorem den2_76 : decode prog_19_method_2_code 76 = .ok (.bipush 31, 2) := by decide +kernel
theorem den2_78 : decode prog_19_method_2_code 78 = .ok (.iand, 1) := by decide +kernel
theorem den2_79 : decode prog_19_method_2_code 79 = .ok (.caload, 1) := by decide +kernel
theorem den2_80 : decode prog_19_method_2_code 80 = .ok (.invokevirtual 20, 3) := by decide +kernel
theorem den2_83 : decode prog_19_method_2_code 83 = .ok (.pop, 1) := by decide +kernel
theorem den2_84 : decode prog_19_method_2_code 84 = .ok (.goto (-23), 3) := by decide +kernel
theorem den2_87 : decode prog_19_method_2_code 87 = .ok (.iinc 6 1, 3) := by decide +kernel
theorem den2_90 : decode prog_19_method_2_code 90 = .ok (.goto (-58), 3) := by decide +kernel
theorem den2_93 : decode prog_19_method_2_code 93 = .ok (.iload_n 3, 1) := by decide +kernel
theorem den2_94 : decode prog_19_method_2_code 94 = .ok (.ifCond .le 20, 3) := by decide +kernel
theorem den2_97 : decode prog_19_method_2_code 97 = .ok (.aload_n 1, 1) := by decide +kernel
theorem den2_98 : decode prog_19_method_2_code 98 = .ok (.getstatic 16, 3) := by decide +kernel
theorem den2_101 : decode prog_19_method_2_code 101 = .ok (.iload_n 2, 1) := by decide +kernel
theorem den2_102 : decode prog_19_method_2_code 102 = .ok (.iconst 5, 1) := by decide +kernel
theorem den2_103 : decode prog_19_method_2_code 103 = .ok (.iload_n 3, 1) := by decide +kernel
theorem den2_104 : decode prog_19_method_2_code 104 = .ok (.isub, 1) := by decide +kernel
theorem den2_105 : decode prog_19_method_2_code 105 = .ok (.ishl, 1) := by decide +kernel
theorem den2_106 : decode prog_19_method_2_code 106 = .ok (.bipush 31, 2) := by decide +kernel
theorem den2_108 : decode prog_19_method_2_code 108 = .ok (.iand, 1) := by decide +kernel
theorem den2_109 : decode prog_19_method_2_code 109 = .ok (.caload, 1) := by decide +kernel
theorem den2_110 : decode prog_19_method_2_code 110 = .ok (.invokevirtual 20, 3) := by decide +kernel
theorem den2_113 : decode prog_19_method_2_code 113 = .ok (.pop, 1) := by decide +kernel
theorem den2_114 : decode prog_19_method_2_code 114 = .ok (.aload_n 1, 1) := by decide +kernel
theorem den2_115 : decode prog_19_method_2_code 115 = .ok (.invokevirtual 24, 3) := by decide +kernel
theorem den2_118 : decode prog_19_method_2_code 118 = .ok (.bipush 8, 2) := by decide +kernel
theorem den2_120 : decode prog_19_method_2_code 120 = .ok (.irem, 1) := by decide +kernel
theorem den2_121 : decode prog_19_method_2_code 121 = .ok (.ifCond .eq 13, 3) := by decide +kernel
theorem den2_124 : decode prog_19_method_2_code 124 = .ok (.aload_n 1, 1) := by decide +kernel
theorem den2_125 : decode prog_19_method_2_code 125 = .ok (.bipush 61, 2) := by decide +kernel
theorem den2_127 : decode prog_19_method_2_code 127 = .ok (.invokevirtual 20, 3) := by decide +kernel
theorem den2_130 : decode prog_19_method_2_code 130 = .ok (.pop, 1) := by decide +kernel
theorem den2_131 : decode prog_19_method_2_code 131 = .ok (.goto (-17), 3) := by decide +kernel
theorem den2_134 : decode prog_19_method_2_code 134 = .ok (.aload_n 1, 1) := by decide +kernel
theorem den2_135 : decode prog_19_method_2_code 135 = .ok (.invokevirtual 28, 3) := by decide +kernel
theorem den2_138 : decode prog_19_method_2_code 138 = .ok (.areturn, 1) := by decide +kernel
theorem pd_den2__C_Ljava_lang_StringBuilder_ : parseMethodDescriptor "(C)Ljava/lang/StringBuilder;" = some ⟨[.char], some (.object "java/lang/StringBuilder")⟩ := by decide +kernel
theorem pd_den2___I : parseMethodDescriptor "()I" = some ⟨[], some .int⟩ := by decide +kernel
theorem pd_den2__I_V : parseMethodDescriptor "(I)V" = some ⟨[.int], none⟩ := by decide +kernel
theorem pd_den2___Ljava_lang_String_ : parseMethodDescriptor "()Ljava/lang/String;" = some ⟨[], some (.object "java/lang/String")⟩ := by decide +kernel
set_option maxRecDepth 65536 in
set_option maxHeartbeats 40000000 in
theorem own_turn0 {p : Program} {l : Launch} {e : Env} {s : State} {m : MethodId} {args : Array Value} {below : List Frame} {meth : Method} {c : Code} {T0 : State} {locs : List Loc} {Z : State} {a0 : Array Value} {h0 : Heap} {n0 : Nat} (X0 : Stand p l e ({ frames := 5, cells := 4, slots := 40, locals := 71 } : Room) s m args below meth c T0 locs 2 20) (hx : p.tables.exec = Jvm.exec) (hZ : Z.Warmed39 s.vm) (hw : ∀ d ∈ tables_1, d.before a0 Z = true) (hby : c.code = prog_19_method_2_code) (hml : c.maxLocals = 8) (hown : s.vm.findClass "com/example/harrier/harrier/warc/Base32" = some m.cls) (e0 : T0.heap = h0) (N0 : Fr n0 locs) (Z0 : n0 ≤ h0.size) {cs0 : Int32} (hcs : ¬ cs0 = 0) {al ba sb ar : Addr} {kA kB kb : ClassId} {z nn : Int32} {bs xs : List Int32} (C : own_C Z h0 cs0 al kA ba kB nn bs) (B : own_B Z h0 sb ar kb z xs) (n1 : al ≠ sb) (n2 : al ≠ ar) (n3 : ba ≠ sb) (n4 : ba ≠ ar) (hz16 : z.toNatClampNeg ≤ 16) (gs : n0 ≤ sb) (gr : n0 ≤ ar) (v x j : Int32) (s7 : Slot) (h7 : One s7) (hj : ¬ j < 0 ∧ j < nn) (hbx : (bs.map Value.int).getD j.toNatClampNeg (.int (0 : Int32)) = .int x) (hroom : xs.length + 1 ≤ z.toNatClampNeg) :
    ∃ (T' : State) (h' : Heap) (locs' : List Loc), Stand p l e ({ frames := 5, cells := 4, slots := 40, locals := 71 } : Room) s m args below meth c T' locs' 2 20 ∧ T'.heap = h' ∧ Fr n0 locs' ∧ Keep h0 h' [sb, ar] ∧ own_St Z h0 h' ∧ own_B Z h' sb ar kb z (xs ++ own_emit 0 (own_nv v x)) ∧
      ∀ target, Steps p.tables e below (T'.setTop (mkF m 32 #[.val (.ref ba), .val (.ref sb), .val (.int (own_nv v x)), .val (.int (3 : Int32)), .val (.ref ba), .val (.int nn), .val (.int (j + (1 : Int32))), .val (.int x)] [])) target → Steps p.tables e below (T0.setTop (mkF m 32 #[.val (.ref ba), .val (.ref sb), .val (.int v), .val (.int (0 : Int32)), .val (.ref ba), .val (.int nn), .val (.int j), s7] [])) target := by
  obtain ⟨cb, Ab, qb, Sb, Nb, Hb, Gb⟩ := C.2.2.2
  have hinb := inb_of Sb hj
  obtain ⟨T1, X1, e1, st1⟩ := getS2 X0 hx hZ hown (host := "") (Or.inl (hw _ (List.mem_of_getElem? (i := 112) rfl))) Via.refl e0 C.2.1 (g := (mkF m 70 #[.val (.ref ba), .val (.ref sb), .val (.int (own_nv v x)), .val (.int (3 : Int32)), .val (.ref ba), .val (.int nn), .val (.int j), .val (.int x)] [(.ref sb)])) rfl (hb hby den2_70)
  obtain ⟨ca0a, Av0a, qv0a, Sv0a, Nv0a, Hv0a, Gv0a⟩ := C.2.2.1
  have hin0a := inb_of Sv0a (own_al_in (own_ixr (own_nv v x) (3 : Int32)))
  obtain ⟨cq2, kq2, q2a, q2b, q2c⟩ := isOf hZ e1 B.1
  obtain ⟨_, _, ⟨T2, L2, k2, n2⟩, -, X2, ⟨Lc2, hQ2, l2, y2, z2⟩, st2⟩ := X1.virtualBack hx (y := (⟨"java/lang/StringBuilder", "append", "(C)Ljava/lang/StringBuilder;"⟩ : MethodName)) (z := (⟨"java/lang/StringBuilder", "append", "(C)Ljava/lang/StringBuilder;"⟩ : MethodName)) hown (mvT hZ (hw _ (List.mem_of_getElem? (i := 114) rfl))) (mvT hZ (hw _ (List.mem_of_getElem? (i := 115) rfl))) (notFace_of_selects (args := #[]) (mvT hZ (hw _ (List.mem_of_getElem? (i := 117) rfl)))) (mvT hZ (hw _ (List.mem_of_getElem? (i := 117) rfl))) (mvT hZ (hw _ (List.mem_of_getElem? (i := 116) rfl))) (by decide) (backOf (W := 0) (rmSA l Z a0 hw [] sb (own_al (own_ix (own_nv v x) (3 : Int32))) cs0 ar kb z xs h0 n0 (Nat.le_trans Z0 (Keep.refl h0 [sb, ar]).1) C.1 hcs B (own_alr (own_ixr (own_nv v x) (3 : Int32))) (by have := hroom; omega) hz16 gs gr) hZ (hw _ (List.mem_of_getElem? (i := 118) rfl)) (hw _ (List.mem_of_getElem? (i := 8) rfl)) (by decide) (by decide)) q2a q2c (g := (mkF m 80 #[.val (.ref ba), .val (.ref sb), .val (.int (own_nv v x)), .val (.int (3 : Int32)), .val (.ref ba), .val (.int nn), .val (.int j), .val (.int x)] [(.int (own_al (own_ix (own_nv v x) (3 : Int32)))), (.ref sb)])) rfl (by rw [hml]; rfl) (Steps.refl _) (argsL := [(.int (own_al (own_ix (own_nv v x) (3 : Int32))))]) (rest := []) (lenOf pd_den2__C_Ljava_lang_StringBuilder_ rfl) rfl (by show 2 * 0 + _ ≤ _; exact Nat.le_of_eq rfl) (hb hby den2_80) (fun _ _ => ⟨rfl, e1, (by decide : 2 + 0 ≤ _), (by decide : 20 + 0 ≤ _)⟩)
  dsimp only [Pt.U, Pt.locs, Pt.cells, Pt.slots] at X2 l2 y2 z2 st2 hQ2
  subst l2 y2 z2
  obtain ⟨rfl, N2q, K2, St2, B2⟩ := hQ2
  have N2 := Fr.app N0 N2q
  have Kt2 : Keep h0 T2.heap [sb, ar] := (Keep.refl h0 [sb, ar]).trans K2 (fun _ q => Or.inl q)
  have Sx2 : own_St Z h0 T2.heap := own_St.trans own_St.refl St2
  have C2 := own_C_step K2 St2 n1 n2 n3 n4 C
  have Bf : own_B Z T2.heap sb ar kb z (xs ++ own_emit 0 (own_nv v x)) := by
    have ef : (xs ++ [(own_al (own_ix (own_nv v x) (3 : Int32)))]) = xs ++ own_emit 0 (own_nv v x) := by show _ = xs ++ [own_al (own_ix (own_nv v x) (3 : Int32))]; simp
    rw [← ef]; exact B2
  refine ⟨T2, T2.heap, _, X2, rfl, N2, Kt2, Sx2, Bf, fun target kt => ?_⟩
  show Steps p.tables e below (T0.setTop (mkF m 32 #[.val (.ref ba), .val (.ref sb), .val (.int v), .val (.int (0 : Int32)), .val (.ref ba), .val (.int nn), .val (.int j), s7] [])) _
  refine XS.iload X0.here hx rfl (hb hby den2_32) rfl ?_
  show Steps p.tables e below (T0.setTop (mkF m 34 #[.val (.ref ba), .val (.ref sb), .val (.int v), .val (.int (0 : Int32)), .val (.ref ba), .val (.int nn), .val (.int j), s7] [(.int j)])) _
  refine XS.iload X0.here hx rfl (hb hby den2_34) rfl ?_
  show Steps p.tables e below (T0.setTop (mkF m 36 #[.val (.ref ba), .val (.ref sb), .val (.int v), .val (.int (0 : Int32)), .val (.ref ba), .val (.int nn), .val (.int j), s7] [(.int nn), (.int j)])) _
  refine XS.icmpNo X0.here hx rfl (hb hby den2_36) rfl (tlt hj.2).2.1 ?_
  show Steps p.tables e below (T0.setTop (mkF m 39 #[.val (.ref ba), .val (.ref sb), .val (.int v), .val (.int (0 : Int32)), .val (.ref ba), .val (.int nn), .val (.int j), s7] [])) _
  refine XS.aload X0.here hx rfl (hb hby den2_39) rfl rfl ?_
  show Steps p.tables e below (T0.setTop (mkF m 41 #[.val (.ref ba), .val (.ref sb), .val (.int v), .val (.int (0 : Int32)), .val (.ref ba), .val (.int nn), .val (.int j), s7] [(.ref ba)])) _
  refine XS.iload X0.here hx rfl (hb hby den2_41) rfl ?_
  show Steps p.tables e below (T0.setTop (mkF m 43 #[.val (.ref ba), .val (.ref sb), .val (.int v), .val (.int (0 : Int32)), .val (.ref ba), .val (.int nn), .val (.int j), s7] [(.int j), (.ref ba)])) _
  refine X0.baloadBytes hx (j := j) (v := (.int x)) (by rw [e0]; exact Ab.1) (State.isArrayOf_alike hZ.alike Ab.2.1) Ab.2.2 hinb (Has.at Hb hinb hbx) (g := (mkF m 43 #[.val (.ref ba), .val (.ref sb), .val (.int v), .val (.int (0 : Int32)), .val (.ref ba), .val (.int nn), .val (.int j), s7] [(.int j), (.ref ba)])) rfl rfl (hb hby den2_43) _ ?_
  show Steps p.tables e below (T0.setTop (mkF m 44 #[.val (.ref ba), .val (.ref sb), .val (.int v), .val (.int (0 : Int32)), .val (.ref ba), .val (.int nn), .val (.int j), s7] [(.int x)])) _
  refine XS.istore X0.here hx rfl (hb hby den2_44) rfl (l' := #[.val (.ref ba), .val (.ref sb), .val (.int v), .val (.int (0 : Int32)), .val (.ref ba), .val (.int nn), .val (.int j), .val (.int x)]) (own_os7 h7) ?_
  show Steps p.tables e below (T0.setTop (mkF m 46 #[.val (.ref ba), .val (.ref sb), .val (.int v), .val (.int (0 : Int32)), .val (.ref ba), .val (.int nn), .val (.int j), .val (.int x)] [])) _
  refine XS.iloadN X0.here hx rfl (hb hby den2_46) rfl ?_
  show Steps p.tables e below (T0.setTop (mkF m 47 #[.val (.ref ba), .val (.ref sb), .val (.int v), .val (.int (0 : Int32)), .val (.ref ba), .val (.int nn), .val (.int j), .val (.int x)] [(.int v)])) _
  refine XS.bipush X0.here hx rfl (hb hby den2_47) ?_
  show Steps p.tables e below (T0.setTop (mkF m 49 #[.val (.ref ba), .val (.ref sb), .val (.int v), .val (.int (0 : Int32)), .val (.ref ba), .val (.int nn), .val (.int j), .val (.int x)] [(.int (8 : Int32)), (.int v)])) _
  refine XS.ishl X0.here hx rfl (hb hby den2_49) rfl ?_
  show Steps p.tables e below (T0.setTop (mkF m 50 #[.val (.ref ba), .val (.ref sb), .val (.int v), .val (.int (0 : Int32)), .val (.ref ba), .val (.int nn), .val (.int j), .val (.int x)] [(.int (v <<< ((8 : Int32) &&& 31)))])) _
  refine XS.iload X0.here hx rfl (hb hby den2_50) rfl ?_
  show Steps p.tables e below (T0.setTop (mkF m 52 #[.val (.ref ba), .val (.ref sb), .val (.int v), .val (.int (0 : Int32)), .val (.ref ba), .val (.int nn), .val (.int j), .val (.int x)] [(.int x), (.int (v <<< ((8 : Int32) &&& 31)))])) _
  refine XS.sipush X0.here hx rfl (hb hby den2_52) ?_
  show Steps p.tables e below (T0.setTop (mkF m 55 #[.val (.ref ba), .val (.ref sb), .val (.int v), .val (.int (0 : Int32)), .val (.ref ba), .val (.int nn), .val (.int j), .val (.int x)] [(.int (255 : Int32)), (.int x), (.int (v <<< ((8 : Int32) &&& 31)))])) _
  refine XS.iand X0.here hx rfl (hb hby den2_55) rfl ?_
  show Steps p.tables e below (T0.setTop (mkF m 56 #[.val (.ref ba), .val (.ref sb), .val (.int v), .val (.int (0 : Int32)), .val (.ref ba), .val (.int nn), .val (.int j), .val (.int x)] [(.int (x &&& (255 : Int32))), (.int (v <<< ((8 : Int32) &&& 31)))])) _
  refine XS.ior X0.here hx rfl (hb hby den2_56) rfl ?_
  show Steps p.tables e below (T0.setTop (mkF m 57 #[.val (.ref ba), .val (.ref sb), .val (.int v), .val (.int (0 : Int32)), .val (.ref ba), .val (.int nn), .val (.int j), .val (.int x)] [(.int ((v <<< ((8 : Int32) &&& 31)) ||| (x &&& (255 : Int32))))])) _
  show Steps p.tables e below (T0.setTop (mkF m 57 #[.val (.ref ba), .val (.ref sb), .val (.int v), .val (.int (0 : Int32)), .val (.ref ba), .val (.int nn), .val (.int j), .val (.int x)] [(.int (own_nv v x))])) _
  refine XS.istoreN X0.here hx rfl (hb hby den2_57) rfl (l' := #[.val (.ref ba), .val (.ref sb), .val (.int (own_nv v x)), .val (.int (0 : Int32)), .val (.ref ba), .val (.int nn), .val (.int j), .val (.int x)]) rfl ?_
  show Steps p.tables e below (T0.setTop (mkF m 58 #[.val (.ref ba), .val (.ref sb), .val (.int (own_nv v x)), .val (.int (0 : Int32)), .val (.ref ba), .val (.int nn), .val (.int j), .val (.int x)] [])) _
  refine XS.iinc X0.here hx rfl (hb hby den2_58) rfl (l' := #[.val (.ref ba), .val (.ref sb), .val (.int (own_nv v x)), .val (.int ((0 : Int32) + (8 : Int32))), .val (.ref ba), .val (.int nn), .val (.int j), .val (.int x)]) rfl ?_
  show Steps p.tables e below (T0.setTop (mkF m 61 #[.val (.ref ba), .val (.ref sb), .val (.int (own_nv v x)), .val (.int ((0 : Int32) + (8 : Int32))), .val (.ref ba), .val (.int nn), .val (.int j), .val (.int x)] [])) _
  rw [show ((0 : Int32) + (8 : Int32)) = (8 : Int32) from by decide]
  show Steps p.tables e below (T0.setTop (mkF m 61 #[.val (.ref ba), .val (.ref sb), .val (.int (own_nv v x)), .val (.int (8 : Int32)), .val (.ref ba), .val (.int nn), .val (.int j), .val (.int x)] [])) _
  refine XS.iloadN X0.here hx rfl (hb hby den2_61) rfl ?_
  show Steps p.tables e below (T0.setTop (mkF m 62 #[.val (.ref ba), .val (.ref sb), .val (.int (own_nv v x)), .val (.int (8 : Int32)), .val (.ref ba), .val (.int nn), .val (.int j), .val (.int x)] [(.int (8 : Int32))])) _
  refine XS.iconst X0.here hx rfl (hb hby den2_62) ?_
  show Steps p.tables e below (T0.setTop (mkF m 63 #[.val (.ref ba), .val (.ref sb), .val (.int (own_nv v x)), .val (.int (8 : Int32)), .val (.ref ba), .val (.int nn), .val (.int j), .val (.int x)] [(.int (5 : Int32)), (.int (8 : Int32))])) _
  refine XS.icmpNo X0.here hx rfl (hb hby den2_63) rfl (flt (by decide)).1 ?_
  show Steps p.tables e below (T0.setTop (mkF m 66 #[.val (.ref ba), .val (.ref sb), .val (.int (own_nv v x)), .val (.int (8 : Int32)), .val (.ref ba), .val (.int nn), .val (.int j), .val (.int x)] [])) _
  refine XS.iinc X0.here hx rfl (hb hby den2_66) rfl (l' := #[.val (.ref ba), .val (.ref sb), .val (.int (own_nv v x)), .val (.int ((8 : Int32) + (-5 : Int32))), .val (.ref ba), .val (.int nn), .val (.int j), .val (.int x)]) rfl ?_
  show Steps p.tables e below (T0.setTop (mkF m 69 #[.val (.ref ba), .val (.ref sb), .val (.int (own_nv v x)), .val (.int ((8 : Int32) + (-5 : Int32))), .val (.ref ba), .val (.int nn), .val (.int j), .val (.int x)] [])) _
  rw [show ((8 : Int32) + (-5 : Int32)) = (3 : Int32) from by decide]
  show Steps p.tables e below (T0.setTop (mkF m 69 #[.val (.ref ba), .val (.ref sb), .val (.int (own_nv v x)), .val (.int (3 : Int32)), .val (.ref ba), .val (.int nn), .val (.int j), .val (.int x)] [])) _
  refine XS.aloadN X0.here hx rfl (hb hby den2_69) rfl rfl ?_
  show Steps p.tables e below (T0.setTop (mkF m 70 #[.val (.ref ba), .val (.ref sb), .val (.int (own_nv v x)), .val (.int (3 : Int32)), .val (.ref ba), .val (.int nn), .val (.int j), .val (.int x)] [(.ref sb)])) _
  refine st1 _ ?_
  show Steps p.tables e below (T1.setTop (mkF m 73 #[.val (.ref ba), .val (.ref sb), .val (.int (own_nv v x)), .val (.int (3 : Int32)), .val (.ref ba), .val (.int nn), .val (.int j), .val (.int x)] [(.ref al), (.ref sb)])) _
  refine XS.iloadN X1.here hx rfl (hb hby den2_73) rfl ?_
  show Steps p.tables e below (T1.setTop (mkF m 74 #[.val (.ref ba), .val (.ref sb), .val (.int (own_nv v x)), .val (.int (3 : Int32)), .val (.ref ba), .val (.int nn), .val (.int j), .val (.int x)] [(.int (own_nv v x)), (.ref al), (.ref sb)])) _
  refine XS.iloadN X1.here hx rfl (hb hby den2_74) rfl ?_
  show Steps p.tables e below (T1.setTop (mkF m 75 #[.val (.ref ba), .val (.ref sb), .val (.int (own_nv v x)), .val (.int (3 : Int32)), .val (.ref ba), .val (.int nn), .val (.int j), .val (.int x)] [(.int (3 : Int32)), (.int (own_nv v x)), (.ref al), (.ref sb)])) _
  refine XS.iushr X1.here hx rfl (hb hby den2_75) rfl ?_
  show Steps p.tables e below (T1.setTop (mkF m 76 #[.val (.ref ba), .val (.ref sb), .val (.int (own_nv v x)), .val (.int (3 : Int32)), .val (.ref ba), .val (.int nn), .val (.int j), .val (.int x)] [(.int (((own_nv v x).toUInt32 >>> ((3 : Int32) &&& 31).toUInt32).toInt32)), (.ref al), (.ref sb)])) _
  refine XS.bipush X1.here hx rfl (hb hby den2_76) ?_
  show Steps p.tables e below (T1.setTop (mkF m 78 #[.val (.ref ba), .val (.ref sb), .val (.int (own_nv v x)), .val (.int (3 : Int32)), .val (.ref ba), .val (.int nn), .val (.int j), .val (.int x)] [(.int (31 : Int32)), (.int (((own_nv v x).toUInt32 >>> ((3 : Int32) &&& 31).toUInt32).toInt32)), (.ref al), (.ref sb)])) _
  refine XS.iand X1.here hx rfl (hb hby den2_78) rfl ?_
  show Steps p.tables e below (T1.setTop (mkF m 79 #[.val (.ref ba), .val (.ref sb), .val (.int (own_nv v x)), .val (.int (3 : Int32)), .val (.ref ba), .val (.int nn), .val (.int j), .val (.int x)] [(.int ((((own_nv v x).toUInt32 >>> ((3 : Int32) &&& 31).toUInt32).toInt32) &&& (31 : Int32))), (.ref al), (.ref sb)])) _
  show Steps p.tables e below (T1.setTop (mkF m 79 #[.val (.ref ba), .val (.ref sb), .val (.int (own_nv v x)), .val (.int (3 : Int32)), .val (.ref ba), .val (.int nn), .val (.int j), .val (.int x)] [(.int (own_ix (own_nv v x) (3 : Int32))), (.ref al), (.ref sb)])) _
  refine X1.caload hx (j := (own_ix (own_nv v x) (3 : Int32))) (v := (.int (own_al (own_ix (own_nv v x) (3 : Int32))))) (by rw [e1]; exact Av0a.1) (State.isArrayOf_alike hZ.alike Av0a.2.1) Av0a.2.2 hin0a (Has.at Hv0a hin0a (own_alat (own_ixr (own_nv v x) (3 : Int32)))) (g := (mkF m 79 #[.val (.ref ba), .val (.ref sb), .val (.int (own_nv v x)), .val (.int (3 : Int32)), .val (.ref ba), .val (.int nn), .val (.int j), .val (.int x)] [(.int (own_ix (own_nv v x) (3 : Int32))), (.ref al), (.ref sb)])) rfl rfl (hb hby den2_79) _ ?_
  show Steps p.tables e below (T1.setTop (mkF m 80 #[.val (.ref ba), .val (.ref sb), .val (.int (own_nv v x)), .val (.int (3 : Int32)), .val (.ref ba), .val (.int nn), .val (.int j), .val (.int x)] [(.int (own_al (own_ix (own_nv v x) (3 : Int32)))), (.ref sb)])) _
  refine st2.trans ?_
  show Steps p.tables e below (T2.setTop (mkF m 83 #[.val (.ref ba), .val (.ref sb), .val (.int (own_nv v x)), .val (.int (3 : Int32)), .val (.ref ba), .val (.int nn), .val (.int j), .val (.int x)] [(.ref sb)])) _
  refine XS.pop X2.here hx rfl (hb hby den2_83) rfl rfl ?_
  show Steps p.tables e below (T2.setTop (mkF m 84 #[.val (.ref ba), .val (.ref sb), .val (.int (own_nv v x)), .val (.int (3 : Int32)), .val (.ref ba), .val (.int nn), .val (.int j), .val (.int x)] [])) _
  refine XS.goto X2.here hx rfl (pc0 := 84) (pc' := 61) rfl (hb hby den2_84) (by decide) (by decide) ?_
  show Steps p.tables e below (T2.setTop (mkF m 61 #[.val (.ref ba), .val (.ref sb), .val (.int (own_nv v x)), .val (.int (3 : Int32)), .val (.ref ba), .val (.int nn), .val (.int j), .val (.int x)] [])) _
  refine XS.iloadN X2.here hx rfl (hb hby den2_61) rfl ?_
  show Steps p.tables e below (T2.setTop (mkF m 62 #[.val (.ref ba), .val (.ref sb), .val (.int (own_nv v x)), .val (.int (3 : Int32)), .val (.ref ba), .val (.int nn), .val (.int j), .val (.int x)] [(.int (3 : Int32))])) _
  refine XS.iconst X2.here hx rfl (hb hby den2_62) ?_
  show Steps p.tables e below (T2.setTop (mkF m 63 #[.val (.ref ba), .val (.ref sb), .val (.int (own_nv v x)), .val (.int (3 : Int32)), .val (.ref ba), .val (.int nn), .val (.int j), .val (.int x)] [(.int (5 : Int32)), (.int (3 : Int32))])) _
  refine XS.icmpYes X2.here hx rfl (pc0 := 63) (pc' := 87) rfl (hb hby den2_63) rfl (tlt (by decide)).1 (by decide) (by decide) ?_
  show Steps p.tables e below (T2.setTop (mkF m 87 #[.val (.ref ba), .val (.ref sb), .val (.int (own_nv v x)), .val (.int (3 : Int32)), .val (.ref ba), .val (.int nn), .val (.int j), .val (.int x)] [])) _
  refine XS.iinc X2.here hx rfl (hb hby den2_87) rfl (l' := #[.val (.ref ba), .val (.ref sb), .val (.int (own_nv v x)), .val (.int (3 : Int32)), .val (.ref ba), .val (.int nn), .val (.int (j + (1 : Int32))), .val (.int x)]) rfl ?_
  show Steps p.tables e below (T2.setTop (mkF m 90 #[.val (.ref ba), .val (.ref sb), .val (.int (own_nv v x)), .val (.int (3 : Int32)), .val (.ref ba), .val (.int nn), .val (.int (j + (1 : Int32))), .val (.int x)] [])) _
  refine XS.goto X2.here hx rfl (pc0 := 90) (pc' := 32) rfl (hb hby den2_90) (by decide) (by decide) ?_
  show Steps p.tables e below (T2.setTop (mkF m 32 #[.val (.ref ba), .val (.ref sb), .val (.int (own_nv v x)), .val (.int (3 : Int32)), .val (.ref ba), .val (.int nn), .val (.int (j + (1 : Int32))), .val (.int x)] [])) _
  exact kt

set_option maxRecDepth 65536 in
set_option maxHeartbeats 40000000 in
theorem own_turn3 {p : Program} {l : Launch} {e : Env} {s : State} {m : MethodId} {args : Array Value} {below : List Frame} {meth : Method} {c : Code} {T0 : State} {locs : List Loc} {Z : State} {a0 : Array Value} {h0 : Heap} {n0 : Nat} (X0 : Stand p l e ({ frames := 5, cells := 4, slots := 40, locals := 71 } : Room) s m args below meth c T0 locs 2 20) (hx : p.tables.exec = Jvm.exec) (hZ : Z.Warmed39 s.vm) (hw : ∀ d ∈ tables_1, d.before a0 Z = true) (hby : c.code = prog_19_method_2_code) (hml : c.maxLocals = 8) (hown : s.vm.findClass "com/example/harrier/harrier/warc/Base32" = some m.cls) (e0 : T0.heap = h0) (N0 : Fr n0 locs) (Z0 : n0 ≤ h0.size) {cs0 : Int32} (hcs : ¬ cs0 = 0) {al ba sb ar : Addr} {kA kB kb : ClassId} {z nn : Int32} {bs xs : List Int32} (C : own_C Z h0 cs0 al kA ba kB nn bs) (B : own_B Z h0 sb ar kb z xs) (n1 : al ≠ sb) (n2 : al ≠ ar) (n3 : ba ≠ sb) (n4 : ba ≠ ar) (hz16 : z.toNatClampNeg ≤ 16) (gs : n0 ≤ sb) (gr : n0 ≤ ar) (v x j : Int32) (s7 : Slot) (h7 : One s7) (hj : ¬ j < 0 ∧ j < nn) (hbx : (bs.map Value.int).getD j.toNatClampNeg (.int (0 : Int32)) = .int x) (hroom : xs.length + 2 ≤ z.toNatClampNeg) :
    ∃ (T' : State) (h' : Heap) (locs' : List Loc), Stand p l e ({ frames := 5, cells := 4, slots := 40, locals := 71 } : Room) s m args below meth c T' locs' 2 20 ∧ T'.heap = h' ∧ Fr n0 locs' ∧ Keep h0 h' [sb, ar] ∧ own_St Z h0 h' ∧ own_B Z h' sb ar kb z (xs ++ own_emit 3 (own_nv v x)) ∧
      ∀ target, Steps p.tables e below (T'.setTop (mkF m 32 #[.val (.ref ba), .val (.ref sb), .val (.int (own_nv v x)), .val (.int (1 : Int32)), .val (.ref ba), .val (.int nn), .val (.int (j + (1 : Int32))), .val (.int x)] [])) target → Steps p.tables e below (T0.setTop (mkF m 32 #[.val (.ref ba), .val (.ref sb), .val (.int v), .val (.int (3 : Int32)), .val (.ref ba), .val (.int nn), .val (.int j), s7] [])) target := by
  obtain ⟨cb, Ab, qb, Sb, Nb, Hb, Gb⟩ := C.2.2.2
  have hinb := inb_of Sb hj
  obtain ⟨T1, X1, e1, st1⟩ := getS2 X0 hx hZ hown (host := "") (Or.inl (hw _ (List.mem_of_getElem? (i := 112) rfl))) Via.refl e0 C.2.1 (g := (mkF m 70 #[.val (.ref ba), .val (.ref sb), .val (.int (own_nv v x)), .val (.int (6 : Int32)), .val (.ref ba), .val (.int nn), .val (.int j), .val (.int x)] [(.ref sb)])) rfl (hb hby den2_70)
  obtain ⟨ca0a, Av0a, qv0a, Sv0a, Nv0a, Hv0a, Gv0a⟩ := C.2.2.1
  have hin0a := inb_of Sv0a (own_al_in (own_ixr (own_nv v x) (6 : Int32)))
  obtain ⟨cq2, kq2, q2a, q2b, q2c⟩ := isOf hZ e1 B.1
  obtain ⟨_, _, ⟨T2, L2, k2, n2⟩, -, X2, ⟨Lc2, hQ2, l2, y2, z2⟩, st2⟩ := X1.virtualBack hx (y := (⟨"java/lang/StringBuilder", "append", "(C)Ljava/lang/StringBuilder;"⟩ : MethodName)) (z := (⟨"java/lang/StringBuilder", "append", "(C)Ljava/lang/StringBuilder;"⟩ : MethodName)) hown (mvT hZ (hw _ (List.mem_of_getElem? (i := 114) rfl))) (mvT hZ (hw _ (List.mem_of_getElem? (i := 115) rfl))) (notFace_of_selects (args := #[]) (mvT hZ (hw _ (List.mem_of_getElem? (i := 117) rfl)))) (mvT hZ (hw _ (List.mem_of_getElem? (i := 117) rfl))) (mvT hZ (hw _ (List.mem_of_getElem? (i := 116) rfl))) (by decide) (backOf (W := 0) (rmSA l Z a0 hw [] sb (own_al (own_ix (own_nv v x) (6 : Int32))) cs0 ar kb z xs h0 n0 (Nat.le_trans Z0 (Keep.refl h0 [sb, ar]).1) C.1 hcs B (own_alr (own_ixr (own_nv v x) (6 : Int32))) (by have := hroom; omega) hz16 gs gr) hZ (hw _ (List.mem_of_getElem? (i := 118) rfl)) (hw _ (List.mem_of_getElem? (i := 8) rfl)) (by decide) (by decide)) q2a q2c (g := (mkF m 80 #[.val (.ref ba), .val (.ref sb), .val (.int (own_nv v x)), .val (.int (6 : Int32)), .val (.ref ba), .val (.int nn), .val (.int j), .val (.int x)] [(.int (own_al (own_ix (own_nv v x) (6 : Int32)))), (.ref sb)])) rfl (by rw [hml]; rfl) (Steps.refl _) (argsL := [(.int (own_al (own_ix (own_nv v x) (6 : Int32))))]) (rest := []) (lenOf pd_den2__C_Ljava_lang_StringBuilder_ rfl) rfl (by show 2 * 0 + _ ≤ _; exact Nat.le_of_eq rfl) (hb hby den2_80) (fun _ _ => ⟨rfl, e1, (by decide : 2 + 0 ≤ _), (by decide : 20 + 0 ≤ _)⟩)
  dsimp only [Pt.U, Pt.locs, Pt.cells, Pt.slots] at X2 l2 y2 z2 st2 hQ2
  subst l2 y2 z2
  obtain ⟨rfl, N2q, K2, St2, B2⟩ := hQ2
  have N2 := Fr.app N0 N2q
  have Kt2 : Keep h0 T2.heap [sb, ar] := (Keep.refl h0 [sb, ar]).trans K2 (fun _ q => Or.inl q)
  have Sx2 : own_St Z h0 T2.heap := own_St.trans own_St.refl St2
  have C2 := own_C_step K2 St2 n1 n2 n3 n4 C
  obtain ⟨T3, X3, e3, st3⟩ := getS2 X2 hx hZ hown (host := "") (Or.inl (hw _ (List.mem_of_getElem? (i := 112) rfl))) Via.refl rfl C2.2.1 (g := (mkF m 70 #[.val (.ref ba), .val (.ref sb), .val (.int (own_nv v x)), .val (.int (1 : Int32)), .val (.ref ba), .val (.int nn), .val (.int j), .val (.int x)] [(.ref sb)])) rfl (hb hby den2_70)
  obtain ⟨ca1a, Av1a, qv1a, Sv1a, Nv1a, Hv1a, Gv1a⟩ := C2.2.2.1
  have hin1a := inb_of Sv1a (own_al_in (own_ixr (own_nv v x) (1 : Int32)))
  obtain ⟨cq4, kq4, q4a, q4b, q4c⟩ := isOf hZ e3 B2.1
  obtain ⟨_, _, ⟨T4, L4, k4, n4⟩, -, X4, ⟨Lc4, hQ4, l4, y4, z4⟩, st4⟩ := X3.virtualBack hx (y := (⟨"java/lang/StringBuilder", "append", "(C)Ljava/lang/StringBuilder;"⟩ : MethodName)) (z := (⟨"java/lang/StringBuilder", "append", "(C)Ljava/lang/StringBuilder;"⟩ : MethodName)) hown (mvT hZ (hw _ (List.mem_of_getElem? (i := 114) rfl))) (mvT hZ (hw _ (List.mem_of_getElem? (i := 115) rfl))) (notFace_of_selects (args := #[]) (mvT hZ (hw _ (List.mem_of_getElem? (i := 117) rfl)))) (mvT hZ (hw _ (List.mem_of_getElem? (i := 117) rfl))) (mvT hZ (hw _ (List.mem_of_getElem? (i := 116) rfl))) (by decide) (backOf (W := 0) (rmSA l Z a0 hw [] sb (own_al (own_ix (own_nv v x) (1 : Int32))) cs0 ar kb z (xs ++ [(own_al (own_ix (own_nv v x) (6 : Int32)))]) T2.heap n0 (Nat.le_trans Z0 Kt2.1) C2.1 hcs B2 (own_alr (own_ixr (own_nv v x) (1 : Int32))) (by simp only [List.length_append, List.length_cons, List.length_nil]; omega) hz16 gs gr) hZ (hw _ (List.mem_of_getElem? (i := 118) rfl)) (hw _ (List.mem_of_getElem? (i := 8) rfl)) (by decide) (by decide)) q4a q4c (g := (mkF m 80 #[.val (.ref ba), .val (.ref sb), .val (.int (own_nv v x)), .val (.int (1 : Int32)), .val (.ref ba), .val (.int nn), .val (.int j), .val (.int x)] [(.int (own_al (own_ix (own_nv v x) (1 : Int32)))), (.ref sb)])) rfl (by rw [hml]; rfl) (Steps.refl _) (argsL := [(.int (own_al (own_ix (own_nv v x) (1 : Int32))))]) (rest := []) (lenOf pd_den2__C_Ljava_lang_StringBuilder_ rfl) rfl (by show 2 * 0 + _ ≤ _; exact Nat.le_of_eq rfl) (hb hby den2_80) (fun _ _ => ⟨rfl, e3, (by decide : 2 + 0 ≤ _), (by decide : 20 + 0 ≤ _)⟩)
  dsimp only [Pt.U, Pt.locs, Pt.cells, Pt.slots] at X4 l4 y4 z4 st4 hQ4
  subst l4 y4 z4
  obtain ⟨rfl, N4q, K4, St4, B4⟩ := hQ4
  have N4 := Fr.app N2 N4q
  have Kt4 : Keep h0 T4.heap [sb, ar] := Kt2.trans K4 (fun _ q => Or.inl q)
  have Sx4 : own_St Z h0 T4.heap := own_St.trans Sx2 St4
  have C4 := own_C_step K4 St4 n1 n2 n3 n4 C2
  have Bf : own_B Z T4.heap sb ar kb z (xs ++ own_emit 3 (own_nv v x)) := by
    have ef : ((xs ++ [(own_al (own_ix (own_nv v x) (6 : Int32)))]) ++ [(own_al (own_ix (own_nv v x) (1 : Int32)))]) = xs ++ own_emit 3 (own_nv v x) := by show _ = xs ++ [own_al (own_ix (own_nv v x) (6 : Int32)), own_al (own_ix (own_nv v x) (1 : Int32))]; simp
    rw [← ef]; exact B4
  refine ⟨T4, T4.heap, _, X4, rfl, N4, Kt4, Sx4, Bf, fun target kt => ?_⟩
  show Steps p.tables e below (T0.setTop (mkF m 32 #[.val (.ref ba), .val (.ref sb), .val (.int v), .val (.int (3 : Int32)), .val (.ref ba), .val (.int nn), .val (.int j), s7] [])) _
  refine XS.iload X0.here hx rfl (hb hby den2_32) rfl ?_
  show Steps p.tables e below (T0.setTop (mkF m 34 #[.val (.ref ba), .val (.ref sb), .val (.int v), .val (.int (3 : Int32)), .val (.ref ba), .val (.int nn), .val (.int j), s7] [(.int j)])) _
  refine XS.iload X0.here hx rfl (hb hby den2_34) rfl ?_
  show Steps p.tables e below (T0.setTop (mkF m 36 #[.val (.ref ba), .val (.ref sb), .val (.int v), .val (.int (3 : Int32)), .val (.ref ba), .val (.int nn), .val (.int j), s7] [(.int nn), (.int j)])) _
  refine XS.icmpNo X0.here hx rfl (hb hby den2_36) rfl (tlt hj.2).2.1 ?_
  show Steps p.tables e below (T0.setTop (mkF m 39 #[.val (.ref ba), .val (.ref sb), .val (.int v), .val (.int (3 : Int32)), .val (.ref ba), .val (.int nn), .val (.int j), s7] [])) _
  refine XS.aload X0.here hx rfl (hb hby den2_39) rfl rfl ?_
  show Steps p.tables e below (T0.setTop (mkF m 41 #[.val (.ref ba), .val (.ref sb), .val (.int v), .val (.int (3 : Int32)), .val (.ref ba), .val (.int nn), .val (.int j), s7] [(.ref ba)])) _
  refine XS.iload X0.here hx rfl (hb hby den2_41) rfl ?_
  show Steps p.tables e below (T0.setTop (mkF m 43 #[.val (.ref ba), .val (.ref sb), .val (.int v), .val (.int (3 : Int32)), .val (.ref ba), .val (.int nn), .val (.int j), s7] [(.int j), (.ref ba)])) _
  refine X0.baloadBytes hx (j := j) (v := (.int x)) (by rw [e0]; exact Ab.1) (State.isArrayOf_alike hZ.alike Ab.2.1) Ab.2.2 hinb (Has.at Hb hinb hbx) (g := (mkF m 43 #[.val (.ref ba), .val (.ref sb), .val (.int v), .val (.int (3 : Int32)), .val (.ref ba), .val (.int nn), .val (.int j), s7] [(.int j), (.ref ba)])) rfl rfl (hb hby den2_43) _ ?_
  show Steps p.tables e below (T0.setTop (mkF m 44 #[.val (.ref ba), .val (.ref sb), .val (.int v), .val (.int (3 : Int32)), .val (.ref ba), .val (.int nn), .val (.int j), s7] [(.int x)])) _
  refine XS.istore X0.here hx rfl (hb hby den2_44) rfl (l' := #[.val (.ref ba), .val (.ref sb), .val (.int v), .val (.int (3 : Int32)), .val (.ref ba), .val (.int nn), .val (.int j), .val (.int x)]) (own_os7 h7) ?_
  show Steps p.tables e below (T0.setTop (mkF m 46 #[.val (.ref ba), .val (.ref sb), .val (.int v), .val (.int (3 : Int32)), .val (.ref ba), .val (.int nn), .val (.int j), .val (.int x)] [])) _
  refine XS.iloadN X0.here hx rfl (hb hby den2_46) rfl ?_
  show Steps p.tables e below (T0.setTop (mkF m 47 #[.val (.ref ba), .val (.ref sb), .val (.int v), .val (.int (3 : Int32)), .val (.ref ba), .val (.int nn), .val (.int j), .val (.int x)] [(.int v)])) _
  refine XS.bipush X0.here hx rfl (hb hby den2_47) ?_
  show Steps p.tables e below (T0.setTop (mkF m 49 #[.val (.ref ba), .val (.ref sb), .val (.int v), .val (.int (3 : Int32)), .val (.ref ba), .val (.int nn), .val (.int j), .val (.int x)] [(.int (8 : Int32)), (.int v)])) _
  refine XS.ishl X0.here hx rfl (hb hby den2_49) rfl ?_
  show Steps p.tables e below (T0.setTop (mkF m 50 #[.val (.ref ba), .val (.ref sb), .val (.int v), .val (.int (3 : Int32)), .val (.ref ba), .val (.int nn), .val (.int j), .val (.int x)] [(.int (v <<< ((8 : Int32) &&& 31)))])) _
  refine XS.iload X0.here hx rfl (hb hby den2_50) rfl ?_
  show Steps p.tables e below (T0.setTop (mkF m 52 #[.val (.ref ba), .val (.ref sb), .val (.int v), .val (.int (3 : Int32)), .val (.ref ba), .val (.int nn), .val (.int j), .val (.int x)] [(.int x), (.int (v <<< ((8 : Int32) &&& 31)))])) _
  refine XS.sipush X0.here hx rfl (hb hby den2_52) ?_
  show Steps p.tables e below (T0.setTop (mkF m 55 #[.val (.ref ba), .val (.ref sb), .val (.int v), .val (.int (3 : Int32)), .val (.ref ba), .val (.int nn), .val (.int j), .val (.int x)] [(.int (255 : Int32)), (.int x), (.int (v <<< ((8 : Int32) &&& 31)))])) _
  refine XS.iand X0.here hx rfl (hb hby den2_55) rfl ?_
  show Steps p.tables e below (T0.setTop (mkF m 56 #[.val (.ref ba), .val (.ref sb), .val (.int v), .val (.int (3 : Int32)), .val (.ref ba), .val (.int nn), .val (.int j), .val (.int x)] [(.int (x &&& (255 : Int32))), (.int (v <<< ((8 : Int32) &&& 31)))])) _
  refine XS.ior X0.here hx rfl (hb hby den2_56) rfl ?_
  show Steps p.tables e below (T0.setTop (mkF m 57 #[.val (.ref ba), .val (.ref sb), .val (.int v), .val (.int (3 : Int32)), .val (.ref ba), .val (.int nn), .val (.int j), .val (.int x)] [(.int ((v <<< ((8 : Int32) &&& 31)) ||| (x &&& (255 : Int32))))])) _
  show Steps p.tables e below (T0.setTop (mkF m 57 #[.val (.ref ba), .val (.ref sb), .val (.int v), .val (.int (3 : Int32)), .val (.ref ba), .val (.int nn), .val (.int j), .val (.int x)] [(.int (own_nv v x))])) _
  refine XS.istoreN X0.here hx rfl (hb hby den2_57) rfl (l' := #[.val (.ref ba), .val (.ref sb), .val (.int (own_nv v x)), .val (.int (3 : Int32)), .val (.ref ba), .val (.int nn), .val (.int j), .val (.int x)]) rfl ?_
  show Steps p.tables e below (T0.setTop (mkF m 58 #[.val (.ref ba), .val (.ref sb), .val (.int (own_nv v x)), .val (.int (3 : Int32)), .val (.ref ba), .val (.int nn), .val (.int j), .val (.int x)] [])) _
  refine XS.iinc X0.here hx rfl (hb hby den2_58) rfl (l' := #[.val (.ref ba), .val (.ref sb), .val (.int (own_nv v x)), .val (.int ((3 : Int32) + (8 : Int32))), .val (.ref ba), .val (.int nn), .val (.int j), .val (.int x)]) rfl ?_
  show Steps p.tables e below (T0.setTop (mkF m 61 #[.val (.ref ba), .val (.ref sb), .val (.int (own_nv v x)), .val (.int ((3 : Int32) + (8 : Int32))), .val (.ref ba), .val (.int nn), .val (.int j), .val (.int x)] [])) _
  rw [show ((3 : Int32) + (8 : Int32)) = (11 : Int32) from by decide]
  show Steps p.tables e below (T0.setTop (mkF m 61 #[.val (.ref ba), .val (.ref sb), .val (.int (own_nv v x)), .val (.int (11 : Int32)), .val (.ref ba), .val (.int nn), .val (.int j), .val (.int x)] [])) _
  refine XS.iloadN X0.here hx rfl (hb hby den2_61) rfl ?_
  show Steps p.tables e below (T0.setTop (mkF m 62 #[.val (.ref ba), .val (.ref sb), .val (.int (own_nv v x)), .val (.int (11 : Int32)), .val (.ref ba), .val (.int nn), .val (.int j), .val (.int x)] [(.int (11 : Int32))])) _
  refine XS.iconst X0.here hx rfl (hb hby den2_62) ?_
  show Steps p.tables e below (T0.setTop (mkF m 63 #[.val (.ref ba), .val (.ref sb), .val (.int (own_nv v x)), .val (.int (11 : Int32)), .val (.ref ba), .val (.int nn), .val (.int j), .val (.int x)] [(.int (5 : Int32)), (.int (11 : Int32))])) _
  refine XS.icmpNo X0.here hx rfl (hb hby den2_63) rfl (flt (by decide)).1 ?_
  show Steps p.tables e below (T0.setTop (mkF m 66 #[.val (.ref ba), .val (.ref sb), .val (.int (own_nv v x)), .val (.int (11 : Int32)), .val (.ref ba), .val (.int nn), .val (.int j), .val (.int x)] [])) _
  refine XS.iinc X0.here hx rfl (hb hby den2_66) rfl (l' := #[.val (.ref ba), .val (.ref sb), .val (.int (own_nv v x)), .val (.int ((11 : Int32) + (-5 : Int32))), .val (.ref ba), .val (.int nn), .val (.int j), .val (.int x)]) rfl ?_
  show Steps p.tables e below (T0.setTop (mkF m 69 #[.val (.ref ba), .val (.ref sb), .val (.int (own_nv v x)), .val (.int ((11 : Int32) + (-5 : Int32))), .val (.ref ba), .val (.int nn), .val (.int j), .val (.int x)] [])) _
  rw [show ((11 : Int32) + (-5 : Int32)) = (6 : Int32) from by decide]
  show Steps p.tables e below (T0.setTop (mkF m 69 #[.val (.ref ba), .val (.ref sb), .val (.int (own_nv v x)), .val (.int (6 : Int32)), .val (.ref ba), .val (.int nn), .val (.int j), .val (.int x)] [])) _
  refine XS.aloadN X0.here hx rfl (hb hby den2_69) rfl rfl ?_
  show Steps p.tables e below (T0.setTop (mkF m 70 #[.val (.ref ba), .val (.ref sb), .val (.int (own_nv v x)), .val (.int (6 : Int32)), .val (.ref ba), .val (.int nn), .val (.int j), .val (.int x)] [(.ref sb)])) _
  refine st1 _ ?_
  show Steps p.tables e below (T1.setTop (mkF m 73 #[.val (.ref ba), .val (.ref sb), .val (.int (own_nv v x)), .val (.int (6 : Int32)), .val (.ref ba), .val (.int nn), .val (.int j), .val (.int x)] [(.ref al), (.ref sb)])) _
  refine XS.iloadN X1.here hx rfl (hb hby den2_73) rfl ?_
  show Steps p.tables e below (T1.setTop (mkF m 74 #[.val (.ref ba), .val (.ref sb), .val (.int (own_nv v x)), .val (.int (6 : Int32)), .val (.ref ba), .val (.int nn), .val (.int j), .val (.int x)] [(.int (own_nv v x)), (.ref al), (.ref sb)])) _
  refine XS.iloadN X1.here hx rfl (hb hby den2_74) rfl ?_
  show Steps p.tables e below (T1.setTop (mkF m 75 #[.val (.ref ba), .val (.ref sb), .val (.int (own_nv v x)), .val (.int (6 : Int32)), .val (.ref ba), .val (.int nn), .val (.int j), .val (.int x)] [(.int (6 : Int32)), (.int (own_nv v x)), (.ref al), (.ref sb)])) _
  refine XS.iushr X1.here hx rfl (hb hby den2_75) rfl ?_
  show Steps p.tables e below (T1.setTop (mkF m 76 #[.val (.ref ba), .val (.ref sb), .val (.int (own_nv v x)), .val (.int (6 : Int32)), .val (.ref ba), .val (.int nn), .val (.int j), .val (.int x)] [(.int (((own_nv v x).toUInt32 >>> ((6 : Int32) &&& 31).toUInt32).toInt32)), (.ref al), (.ref sb)])) _
  refine XS.bipush X1.here hx rfl (hb hby den2_76) ?_
  show Steps p.tables e below (T1.setTop (mkF m 78 #[.val (.ref ba), .val (.ref sb), .val (.int (own_nv v x)), .val (.int (6 : Int32)), .val (.ref ba), .val (.int nn), .val (.int j), .val (.int x)] [(.int (31 : Int32)), (.int (((own_nv v x).toUInt32 >>> ((6 : Int32) &&& 31).toUInt32).toInt32)), (.ref al), (.ref sb)])) _
  refine XS.iand X1.here hx rfl (hb hby den2_78) rfl ?_
  show Steps p.tables e below (T1.setTop (mkF m 79 #[.val (.ref ba), .val (.ref sb), .val (.int (own_nv v x)), .val (.int (6 : Int32)), .val (.ref ba), .val (.int nn), .val (.int j), .val (.int x)] [(.int ((((own_nv v x).toUInt32 >>> ((6 : Int32) &&& 31).toUInt32).toInt32) &&& (31 : Int32))), (.ref al), (.ref sb)])) _
  show Steps p.tables e below (T1.setTop (mkF m 79 #[.val (.ref ba), .val (.ref sb), .val (.int (own_nv v x)), .val (.int (6 : Int32)), .val (.ref ba), .val (.int nn), .val (.int j), .val (.int x)] [(.int (own_ix (own_nv v x) (6 : Int32))), (.ref al), (.ref sb)])) _
  refine X1.caload hx (j := (own_ix (own_nv v x) (6 : Int32))) (v := (.int (own_al (own_ix (own_nv v x) (6 : Int32))))) (by rw [e1]; exact Av0a.1) (State.isArrayOf_alike hZ.alike Av0a.2.1) Av0a.2.2 hin0a (Has.at Hv0a hin0a (own_alat (own_ixr (own_nv v x) (6 : Int32)))) (g := (mkF m 79 #[.val (.ref ba), .val (.ref sb), .val (.int (own_nv v x)), .val (.int (6 : Int32)), .val (.ref ba), .val (.int nn), .val (.int j), .val (.int x)] [(.int (own_ix (own_nv v x) (6 : Int32))), (.ref al), (.ref sb)])) rfl rfl (hb hby den2_79) _ ?_
  show Steps p.tables e below (T1.setTop (mkF m 80 #[.val (.ref ba), .val (.ref sb), .val (.int (own_nv v x)), .val (.int (6 : Int32)), .val (.ref ba), .val (.int nn), .val (.int j), .val (.int x)] [(.int (own_al (own_ix (own_nv v x) (6 : Int32)))), (.ref sb)])) _
  refine st2.trans ?_
  show Steps p.tables e below (T2.setTop (mkF m 83 #[.val (.ref ba), .val (.ref sb), .val (.int (own_nv v x)), .val (.int (6 : Int32)), .val (.ref ba), .val (.int nn), .val (.int j), .val (.int x)] [(.ref sb)])) _
  refine XS.pop X2.here hx rfl (hb hby den2_83) rfl rfl ?_
  show Steps p.tables e below (T2.setTop (mkF m 84 #[.val (.ref ba), .val (.ref sb), .val (.int (own_nv v x)), .val (.int (6 : Int32)), .val (.ref ba), .val (.int nn), .val (.int j), .val (.int x)] [])) _
  refine XS.goto X2.here hx rfl (pc0 := 84) (pc' := 61) rfl (hb hby den2_84) (by decide) (by decide) ?_
  show Steps p.tables e below (T2.setTop (mkF m 61 #[.val (.ref ba), .val (.ref sb), .val (.int (own_nv v x)), .val (.int (6 : Int32)), .val (.ref ba), .val (.int nn), .val (.int j), .val (.int x)] [])) _
  refine XS.iloadN X2.here hx rfl (hb hby den2_61) rfl ?_
  show Steps p.tables e below (T2.setTop (mkF m 62 #[.val (.ref ba), .val (.ref sb), .val (.int (own_nv v x)), .val (.int (6 : Int32)), .val (.ref ba), .val (.int nn), .val (.int j), .val (.int x)] [(.int (6 : Int32))])) _
  refine XS.iconst X2.here hx rfl (hb hby den2_62) ?_
  show Steps p.tables e below (T2.setTop (mkF m 63 #[.val (.ref ba), .val (.ref sb), .val (.int (own_nv v x)), .val (.int (6 : Int32)), .val (.ref ba), .val (.int nn), .val (.int j), .val (.int x)] [(.int (5 : Int32)), (.int (6 : Int32))])) _
  refine XS.icmpNo X2.here hx rfl (hb hby den2_63) rfl (flt (by decide)).1 ?_
  show Steps p.tables e below (T2.setTop (mkF m 66 #[.val (.ref ba), .val (.ref sb), .val (.int (own_nv v x)), .val (.int (6 : Int32)), .val (.ref ba), .val (.int nn), .val (.int j), .val (.int x)] [])) _
  refine XS.iinc X2.here hx rfl (hb hby den2_66) rfl (l' := #[.val (.ref ba), .val (.ref sb), .val (.int (own_nv v x)), .val (.int ((6 : Int32) + (-5 : Int32))), .val (.ref ba), .val (.int nn), .val (.int j), .val (.int x)]) rfl ?_
  show Steps p.tables e below (T2.setTop (mkF m 69 #[.val (.ref ba), .val (.ref sb), .val (.int (own_nv v x)), .val (.int ((6 : Int32) + (-5 : Int32))), .val (.ref ba), .val (.int nn), .val (.int j), .val (.int x)] [])) _
  rw [show ((6 : Int32) + (-5 : Int32)) = (1 : Int32) from by decide]
  show Steps p.tables e below (T2.setTop (mkF m 69 #[.val (.ref ba), .val (.ref sb), .val (.int (own_nv v x)), .val (.int (1 : Int32)), .val (.ref ba), .val (.int nn), .val (.int j), .val (.int x)] [])) _
  refine XS.aloadN X2.here hx rfl (hb hby den2_69) rfl rfl ?_
  show Steps p.tables e below (T2.setTop (mkF m 70 #[.val (.ref ba), .val (.ref sb), .val (.int (own_nv v x)), .val (.int (1 : Int32)), .val (.ref ba), .val (.int nn), .val (.int j), .val (.int x)] [(.ref sb)])) _
  refine st3 _ ?_
  show Steps p.tables e below (T3.setTop (mkF m 73 #[.val (.ref ba), .val (.ref sb), .val (.int (own_nv v x)), .val (.int (1 : Int32)), .val (.ref ba), .val (.int nn), .val (.int j), .val (.int x)] [(.ref al), (.ref sb)])) _
  refine XS.iloadN X3.here hx rfl (hb hby den2_73) rfl ?_
  show Steps p.tables e below (T3.setTop (mkF m 74 #[.val (.ref ba), .val (.ref sb), .val (.int (own_nv v x)), .val (.int (1 : Int32)), .val (.ref ba), .val (.int nn), .val (.int j), .val (.int x)] [(.int (own_nv v x)), (.ref al), (.ref sb)])) _
  refine XS.iloadN X3.here hx rfl (hb hby den2_74) rfl ?_
  show Steps p.tables e below (T3.setTop (mkF m 75 #[.val (.ref ba), .val (.ref sb), .val (.int (own_nv v x)), .val (.int (1 : Int32)), .val (.ref ba), .val (.int nn), .val (.int j), .val (.int x)] [(.int (1 : Int32)), (.int (own_nv v x)), (.ref al), (.ref sb)])) _
  refine XS.iushr X3.here hx rfl (hb hby den2_75) rfl ?_
  show Steps p.tables e below (T3.setTop (mkF m 76 #[.val (.ref ba), .val (.ref sb), .val (.int (own_nv v x)), .val (.int (1 : Int32)), .val (.ref ba), .val (.int nn), .val (.int j), .val (.int x)] [(.int (((own_nv v x).toUInt32 >>> ((1 : Int32) &&& 31).toUInt32).toInt32)), (.ref al), (.ref sb)])) _
  refine XS.bipush X3.here hx rfl (hb hby den2_76) ?_
  show Steps p.tables e below (T3.setTop (mkF m 78 #[.val (.ref ba), .val (.ref sb), .val (.int (own_nv v x)), .val (.int (1 : Int32)), .val (.ref ba), .val (.int nn), .val (.int j), .val (.int x)] [(.int (31 : Int32)), (.int (((own_nv v x).toUInt32 >>> ((1 : Int32) &&& 31).toUInt32).toInt32)), (.ref al), (.ref sb)])) _
  refine XS.iand X3.here hx rfl (hb hby den2_78) rfl ?_
  show Steps p.tables e below (T3.setTop (mkF m 79 #[.val (.ref ba), .val (.ref sb), .val (.int (own_nv v x)), .val (.int (1 : Int32)), .val (.ref ba), .val (.int nn), .val (.int j), .val (.int x)] [(.int ((((own_nv v x).toUInt32 >>> ((1 : Int32) &&& 31).toUInt32).toInt32) &&& (31 : Int32))), (.ref al), (.ref sb)])) _
  show Steps p.tables e below (T3.setTop (mkF m 79 #[.val (.ref ba), .val (.ref sb), .val (.int (own_nv v x)), .val (.int (1 : Int32)), .val (.ref ba), .val (.int nn), .val (.int j), .val (.int x)] [(.int (own_ix (own_nv v x) (1 : Int32))), (.ref al), (.ref sb)])) _
  refine X3.caload hx (j := (own_ix (own_nv v x) (1 : Int32))) (v := (.int (own_al (own_ix (own_nv v x) (1 : Int32))))) (by rw [e3]; exact Av1a.1) (State.isArrayOf_alike hZ.alike Av1a.2.1) Av1a.2.2 hin1a (Has.at Hv1a hin1a (own_alat (own_ixr (own_nv v x) (1 : Int32)))) (g := (mkF m 79 #[.val (.ref ba), .val (.ref sb), .val (.int (own_nv v x)), .val (.int (1 : Int32)), .val (.ref ba), .val (.int nn), .val (.int j), .val (.int x)] [(.int (own_ix (own_nv v x) (1 : Int32))), (.ref al), (.ref sb)])) rfl rfl (hb hby den2_79) _ ?_
  show Steps p.tables e below (T3.setTop (mkF m 80 #[.val (.ref ba), .val (.ref sb), .val (.int (own_nv v x)), .val (.int (1 : Int32)), .val (.ref ba), .val (.int nn), .val (.int j), .val (.int x)] [(.int (own_al (own_ix (own_nv v x) (1 : Int32)))), (.ref sb)])) _
  refine st4.trans ?_
  show Steps p.tables e below (T4.setTop (mkF m 83 #[.val (.ref ba), .val (.ref sb), .val (.int (own_nv v x)), .val (.int (1 : Int32)), .val (.ref ba), .val (.int nn), .val (.int j), .val (.int x)] [(.ref sb)])) _
  refine XS.pop X4.here hx rfl (hb hby den2_83) rfl rfl ?_
  show Steps p.tables e below (T4.setTop (mkF m 84 #[.val (.ref ba), .val (.ref sb), .val (.int (own_nv v x)), .val (.int (1 : Int32)), .val (.ref ba), .val (.int nn), .val (.int j), .val (.int x)] [])) _
  refine XS.goto X4.here hx rfl (pc0 := 84) (pc' := 61) rfl (hb hby den2_84) (by decide) (by decide) ?_
  show Steps p.tables e below (T4.setTop (mkF m 61 #[.val (.ref ba), .val (.ref sb), .val (.int (own_nv v x)), .val (.int (1 : Int32)), .val (.ref ba), .val (.int nn), .val (.int j), .val (.int x)] [])) _
  refine XS.iloadN X4.here hx rfl (hb hby den2_61) rfl ?_
  show Steps p.tables e below (T4.setTop (mkF m 62 #[.val (.ref ba), .val (.ref sb), .val (.int (own_nv v x)), .val (.int (1 : Int32)), .val (.ref ba), .val (.int nn), .val (.int j), .val (.int x)] [(.int (1 : Int32))])) _
  refine XS.iconst X4.here hx rfl (hb hby den2_62) ?_
  show Steps p.tables e below (T4.setTop (mkF m 63 #[.val (.ref ba), .val (.ref sb), .val (.int (own_nv v x)), .val (.int (1 : Int32)), .val (.ref ba), .val (.int nn), .val (.int j), .val (.int x)] [(.int (5 : Int32)), (.int (1 : Int32))])) _
  refine XS.icmpYes X4.here hx rfl (pc0 := 63) (pc' := 87) rfl (hb hby den2_63) rfl (tlt (by decide)).1 (by decide) (by decide) ?_
  show Steps p.tables e below (T4.setTop (mkF m 87 #[.val (.ref ba), .val (.ref sb), .val (.int (own_nv v x)), .val (.int (1 : Int32)), .val (.ref ba), .val (.int nn), .val (.int j), .val (.int x)] [])) _
  refine XS.iinc X4.here hx rfl (hb hby den2_87) rfl (l' := #[.val (.ref ba), .val (.ref sb), .val (.int (own_nv v x)), .val (.int (1 : Int32)), .val (.ref ba), .val (.int nn), .val (.int (j + (1 : Int32))), .val (.int x)]) rfl ?_
  show Steps p.tables e below (T4.setTop (mkF m 90 #[.val (.ref ba), .val (.ref sb), .val (.int (own_nv v x)), .val (.int (1 : Int32)), .val (.ref ba), .val (.int nn), .val (.int (j + (1 : Int32))), .val (.int x)] [])) _
  refine XS.goto X4.here hx rfl (pc0 := 90) (pc' := 32) rfl (hb hby den2_90) (by decide) (by decide) ?_
  show Steps p.tables e below (T4.setTop (mkF m 32 #[.val (.ref ba), .val (.ref sb), .val (.int (own_nv v x)), .val (.int (1 : Int32)), .val (.ref ba), .val (.int nn), .val (.int (j + (1 : Int32))), .val (.int x)] [])) _
  exact kt

set_option maxRecDepth 65536 in
set_option maxHeartbeats 40000000 in
theorem own_turn1 {p : Program} {l : Launch} {e : Env} {s : State} {m : MethodId} {args : Array Value} {below : List Frame} {meth : Method} {c : Code} {T0 : State} {locs : List Loc} {Z : State} {a0 : Array Value} {h0 : Heap} {n0 : Nat} (X0 : Stand p l e ({ frames := 5, cells := 4, slots := 40, locals := 71 } : Room) s m args below meth c T0 locs 2 20) (hx : p.tables.exec = Jvm.exec) (hZ : Z.Warmed39 s.vm) (hw : ∀ d ∈ tables_1, d.before a0 Z = true) (hby : c.code = prog_19_method_2_code) (hml : c.maxLocals = 8) (hown : s.vm.findClass "com/example/harrier/harrier/warc/Base32" = some m.cls) (e0 : T0.heap = h0) (N0 : Fr n0 locs) (Z0 : n0 ≤ h0.size) {cs0 : Int32} (hcs : ¬ cs0 = 0) {al ba sb ar : Addr} {kA kB kb : ClassId} {z nn : Int32} {bs xs : List Int32} (C : own_C Z h0 cs0 al kA ba kB nn bs) (B : own_B Z h0 sb ar kb z xs) (n1 : al ≠ sb) (n2 : al ≠ ar) (n3 : ba ≠ sb) (n4 : ba ≠ ar) (hz16 : z.toNatClampNeg ≤ 16) (gs : n0 ≤ sb) (gr : n0 ≤ ar) (v x j : Int32) (s7 : Slot) (h7 : One s7) (hj : ¬ j < 0 ∧ j < nn) (hbx : (bs.map Value.int).getD j.toNatClampNeg (.int (0 : Int32)) = .int x) (hroom : xs.length + 1 ≤ z.toNatClampNeg) :
    ∃ (T' : State) (h' : Heap) (locs' : List Loc), Stand p l e ({ frames := 5, cells := 4, slots := 40, locals := 71 } : Room) s m args below meth c T' locs' 2 20 ∧ T'.heap = h' ∧ Fr n0 locs' ∧ Keep h0 h' [sb, ar] ∧ own_St Z h0 h' ∧ own_B Z h' sb ar kb z (xs ++ own_emit 1 (own_nv v x)) ∧
      ∀ target, Steps p.tables e below (T'.setTop (mkF m 32 #[.val (.ref ba), .val (.ref sb), .val (.int (own_nv v x)), .val (.int (4 : Int32)), .val (.ref ba), .val (.int nn), .val (.int (j + (1 : Int32))), .val (.int x)] [])) target → Steps p.tables e below (T0.setTop (mkF m 32 #[.val (.ref ba), .val (.ref sb), .val (.int v), .val (.int (1 : Int32)), .val (.ref ba), .val (.int nn), .val (.int j), s7] [])) target := by
  obtain ⟨cb, Ab, qb, Sb, Nb, Hb, Gb⟩ := C.2.2.2
  have hinb := inb_of Sb hj
  obtain ⟨T1, X1, e1, st1⟩ := getS2 X0 hx hZ hown (host := "") (Or.inl (hw _ (List.mem_of_getElem? (i := 112) rfl))) Via.refl e0 C.2.1 (g := (mkF m 70 #[.val (.ref ba), .val (.ref sb), .val (.int (own_nv v x)), .val (.int (4 : Int32)), .val (.ref ba), .val (.int nn), .val (.int j), .val (.int x)] [(.ref sb)])) rfl (hb hby den2_70)
  obtain ⟨ca0a, Av0a, qv0a, Sv0a, Nv0a, Hv0a, Gv0a⟩ := C.2.2.1
  have hin0a := inb_of Sv0a (own_al_in (own_ixr (own_nv v x) (4 : Int32)))
  obtain ⟨cq2, kq2, q2a, q2b, q2c⟩ := isOf hZ e1 B.1
  obtain ⟨_, _, ⟨T2, L2, k2, n2⟩, -, X2, ⟨Lc2, hQ2, l2, y2, z2⟩, st2⟩ := X1.virtualBack hx (y := (⟨"java/lang/StringBuilder", "append", "(C)Ljava/lang/StringBuilder;"⟩ : MethodName)) (z := (⟨"java/lang/StringBuilder", "append", "(C)Ljava/lang/StringBuilder;"⟩ : MethodName)) hown (mvT hZ (hw _ (List.mem_of_getElem? (i := 114) rfl))) (mvT hZ (hw _ (List.mem_of_getElem? (i := 115) rfl))) (notFace_of_selects (args := #[]) (mvT hZ (hw _ (List.mem_of_getElem? (i := 117) rfl)))) (mvT hZ (hw _ (List.mem_of_getElem? (i := 117) rfl))) (mvT hZ (hw _ (List.mem_of_getElem? (i := 116) rfl))) (by decide) (backOf (W := 0) (rmSA l Z a0 hw [] sb (own_al (own_ix (own_nv v x) (4 : Int32))) cs0 ar kb z xs h0 n0 (Nat.le_trans Z0 (Keep.refl h0 [sb, ar]).1) C.1 hcs B (own_alr (own_ixr (own_nv v x) (4 : Int32))) (by have := hroom; omega) hz16 gs gr) hZ (hw _ (List.mem_of_getElem? (i := 118) rfl)) (hw _ (List.mem_of_getElem? (i := 8) rfl)) (by decide) (by decide)) q2a q2c (g := (mkF m 80 #[.val (.ref ba), .val (.ref sb), .val (.int (own_nv v x)), .val (.int (4 : Int32)), .val (.ref ba), .val (.int nn), .val (.int j), .val (.int x)] [(.int (own_al (own_ix (own_nv v x) (4 : Int32)))), (.ref sb)])) rfl (by rw [hml]; rfl) (Steps.refl _) (argsL := [(.int (own_al (own_ix (own_nv v x) (4 : Int32))))]) (rest := []) (lenOf pd_den2__C_Ljava_lang_StringBuilder_ rfl) rfl (by show 2 * 0 + _ ≤ _; exact Nat.le_of_eq rfl) (hb hby den2_80) (fun _ _ => ⟨rfl, e1, (by decide : 2 + 0 ≤ _), (by decide : 20 + 0 ≤ _)⟩)
  dsimp only [Pt.U, Pt.locs, Pt.cells, Pt.slots] at X2 l2 y2 z2 st2 hQ2
  subst l2 y2 z2
  obtain ⟨rfl, N2q, K2, St2, B2⟩ := hQ2
  have N2 := Fr.app N0 N2q
  have Kt2 : Keep h0 T2.heap [sb, ar] := (Keep.refl h0 [sb, ar]).trans K2 (fun _ q => Or.inl q)
  have Sx2 : own_St Z h0 T2.heap := own_St.trans own_St.refl St2
  have C2 := own_C_step K2 St2 n1 n2 n3 n4 C
  have Bf : own_B Z T2.heap sb ar kb z (xs ++ own_emit 1 (own_nv v x)) := by
    have ef : (xs ++ [(own_al (own_ix (own_nv v x) (4 : Int32)))]) = xs ++ own_emit 1 (own_nv v x) := by show _ = xs ++ [own_al (own_ix (own_nv v x) (4 : Int32))]; simp
    rw [← ef]; exact B2
  refine ⟨T2, T2.heap, _, X2, rfl, N2, Kt2, Sx2, Bf, fun target kt => ?_⟩
  show Steps p.tables e below (T0.setTop (mkF m 32 #[.val (.ref ba), .val (.ref sb), .val (.int v), .val (.int (1 : Int32)), .val (.ref ba), .val (.int nn), .val (.int j), s7] [])) _
  refine XS.iload X0.here hx rfl (hb hby den2_32) rfl ?_
  show Steps p.tables e below (T0.setTop (mkF m 34 #[.val (.ref ba), .val (.ref sb), .val (.int v), .val (.int (1 : Int32)), .val (.ref ba), .val (.int nn), .val (.int j), s7] [(.int j)])) _
  refine XS.iload X0.here hx rfl (hb hby den2_34) rfl ?_
  show Steps p.tables e below (T0.setTop (mkF m 36 #[.val (.ref ba), .val (.ref sb), .val (.int v), .val (.int (1 : Int32)), .val (.ref ba), .val (.int nn), .val (.int j), s7] [(.int nn), (.int j)])) _
  refine XS.icmpNo X0.here hx rfl (hb hby den2_36) rfl (tlt hj.2).2.1 ?_
  show Steps p.tables e below (T0.setTop (mkF m 39 #[.val (.ref ba), .val (.ref sb), .val (.int v), .val (.int (1 : Int32)), .val (.ref ba), .val (.int nn), .val (.int j), s7] [])) _
  refine XS.aload X0.here hx rfl (hb hby den2_39) rfl rfl ?_
  show Steps p.tables e below (T0.setTop (mkF m 41 #[.val (.ref ba), .val (.ref sb), .val (.int v), .val (.int (1 : Int32)), .val (.ref ba), .val (.int nn), .val (.int j), s7] [(.ref ba)])) _
  refine XS.iload X0.here hx rfl (hb hby den2_41) rfl ?_
  show Steps p.tables e below (T0.setTop (mkF m 43 #[.val (.ref ba), .val (.ref sb), .val (.int v), .val (.int (1 : Int32)), .val (.ref ba), .val (.int nn), .val (.int j), s7] [(.int j), (.ref ba)])) _
  refine X0.baloadBytes hx (j := j) (v := (.int x)) (by rw [e0]; exact Ab.1) (State.isArrayOf_alike hZ.alike Ab.2.1) Ab.2.2 hinb (Has.at Hb hinb hbx) (g := (mkF m 43 #[.val (.ref ba), .val (.ref sb), .val (.int v), .val (.int (1 : Int32)), .val (.ref ba), .val (.int nn), .val (.int j), s7] [(.int j), (.ref ba)])) rfl rfl (hb hby den2_43) _ ?_
  show Steps p.tables e below (T0.setTop (mkF m 44 #[.val (.ref ba), .val (.ref sb), .val (.int v), .val (.int (1 : Int32)), .val (.ref ba), .val (.int nn), .val (.int j), s7] [(.int x)])) _
  refine XS.istore X0.here hx rfl (hb hby den2_44) rfl (l' := #[.val (.ref ba), .val (.ref sb), .val (.int v), .val (.int (1 : Int32)), .val (.ref ba), .val (.int nn), .val (.int j), .val (.int x)]) (own_os7 h7) ?_
  show Steps p.tables e below (T0.setTop (mkF m 46 #[.val (.ref ba), .val (.ref sb), .val (.int v), .val (.int (1 : Int32)), .val (.ref ba), .val (.int nn), .val (.int j), .val (.int x)] [])) _
  refine XS.iloadN X0.here hx rfl (hb hby den2_46) rfl ?_
  show Steps p.tables e below (T0.setTop (mkF m 47 #[.val (.ref ba), .val (.ref sb), .val (.int v), .val (.int (1 : Int32)), .val (.ref ba), .val (.int nn), .val (.int j), .val (.int x)] [(.int v)])) _
  refine XS.bipush X0.here hx rfl (hb hby den2_47) ?_
  show Steps p.tables e below (T0.setTop (mkF m 49 #[.val (.ref ba), .val (.ref sb), .val (.int v), .val (.int (1 : Int32)), .val (.ref ba), .val (.int nn), .val (.int j), .val (.int x)] [(.int (8 : Int32)), (.int v)])) _
  refine XS.ishl X0.here hx rfl (hb hby den2_49) rfl ?_
  show Steps p.tables e below (T0.setTop (mkF m 50 #[.val (.ref ba), .val (.ref sb), .val (.int v), .val (.int (1 : Int32)), .val (.ref ba), .val (.int nn), .val (.int j), .val (.int x)] [(.int (v <<< ((8 : Int32) &&& 31)))])) _
  refine XS.iload X0.here hx rfl (hb hby den2_50) rfl ?_
  show Steps p.tables e below (T0.setTop (mkF m 52 #[.val (.ref ba), .val (.ref sb), .val (.int v), .val (.int (1 : Int32)), .val (.ref ba), .val (.int nn), .val (.int j), .val (.int x)] [(.int x), (.int (v <<< ((8 : Int32) &&& 31)))])) _
  refine XS.sipush X0.here hx rfl (hb hby den2_52) ?_
  show Steps p.tables e below (T0.setTop (mkF m 55 #[.val (.ref ba), .val (.ref sb), .val (.int v), .val (.int (1 : Int32)), .val (.ref ba), .val (.int nn), .val (.int j), .val (.int x)] [(.int (255 : Int32)), (.int x), (.int (v <<< ((8 : Int32) &&& 31)))])) _
  refine XS.iand X0.here hx rfl (hb hby den2_55) rfl ?_
  show Steps p.tables e below (T0.setTop (mkF m 56 #[.val (.ref ba), .val (.ref sb), .val (.int v), .val (.int (1 : Int32)), .val (.ref ba), .val (.int nn), .val (.int j), .val (.int x)] [(.int (x &&& (255 : Int32))), (.int (v <<< ((8 : Int32) &&& 31)))])) _
  refine XS.ior X0.here hx rfl (hb hby den2_56) rfl ?_
  show Steps p.tables e below (T0.setTop (mkF m 57 #[.val (.ref ba), .val (.ref sb), .val (.int v), .val (.int (1 : Int32)), .val (.ref ba), .val (.int nn), .val (.int j), .val (.int x)] [(.int ((v <<< ((8 : Int32) &&& 31)) ||| (x &&& (255 : Int32))))])) _
  show Steps p.tables e below (T0.setTop (mkF m 57 #[.val (.ref ba), .val (.ref sb), .val (.int v), .val (.int (1 : Int32)), .val (.ref ba), .val (.int nn), .val (.int j), .val (.int x)] [(.int (own_nv v x))])) _
  refine XS.istoreN X0.here hx rfl (hb hby den2_57) rfl (l' := #[.val (.ref ba), .val (.ref sb), .val (.int (own_nv v x)), .val (.int (1 : Int32)), .val (.ref ba), .val (.int nn), .val (.int j), .val (.int x)]) rfl ?_
  show Steps p.tables e below (T0.setTop (mkF m 58 #[.val (.ref ba), .val (.ref sb), .val (.int (own_nv v x)), .val (.int (1 : Int32)), .val (.ref ba), .val (.int nn), .val (.int j), .val (.int x)] [])) _
  refine XS.iinc X0.here hx rfl (hb hby den2_58) rfl (l' := #[.val (.ref ba), .val (.ref sb), .val (.int (own_nv v x)), .val (.int ((1 : Int32) + (8 : Int32))), .val (.ref ba), .val (.int nn), .val (.int j), .val (.int x)]) rfl ?_
  show Steps p.tables e below (T0.setTop (mkF m 61 #[.val (.ref ba), .val (.ref sb), .val (.int (own_nv v x)), .val (.int ((1 : Int32) + (8 : Int32))), .val (.ref ba), .val (.int nn), .val (.int j), .val (.int x)] [])) _
  rw [show ((1 : Int32) + (8 : Int32)) = (9 : Int32) from by decide]
  show Steps p.tables e below (T0.setTop (mkF m 61 #[.val (.ref ba), .val (.ref sb), .val (.int (own_nv v x)), .val (.int (9 : Int32)), .val (.ref ba), .val (.int nn), .val (.int j), .val (.int x)] [])) _
  refine XS.iloadN X0.here hx rfl (hb hby den2_61) rfl ?_
  show Steps p.tables e below (T0.setTop (mkF m 62 #[.val (.ref ba), .val (.ref sb), .val (.int (own_nv v x)), .val (.int (9 : Int32)), .val (.ref ba), .val (.int nn), .val (.int j), .val (.int x)] [(.int (9 : Int32))])) _
  refine XS.iconst X0.here hx rfl (hb hby den2_62) ?_
  show Steps p.tables e below (T0.setTop (mkF m 63 #[.val (.ref ba), .val (.ref sb), .val (.int (own_nv v x)), .val (.int (9 : Int32)), .val (.ref ba), .val (.int nn), .val (.int j), .val (.int x)] [(.int (5 : Int32)), (.int (9 : Int32))])) _
  refine XS.icmpNo X0.here hx rfl (hb hby den2_63) rfl (flt (by decide)).1 ?_
  show Steps p.tables e below (T0.setTop (mkF m 66 #[.val (.ref ba), .val (.ref sb), .val (.int (own_nv v x)), .val (.int (9 : Int32)), .val (.ref ba), .val (.int nn), .val (.int j), .val (.int x)] [])) _
  refine XS.iinc X0.here hx rfl (hb hby den2_66) rfl (l' := #[.val (.ref ba), .val (.ref sb), .val (.int (own_nv v x)), .val (.int ((9 : Int32) + (-5 : Int32))), .val (.ref ba), .val (.int nn), .val (.int j), .val (.int x)]) rfl ?_
  show Steps p.tables e below (T0.setTop (mkF m 69 #[.val (.ref ba), .val (.ref sb), .val (.int (own_nv v x)), .val (.int ((9 : Int32) + (-5 : Int32))), .val (.ref ba), .val (.int nn), .val (.int j), .val (.int x)] [])) _
  rw [show ((9 : Int32) + (-5 : Int32)) = (4 : Int32) from by decide]
  show Steps p.tables e below (T0.setTop (mkF m 69 #[.val (.ref ba), .val (.ref sb), .val (.int (own_nv v x)), .val (.int (4 : Int32)), .val (.ref ba), .val (.int nn), .val (.int j), .val (.int x)] [])) _
  refine XS.aloadN X0.here hx rfl (hb hby den2_69) rfl rfl ?_
  show Steps p.tables e below (T0.setTop (mkF m 70 #[.val (.ref ba), .val (.ref sb), .val (.int (own_nv v x)), .val (.int (4 : Int32)), .val (.ref ba), .val (.int nn), .val (.int j), .val (.int x)] [(.ref sb)])) _
  refine st1 _ ?_
  show Steps p.tables e below (T1.setTop (mkF m 73 #[.val (.ref ba), .val (.ref sb), .val (.int (own_nv v x)), .val (.int (4 : Int32)), .val (.ref ba), .val (.int nn), .val (.int j), .val (.int x)] [(.ref al), (.ref sb)])) _
  refine XS.iloadN X1.here hx rfl (hb hby den2_73) rfl ?_
  show Steps p.tables e below (T1.setTop (mkF m 74 #[.val (.ref ba), .val (.ref sb), .val (.int (own_nv v x)), .val (.int (4 : Int32)), .val (.ref ba), .val (.int nn), .val (.int j), .val (.int x)] [(.int (own_nv v x)), (.ref al), (.ref sb)])) _
  refine XS.iloadN X1.here hx rfl (hb hby den2_74) rfl ?_
  show Steps p.tables e below (T1.setTop (mkF m 75 #[.val (.ref ba), .val (.ref sb), .val (.int (own_nv v x)), .val (.int (4 : Int32)), .val (.ref ba), .val (.int nn), .val (.int j), .val (.int x)] [(.int (4 : Int32)), (.int (own_nv v x)), (.ref al), (.ref sb)])) _
  refine XS.iushr X1.here hx rfl (hb hby den2_75) rfl ?_
  show Steps p.tables e below (T1.setTop (mkF m 76 #[.val (.ref ba), .val (.ref sb), .val (.int (own_nv v x)), .val (.int (4 : Int32)), .val (.ref ba), .val (.int nn), .val (.int j), .val (.int x)] [(.int (((own_nv v x).toUInt32 >>> ((4 : Int32) &&& 31).toUInt32).toInt32)), (.ref al), (.ref sb)])) _
  refine XS.bipush X1.here hx rfl (hb hby den2_76) ?_
  show Steps p.tables e below (T1.setTop (mkF m 78 #[.val (.ref ba), .val (.ref sb), .val (.int (own_nv v x)), .val (.int (4 : Int32)), .val (.ref ba), .val (.int nn), .val (.int j), .val (.int x)] [(.int (31 : Int32)), (.int (((own_nv v x).toUInt32 >>> ((4 : Int32) &&& 31).toUInt32).toInt32)), (.ref al), (.ref sb)])) _
  refine XS.iand X1.here hx rfl (hb hby den2_78) rfl ?_
  show Steps p.tables e below (T1.setTop (mkF m 79 #[.val (.ref ba), .val (.ref sb), .val (.int (own_nv v x)), .val (.int (4 : Int32)), .val (.ref ba), .val (.int nn), .val (.int j), .val (.int x)] [(.int ((((own_nv v x).toUInt32 >>> ((4 : Int32) &&& 31).toUInt32).toInt32) &&& (31 : Int32))), (.ref al), (.ref sb)])) _
  show Steps p.tables e below (T1.setTop (mkF m 79 #[.val (.ref ba), .val (.ref sb), .val (.int (own_nv v x)), .val (.int (4 : Int32)), .val (.ref ba), .val (.int nn), .val (.int j), .val (.int x)] [(.int (own_ix (own_nv v x) (4 : Int32))), (.ref al), (.ref sb)])) _
  refine X1.caload hx (j := (own_ix (own_nv v x) (4 : Int32))) (v := (.int (own_al (own_ix (own_nv v x) (4 : Int32))))) (by rw [e1]; exact Av0a.1) (State.isArrayOf_alike hZ.alike Av0a.2.1) Av0a.2.2 hin0a (Has.at Hv0a hin0a (own_alat (own_ixr (own_nv v x) (4 : Int32)))) (g := (mkF m 79 #[.val (.ref ba), .val (.ref sb), .val (.int (own_nv v x)), .val (.int (4 : Int32)), .val (.ref ba), .val (.int nn), .val (.int j), .val (.int x)] [(.int (own_ix (own_nv v x) (4 : Int32))), (.ref al), (.ref sb)])) rfl rfl (hb hby den2_79) _ ?_
  show Steps p.tables e below (T1.setTop (mkF m 80 #[.val (.ref ba), .val (.ref sb), .val (.int (own_nv v x)), .val (.int (4 : Int32)), .val (.ref ba), .val (.int nn), .val (.int j), .val (.int x)] [(.int (own_al (own_ix (own_nv v x) (4 : Int32)))), (.ref sb)])) _
  refine st2.trans ?_
  show Steps p.tables e below (T2.setTop (mkF m 83 #[.val (.ref ba), .val (.ref sb), .val (.int (own_nv v x)), .val (.int (4 : Int32)), .val (.ref ba), .val (.int nn), .val (.int j), .val (.int x)] [(.ref sb)])) _
  refine XS.pop X2.here hx rfl (hb hby den2_83) rfl rfl ?_
  show Steps p.tables e below (T2.setTop (mkF m 84 #[.val (.ref ba), .val (.ref sb), .val (.int (own_nv v x)), .val (.int (4 : Int32)), .val (.ref ba), .val (.int nn), .val (.int j), .val (.int x)] [])) _
  refine XS.goto X2.here hx rfl (pc0 := 84) (pc' := 61) rfl (hb hby den2_84) (by decide) (by decide) ?_
  show Steps p.tables e below (T2.setTop (mkF m 61 #[.val (.ref ba), .val (.ref sb), .val (.int (own_nv v x)), .val (.int (4 : Int32)), .val (.ref ba), .val (.int nn), .val (.int j), .val (.int x)] [])) _
  refine XS.iloadN X2.here hx rfl (hb hby den2_61) rfl ?_
  show Steps p.tables e below (T2.setTop (mkF m 62 #[.val (.ref ba), .val (.ref sb), .val (.int (own_nv v x)), .val (.int (4 : Int32)), .val (.ref ba), .val (.int nn), .val (.int j), .val (.int x)] [(.int (4 : Int32))])) _
  refine XS.iconst X2.here hx rfl (hb hby den2_62) ?_
  show Steps p.tables e below (T2.setTop (mkF m 63 #[.val (.ref ba), .val (.ref sb), .val (.int (own_nv v x)), .val (.int (4 : Int32)), .val (.ref ba), .val (.int nn), .val (.int j), .val (.int x)] [(.int (5 : Int32)), (.int (4 : Int32))])) _
  refine XS.icmpYes X2.here hx rfl (pc0 := 63) (pc' := 87) rfl (hb hby den2_63) rfl (tlt (by decide)).1 (by decide) (by decide) ?_
  show Steps p.tables e below (T2.setTop (mkF m 87 #[.val (.ref ba), .val (.ref sb), .val (.int (own_nv v x)), .val (.int (4 : Int32)), .val (.ref ba), .val (.int nn), .val (.int j), .val (.int x)] [])) _
  refine XS.iinc X2.here hx rfl (hb hby den2_87) rfl (l' := #[.val (.ref ba), .val (.ref sb), .val (.int (own_nv v x)), .val (.int (4 : Int32)), .val (.ref ba), .val (.int nn), .val (.int (j + (1 : Int32))), .val (.int x)]) rfl ?_
  show Steps p.tables e below (T2.setTop (mkF m 90 #[.val (.ref ba), .val (.ref sb), .val (.int (own_nv v x)), .val (.int (4 : Int32)), .val (.ref ba), .val (.int nn), .val (.int (j + (1 : Int32))), .val (.int x)] [])) _
  refine XS.goto X2.here hx rfl (pc0 := 90) (pc' := 32) rfl (hb hby den2_90) (by decide) (by decide) ?_
  show Steps p.tables e below (T2.setTop (mkF m 32 #[.val (.ref ba), .val (.ref sb), .val (.int (own_nv v x)), .val (.int (4 : Int32)), .val (.ref ba), .val (.int nn), .val (.int (j + (1 : Int32))), .val (.int x)] [])) _
  exact kt

set_option maxRecDepth 65536 in
set_option maxHeartbeats 40000000 in
theorem own_turn4 {p : Program} {l : Launch} {e : Env} {s : State} {m : MethodId} {args : Array Value} {below : List Frame} {meth : Method} {c : Code} {T0 : State} {locs : List Loc} {Z : State} {a0 : Array Value} {h0 : Heap} {n0 : Nat} (X0 : Stand p l e ({ frames := 5, cells := 4, slots := 40, locals := 71 } : Room) s m args below meth c T0 locs 2 20) (hx : p.tables.exec = Jvm.exec) (hZ : Z.Warmed39 s.vm) (hw : ∀ d ∈ tables_1, d.before a0 Z = true) (hby : c.code = prog_19_method_2_code) (hml : c.maxLocals = 8) (hown : s.vm.findClass "com/example/harrier/harrier/warc/Base32" = some m.cls) (e0 : T0.heap = h0) (N0 : Fr n0 locs) (Z0 : n0 ≤ h0.size) {cs0 : Int32} (hcs : ¬ cs0 = 0) {al ba sb ar : Addr} {kA kB kb : ClassId} {z nn : Int32} {bs xs : List Int32} (C : own_C Z h0 cs0 al kA ba kB nn bs) (B : own_B Z h0 sb ar kb z xs) (n1 : al ≠ sb) (n2 : al ≠ ar) (n3 : ba ≠ sb) (n4 : ba ≠ ar) (hz16 : z.toNatClampNeg ≤ 16) (gs : n0 ≤ sb) (gr : n0 ≤ ar) (v x j : Int32) (s7 : Slot) (h7 : One s7) (hj : ¬ j < 0 ∧ j < nn) (hbx : (bs.map Value.int).getD j.toNatClampNeg (.int (0 : Int32)) = .int x) (hroom : xs.length + 2 ≤ z.toNatClampNeg) :
    ∃ (T' : State) (h' : Heap) (locs' : List Loc), Stand p l e ({ frames := 5, cells := 4, slots := 40, locals := 71 } : Room) s m args below meth c T' locs' 2 20 ∧ T'.heap = h' ∧ Fr n0 locs' ∧ Keep h0 h' [sb, ar] ∧ own_St Z h0 h' ∧ own_B Z h' sb ar kb z (xs ++ own_emit 4 (own_nv v x)) ∧
      ∀ target, Steps p.tables e below (T'.setTop (mkF m 32 #[.val (.ref ba), .val (.ref sb), .val (.int (own_nv v x)), .val (.int (2 : Int32)), .val (.ref ba), .val (.int nn), .val (.int (j + (1 : Int32))), .val (.int x)] [])) target → Steps p.tables e below (T0.setTop (mkF m 32 #[.val (.ref ba), .val (.ref sb), .val (.int v), .val (.int (4 : Int32)), .val (.ref ba), .val (.int nn), .val (.int j), s7] [])) target := by
  obtain ⟨cb, Ab, qb, Sb, Nb, Hb, Gb⟩ := C.2.2.2
  have hinb := inb_of Sb hj
  obtain ⟨T1, X1, e1, st1⟩ := getS2 X0 hx hZ hown (host := "") (Or.inl (hw _ (List.mem_of_getElem? (i := 112) rfl))) Via.refl e0 C.2.1 (g := (mkF m 70 #[.val (.ref ba), .val (.ref sb), .val (.int (own_nv v x)), .val (.int (7 : Int32)), .val (.ref ba), .val (.int nn), .val (.int j), .val (.int x)] [(.ref sb)])) rfl (hb hby den2_70)
  obtain ⟨ca0a, Av0a, qv0a, Sv0a, Nv0a, Hv0a, Gv0a⟩ := C.2.2.1
  have hin0a := inb_of Sv0a (own_al_in (own_ixr (own_nv v x) (7 : Int32)))
  obtain ⟨cq2, kq2, q2a, q2b, q2c⟩ := isOf hZ e1 B.1
  obtain ⟨_, _, ⟨T2, L2, k2, n2⟩, -, X2, ⟨Lc2, hQ2, l2, y2, z2⟩, st2⟩ := X1.virtualBack hx (y := (⟨"java/lang/StringBuilder", "append", "(C)Ljava/lang/StringBuilder;"⟩ : MethodName)) (z := (⟨"java/lang/StringBuilder", "append", "(C)Ljava/lang/StringBuilder;"⟩ : MethodName)) hown (mvT hZ (hw _ (List.mem_of_getElem? (i := 114) rfl))) (mvT hZ (hw _ (List.mem_of_getElem? (i := 115) rfl))) (notFace_of_selects (args := #[]) (mvT hZ (hw _ (List.mem_of_getElem? (i := 117) rfl)))) (mvT hZ (hw _ (List.mem_of_getElem? (i := 117) rfl))) (mvT hZ (hw _ (List.mem_of_getElem? (i := 116) rfl))) (by decide) (backOf (W := 0) (rmSA l Z a0 hw [] sb (own_al (own_ix (own_nv v x) (7 : Int32))) cs0 ar kb z xs h0 n0 (Nat.le_trans Z0 (Keep.refl h0 [sb, ar]).1) C.1 hcs B (own_alr (own_ixr (own_nv v x) (7 : Int32))) (by have := hroom; omega) hz16 gs gr) hZ (hw _ (List.mem_of_getElem? (i := 118) rfl)) (hw _ (List.mem_of_getElem? (i := 8) rfl)) (by decide) (by decide)) q2a q2c (g := (mkF m 80 #[.val (.ref ba), .val (.ref sb), .val (.int (own_nv v x)), .val (.int (7 : Int32)), .val (.ref ba), .val (.int nn), .val (.int j), .val (.int x)] [(.int (own_al (own_ix (own_nv v x) (7 : Int32)))), (.ref sb)])) rfl (by rw [hml]; rfl) (Steps.refl _) (argsL := [(.int (own_al (own_ix (own_nv v x) (7 : Int32))))]) (rest := []) (lenOf pd_den2__C_Ljava_lang_StringBuilder_ rfl) rfl (by show 2 * 0 + _ ≤ _; exact Nat.le_of_eq rfl) (hb hby den2_80) (fun _ _ => ⟨rfl, e1, (by decide : 2 + 0 ≤ _), (by decide : 20 + 0 ≤ _)⟩)
  dsimp only [Pt.U, Pt.locs, Pt.cells, Pt.slots] at X2 l2 y2 z2 st2 hQ2
  subst l2 y2 z2
  obtain ⟨rfl, N2q, K2, St2, B2⟩ := hQ2
  have N2 := Fr.app N0 N2q
  have Kt2 : Keep h0 T2.heap [sb, ar] := (Keep.refl h0 [sb, ar]).trans K2 (fun _ q => Or.inl q)
  have Sx2 : own_St Z h0 T2.heap := own_St.trans own_St.refl St2
  have C2 := own_C_step K2 St2 n1 n2 n3 n4 C
  obtain ⟨T3, X3, e3, st3⟩ := getS2 X2 hx hZ hown (host := "") (Or.inl (hw _ (List.mem_of_getElem? (i := 112) rfl))) Via.refl rfl C2.2.1 (g := (mkF m 70 #[.val (.ref ba), .val (.ref sb), .val (.int (own_nv v x)), .val (.int (2 : Int32)), .val (.ref ba), .val (.int nn), .val (.int j), .val (.int x)] [(.ref sb)])) rfl (hb hby den2_70)
  obtain ⟨ca1a, Av1a, qv1a, Sv1a, Nv1a, Hv1a, Gv1a⟩ := C2.2.2.1
  have hin1a := inb_of Sv1a (own_al_in (own_ixr (own_nv v x) (2 : Int32)))
  obtain ⟨cq4, kq4, q4a, q4b, q4c⟩ := isOf hZ e3 B2.1
  obtain ⟨_, _, ⟨T4, L4, k4, n4⟩, -, X4, ⟨Lc4, hQ4, l4, y4, z4⟩, st4⟩ := X3.virtualBack hx (y := (⟨"java/lang/StringBuilder", "append", "(C)Ljava/lang/StringBuilder;"⟩ : MethodName)) (z := (⟨"java/lang/StringBuilder", "append", "(C)Ljava/lang/StringBuilder;"⟩ : MethodName)) hown (mvT hZ (hw _ (List.mem_of_getElem? (i := 114) rfl))) (mvT hZ (hw _ (List.mem_of_getElem? (i := 115) rfl))) (notFace_of_selects (args := #[]) (mvT hZ (hw _ (List.mem_of_getElem? (i := 117) rfl)))) (mvT hZ (hw _ (List.mem_of_getElem? (i := 117) rfl))) (mvT hZ (hw _ (List.mem_of_getElem? (i := 116) rfl))) (by decide) (backOf (W := 0) (rmSA l Z a0 hw [] sb (own_al (own_ix (own_nv v x) (2 : Int32))) cs0 ar kb z (xs ++ [(own_al (own_ix (own_nv v x) (7 : Int32)))]) T2.heap n0 (Nat.le_trans Z0 Kt2.1) C2.1 hcs B2 (own_alr (own_ixr (own_nv v x) (2 : Int32))) (by simp only [List.length_append, List.length_cons, List.length_nil]; omega) hz16 gs gr) hZ (hw _ (List.mem_of_getElem? (i := 118) rfl)) (hw _ (List.mem_of_getElem? (i := 8) rfl)) (by decide) (by decide)) q4a q4c (g := (mkF m 80 #[.val (.ref ba), .val (.ref sb), .val (.int (own_nv v x)), .val (.int (2 : Int32)), .val (.ref ba), .val (.int nn), .val (.int j), .val (.int x)] [(.int (own_al (own_ix (own_nv v x) (2 : Int32)))), (.ref sb)])) rfl (by rw [hml]; rfl) (Steps.refl _) (argsL := [(.int (own_al (own_ix (own_nv v x) (2 : Int32))))]) (rest := []) (lenOf pd_den2__C_Ljava_lang_StringBuilder_ rfl) rfl (by show 2 * 0 + _ ≤ _; exact Nat.le_of_eq rfl) (hb hby den2_80) (fun _ _ => ⟨rfl, e3, (by decide : 2 + 0 ≤ _), (by decide : 20 + 0 ≤ _)⟩)
  dsimp only [Pt.U, Pt.locs, Pt.cells, Pt.slots] at X4 l4 y4 z4 st4 hQ4
  subst l4 y4 z4
  obtain ⟨rfl, N4q, K4, St4, B4⟩ := hQ4
  have N4 := Fr.app N2 N4q
  have Kt4 : Keep h0 T4.heap [sb, ar] := Kt2.trans K4 (fun _ q => Or.inl q)
  have Sx4 : own_St Z h0 T4.heap := own_St.trans Sx2 St4
  have C4 := own_C_step K4 St4 n1 n2 n3 n4 C2
  have Bf : own_B Z T4.heap sb ar kb z (xs ++ own_emit 4 (own_nv v x)) := by
    have ef : ((xs ++ [(own_al (own_ix (own_nv v x) (7 : Int32)))]) ++ [(own_al (own_ix (own_nv v x) (2 : Int32)))]) = xs ++ own_emit 4 (own_nv v x) := by show _ = xs ++ [own_al (own_ix (own_nv v x) (7 : Int32)), own_al (own_ix (own_nv v x) (2 : Int32))]; simp
    rw [← ef]; exact B4
  refine ⟨T4, T4.heap, _, X4, rfl, N4, Kt4, Sx4, Bf, fun target kt => ?_⟩
  show Steps p.tables e below (T0.setTop (mkF m 32 #[.val (.ref ba), .val (.ref sb), .val (.int v), .val (.int (4 : Int32)), .val (.ref ba), .val (.int nn), .val (.int j), s7] [])) _
  refine XS.iload X0.here hx rfl (hb hby den2_32) rfl ?_
  show Steps p.tables e below (T0.setTop (mkF m 34 #[.val (.ref ba), .val (.ref sb), .val (.int v), .val (.int (4 : Int32)), .val (.ref ba), .val (.int nn), .val (.int j), s7] [(.int j)])) _
  refine XS.iload X0.here hx rfl (hb hby den2_34) rfl ?_
  show Steps p.tables e below (T0.setTop (mkF m 36 #[.val (.ref ba), .val (.ref sb), .val (.int v), .val (.int (4 : Int32)), .val (.ref ba), .val (.int nn), .val (.int j), s7] [(.int nn), (.int j)])) _
  refine XS.icmpNo X0.here hx rfl (hb hby den2_36) rfl (tlt hj.2).2.1 ?_
  show Steps p.tables e below (T0.setTop (mkF m 39 #[.val (.ref ba), .val (.ref sb), .val (.int v), .val (.int (4 : Int32)), .val (.ref ba), .val (.int nn), .val (.int j), s7] [])) _
  refine XS.aload X0.here hx rfl (hb hby den2_39) rfl rfl ?_
  show Steps p.tables e below (T0.setTop (mkF m 41 #[.val (.ref ba), .val (.ref sb), .val (.int v), .val (.int (4 : Int32)), .val (.ref ba), .val (.int nn), .val (.int j), s7] [(.ref ba)])) _
  refine XS.iload X0.here hx rfl (hb hby den2_41) rfl ?_
  show Steps p.tables e below (T0.setTop (mkF m 43 #[.val (.ref ba), .val (.ref sb), .val (.int v), .val (.int (4 : Int32)), .val (.ref ba), .val (.int nn), .val (.int j), s7] [(.int j), (.ref ba)])) _
  refine X0.baloadBytes hx (j := j) (v := (.int x)) (by rw [e0]; exact Ab.1) (State.isArrayOf_alike hZ.alike Ab.2.1) Ab.2.2 hinb (Has.at Hb hinb hbx) (g := (mkF m 43 #[.val (.ref ba), .val (.ref sb), .val (.int v), .val (.int (4 : Int32)), .val (.ref ba), .val (.int nn), .val (.int j), s7] [(.int j), (.ref ba)])) rfl rfl (hb hby den2_43) _ ?_
  show Steps p.tables e below (T0.setTop (mkF m 44 #[.val (.ref ba), .val (.ref sb), .val (.int v), .val (.int (4 : Int32)), .val (.ref ba), .val (.int nn), .val (.int j), s7] [(.int x)])) _
  refine XS.istore X0.here hx rfl (hb hby den2_44) rfl (l' := #[.val (.ref ba), .val (.ref sb), .val (.int v), .val (.int (4 : Int32)), .val (.ref ba), .val (.int nn), .val (.int j), .val (.int x)]) (own_os7 h7) ?_
  show Steps p.tables e below (T0.setTop (mkF m 46 #[.val (.ref ba), .val (.ref sb), .val (.int v), .val (.int (4 : Int32)), .val (.ref ba), .val (.int nn), .val (.int j), .val (.int x)] [])) _
  refine XS.iloadN X0.here hx rfl (hb hby den2_46) rfl ?_
  show Steps p.tables e below (T0.setTop (mkF m 47 #[.val (.ref ba), .val (.ref sb), .val (.int v), .val (.int (4 : Int32)), .val (.ref ba), .val (.int nn), .val (.int j), .val (.int x)] [(.int v)])) _
  refine XS.bipush X0.here hx rfl (hb hby den2_47) ?_
  show Steps p.tables e below (T0.setTop (mkF m 49 #[.val (.ref ba), .val (.ref sb), .val (.int v), .val (.int (4 : Int32)), .val (.ref ba), .val (.int nn), .val (.int j), .val (.int x)] [(.int (8 : Int32)), (.int v)])) _
  refine XS.ishl X0.here hx rfl (hb hby den2_49) rfl ?_
  show Steps p.tables e below (T0.setTop (mkF m 50 #[.val (.ref ba), .val (.ref sb), .val (.int v), .val (.int (4 : Int32)), .val (.ref ba), .val (.int nn), .val (.int j), .val (.int x)] [(.int (v <<< ((8 : Int32) &&& 31)))])) _
  refine XS.iload X0.here hx rfl (hb hby den2_50) rfl ?_
  show Steps p.tables e below (T0.setTop (mkF m 52 #[.val (.ref ba), .val (.ref sb), .val (.int v), .val (.int (4 : Int32)), .val (.ref ba), .val (.int nn), .val (.int j), .val (.int x)] [(.int x), (.int (v <<< ((8 : Int32) &&& 31)))])) _
  refine XS.sipush X0.here hx rfl (hb hby den2_52) ?_
  show Steps p.tables e below (T0.setTop (mkF m 55 #[.val (.ref ba), .val (.ref sb), .val (.int v), .val (.int (4 : Int32)), .val (.ref ba), .val (.int nn), .val (.int j), .val (.int x)] [(.int (255 : Int32)), (.int x), (.int (v <<< ((8 : Int32) &&& 31)))])) _
  refine XS.iand X0.here hx rfl (hb hby den2_55) rfl ?_
  show Steps p.tables e below (T0.setTop (mkF m 56 #[.val (.ref ba), .val (.ref sb), .val (.int v), .val (.int (4 : Int32)), .val (.ref ba), .val (.int nn), .val (.int j), .val (.int x)] [(.int (x &&& (255 : Int32))), (.int (v <<< ((8 : Int32) &&& 31)))])) _
  refine XS.ior X0.here hx rfl (hb hby den2_56) rfl ?_
  show Steps p.tables e below (T0.setTop (mkF m 57 #[.val (.ref ba), .val (.ref sb), .val (.int v), .val (.int (4 : Int32)), .val (.ref ba), .val (.int nn), .val (.int j), .val (.int x)] [(.int ((v <<< ((8 : Int32) &&& 31)) ||| (x &&& (255 : Int32))))])) _
  show Steps p.tables e below (T0.setTop (mkF m 57 #[.val (.ref ba), .val (.ref sb), .val (.int v), .val (.int (4 : Int32)), .val (.ref ba), .val (.int nn), .val (.int j), .val (.int x)] [(.int (own_nv v x))])) _
  refine XS.istoreN X0.here hx rfl (hb hby den2_57) rfl (l' := #[.val (.ref ba), .val (.ref sb), .val (.int (own_nv v x)), .val (.int (4 : Int32)), .val (.ref ba), .val (.int nn), .val (.int j), .val (.int x)]) rfl ?_
  show Steps p.tables e below (T0.setTop (mkF m 58 #[.val (.ref ba), .val (.ref sb), .val (.int (own_nv v x)), .val (.int (4 : Int32)), .val (.ref ba), .val (.int nn), .val (.int j), .val (.int x)] [])) _
  refine XS.iinc X0.here hx rfl (hb hby den2_58) rfl (l' := #[.val (.ref ba), .val (.ref sb), .val (.int (own_nv v x)), .val (.int ((4 : Int32) + (8 : Int32))), .val (.ref ba), .val (.int nn), .val (.int j), .val (.int x)]) rfl ?_
  show Steps p.tables e below (T0.setTop (mkF m 61 #[.val (.ref ba), .val (.ref sb), .val (.int (own_nv v x)), .val (.int ((4 : Int32) + (8 : Int32))), .val (.ref ba), .val (.int nn), .val (.int j), .val (.int x)] [])) _
  rw [show ((4 : Int32) + (8 : Int32)) = (12 : Int32) from by decide]
  show Steps p.tables e below (T0.setTop (mkF m 61 #[.val (.ref ba), .val (.ref sb), .val (.int (own_nv v x)), .val (.int (12 : Int32)), .val (.ref ba), .val (.int nn), .val (.int j), .val (.int x)] [])) _
  refine XS.iloadN X0.here hx rfl (hb hby den2_61) rfl ?_
  show Steps p.tables e below (T0.setTop (mkF m 62 #[.val (.ref ba), .val (.ref sb), .val (.int (own_nv v x)), .val (.int (12 : Int32)), .val (.ref ba), .val (.int nn), .val (.int j), .val (.int x)] [(.int (12 : Int32))])) _
  refine XS.iconst X0.here hx rfl (hb hby den2_62) ?_
  show Steps p.tables e below (T0.setTop (mkF m 63 #[.val (.ref ba), .val (.ref sb), .val (.int (own_nv v x)), .val (.int (12 : Int32)), .val (.ref ba), .val (.int nn), .val (.int j), .val (.int x)] [(.int (5 : Int32)), (.int (12 : Int32))])) _
  refine XS.icmpNo X0.here hx rfl (hb hby den2_63) rfl (flt (by decide)).1 ?_
  show Steps p.tables e below (T0.setTop (mkF m 66 #[.val (.ref ba), .val (.ref sb), .val (.int (own_nv v x)), .val (.int (12 : Int32)), .val (.ref ba), .val (.int nn), .val (.int j), .val (.int x)] [])) _
  refine XS.iinc X0.here hx rfl (hb hby den2_66) rfl (l' := #[.val (.ref ba), .val (.ref sb), .val (.int (own_nv v x)), .val (.int ((12 : Int32) + (-5 : Int32))), .val (.ref ba), .val (.int nn), .val (.int j), .val (.int x)]) rfl ?_
  show Steps p.tables e below (T0.setTop (mkF m 69 #[.val (.ref ba), .val (.ref sb), .val (.int (own_nv v x)), .val (.int ((12 : Int32) + (-5 : Int32))), .val (.ref ba), .val (.int nn), .val (.int j), .val (.int x)] [])) _
  rw [show ((12 : Int32) + (-5 : Int32)) = (7 : Int32) from by decide]
  show Steps p.tables e below (T0.setTop (mkF m 69 #[.val (.ref ba), .val (.ref sb), .val (.int (own_nv v x)), .val (.int (7 : Int32)), .val (.ref ba), .val (.int nn), .val (.int j), .val (.int x)] [])) _
  refine XS.aloadN X0.here hx rfl (hb hby den2_69) rfl rfl ?_
  show Steps p.tables e below (T0.setTop (mkF m 70 #[.val (.ref ba), .val (.ref sb), .val (.int (own_nv v x)), .val (.int (7 : Int32)), .val (.ref ba), .val (.int nn), .val (.int j), .val (.int x)] [(.ref sb)])) _
  refine st1 _ ?_
  show Steps p.tables e below (T1.setTop (mkF m 73 #[.val (.ref ba), .val (.ref sb), .val (.int (own_nv v x)), .val (.int (7 : Int32)), .val (.ref ba), .val (.int nn), .val (.int j), .val (.int x)] [(.ref al), (.ref sb)])) _
  refine XS.iloadN X1.here hx rfl (hb hby den2_73) rfl ?_
  show Steps p.tables e below (T1.setTop (mkF m 74 #[.val (.ref ba), .val (.ref sb), .val (.int (own_nv v x)), .val (.int (7 : Int32)), .val (.ref ba), .val (.int nn), .val (.int j), .val (.int x)] [(.int (own_nv v x)), (.ref al), (.ref sb)])) _
  refine XS.iloadN X1.here hx rfl (hb hby den2_74) rfl ?_
  show Steps p.tables e below (T1.setTop (mkF m 75 #[.val (.ref ba), .val (.ref sb), .val (.int (own_nv v x)), .val (.int (7 : Int32)), .val (.ref ba), .val (.int nn), .val (.int j), .val (.int x)] [(.int (7 : Int32)), (.int (own_nv v x)), (.ref al), (.ref sb)])) _
  refine XS.iushr X1.here hx rfl (hb hby den2_75) rfl ?_
  show Steps p.tables e below (T1.setTop (mkF m 76 #[.val (.ref ba), .val (.ref sb), .val (.int (own_nv v x)), .val (.int (7 : Int32)), .val (.ref ba), .val (.int nn), .val (.int j), .val (.int x)] [(.int (((own_nv v x).toUInt32 >>> ((7 : Int32) &&& 31).toUInt32).toInt32)), (.ref al), (.ref sb)])) _
  refine XS.bipush X1.here hx rfl (hb hby den2_76) ?_
  show Steps p.tables e below (T1.setTop (mkF m 78 #[.val (.ref ba), .val (.ref sb), .val (.int (own_nv v x)), .val (.int (7 : Int32)), .val (.ref ba), .val (.int nn), .val (.int j), .val (.int x)] [(.int (31 : Int32)), (.int (((own_nv v x).toUInt32 >>> ((7 : Int32) &&& 31).toUInt32).toInt32)), (.ref al), (.ref sb)])) _
  refine XS.iand X1.here hx rfl (hb hby den2_78) rfl ?_
  show Steps p.tables e below (T1.setTop (mkF m 79 #[.val (.ref ba), .val (.ref sb), .val (.int (own_nv v x)), .val (.int (7 : Int32)), .val (.ref ba), .val (.int nn), .val (.int j), .val (.int x)] [(.int ((((own_nv v x).toUInt32 >>> ((7 : Int32) &&& 31).toUInt32).toInt32) &&& (31 : Int32))), (.ref al), (.ref sb)])) _
  show Steps p.tables e below (T1.setTop (mkF m 79 #[.val (.ref ba), .val (.ref sb), .val (.int (own_nv v x)), .val (.int (7 : Int32)), .val (.ref ba), .val (.int nn), .val (.int j), .val (.int x)] [(.int (own_ix (own_nv v x) (7 : Int32))), (.ref al), (.ref sb)])) _
  refine X1.caload hx (j := (own_ix (own_nv v x) (7 : Int32))) (v := (.int (own_al (own_ix (own_nv v x) (7 : Int32))))) (by rw [e1]; exact Av0a.1) (State.isArrayOf_alike hZ.alike Av0a.2.1) Av0a.2.2 hin0a (Has.at Hv0a hin0a (own_alat (own_ixr (own_nv v x) (7 : Int32)))) (g := (mkF m 79 #[.val (.ref ba), .val (.ref sb), .val (.int (own_nv v x)), .val (.int (7 : Int32)), .val (.ref ba), .val (.int nn), .val (.int j), .val (.int x)] [(.int (own_ix (own_nv v x) (7 : Int32))), (.ref al), (.ref sb)])) rfl rfl (hb hby den2_79) _ ?_
  show Steps p.tables e below (T1.setTop (mkF m 80 #[.val (.ref ba), .val (.ref sb), .val (.int (own_nv v x)), .val (.int (7 : Int32)), .val (.ref ba), .val (.int nn), .val (.int j), .val (.int x)] [(.int (own_al (own_ix (own_nv v x) (7 : Int32)))), (.ref sb)])) _
  refine st2.trans ?_
  show Steps p.tables e below (T2.setTop (mkF m 83 #[.val (.ref ba), .val (.ref sb), .val (.int (own_nv v x)), .val (.int (7 : Int32)), .val (.ref ba), .val (.int nn), .val (.int j), .val (.int x)] [(.ref sb)])) _
  refine XS.pop X2.here hx rfl (hb hby den2_83) rfl rfl ?_
  show Steps p.tables e below (T2.setTop (mkF m 84 #[.val (.ref ba), .val (.ref sb), .val (.int (own_nv v x)), .val (.int (7 : Int32)), .val (.ref ba), .val (.int nn), .val (.int j), .val (.int x)] [])) _
  refine XS.goto X2.here hx rfl (pc0 := 84) (pc' := 61) rfl (hb hby den2_84) (by decide) (by decide) ?_
  show Steps p.tables e below (T2.setTop (mkF m 61 #[.val (.ref ba), .val (.ref sb), .val (.int (own_nv v x)), .val (.int (7 : Int32)), .val (.ref ba), .val (.int nn), .val (.int j), .val (.int x)] [])) _
  refine XS.iloadN X2.here hx rfl (hb hby den2_61) rfl ?_
  show Steps p.tables e below (T2.setTop (mkF m 62 #[.val (.ref ba), .val (.ref sb), .val (.int (own_nv v x)), .val (.int (7 : Int32)), .val (.ref ba), .val (.int nn), .val (.int j), .val (.int x)] [(.int (7 : Int32))])) _
  refine XS.iconst X2.here hx rfl (hb hby den2_62) ?_
  show Steps p.tables e below (T2.setTop (mkF m 63 #[.val (.ref ba), .val (.ref sb), .val (.int (own_nv v x)), .val (.int (7 : Int32)), .val (.ref ba), .val (.int nn), .val (.int j), .val (.int x)] [(.int (5 : Int32)), (.int (7 : Int32))])) _
  refine XS.icmpNo X2.here hx rfl (hb hby den2_63) rfl (flt (by decide)).1 ?_
  show Steps p.tables e below (T2.setTop (mkF m 66 #[.val (.ref ba), .val (.ref sb), .val (.int (own_nv v x)), .val (.int (7 : Int32)), .val (.ref ba), .val (.int nn), .val (.int j), .val (.int x)] [])) _
  refine XS.iinc X2.here hx rfl (hb hby den2_66) rfl (l' := #[.val (.ref ba), .val (.ref sb), .val (.int (own_nv v x)), .val (.int ((7 : Int32) + (-5 : Int32))), .val (.ref ba), .val (.int nn), .val (.int j), .val (.int x)]) rfl ?_
  show Steps p.tables e below (T2.setTop (mkF m 69 #[.val (.ref ba), .val (.ref sb), .val (.int (own_nv v x)), .val (.int ((7 : Int32) + (-5 : Int32))), .val (.ref ba), .val (.int nn), .val (.int j), .val (.int x)] [])) _
  rw [show ((7 : Int32) + (-5 : Int32)) = (2 : Int32) from by decide]
  show Steps p.tables e below (T2.setTop (mkF m 69 #[.val (.ref ba), .val (.ref sb), .val (.int (own_nv v x)), .val (.int (2 : Int32)), .val (.ref ba), .val (.int nn), .val (.int j), .val (.int x)] [])) _
  refine XS.aloadN X2.here hx rfl (hb hby den2_69) rfl rfl ?_
  show Steps p.tables e below (T2.setTop (mkF m 70 #[.val (.ref ba), .val (.ref sb), .val (.int (own_nv v x)), .val (.int (2 : Int32)), .val (.ref ba), .val (.int nn), .val (.int j), .val (.int x)] [(.ref sb)])) _
  refine st3 _ ?_
  show Steps p.tables e below (T3.setTop (mkF m 73 #[.val (.ref ba), .val (.ref sb), .val (.int (own_nv v x)), .val (.int (2 : Int32)), .val (.ref ba), .val (.int nn), .val (.int j), .val (.int x)] [(.ref al), (.ref sb)])) _
  refine XS.iloadN X3.here hx rfl (hb hby den2_73) rfl ?_
  show Steps p.tables e below (T3.setTop (mkF m 74 #[.val (.ref ba), .val (.ref sb), .val (.int (own_nv v x)), .val (.int (2 : Int32)), .val (.ref ba), .val (.int nn), .val (.int j), .val (.int x)] [(.int (own_nv v x)), (.ref al), (.ref sb)])) _
  refine XS.iloadN X3.here hx rfl (hb hby den2_74) rfl ?_
  show Steps p.tables e below (T3.setTop (mkF m 75 #[.val (.ref ba), .val (.ref sb), .val (.int (own_nv v x)), .val (.int (2 : Int32)), .val (.ref ba), .val (.int nn), .val (.int j), .val (.int x)] [(.int (2 : Int32)), (.int (own_nv v x)), (.ref al), (.ref sb)])) _
  refine XS.iushr X3.here hx rfl (hb hby den2_75) rfl ?_
  show Steps p.tables e below (T3.setTop (mkF m 76 #[.val (.ref ba), .val (.ref sb), .val (.int (own_nv v x)), .val (.int (2 : Int32)), .val (.ref ba), .val (.int nn), .val (.int j), .val (.int x)] [(.int (((own_nv v x).toUInt32 >>> ((2 : Int32) &&& 31).toUInt32).toInt32)), (.ref al), (.ref sb)])) _
  refine XS.bipush X3.here hx rfl (hb hby den2_76) ?_
  show Steps p.tables e below (T3.setTop (mkF m 78 #[.val (.ref ba), .val (.ref sb), .val (.int (own_nv v x)), .val (.int (2 : Int32)), .val (.ref ba), .val (.int nn), .val (.int j), .val (.int x)] [(.int (31 : Int32)), (.int (((own_nv v x).toUInt32 >>> ((2 : Int32) &&& 31).toUInt32).toInt32)), (.ref al), (.ref sb)])) _
  refine XS.iand X3.here hx rfl (hb hby den2_78) rfl ?_
  show Steps p.tables e below (T3.setTop (mkF m 79 #[.val (.ref ba), .val (.ref sb), .val (.int (own_nv v x)), .val (.int (2 : Int32)), .val (.ref ba), .val (.int nn), .val (.int j), .val (.int x)] [(.int ((((own_nv v x).toUInt32 >>> ((2 : Int32) &&& 31).toUInt32).toInt32) &&& (31 : Int32))), (.ref al), (.ref sb)])) _
  show Steps p.tables e below (T3.setTop (mkF m 79 #[.val (.ref ba), .val (.ref sb), .val (.int (own_nv v x)), .val (.int (2 : Int32)), .val (.ref ba), .val (.int nn), .val (.int j), .val (.int x)] [(.int (own_ix (own_nv v x) (2 : Int32))), (.ref al), (.ref sb)])) _
  refine X3.caload hx (j := (own_ix (own_nv v x) (2 : Int32))) (v := (.int (own_al (own_ix (own_nv v x) (2 : Int32))))) (by rw [e3]; exact Av1a.1) (State.isArrayOf_alike hZ.alike Av1a.2.1) Av1a.2.2 hin1a (Has.at Hv1a hin1a (own_alat (own_ixr (own_nv v x) (2 : Int32)))) (g := (mkF m 79 #[.val (.ref ba), .val (.ref sb), .val (.int (own_nv v x)), .val (.int (2 : Int32)), .val (.ref ba), .val (.int nn), .val (.int j), .val (.int x)] [(.int (own_ix (own_nv v x) (2 : Int32))), (.ref al), (.ref sb)])) rfl rfl (hb hby den2_79) _ ?_
  show Steps p.tables e below (T3.setTop (mkF m 80 #[.val (.ref ba), .val (.ref sb), .val (.int (own_nv v x)), .val (.int (2 : Int32)), .val (.ref ba), .val (.int nn), .val (.int j), .val (.int x)] [(.int (own_al (own_ix (own_nv v x) (2 : Int32)))), (.ref sb)])) _
  refine st4.trans ?_
  show Steps p.tables e below (T4.setTop (mkF m 83 #[.val (.ref ba), .val (.ref sb), .val (.int (own_nv v x)), .val (.int (2 : Int32)), .val (.ref ba), .val (.int nn), .val (.int j), .val (.int x)] [(.ref sb)])) _
  refine XS.pop X4.here hx rfl (hb hby den2_83) rfl rfl ?_
  show Steps p.tables e below (T4.setTop (mkF m 84 #[.val (.ref ba), .val (.ref sb), .val (.int (own_nv v x)), .val (.int (2 : Int32)), .val (.ref ba), .val (.int nn), .val (.int j), .val (.int x)] [])) _
  refine XS.goto X4.here hx rfl (pc0 := 84) (pc' := 61) rfl (hb hby den2_84) (by decide) (by decide) ?_
  show Steps p.tables e below (T4.setTop (mkF m 61 #[.val (.ref ba), .val (.ref sb), .val (.int (own_nv v x)), .val (.int (2 : Int32)), .val (.ref ba), .val (.int nn), .val (.int j), .val (.int x)] [])) _
  refine XS.iloadN X4.here hx rfl (hb hby den2_61) rfl ?_
  show Steps p.tables e below (T4.setTop (mkF m 62 #[.val (.ref ba), .val (.ref sb), .val (.int (own_nv v x)), .val (.int (2 : Int32)), .val (.ref ba), .val (.int nn), .val (.int j), .val (.int x)] [(.int (2 : Int32))])) _
  refine XS.iconst X4.here hx rfl (hb hby den2_62) ?_
  show Steps p.tables e below (T4.setTop (mkF m 63 #[.val (.ref ba), .val (.ref sb), .val (.int (own_nv v x)), .val (.int (2 : Int32)), .val (.ref ba), .val (.int nn), .val (.int j), .val (.int x)] [(.int (5 : Int32)), (.int (2 : Int32))])) _
  refine XS.icmpYes X4.here hx rfl (pc0 := 63) (pc' := 87) rfl (hb hby den2_63) rfl (tlt (by decide)).1 (by decide) (by decide) ?_
  show Steps p.tables e below (T4.setTop (mkF m 87 #[.val (.ref ba), .val (.ref sb), .val (.int (own_nv v x)), .val (.int (2 : Int32)), .val (.ref ba), .val (.int nn), .val (.int j), .val (.int x)] [])) _
  refine XS.iinc X4.here hx rfl (hb hby den2_87) rfl (l' := #[.val (.ref ba), .val (.ref sb), .val (.int (own_nv v x)), .val (.int (2 : Int32)), .val (.ref ba), .val (.int nn), .val (.int (j + (1 : Int32))), .val (.int x)]) rfl ?_
  show Steps p.tables e below (T4.setTop (mkF m 90 #[.val (.ref ba), .val (.ref sb), .val (.int (own_nv v x)), .val (.int (2 : Int32)), .val (.ref ba), .val (.int nn), .val (.int (j + (1 : Int32))), .val (.int x)] [])) _
  refine XS.goto X4.here hx rfl (pc0 := 90) (pc' := 32) rfl (hb hby den2_90) (by decide) (by decide) ?_
  show Steps p.tables e below (T4.setTop (mkF m 32 #[.val (.ref ba), .val (.ref sb), .val (.int (own_nv v x)), .val (.int (2 : Int32)), .val (.ref ba), .val (.int nn), .val (.int (j + (1 : Int32))), .val (.int x)] [])) _
  exact kt

set_option maxRecDepth 65536 in
set_option maxHeartbeats 40000000 in
theorem own_turn2 {p : Program} {l : Launch} {e : Env} {s : State} {m : MethodId} {args : Array Value} {below : List Frame} {meth : Method} {c : Code} {T0 : State} {locs : List Loc} {Z : State} {a0 : Array Value} {h0 : Heap} {n0 : Nat} (X0 : Stand p l e ({ frames := 5, cells := 4, slots := 40, locals := 71 } : Room) s m args below meth c T0 locs 2 20) (hx : p.tables.exec = Jvm.exec) (hZ : Z.Warmed39 s.vm) (hw : ∀ d ∈ tables_1, d.before a0 Z = true) (hby : c.code = prog_19_method_2_code) (hml : c.maxLocals = 8) (hown : s.vm.findClass "com/example/harrier/harrier/warc/Base32" = some m.cls) (e0 : T0.heap = h0) (N0 : Fr n0 locs) (Z0 : n0 ≤ h0.size) {cs0 : Int32} (hcs : ¬ cs0 = 0) {al ba sb ar : Addr} {kA kB kb : ClassId} {z nn : Int32} {bs xs : List Int32} (C : own_C Z h0 cs0 al kA ba kB nn bs) (B : own_B Z h0 sb ar kb z xs) (n1 : al ≠ sb) (n2 : al ≠ ar) (n3 : ba ≠ sb) (n4 : ba ≠ ar) (hz16 : z.toNatClampNeg ≤ 16) (gs : n0 ≤ sb) (gr : n0 ≤ ar) (v x j : Int32) (s7 : Slot) (h7 : One s7) (hj : ¬ j < 0 ∧ j < nn) (hbx : (bs.map Value.int).getD j.toNatClampNeg (.int (0 : Int32)) = .int x) (hroom : xs.length + 2 ≤ z.toNatClampNeg) :
    ∃ (T' : State) (h' : Heap) (locs' : List Loc), Stand p l e ({ frames := 5, cells := 4, slots := 40, locals := 71 } : Room) s m args below meth c T' locs' 2 20 ∧ T'.heap = h' ∧ Fr n0 locs' ∧ Keep h0 h' [sb, ar] ∧ own_St Z h0 h' ∧ own_B Z h' sb ar kb z (xs ++ own_emit 2 (own_nv v x)) ∧
      ∀ target, Steps p.tables e below (T'.setTop (mkF m 32 #[.val (.ref ba), .val (.ref sb), .val (.int (own_nv v x)), .val (.int (0 : Int32)), .val (.ref ba), .val (.int nn), .val (.int (j + (1 : Int32))), .val (.int x)] [])) target → Steps p.tables e below (T0.setTop (mkF m 32 #[.val (.ref ba), .val (.ref sb), .val (.int v), .val (.int (2 : Int32)), .val (.ref ba), .val (.int nn), .val (.int j), s7] [])) target := by
  obtain ⟨cb, Ab, qb, Sb, Nb, Hb, Gb⟩ := C.2.2.2
  have hinb := inb_of Sb hj
  obtain ⟨T1, X1, e1, st1⟩ := getS2 X0 hx hZ hown (host := "") (Or.inl (hw _ (List.mem_of_getElem? (i := 112) rfl))) Via.refl e0 C.2.1 (g := (mkF m 70 #[.val (.ref ba), .val (.ref sb), .val (.int (own_nv v x)), .val (.int (5 : Int32)), .val (.ref ba), .val (.int nn), .val (.int j), .val (.int x)] [(.ref sb)])) rfl (hb hby den2_70)
  obtain ⟨ca0a, Av0a, qv0a, Sv0a, Nv0a, Hv0a, Gv0a⟩ := C.2.2.1
  have hin0a := inb_of Sv0a (own_al_in (own_ixr (own_nv v x) (5 : Int32)))
  obtain ⟨cq2, kq2, q2a, q2b, q2c⟩ := isOf hZ e1 B.1
  obtain ⟨_, _, ⟨T2, L2, k2, n2⟩, -, X2, ⟨Lc2, hQ2, l2, y2, z2⟩, st2⟩ := X1.virtualBack hx (y := (⟨"java/lang/StringBuilder", "append", "(C)Ljava/lang/StringBuilder;"⟩ : MethodName)) (z := (⟨"java/lang/StringBuilder", "append", "(C)Ljava/lang/StringBuilder;"⟩ : MethodName)) hown (mvT hZ (hw _ (List.mem_of_getElem? (i := 114) rfl))) (mvT hZ (hw _ (List.mem_of_getElem? (i := 115) rfl))) (notFace_of_selects (args := #[]) (mvT hZ (hw _ (List.mem_of_getElem? (i := 117) rfl)))) (mvT hZ (hw _ (List.mem_of_getElem? (i := 117) rfl))) (mvT hZ (hw _ (List.mem_of_getElem? (i := 116) rfl))) (by decide) (backOf (W := 0) (rmSA l Z a0 hw [] sb (own_al (own_ix (own_nv v x) (5 : Int32))) cs0 ar kb z xs h0 n0 (Nat.le_trans Z0 (Keep.refl h0 [sb, ar]).1) C.1 hcs B (own_alr (own_ixr (own_nv v x) (5 : Int32))) (by have := hroom; omega) hz16 gs gr) hZ (hw _ (List.mem_of_getElem? (i := 118) rfl)) (hw _ (List.mem_of_getElem? (i := 8) rfl)) (by decide) (by decide)) q2a q2c (g := (mkF m 80 #[.val (.ref ba), .val (.ref sb), .val (.int (own_nv v x)), .val (.int (5 : Int32)), .val (.ref ba), .val (.int nn), .val (.int j), .val (.int x)] [(.int (own_al (own_ix (own_nv v x) (5 : Int32)))), (.ref sb)])) rfl (by rw [hml]; rfl) (Steps.refl _) (argsL := [(.int (own_al (own_ix (own_nv v x) (5 : Int32))))]) (rest := []) (lenOf pd_den2__C_Ljava_lang_StringBuilder_ rfl) rfl (by show 2 * 0 + _ ≤ _; exact Nat.le_of_eq rfl) (hb hby den2_80) (fun _ _ => ⟨rfl, e1, (by decide : 2 + 0 ≤ _), (by decide : 20 + 0 ≤ _)⟩)
  dsimp only [Pt.U, Pt.locs, Pt.cells, Pt.slots] at X2 l2 y2 z2 st2 hQ2
  subst l2 y2 z2
  obtain ⟨rfl, N2q, K2, St2, B2⟩ := hQ2
  have N2 := Fr.app N0 N2q
  have Kt2 : Keep h0 T2.heap [sb, ar] := (Keep.refl h0 [sb, ar]).trans K2 (fun _ q => Or.inl q)
  have Sx2 : own_St Z h0 T2.heap := own_St.trans own_St.refl St2
  have C2 := own_C_step K2 St2 n1 n2 n3 n4 C
  obtain ⟨T3, X3, e3, st3⟩ := getS2 X2 hx hZ hown (host := "") (Or.inl (hw _ (List.mem_of_getElem? (i := 112) rfl))) Via.refl rfl C2.2.1 (g := (mkF m 70 #[.val (.ref ba), .val (.ref sb), .val (.int (own_nv v x)), .val (.int (0 : Int32)), .val (.ref ba), .val (.int nn), .val (.int j), .val (.int x)] [(.ref sb)])) rfl (hb hby den2_70)
  obtain ⟨ca1a, Av1a, qv1a, Sv1a, Nv1a, Hv1a, Gv1a⟩ := C2.2.2.1
  have hin1a := inb_of Sv1a (own_al_in (own_ixr (own_nv v x) (0 : Int32)))
  obtain ⟨cq4, kq4, q4a, q4b, q4c⟩ := isOf hZ e3 B2.1
  obtain ⟨_, _, ⟨T4, L4, k4, n4⟩, -, X4, ⟨Lc4, hQ4, l4, y4, z4⟩, st4⟩ := X3.virtualBack hx (y := (⟨"java/lang/StringBuilder", "append", "(C)Ljava/lang/StringBuilder;"⟩ : MethodName)) (z := (⟨"java/lang/StringBuilder", "append", "(C)Ljava/lang/StringBuilder;"⟩ : MethodName)) hown (mvT hZ (hw _ (List.mem_of_getElem? (i := 114) rfl))) (mvT hZ (hw _ (List.mem_of_getElem? (i := 115) rfl))) (notFace_of_selects (args := #[]) (mvT hZ (hw _ (List.mem_of_getElem? (i := 117) rfl)))) (mvT hZ (hw _ (List.mem_of_getElem? (i := 117) rfl))) (mvT hZ (hw _ (List.mem_of_getElem? (i := 116) rfl))) (by decide) (backOf (W := 0) (rmSA l Z a0 hw [] sb (own_al (own_ix (own_nv v x) (0 : Int32))) cs0 ar kb z (xs ++ [(own_al (own_ix (own_nv v x) (5 : Int32)))]) T2.heap n0 (Nat.le_trans Z0 Kt2.1) C2.1 hcs B2 (own_alr (own_ixr (own_nv v x) (0 : Int32))) (by simp only [List.length_append, List.length_cons, List.length_nil]; omega) hz16 gs gr) hZ (hw _ (List.mem_of_getElem? (i := 118) rfl)) (hw _ (List.mem_of_getElem? (i := 8) rfl)) (by decide) (by decide)) q4a q4c (g := (mkF m 80 #[.val (.ref ba), .val (.ref sb), .val (.int (own_nv v x)), .val (.int (0 : Int32)), .val (.ref ba), .val (.int nn), .val (.int j), .val (.int x)] [(.int (own_al (own_ix (own_nv v x) (0 : Int32)))), (.ref sb)])) rfl (by rw [hml]; rfl) (Steps.refl _) (argsL := [(.int (own_al (own_ix (own_nv v x) (0 : Int32))))]) (rest := []) (lenOf pd_den2__C_Ljava_lang_StringBuilder_ rfl) rfl (by show 2 * 0 + _ ≤ _; exact Nat.le_of_eq rfl) (hb hby den2_80) (fun _ _ => ⟨rfl, e3, (by decide : 2 + 0 ≤ _), (by decide : 20 + 0 ≤ _)⟩)
  dsimp only [Pt.U, Pt.locs, Pt.cells, Pt.slots] at X4 l4 y4 z4 st4 hQ4
  subst l4 y4 z4
  obtain ⟨rfl, N4q, K4, St4, B4⟩ := hQ4
  have N4 := Fr.app N2 N4q
  have Kt4 : Keep h0 T4.heap [sb, ar] := Kt2.trans K4 (fun _ q => Or.inl q)
  have Sx4 : own_St Z h0 T4.heap := own_St.trans Sx2 St4
  have C4 := own_C_step K4 St4 n1 n2 n3 n4 C2
  have Bf : own_B Z T4.heap sb ar kb z (xs ++ own_emit 2 (own_nv v x)) := by
    have ef : ((xs ++ [(own_al (own_ix (own_nv v x) (5 : Int32)))]) ++ [(own_al (own_ix (own_nv v x) (0 : Int32)))]) = xs ++ own_emit 2 (own_nv v x) := by show _ = xs ++ [own_al (own_ix (own_nv v x) (5 : Int32)), own_al (own_ix (own_nv v x) (0 : Int32))]; simp
    rw [← ef]; exact B4
  refine ⟨T4, T4.heap, _, X4, rfl, N4, Kt4, Sx4, Bf, fun target kt => ?_⟩
  show Steps p.tables e below (T0.setTop (mkF m 32 #[.val (.ref ba), .val (.ref sb), .val (.int v), .val (.int (2 : Int32)), .val (.ref ba), .val (.int nn), .val (.int j), s7] [])) _
  refine XS.iload X0.here hx rfl (hb hby den2_32) rfl ?_
  show Steps p.tables e below (T0.setTop (mkF m 34 #[.val (.ref ba), .val (.ref sb), .val (.int v), .val (.int (2 : Int32)), .val (.ref ba), .val (.int nn), .val (.int j), s7] [(.int j)])) _
  refine XS.iload X0.here hx rfl (hb hby den2_34) rfl ?_
  show Steps p.tables e below (T0.setTop (mkF m 36 #[.val (.ref ba), .val (.ref sb), .val (.int v), .val (.int (2 : Int32)), .val (.ref ba), .val (.int nn), .val (.int j), s7] [(.int nn), (.int j)])) _
  refine XS.icmpNo X0.here hx rfl (hb hby den2_36) rfl (tlt hj.2).2.1 ?_
  show Steps p.tables e below (T0.setTop (mkF m 39 #[.val (.ref ba), .val (.ref sb), .val (.int v), .val (.int (2 : Int32)), .val (.ref ba), .val (.int nn), .val (.int j), s7] [])) _
  refine XS.aload X0.here hx rfl (hb hby den2_39) rfl rfl ?_
  show Steps p.tables e below (T0.setTop (mkF m 41 #[.val (.ref ba), .val (.ref sb), .val (.int v), .val (.int (2 : Int32)), .val (.ref ba), .val (.int nn), .val (.int j), s7] [(.ref ba)])) _
  refine XS.iload X0.here hx rfl (hb hby den2_41) rfl ?_
  show Steps p.tables e below (T0.setTop (mkF m 43 #[.val (.ref ba), .val (.ref sb), .val (.int v), .val (.int (2 : Int32)), .val (.ref ba), .val (.int nn), .val (.int j), s7] [(.int j), (.ref ba)])) _
  refine X0.baloadBytes hx (j := j) (v := (.int x)) (by rw [e0]; exact Ab.1) (State.isArrayOf_alike hZ.alike Ab.2.1) Ab.2.2 hinb (Has.at Hb hinb hbx) (g := (mkF m 43 #[.val (.ref ba), .val (.ref sb), .val (.int v), .val (.int (2 : Int32)), .val (.ref ba), .val (.int nn), .val (.int j), s7] [(.int j), (.ref ba)])) rfl rfl (hb hby den2_43) _ ?_
  show Steps p.tables e below (T0.setTop (mkF m 44 #[.val (.ref ba), .val (.ref sb), .val (.int v), .val (.int (2 : Int32)), .val (.ref ba), .val (.int nn), .val (.int j), s7] [(.int x)])) _
  refine XS.istore X0.here hx rfl (hb hby den2_44) rfl (l' := #[.val (.ref ba), .val (.ref sb), .val (.int v), .val (.int (2 : Int32)), .val (.ref ba), .val (.int nn), .val (.int j), .val (.int x)]) (own_os7 h7) ?_
  show Steps p.tables e below (T0.setTop (mkF m 46 #[.val (.ref ba), .val (.ref sb), .val (.int v), .val (.int (2 : Int32)), .val (.ref ba), .val (.int nn), .val (.int j), .val (.int x)] [])) _
  refine XS.iloadN X0.here hx rfl (hb hby den2_46) rfl ?_
  show Steps p.tables e below (T0.setTop (mkF m 47 #[.val (.ref ba), .val (.ref sb), .val (.int v), .val (.int (2 : Int32)), .val (.ref ba), .val (.int nn), .val (.int j), .val (.int x)] [(.int v)])) _
  refine XS.bipush X0.here hx rfl (hb hby den2_47) ?_
  show Steps p.tables e below (T0.setTop (mkF m 49 #[.val (.ref ba), .val (.ref sb), .val (.int v), .val (.int (2 : Int32)), .val (.ref ba), .val (.int nn), .val (.int j), .val (.int x)] [(.int (8 : Int32)), (.int v)])) _
  refine XS.ishl X0.here hx rfl (hb hby den2_49) rfl ?_
  show Steps p.tables e below (T0.setTop (mkF m 50 #[.val (.ref ba), .val (.ref sb), .val (.int v), .val (.int (2 : Int32)), .val (.ref ba), .val (.int nn), .val (.int j), .val (.int x)] [(.int (v <<< ((8 : Int32) &&& 31)))])) _
  refine XS.iload X0.here hx rfl (hb hby den2_50) rfl ?_
  show Steps p.tables e below (T0.setTop (mkF m 52 #[.val (.ref ba), .val (.ref sb), .val (.int v), .val (.int (2 : Int32)), .val (.ref ba), .val (.int nn), .val (.int j), .val (.int x)] [(.int x), (.int (v <<< ((8 : Int32) &&& 31)))])) _
  refine XS.sipush X0.here hx rfl (hb hby den2_52) ?_
  show Steps p.tables e below (T0.setTop (mkF m 55 #[.val (.ref ba), .val (.ref sb), .val (.int v), .val (.int (2 : Int32)), .val (.ref ba), .val (.int nn), .val (.int j), .val (.int x)] [(.int (255 : Int32)), (.int x), (.int (v <<< ((8 : Int32) &&& 31)))])) _
  refine XS.iand X0.here hx rfl (hb hby den2_55) rfl ?_
  show Steps p.tables e below (T0.setTop (mkF m 56 #[.val (.ref ba), .val (.ref sb), .val (.int v), .val (.int (2 : Int32)), .val (.ref ba), .val (.int nn), .val (.int j), .val (.int x)] [(.int (x &&& (255 : Int32))), (.int (v <<< ((8 : Int32) &&& 31)))])) _
  refine XS.ior X0.here hx rfl (hb hby den2_56) rfl ?_
  show Steps p.tables e below (T0.setTop (mkF m 57 #[.val (.ref ba), .val (.ref sb), .val (.int v), .val (.int (2 : Int32)), .val (.ref ba), .val (.int nn), .val (.int j), .val (.int x)] [(.int ((v <<< ((8 : Int32) &&& 31)) ||| (x &&& (255 : Int32))))])) _
  show Steps p.tables e below (T0.setTop (mkF m 57 #[.val (.ref ba), .val (.ref sb), .val (.int v), .val (.int (2 : Int32)), .val (.ref ba), .val (.int nn), .val (.int j), .val (.int x)] [(.int (own_nv v x))])) _
  refine XS.istoreN X0.here hx rfl (hb hby den2_57) rfl (l' := #[.val (.ref ba), .val (.ref sb), .val (.int (own_nv v x)), .val (.int (2 : Int32)), .val (.ref ba), .val (.int nn), .val (.int j), .val (.int x)]) rfl ?_
  show Steps p.tables e below (T0.setTop (mkF m 58 #[.val (.ref ba), .val (.ref sb), .val (.int (own_nv v x)), .val (.int (2 : Int32)), .val (.ref ba), .val (.int nn), .val (.int j), .val (.int x)] [])) _
  refine XS.iinc X0.here hx rfl (hb hby den2_58) rfl (l' := #[.val (.ref ba), .val (.ref sb), .val (.int (own_nv v x)), .val (.int ((2 : Int32) + (8 : Int32))), .val (.ref ba), .val (.int nn), .val (.int j), .val (.int x)]) rfl ?_
  show Steps p.tables e below (T0.setTop (mkF m 61 #[.val (.ref ba), .val (.ref sb), .val (.int (own_nv v x)), .val (.int ((2 : Int32) + (8 : Int32))), .val (.ref ba), .val (.int nn), .val (.int j), .val (.int x)] [])) _
  rw [show ((2 : Int32) + (8 : Int32)) = (10 : Int32) from by decide]
  show Steps p.tables e below (T0.setTop (mkF m 61 #[.val (.ref ba), .val (.ref sb), .val (.int (own_nv v x)), .val (.int (10 : Int32)), .val (.ref ba), .val (.int nn), .val (.int j), .val (.int x)] [])) _
  refine XS.iloadN X0.here hx rfl (hb hby den2_61) rfl ?_
  show Steps p.tables e below (T0.setTop (mkF m 62 #[.val (.ref ba), .val (.ref sb), .val (.int (own_nv v x)), .val (.int (10 : Int32)), .val (.ref ba), .val (.int nn), .val (.int j), .val (.int x)] [(.int (10 : Int32))])) _
  refine XS.iconst X0.here hx rfl (hb hby den2_62) ?_
  show Steps p.tables e below (T0.setTop (mkF m 63 #[.val (.ref ba), .val (.ref sb), .val (.int (own_nv v x)), .val (.int (10 : Int32)), .val (.ref ba), .val (.int nn), .val (.int j), .val (.int x)] [(.int (5 : Int32)), (.int (10 : Int32))])) _
  refine XS.icmpNo X0.here hx rfl (hb hby den2_63) rfl (flt (by decide)).1 ?_
  show Steps p.tables e below (T0.setTop (mkF m 66 #[.val (.ref ba), .val (.ref sb), .val (.int (own_nv v x)), .val (.int (10 : Int32)), .val (.ref ba), .val (.int nn), .val (.int j), .val (.int x)] [])) _
  refine XS.iinc X0.here hx rfl (hb hby den2_66) rfl (l' := #[.val (.ref ba), .val (.ref sb), .val (.int (own_nv v x)), .val (.int ((10 : Int32) + (-5 : Int32))), .val (.ref ba), .val (.int nn), .val (.int j), .val (.int x)]) rfl ?_
  show Steps p.tables e below (T0.setTop (mkF m 69 #[.val (.ref ba), .val (.ref sb), .val (.int (own_nv v x)), .val (.int ((10 : Int32) + (-5 : Int32))), .val (.ref ba), .val (.int nn), .val (.int j), .val (.int x)] [])) _
  rw [show ((10 : Int32) + (-5 : Int32)) = (5 : Int32) from by decide]
  show Steps p.tables e below (T0.setTop (mkF m 69 #[.val (.ref ba), .val (.ref sb), .val (.int (own_nv v x)), .val (.int (5 : Int32)), .val (.ref ba), .val (.int nn), .val (.int j), .val (.int x)] [])) _
  refine XS.aloadN X0.here hx rfl (hb hby den2_69) rfl rfl ?_
  show Steps p.tables e below (T0.setTop (mkF m 70 #[.val (.ref ba), .val (.ref sb), .val (.int (own_nv v x)), .val (.int (5 : Int32)), .val (.ref ba), .val (.int nn), .val (.int j), .val (.int x)] [(.ref sb)])) _
  refine st1 _ ?_
  show Steps p.tables e below (T1.setTop (mkF m 73 #[.val (.ref ba), .val (.ref sb), .val (.int (own_nv v x)), .val (.int (5 : Int32)), .val (.ref ba), .val (.int nn), .val (.int j), .val (.int x)] [(.ref al), (.ref sb)])) _
  refine XS.iloadN X1.here hx rfl (hb hby den2_73) rfl ?_
  show Steps p.tables e below (T1.setTop (mkF m 74 #[.val (.ref ba), .val (.ref sb), .val (.int (own_nv v x)), .val (.int (5 : Int32)), .val (.ref ba), .val (.int nn), .val (.int j), .val (.int x)] [(.int (own_nv v x)), (.ref al), (.ref sb)])) _
  refine XS.iloadN X1.here hx rfl (hb hby den2_74) rfl ?_
  show Steps p.tables e below (T1.setTop (mkF m 75 #[.val (.ref ba), .val (.ref sb), .val (.int (own_nv v x)), .val (.int (5 : Int32)), .val (.ref ba), .val (.int nn), .val (.int j), .val (.int x)] [(.int (5 : Int32)), (.int (own_nv v x)), (.ref al), (.ref sb)])) _
  refine XS.iushr X1.here hx rfl (hb hby den2_75) rfl ?_
  show Steps p.tables e below (T1.setTop (mkF m 76 #[.val (.ref ba), .val (.ref sb), .val (.int (own_nv v x)), .val (.int (5 : Int32)), .val (.ref ba), .val (.int nn), .val (.int j), .val (.int x)] [(.int (((own_nv v x).toUInt32 >>> ((5 : Int32) &&& 31).toUInt32).toInt32)), (.ref al), (.ref sb)])) _
  refine XS.bipush X1.here hx rfl (hb hby den2_76) ?_
  show Steps p.tables e below (T1.setTop (mkF m 78 #[.val (.ref ba), .val (.ref sb), .val (.int (own_nv v x)), .val (.int (5 : Int32)), .val (.ref ba), .val (.int nn), .val (.int j), .val (.int x)] [(.int (31 : Int32)), (.int (((own_nv v x).toUInt32 >>> ((5 : Int32) &&& 31).toUInt32).toInt32)), (.ref al), (.ref sb)])) _
  refine XS.iand X1.here hx rfl (hb hby den2_78) rfl ?_
  show Steps p.tables e below (T1.setTop (mkF m 79 #[.val (.ref ba), .val (.ref sb), .val (.int (own_nv v x)), .val (.int (5 : Int32)), .val (.ref ba), .val (.int nn), .val (.int j), .val (.int x)] [(.int ((((own_nv v x).toUInt32 >>> ((5 : Int32) &&& 31).toUInt32).toInt32) &&& (31 : Int32))), (.ref al), (.ref sb)])) _
  show Steps p.tables e below (T1.setTop (mkF m 79 #[.val (.ref ba), .val (.ref sb), .val (.int (own_nv v x)), .val (.int (5 : Int32)), .val (.ref ba), .val (.int nn), .val (.int j), .val (.int x)] [(.int (own_ix (own_nv v x) (5 : Int32))), (.ref al), (.ref sb)])) _
  refine X1.caload hx (j := (own_ix (own_nv v x) (5 : Int32))) (v := (.int (own_al (own_ix (own_nv v x) (5 : Int32))))) (by rw [e1]; exact Av0a.1) (State.isArrayOf_alike hZ.alike Av0a.2.1) Av0a.2.2 hin0a (Has.at Hv0a hin0a (own_alat (own_ixr (own_nv v x) (5 : Int32)))) (g := (mkF m 79 #[.val (.ref ba), .val (.ref sb), .val (.int (own_nv v x)), .val (.int (5 : Int32)), .val (.ref ba), .val (.int nn), .val (.int j), .val (.int x)] [(.int (own_ix (own_nv v x) (5 : Int32))), (.ref al), (.ref sb)])) rfl rfl (hb hby den2_79) _ ?_
  show Steps p.tables e below (T1.setTop (mkF m 80 #[.val (.ref ba), .val (.ref sb), .val (.int (own_nv v x)), .val (.int (5 : Int32)), .val (.ref ba), .val (.int nn), .val (.int j), .val (.int x)] [(.int (own_al (own_ix (own_nv v x) (5 : Int32)))), (.ref sb)])) _
  refine st2.trans ?_
  show Steps p.tables e below (T2.setTop (mkF m 83 #[.val (.ref ba), .val (.ref sb), .val (.int (own_nv v x)), .val (.int (5 : Int32)), .val (.ref ba), .val (.int nn), .val (.int j), .val (.int x)] [(.ref sb)])) _
  refine XS.pop X2.here hx rfl (hb hby den2_83) rfl rfl ?_
  show Steps p.tables e below (T2.setTop (mkF m 84 #[.val (.ref ba), .val (.ref sb), .val (.int (own_nv v x)), .val (.int (5 : Int32)), .val (.ref ba), .val (.int nn), .val (.int j), .val (.int x)] [])) _
  refine XS.goto X2.here hx rfl (pc0 := 84) (pc' := 61) rfl (hb hby den2_84) (by decide) (by decide) ?_
  show Steps p.tables e below (T2.setTop (mkF m 61 #[.val (.ref ba), .val (.ref sb), .val (.int (own_nv v x)), .val (.int (5 : Int32)), .val (.ref ba), .val (.int nn), .val (.int j), .val (.int x)] [])) _
  refine XS.iloadN X2.here hx rfl (hb hby den2_61) rfl ?_
  show Steps p.tables e below (T2.setTop (mkF m 62 #[.val (.ref ba), .val (.ref sb), .val (.int (own_nv v x)), .val (.int (5 : Int32)), .val (.ref ba), .val (.int nn), .val (.int j), .val (.int x)] [(.int (5 : Int32))])) _
  refine XS.iconst X2.here hx rfl (hb hby den2_62) ?_
  show Steps p.tables e below (T2.setTop (mkF m 63 #[.val (.ref ba), .val (.ref sb), .val (.int (own_nv v x)), .val (.int (5 : Int32)), .val (.ref ba), .val (.int nn), .val (.int j), .val (.int x)] [(.int (5 : Int32)), (.int (5 : Int32))])) _
  refine XS.icmpNo X2.here hx rfl (hb hby den2_63) rfl (flt (by decide)).1 ?_
  show Steps p.tables e below (T2.setTop (mkF m 66 #[.val (.ref ba), .val (.ref sb), .val (.int (own_nv v x)), .val (.int (5 : Int32)), .val (.ref ba), .val (.int nn), .val (.int j), .val (.int x)] [])) _
  refine XS.iinc X2.here hx rfl (hb hby den2_66) rfl (l' := #[.val (.ref ba), .val (.ref sb), .val (.int (own_nv v x)), .val (.int ((5 : Int32) + (-5 : Int32))), .val (.ref ba), .val (.int nn), .val (.int j), .val (.int x)]) rfl ?_
  show Steps p.tables e below (T2.setTop (mkF m 69 #[.val (.ref ba), .val (.ref sb), .val (.int (own_nv v x)), .val (.int ((5 : Int32) + (-5 : Int32))), .val (.ref ba), .val (.int nn), .val (.int j), .val (.int x)] [])) _
  rw [show ((5 : Int32) + (-5 : Int32)) = (0 : Int32) from by decide]
  show Steps p.tables e below (T2.setTop (mkF m 69 #[.val (.ref ba), .val (.ref sb), .val (.int (own_nv v x)), .val (.int (0 : Int32)), .val (.ref ba), .val (.int nn), .val (.int j), .val (.int x)] [])) _
  refine XS.aloadN X2.here hx rfl (hb hby den2_69) rfl rfl ?_
  show Steps p.tables e below (T2.setTop (mkF m 70 #[.val (.ref ba), .val (.ref sb), .val (.int (own_nv v x)), .val (.int (0 : Int32)), .val (.ref ba), .val (.int nn), .val (.int j), .val (.int x)] [(.ref sb)])) _
  refine st3 _ ?_
  show Steps p.tables e below (T3.setTop (mkF m 73 #[.val (.ref ba), .val (.ref sb), .val (.int (own_nv v x)), .val (.int (0 : Int32)), .val (.ref ba), .val (.int nn), .val (.int j), .val (.int x)] [(.ref al), (.ref sb)])) _
  refine XS.iloadN X3.here hx rfl (hb hby den2_73) rfl ?_
  show Steps p.tables e below (T3.setTop (mkF m 74 #[.val (.ref ba), .val (.ref sb), .val (.int (own_nv v x)), .val (.int (0 : Int32)), .val (.ref ba), .val (.int nn), .val (.int j), .val (.int x)] [(.int (own_nv v x)), (.ref al), (.ref sb)])) _
  refine XS.iloadN X3.here hx rfl (hb hby den2_74) rfl ?_
  show Steps p.tables e below (T3.setTop (mkF m 75 #[.val (.ref ba), .val (.ref sb), .val (.int (own_nv v x)), .val (.int (0 : Int32)), .val (.ref ba), .val (.int nn), .val (.int j), .val (.int x)] [(.int (0 : Int32)), (.int (own_nv v x)), (.ref al), (.ref sb)])) _
  refine XS.iushr X3.here hx rfl (hb hby den2_75) rfl ?_
  show Steps p.tables e below (T3.setTop (mkF m 76 #[.val (.ref ba), .val (.ref sb), .val (.int (own_nv v x)), .val (.int (0 : Int32)), .val (.ref ba), .val (.int nn), .val (.int j), .val (.int x)] [(.int (((own_nv v x).toUInt32 >>> ((0 : Int32) &&& 31).toUInt32).toInt32)), (.ref al), (.ref sb)])) _
  refine XS.bipush X3.here hx rfl (hb hby den2_76) ?_
  show Steps p.tables e below (T3.setTop (mkF m 78 #[.val (.ref ba), .val (.ref sb), .val (.int (own_nv v x)), .val (.int (0 : Int32)), .val (.ref ba), .val (.int nn), .val (.int j), .val (.int x)] [(.int (31 : Int32)), (.int (((own_nv v x).toUInt32 >>> ((0 : Int32) &&& 31).toUInt32).toInt32)), (.ref al), (.ref sb)])) _
  refine XS.iand X3.here hx rfl (hb hby den2_78) rfl ?_
  show Steps p.tables e below (T3.setTop (mkF m 79 #[.val (.ref ba), .val (.ref sb), .val (.int (own_nv v x)), .val (.int (0 : Int32)), .val (.ref ba), .val (.int nn), .val (.int j), .val (.int x)] [(.int ((((own_nv v x).toUInt32 >>> ((0 : Int32) &&& 31).toUInt32).toInt32) &&& (31 : Int32))), (.ref al), (.ref sb)])) _
  show Steps p.tables e below (T3.setTop (mkF m 79 #[.val (.ref ba), .val (.ref sb), .val (.int (own_nv v x)), .val (.int (0 : Int32)), .val (.ref ba), .val (.int nn), .val (.int j), .val (.int x)] [(.int (own_ix (own_nv v x) (0 : Int32))), (.ref al), (.ref sb)])) _
  refine X3.caload hx (j := (own_ix (own_nv v x) (0 : Int32))) (v := (.int (own_al (own_ix (own_nv v x) (0 : Int32))))) (by rw [e3]; exact Av1a.1) (State.isArrayOf_alike hZ.alike Av1a.2.1) Av1a.2.2 hin1a (Has.at Hv1a hin1a (own_alat (own_ixr (own_nv v x) (0 : Int32)))) (g := (mkF m 79 #[.val (.ref ba), .val (.ref sb), .val (.int (own_nv v x)), .val (.int (0 : Int32)), .val (.ref ba), .val (.int nn), .val (.int j), .val (.int x)] [(.int (own_ix (own_nv v x) (0 : Int32))), (.ref al), (.ref sb)])) rfl rfl (hb hby den2_79) _ ?_
  show Steps p.tables e below (T3.setTop (mkF m 80 #[.val (.ref ba), .val (.ref sb), .val (.int (own_nv v x)), .val (.int (0 : Int32)), .val (.ref ba), .val (.int nn), .val (.int j), .val (.int x)] [(.int (own_al (own_ix (own_nv v x) (0 : Int32)))), (.ref sb)])) _
  refine st4.trans ?_
  show Steps p.tables e below (T4.setTop (mkF m 83 #[.val (.ref ba), .val (.ref sb), .val (.int (own_nv v x)), .val (.int (0 : Int32)), .val (.ref ba), .val (.int nn), .val (.int j), .val (.int x)] [(.ref sb)])) _
  refine XS.pop X4.here hx rfl (hb hby den2_83) rfl rfl ?_
  show Steps p.tables e below (T4.setTop (mkF m 84 #[.val (.ref ba), .val (.ref sb), .val (.int (own_nv v x)), .val (.int (0 : Int32)), .val (.ref ba), .val (.int nn), .val (.int j), .val (.int x)] [])) _
  refine XS.goto X4.here hx rfl (pc0 := 84) (pc' := 61) rfl (hb hby den2_84) (by decide) (by decide) ?_
  show Steps p.tables e below (T4.setTop (mkF m 61 #[.val (.ref ba), .val (.ref sb), .val (.int (own_nv v x)), .val (.int (0 : Int32)), .val (.ref ba), .val (.int nn), .val (.int j), .val (.int x)] [])) _
  refine XS.iloadN X4.here hx rfl (hb hby den2_61) rfl ?_
  show Steps p.tables e below (T4.setTop (mkF m 62 #[.val (.ref ba), .val (.ref sb), .val (.int (own_nv v x)), .val (.int (0 : Int32)), .val (.ref ba), .val (.int nn), .val (.int j), .val (.int x)] [(.int (0 : Int32))])) _
  refine XS.iconst X4.here hx rfl (hb hby den2_62) ?_
  show Steps p.tables e below (T4.setTop (mkF m 63 #[.val (.ref ba), .val (.ref sb), .val (.int (own_nv v x)), .val (.int (0 : Int32)), .val (.ref ba), .val (.int nn), .val (.int j), .val (.int x)] [(.int (5 : Int32)), (.int (0 : Int32))])) _
  refine XS.icmpYes X4.here hx rfl (pc0 := 63) (pc' := 87) rfl (hb hby den2_63) rfl (tlt (by decide)).1 (by decide) (by decide) ?_
  show Steps p.tables e below (T4.setTop (mkF m 87 #[.val (.ref ba), .val (.ref sb), .val (.int (own_nv v x)), .val (.int (0 : Int32)), .val (.ref ba), .val (.int nn), .val (.int j), .val (.int x)] [])) _
  refine XS.iinc X4.here hx rfl (hb hby den2_87) rfl (l' := #[.val (.ref ba), .val (.ref sb), .val (.int (own_nv v x)), .val (.int (0 : Int32)), .val (.ref ba), .val (.int nn), .val (.int (j + (1 : Int32))), .val (.int x)]) rfl ?_
  show Steps p.tables e below (T4.setTop (mkF m 90 #[.val (.ref ba), .val (.ref sb), .val (.int (own_nv v x)), .val (.int (0 : Int32)), .val (.ref ba), .val (.int nn), .val (.int (j + (1 : Int32))), .val (.int x)] [])) _
  refine XS.goto X4.here hx rfl (pc0 := 90) (pc' := 32) rfl (hb hby den2_90) (by decide) (by decide) ?_
  show Steps p.tables e below (T4.setTop (mkF m 32 #[.val (.ref ba), .val (.ref sb), .val (.int (own_nv v x)), .val (.int (0 : Int32)), .val (.ref ba), .val (.int nn), .val (.int (j + (1 : Int32))), .val (.int x)] [])) _
  exact kt

set_option maxRecDepth 65536 in
set_option maxHeartbeats 40000000 in
theorem own_tail0 {p : Program} {l : Launch} {e : Env} {s : State} {m : MethodId} {args : Array Value} {below : List Frame} {meth : Method} {c : Code} {T0 : State} {locs : List Loc} {Z : State} {a0 : Array Value} {h0 : Heap} {n0 : Nat} (X0 : Stand p l e ({ frames := 5, cells := 4, slots := 40, locals := 71 } : Room) s m args below meth c T0 locs 2 20) (hx : p.tables.exec = Jvm.exec) (hZ : Z.Warmed39 s.vm) (hw : ∀ d ∈ tables_1, d.before a0 Z = true) (hby : c.code = prog_19_method_2_code) (hml : c.maxLocals = 8) (hown : s.vm.findClass "com/example/harrier/harrier/warc/Base32" = some m.cls) (e0 : T0.heap = h0) (N0 : Fr n0 locs) (Z0 : n0 ≤ h0.size) {cs0 : Int32} (hcs : ¬ cs0 = 0) {al ba sb ar : Addr} {kA kB kb : ClassId} {z nn : Int32} {bs xs : List Int32} (C : own_C Z h0 cs0 al kA ba kB nn bs) (B : own_B Z h0 sb ar kb z xs) (n1 : al ≠ sb) (n2 : al ≠ ar) (n3 : ba ≠ sb) (n4 : ba ≠ ar) (hz16 : z.toNatClampNeg ≤ 16) (gs : n0 ≤ sb) (gr : n0 ≤ ar) (v j : Int32) (s7 : Slot) :
    ∃ (T' : State) (h' : Heap) (locs' : List Loc), Stand p l e ({ frames := 5, cells := 4, slots := 40, locals := 71 } : Room) s m args below meth c T' locs' 2 20 ∧ T'.heap = h' ∧ Fr n0 locs' ∧ Keep h0 h' [sb, ar] ∧ own_St Z h0 h' ∧ own_B Z h' sb ar kb z (xs ++ own_tl 0 v) ∧
      ∀ target, Steps p.tables e below (T'.setTop (mkF m 114 #[.val (.ref ba), .val (.ref sb), .val (.int v), .val (.int (0 : Int32)), .val (.ref ba), .val (.int nn), .val (.int j), s7] [])) target → Steps p.tables e below (T0.setTop (mkF m 93 #[.val (.ref ba), .val (.ref sb), .val (.int v), .val (.int (0 : Int32)), .val (.ref ba), .val (.int nn), .val (.int j), s7] [])) target := by
  have Bf : own_B Z h0 sb ar kb z (xs ++ own_tl 0 v) := by
    have ef : xs ++ own_tl 0 v = xs := by show xs ++ [] = xs; simp
    rw [ef]; exact B
  refine ⟨T0, h0, _, X0, e0, N0, (Keep.refl h0 [sb, ar]), own_St.refl, Bf, fun target kt => ?_⟩
  show Steps p.tables e below (T0.setTop (mkF m 93 #[.val (.ref ba), .val (.ref sb), .val (.int v), .val (.int (0 : Int32)), .val (.ref ba), .val (.int nn), .val (.int j), s7] [])) _
  refine XS.iloadN X0.here hx rfl (hb hby den2_93) rfl ?_
  show Steps p.tables e below (T0.setTop (mkF m 94 #[.val (.ref ba), .val (.ref sb), .val (.int v), .val (.int (0 : Int32)), .val (.ref ba), .val (.int nn), .val (.int j), s7] [(.int (0 : Int32))])) _
  refine XS.ifYes X0.here hx rfl (pc0 := 94) (pc' := 114) rfl (hb hby den2_94) rfl ((if0 _ _).trans (flt (by decide)).2.2.2) (by decide) (by decide) ?_
  show Steps p.tables e below (T0.setTop (mkF m 114 #[.val (.ref ba), .val (.ref sb), .val (.int v), .val (.int (0 : Int32)), .val (.ref ba), .val (.int nn), .val (.int j), s7] [])) _
  exact kt

set_option maxRecDepth 65536 in
set_option maxHeartbeats 40000000 in
theorem own_tail3 {p : Program} {l : Launch} {e : Env} {s : State} {m : MethodId} {args : Array Value} {below : List Frame} {meth : Method} {c : Code} {T0 : State} {locs : List Loc} {Z : State} {a0 : Array Value} {h0 : Heap} {n0 : Nat} (X0 : Stand p l e ({ frames := 5, cells := 4, slots := 40, locals := 71 } : Room) s m args below meth c T0 locs 2 20) (hx : p.tables.exec = Jvm.exec) (hZ : Z.Warmed39 s.vm) (hw : ∀ d ∈ tables_1, d.before a0 Z = true) (hby : c.code = prog_19_method_2_code) (hml : c.maxLocals = 8) (hown : s.vm.findClass "com/example/harrier/harrier/warc/Base32" = some m.cls) (e0 : T0.heap = h0) (N0 : Fr n0 locs) (Z0 : n0 ≤ h0.size) {cs0 : Int32} (hcs : ¬ cs0 = 0) {al ba sb ar : Addr} {kA kB kb : ClassId} {z nn : Int32} {bs xs : List Int32} (C : own_C Z h0 cs0 al kA ba kB nn bs) (B : own_B Z h0 sb ar kb z xs) (n1 : al ≠ sb) (n2 : al ≠ ar) (n3 : ba ≠ sb) (n4 : ba ≠ ar) (hz16 : z.toNatClampNeg ≤ 16) (gs : n0 ≤ sb) (gr : n0 ≤ ar) (v j : Int32) (s7 : Slot) (hroom : xs.length + 1 ≤ z.toNatClampNeg) :
    ∃ (T' : State) (h' : Heap) (locs' : List Loc), Stand p l e ({ frames := 5, cells := 4, slots := 40, locals := 71 } : Room) s m args below meth c T' locs' 2 20 ∧ T'.heap = h' ∧ Fr n0 locs' ∧ Keep h0 h' [sb, ar] ∧ own_St Z h0 h' ∧ own_B Z h' sb ar kb z (xs ++ own_tl 3 v) ∧
      ∀ target, Steps p.tables e below (T'.setTop (mkF m 114 #[.val (.ref ba), .val (.ref sb), .val (.int v), .val (.int (3 : Int32)), .val (.ref ba), .val (.int nn), .val (.int j), s7] [])) target → Steps p.tables e below (T0.setTop (mkF m 93 #[.val (.ref ba), .val (.ref sb), .val (.int v), .val (.int (3 : Int32)), .val (.ref ba), .val (.int nn), .val (.int j), s7] [])) target := by
  obtain ⟨T1, X1, e1, st1⟩ := getS2 X0 hx hZ hown (host := "") (Or.inl (hw _ (List.mem_of_getElem? (i := 112) rfl))) Via.refl e0 C.2.1 (g := (mkF m 98 #[.val (.ref ba), .val (.ref sb), .val (.int v), .val (.int (3 : Int32)), .val (.ref ba), .val (.int nn), .val (.int j), s7] [(.ref sb)])) rfl (hb hby den2_98)
  obtain ⟨ca0a, Av0a, qv0a, Sv0a, Nv0a, Hv0a, Gv0a⟩ := C.2.2.1
  have hin0a := inb_of Sv0a (own_al_in (own_txr v (3 : Int32)))
  obtain ⟨cq2, kq2, q2a, q2b, q2c⟩ := isOf hZ e1 B.1
  obtain ⟨_, _, ⟨T2, L2, k2, n2⟩, -, X2, ⟨Lc2, hQ2, l2, y2, z2⟩, st2⟩ := X1.virtualBack hx (y := (⟨"java/lang/StringBuilder", "append", "(C)Ljava/lang/StringBuilder;"⟩ : MethodName)) (z := (⟨"java/lang/StringBuilder", "append", "(C)Ljava/lang/StringBuilder;"⟩ : MethodName)) hown (mvT hZ (hw _ (List.mem_of_getElem? (i := 114) rfl))) (mvT hZ (hw _ (List.mem_of_getElem? (i := 115) rfl))) (notFace_of_selects (args := #[]) (mvT hZ (hw _ (List.mem_of_getElem? (i := 117) rfl)))) (mvT hZ (hw _ (List.mem_of_getElem? (i := 117) rfl))) (mvT hZ (hw _ (List.mem_of_getElem? (i := 116) rfl))) (by decide) (backOf (W := 0) (rmSA l Z a0 hw [] sb (own_al (own_tx v (3 : Int32))) cs0 ar kb z xs h0 n0 (Nat.le_trans Z0 (Keep.refl h0 [sb, ar]).1) C.1 hcs B (own_alr (own_txr v (3 : Int32))) (by have := hroom; omega) hz16 gs gr) hZ (hw _ (List.mem_of_getElem? (i := 118) rfl)) (hw _ (List.mem_of_getElem? (i := 8) rfl)) (by decide) (by decide)) q2a q2c (g := (mkF m 110 #[.val (.ref ba), .val (.ref sb), .val (.int v), .val (.int (3 : Int32)), .val (.ref ba), .val (.int nn), .val (.int j), s7] [(.int (own_al (own_tx v (3 : Int32)))), (.ref sb)])) rfl (by rw [hml]; rfl) (Steps.refl _) (argsL := [(.int (own_al (own_tx v (3 : Int32))))]) (rest := []) (lenOf pd_den2__C_Ljava_lang_StringBuilder_ rfl) rfl (by show 2 * 0 + _ ≤ _; exact Nat.le_of_eq rfl) (hb hby den2_110) (fun _ _ => ⟨rfl, e1, (by decide : 2 + 0 ≤ _), (by decide : 20 + 0 ≤ _)⟩)
  dsimp only [Pt.U, Pt.locs, Pt.cells, Pt.slots] at X2 l2 y2 z2 st2 hQ2
  subst l2 y2 z2
  obtain ⟨rfl, N2q, K2, St2, B2⟩ := hQ2
  have N2 := Fr.app N0 N2q
  have Kt2 : Keep h0 T2.heap [sb, ar] := (Keep.refl h0 [sb, ar]).trans K2 (fun _ q => Or.inl q)
  have Sx2 : own_St Z h0 T2.heap := own_St.trans own_St.refl St2
  have C2 := own_C_step K2 St2 n1 n2 n3 n4 C
  have Bf : own_B Z T2.heap sb ar kb z (xs ++ own_tl 3 v) := B2
  refine ⟨T2, T2.heap, _, X2, rfl, N2, Kt2, Sx2, Bf, fun target kt => ?_⟩
  show Steps p.tables e below (T0.setTop (mkF m 93 #[.val (.ref ba), .val (.ref sb), .val (.int v), .val (.int (3 : Int32)), .val (.ref ba), .val (.int nn), .val (.int j), s7] [])) _
  refine XS.iloadN X0.here hx rfl (hb hby den2_93) rfl ?_
  show Steps p.tables e below (T0.setTop (mkF m 94 #[.val (.ref ba), .val (.ref sb), .val (.int v), .val (.int (3 : Int32)), .val (.ref ba), .val (.int nn), .val (.int j), s7] [(.int (3 : Int32))])) _
  refine XS.ifNo X0.here hx rfl (hb hby den2_94) rfl ((if0 _ _).trans (tlt (by decide)).2.2.2) ?_
  show Steps p.tables e below (T0.setTop (mkF m 97 #[.val (.ref ba), .val (.ref sb), .val (.int v), .val (.int (3 : Int32)), .val (.ref ba), .val (.int nn), .val (.int j), s7] [])) _
  refine XS.aloadN X0.here hx rfl (hb hby den2_97) rfl rfl ?_
  show Steps p.tables e below (T0.setTop (mkF m 98 #[.val (.ref ba), .val (.ref sb), .val (.int v), .val (.int (3 : Int32)), .val (.ref ba), .val (.int nn), .val (.int j), s7] [(.ref sb)])) _
  refine st1 _ ?_
  show Steps p.tables e below (T1.setTop (mkF m 101 #[.val (.ref ba), .val (.ref sb), .val (.int v), .val (.int (3 : Int32)), .val (.ref ba), .val (.int nn), .val (.int j), s7] [(.ref al), (.ref sb)])) _
  refine XS.iloadN X1.here hx rfl (hb hby den2_101) rfl ?_
  show Steps p.tables e below (T1.setTop (mkF m 102 #[.val (.ref ba), .val (.ref sb), .val (.int v), .val (.int (3 : Int32)), .val (.ref ba), .val (.int nn), .val (.int j), s7] [(.int v), (.ref al), (.ref sb)])) _
  refine XS.iconst X1.here hx rfl (hb hby den2_102) ?_
  show Steps p.tables e below (T1.setTop (mkF m 103 #[.val (.ref ba), .val (.ref sb), .val (.int v), .val (.int (3 : Int32)), .val (.ref ba), .val (.int nn), .val (.int j), s7] [(.int (5 : Int32)), (.int v), (.ref al), (.ref sb)])) _
  refine XS.iloadN X1.here hx rfl (hb hby den2_103) rfl ?_
  show Steps p.tables e below (T1.setTop (mkF m 104 #[.val (.ref ba), .val (.ref sb), .val (.int v), .val (.int (3 : Int32)), .val (.ref ba), .val (.int nn), .val (.int j), s7] [(.int (3 : Int32)), (.int (5 : Int32)), (.int v), (.ref al), (.ref sb)])) _
  refine XS.isub X1.here hx rfl (hb hby den2_104) rfl ?_
  show Steps p.tables e below (T1.setTop (mkF m 105 #[.val (.ref ba), .val (.ref sb), .val (.int v), .val (.int (3 : Int32)), .val (.ref ba), .val (.int nn), .val (.int j), s7] [(.int ((5 : Int32) - (3 : Int32))), (.int v), (.ref al), (.ref sb)])) _
  refine XS.ishl X1.here hx rfl (hb hby den2_105) rfl ?_
  show Steps p.tables e below (T1.setTop (mkF m 106 #[.val (.ref ba), .val (.ref sb), .val (.int v), .val (.int (3 : Int32)), .val (.ref ba), .val (.int nn), .val (.int j), s7] [(.int (v <<< (((5 : Int32) - (3 : Int32)) &&& 31))), (.ref al), (.ref sb)])) _
  refine XS.bipush X1.here hx rfl (hb hby den2_106) ?_
  show Steps p.tables e below (T1.setTop (mkF m 108 #[.val (.ref ba), .val (.ref sb), .val (.int v), .val (.int (3 : Int32)), .val (.ref ba), .val (.int nn), .val (.int j), s7] [(.int (31 : Int32)), (.int (v <<< (((5 : Int32) - (3 : Int32)) &&& 31))), (.ref al), (.ref sb)])) _
  refine XS.iand X1.here hx rfl (hb hby den2_108) rfl ?_
  show Steps p.tables e below (T1.setTop (mkF m 109 #[.val (.ref ba), .val (.ref sb), .val (.int v), .val (.int (3 : Int32)), .val (.ref ba), .val (.int nn), .val (.int j), s7] [(.int ((v <<< (((5 : Int32) - (3 : Int32)) &&& 31)) &&& (31 : Int32))), (.ref al), (.ref sb)])) _
  show Steps p.tables e below (T1.setTop (mkF m 109 #[.val (.ref ba), .val (.ref sb), .val (.int v), .val (.int (3 : Int32)), .val (.ref ba), .val (.int nn), .val (.int j), s7] [(.int (own_tx v (3 : Int32))), (.ref al), (.ref sb)])) _
  refine X1.caload hx (j := (own_tx v (3 : Int32))) (v := (.int (own_al (own_tx v (3 : Int32))))) (by rw [e1]; exact Av0a.1) (State.isArrayOf_alike hZ.alike Av0a.2.1) Av0a.2.2 hin0a (Has.at Hv0a hin0a (own_alat (own_txr v (3 : Int32)))) (g := (mkF m 109 #[.val (.ref ba), .val (.ref sb), .val (.int v), .val (.int (3 : Int32)), .val (.ref ba), .val (.int nn), .val (.int j), s7] [(.int (own_tx v (3 : Int32))), (.ref al), (.ref sb)])) rfl rfl (hb hby den2_109) _ ?_
  show Steps p.tables e below (T1.setTop (mkF m 110 #[.val (.ref ba), .val (.ref sb), .val (.int v), .val (.int (3 : Int32)), .val (.ref ba), .val (.int nn), .val (.int j), s7] [(.int (own_al (own_tx v (3 : Int32)))), (.ref sb)])) _
  refine st2.trans ?_
  show Steps p.tables e below (T2.setTop (mkF m 113 #[.val (.ref ba), .val (.ref sb), .val (.int v), .val (.int (3 : Int32)), .val (.ref ba), .val (.int nn), .val (.int j), s7] [(.ref sb)])) _
  refine XS.pop X2.here hx rfl (hb hby den2_113) rfl rfl ?_
  show Steps p.tables e below (T2.setTop (mkF m 114 #[.val (.ref ba), .val (.ref sb), .val (.int v), .val (.int (3 : Int32)), .val (.ref ba), .val (.int nn), .val (.int j), s7] [])) _
  exact kt

set_option maxRecDepth 65536 in
set_option maxHeartbeats 40000000 in
theorem own_tail1 {p : Program} {l : Launch} {e : Env} {s : State} {m : MethodId} {args : Array Value} {below : List Frame} {meth : Method} {c : Code} {T0 : State} {locs : List Loc} {Z : State} {a0 : Array Value} {h0 : Heap} {n0 : Nat} (X0 : Stand p l e ({ frames := 5, cells := 4, slots := 40, locals := 71 } : Room) s m args below meth c T0 locs 2 20) (hx : p.tables.exec = Jvm.exec) (hZ : Z.Warmed39 s.vm) (hw : ∀ d ∈ tables_1, d.before a0 Z = true) (hby : c.code = prog_19_method_2_code) (hml : c.maxLocals = 8) (hown : s.vm.findClass "com/example/harrier/harrier/warc/Base32" = some m.cls) (e0 : T0.heap = h0) (N0 : Fr n0 locs) (Z0 : n0 ≤ h0.size) {cs0 : Int32} (hcs : ¬ cs0 = 0) {al ba sb ar : Addr} {kA kB kb : ClassId} {z nn : Int32} {bs xs : List Int32} (C : own_C Z h0 cs0 al kA ba kB nn bs) (B : own_B Z h0 sb ar kb z xs) (n1 : al ≠ sb) (n2 : al ≠ ar) (n3 : ba ≠ sb) (n4 : ba ≠ ar) (hz16 : z.toNatClampNeg ≤ 16) (gs : n0 ≤ sb) (gr : n0 ≤ ar) (v j : Int32) (s7 : Slot) (hroom : xs.length + 1 ≤ z.toNatClampNeg) :
    ∃ (T' : State) (h' : Heap) (locs' : List Loc), Stand p l e ({ frames := 5, cells := 4, slots := 40, locals := 71 } : Room) s m args below meth c T' locs' 2 20 ∧ T'.heap = h' ∧ Fr n0 locs' ∧ Keep h0 h' [sb, ar] ∧ own_St Z h0 h' ∧ own_B Z h' sb ar kb z (xs ++ own_tl 1 v) ∧
      ∀ target, Steps p.tables e below (T'.setTop (mkF m 114 #[.val (.ref ba), .val (.ref sb), .val (.int v), .val (.int (1 : Int32)), .val (.ref ba), .val (.int nn), .val (.int j), s7] [])) target → Steps p.tables e below (T0.setTop (mkF m 93 #[.val (.ref ba), .val (.ref sb), .val (.int v), .val (.int (1 : Int32)), .val (.ref ba), .val (.int nn), .val (.int j), s7] [])) target := by
  obtain ⟨T1, X1, e1, st1⟩ := getS2 X0 hx hZ hown (host := "") (Or.inl (hw _ (List.mem_of_getElem? (i := 112) rfl))) Via.refl e0 C.2.1 (g := (mkF m 98 #[.val (.ref ba), .val (.ref sb), .val (.int v), .val (.int (1 : Int32)), .val (.ref ba), .val (.int nn), .val (.int j), s7] [(.ref sb)])) rfl (hb hby den2_98)
  obtain ⟨ca0a, Av0a, qv0a, Sv0a, Nv0a, Hv0a, Gv0a⟩ := C.2.2.1
  have hin0a := inb_of Sv0a (own_al_in (own_txr v (1 : Int32)))
  obtain ⟨cq2, kq2, q2a, q2b, q2c⟩ := isOf hZ e1 B.1
  obtain ⟨_, _, ⟨T2, L2, k2, n2⟩, -, X2, ⟨Lc2, hQ2, l2, y2, z2⟩, st2⟩ := X1.virtualBack hx (y := (⟨"java/lang/StringBuilder", "append", "(C)Ljava/lang/StringBuilder;"⟩ : MethodName)) (z := (⟨"java/lang/StringBuilder", "append", "(C)Ljava/lang/StringBuilder;"⟩ : MethodName)) hown (mvT hZ (hw _ (List.mem_of_getElem? (i := 114) rfl))) (mvT hZ (hw _ (List.mem_of_getElem? (i := 115) rfl))) (notFace_of_selects (args := #[]) (mvT hZ (hw _ (List.mem_of_getElem? (i := 117) rfl)))) (mvT hZ (hw _ (List.mem_of_getElem? (i := 117) rfl))) (mvT hZ (hw _ (List.mem_of_getElem? (i := 116) rfl))) (by decide) (backOf (W := 0) (rmSA l Z a0 hw [] sb (own_al (own_tx v (1 : Int32))) cs0 ar kb z xs h0 n0 (Nat.le_trans Z0 (Keep.refl h0 [sb, ar]).1) C.1 hcs B (own_alr (own_txr v (1 : Int32))) (by have := hroom; omega) hz16 gs gr) hZ (hw _ (List.mem_of_getElem? (i := 118) rfl)) (hw _ (List.mem_of_getElem? (i := 8) rfl)) (by decide) (by decide)) q2a q2c (g := (mkF m 110 #[.val (.ref ba), .val (.ref sb), .val (.int v), .val (.int (1 : Int32)), .val (.ref ba), .val (.int nn), .val (.int j), s7] [(.int (own_al (own_tx v (1 : Int32)))), (.ref sb)])) rfl (by rw [hml]; rfl) (Steps.refl _) (argsL := [(.int (own_al (own_tx v (1 : Int32))))]) (rest := []) (lenOf pd_den2__C_Ljava_lang_StringBuilder_ rfl) rfl (by show 2 * 0 + _ ≤ _; exact Nat.le_of_eq rfl) (hb hby den2_110) (fun _ _ => ⟨rfl, e1, (by decide : 2 + 0 ≤ _), (by decide : 20 + 0 ≤ _)⟩)
  dsimp only [Pt.U, Pt.locs, Pt.cells, Pt.slots] at X2 l2 y2 z2 st2 hQ2
  subst l2 y2 z2
  obtain ⟨rfl, N2q, K2, St2, B2⟩ := hQ2
  have N2 := Fr.app N0 N2q
  have Kt2 : Keep h0 T2.heap [sb, ar] := (Keep.refl h0 [sb, ar]).trans K2 (fun _ q => Or.inl q)
  have Sx2 : own_St Z h0 T2.heap := own_St.trans own_St.refl St2
  have C2 := own_C_step K2 St2 n1 n2 n3 n4 C
  have Bf : own_B Z T2.heap sb ar kb z (xs ++ own_tl 1 v) := B2
  refine ⟨T2, T2.heap, _, X2, rfl, N2, Kt2, Sx2, Bf, fun target kt => ?_⟩
  show Steps p.tables e below (T0.setTop (mkF m 93 #[.val (.ref ba), .val (.ref sb), .val (.int v), .val (.int (1 : Int32)), .val (.ref ba), .val (.int nn), .val (.int j), s7] [])) _
  refine XS.iloadN X0.here hx rfl (hb hby den2_93) rfl ?_
  show Steps p.tables e below (T0.setTop (mkF m 94 #[.val (.ref ba), .val (.ref sb), .val (.int v), .val (.int (1 : Int32)), .val (.ref ba), .val (.int nn), .val (.int j), s7] [(.int (1 : Int32))])) _
  refine XS.ifNo X0.here hx rfl (hb hby den2_94) rfl ((if0 _ _).trans (tlt (by decide)).2.2.2) ?_
  show Steps p.tables e below (T0.setTop (mkF m 97 #[.val (.ref ba), .val (.ref sb), .val (.int v), .val (.int (1 : Int32)), .val (.ref ba), .val (.int nn), .val (.int j), s7] [])) _
  refine XS.aloadN X0.here hx rfl (hb hby den2_97) rfl rfl ?_
  show Steps p.tables e below (T0.setTop (mkF m 98 #[.val (.ref ba), .val (.ref sb), .val (.int v), .val (.int (1 : Int32)), .val (.ref ba), .val (.int nn), .val (.int j), s7] [(.ref sb)])) _
  refine st1 _ ?_
  show Steps p.tables e below (T1.setTop (mkF m 101 #[.val (.ref ba), .val (.ref sb), .val (.int v), .val (.int (1 : Int32)), .val (.ref ba), .val (.int nn), .val (.int j), s7] [(.ref al), (.ref sb)])) _
  refine XS.iloadN X1.here hx rfl (hb hby den2_101) rfl ?_
  show Steps p.tables e below (T1.setTop (mkF m 102 #[.val (.ref ba), .val (.ref sb), .val (.int v), .val (.int (1 : Int32)), .val (.ref ba), .val (.int nn), .val (.int j), s7] [(.int v), (.ref al), (.ref sb)])) _
  refine XS.iconst X1.here hx rfl (hb hby den2_102) ?_
  show Steps p.tables e below (T1.setTop (mkF m 103 #[.val (.ref ba), .val (.ref sb), .val (.int v), .val (.int (1 : Int32)), .val (.ref ba), .val (.int nn), .val (.int j), s7] [(.int (5 : Int32)), (.int v), (.ref al), (.ref sb)])) _
  refine XS.iloadN X1.here hx rfl (hb hby den2_103) rfl ?_
  show Steps p.tables e below (T1.setTop (mkF m 104 #[.val (.ref ba), .val (.ref sb), .val (.int v), .val (.int (1 : Int32)), .val (.ref ba), .val (.int nn), .val (.int j), s7] [(.int (1 : Int32)), (.int (5 : Int32)), (.int v), (.ref al), (.ref sb)])) _
  refine XS.isub X1.here hx rfl (hb hby den2_104) rfl ?_
  show Steps p.tables e below (T1.setTop (mkF m 105 #[.val (.ref ba), .val (.ref sb), .val (.int v), .val (.int (1 : Int32)), .val (.ref ba), .val (.int nn), .val (.int j), s7] [(.int ((5 : Int32) - (1 : Int32))), (.int v), (.ref al), (.ref sb)])) _
  refine XS.ishl X1.here hx rfl (hb hby den2_105) rfl ?_
  show Steps p.tables e below (T1.setTop (mkF m 106 #[.val (.ref ba), .val (.ref sb), .val (.int v), .val (.int (1 : Int32)), .val (.ref ba), .val (.int nn), .val (.int j), s7] [(.int (v <<< (((5 : Int32) - (1 : Int32)) &&& 31))), (.ref al), (.ref sb)])) _
  refine XS.bipush X1.here hx rfl (hb hby den2_106) ?_
  show Steps p.tables e below (T1.setTop (mkF m 108 #[.val (.ref ba), .val (.ref sb), .val (.int v), .val (.int (1 : Int32)), .val (.ref ba), .val (.int nn), .val (.int j), s7] [(.int (31 : Int32)), (.int (v <<< (((5 : Int32) - (1 : Int32)) &&& 31))), (.ref al), (.ref sb)])) _
  refine XS.iand X1.here hx rfl (hb hby den2_108) rfl ?_
  show Steps p.tables e below (T1.setTop (mkF m 109 #[.val (.ref ba), .val (.ref sb), .val (.int v), .val (.int (1 : Int32)), .val (.ref ba), .val (.int nn), .val (.int j), s7] [(.int ((v <<< (((5 : Int32) - (1 : Int32)) &&& 31)) &&& (31 : Int32))), (.ref al), (.ref sb)])) _
  show Steps p.tables e below (T1.setTop (mkF m 109 #[.val (.ref ba), .val (.ref sb), .val (.int v), .val (.int (1 : Int32)), .val (.ref ba), .val (.int nn), .val (.int j), s7] [(.int (own_tx v (1 : Int32))), (.ref al), (.ref sb)])) _
  refine X1.caload hx (j := (own_tx v (1 : Int32))) (v := (.int (own_al (own_tx v (1 : Int32))))) (by rw [e1]; exact Av0a.1) (State.isArrayOf_alike hZ.alike Av0a.2.1) Av0a.2.2 hin0a (Has.at Hv0a hin0a (own_alat (own_txr v (1 : Int32)))) (g := (mkF m 109 #[.val (.ref ba), .val (.ref sb), .val (.int v), .val (.int (1 : Int32)), .val (.ref ba), .val (.int nn), .val (.int j), s7] [(.int (own_tx v (1 : Int32))), (.ref al), (.ref sb)])) rfl rfl (hb hby den2_109) _ ?_
  show Steps p.tables e below (T1.setTop (mkF m 110 #[.val (.ref ba), .val (.ref sb), .val (.int v), .val (.int (1 : Int32)), .val (.ref ba), .val (.int nn), .val (.int j), s7] [(.int (own_al (own_tx v (1 : Int32)))), (.ref sb)])) _
  refine st2.trans ?_
  show Steps p.tables e below (T2.setTop (mkF m 113 #[.val (.ref ba), .val (.ref sb), .val (.int v), .val (.int (1 : Int32)), .val (.ref ba), .val (.int nn), .val (.int j), s7] [(.ref sb)])) _
  refine XS.pop X2.here hx rfl (hb hby den2_113) rfl rfl ?_
  show Steps p.tables e below (T2.setTop (mkF m 114 #[.val (.ref ba), .val (.ref sb), .val (.int v), .val (.int (1 : Int32)), .val (.ref ba), .val (.int nn), .val (.int j), s7] [])) _
  exact kt

set_option maxRecDepth 65536 in
set_option maxHeartbeats 40000000 in
theorem own_tail4 {p : Program} {l : Launch} {e : Env} {s : State} {m : MethodId} {args : Array Value} {below : List Frame} {meth : Method} {c : Code} {T0 : State} {locs : List Loc} {Z : State} {a0 : Array Value} {h0 : Heap} {n0 : Nat} (X0 : Stand p l e ({ frames := 5, cells := 4, slots := 40, locals := 71 } : Room) s m args below meth c T0 locs 2 20) (hx : p.tables.exec = Jvm.exec) (hZ : Z.Warmed39 s.vm) (hw : ∀ d ∈ tables_1, d.before a0 Z = true) (hby : c.code = prog_19_method_2_code) (hml : c.maxLocals = 8) (hown : s.vm.findClass "com/example/harrier/harrier/warc/Base32" = some m.cls) (e0 : T0.heap = h0) (N0 : Fr n0 locs) (Z0 : n0 ≤ h0.size) {cs0 : Int32} (hcs : ¬ cs0 = 0) {al ba sb ar : Addr} {kA kB kb : ClassId} {z nn : Int32} {bs xs : List Int32} (C : own_C Z h0 cs0 al kA ba kB nn bs) (B : own_B Z h0 sb ar kb z xs) (n1 : al ≠ sb) (n2 : al ≠ ar) (n3 : ba ≠ sb) (n4 : ba ≠ ar) (hz16 : z.toNatClampNeg ≤ 16) (gs : n0 ≤ sb) (gr : n0 ≤ ar) (v j : Int32) (s7 : Slot) (hroom : xs.length + 1 ≤ z.toNatClampNeg) :
    ∃ (T' : State) (h' : Heap) (locs' : List Loc), Stand p l e ({ frames := 5, cells := 4, slots := 40, locals := 71 } : Room) s m args below meth c T' locs' 2 20 ∧ T'.heap = h' ∧ Fr n0 locs' ∧ Keep h0 h' [sb, ar] ∧ own_St Z h0 h' ∧ own_B Z h' sb ar kb z (xs ++ own_tl 4 v) ∧
      ∀ target, Steps p.tables e below (T'.setTop (mkF m 114 #[.val (.ref ba), .val (.ref sb), .val (.int v), .val (.int (4 : Int32)), .val (.ref ba), .val (.int nn), .val (.int j), s7] [])) target → Steps p.tables e below (T0.setTop (mkF m 93 #[.val (.ref ba), .val (.ref sb), .val (.int v), .val (.int (4 : Int32)), .val (.ref ba), .val (.int nn), .val (.int j), s7] [])) target := by
  obtain ⟨T1, X1, e1, st1⟩ := getS2 X0 hx hZ hown (host := "") (Or.inl (hw _ (List.mem_of_getElem? (i := 112) rfl))) Via.refl e0 C.2.1 (g := (mkF m 98 #[.val (.ref ba), .val (.ref sb), .val (.int v), .val (.int (4 : Int32)), .val (.ref ba), .val (.int nn), .val (.int j), s7] [(.ref sb)])) rfl (hb hby den2_98)
  obtain ⟨ca0a, Av0a, qv0a, Sv0a, Nv0a, Hv0a, Gv0a⟩ := C.2.2.1
  have hin0a := inb_of Sv0a (own_al_in (own_txr v (4 : Int32)))
  obtain ⟨cq2, kq2, q2a, q2b, q2c⟩ := isOf hZ e1 B.1
  obtain ⟨_, _, ⟨T2, L2, k2, n2⟩, -, X2, ⟨Lc2, hQ2, l2, y2, z2⟩, st2⟩ := X1.virtualBack hx (y := (⟨"java/lang/StringBuilder", "append", "(C)Ljava/lang/StringBuilder;"⟩ : MethodName)) (z := (⟨"java/lang/StringBuilder", "append", "(C)Ljava/lang/StringBuilder;"⟩ : MethodName)) hown (mvT hZ (hw _ (List.mem_of_getElem? (i := 114) rfl))) (mvT hZ (hw _ (List.mem_of_getElem? (i := 115) rfl))) (notFace_of_selects (args := #[]) (mvT hZ (hw _ (List.mem_of_getElem? (i := 117) rfl)))) (mvT hZ (hw _ (List.mem_of_getElem? (i := 117) rfl))) (mvT hZ (hw _ (List.mem_of_getElem? (i := 116) rfl))) (by decide) (backOf (W := 0) (rmSA l Z a0 hw [] sb (own_al (own_tx v (4 : Int32))) cs0 ar kb z xs h0 n0 (Nat.le_trans Z0 (Keep.refl h0 [sb, ar]).1) C.1 hcs B (own_alr (own_txr v (4 : Int32))) (by have := hroom; omega) hz16 gs gr) hZ (hw _ (List.mem_of_getElem? (i := 118) rfl)) (hw _ (List.mem_of_getElem? (i := 8) rfl)) (by decide) (by decide)) q2a q2c (g := (mkF m 110 #[.val (.ref ba), .val (.ref sb), .val (.int v), .val (.int (4 : Int32)), .val (.ref ba), .val (.int nn), .val (.int j), s7] [(.int (own_al (own_tx v (4 : Int32)))), (.ref sb)])) rfl (by rw [hml]; rfl) (Steps.refl _) (argsL := [(.int (own_al (own_tx v (4 : Int32))))]) (rest := []) (lenOf pd_den2__C_Ljava_lang_StringBuilder_ rfl) rfl (by show 2 * 0 + _ ≤ _; exact Nat.le_of_eq rfl) (hb hby den2_110) (fun _ _ => ⟨rfl, e1, (by decide : 2 + 0 ≤ _), (by decide : 20 + 0 ≤ _)⟩)
  dsimp only [Pt.U, Pt.locs, Pt.cells, Pt.slots] at X2 l2 y2 z2 st2 hQ2
  subst l2 y2 z2
  obtain ⟨rfl, N2q, K2, St2, B2⟩ := hQ2
  have N2 := Fr.app N0 N2q
  have Kt2 : Keep h0 T2.heap [sb, ar] := (Keep.refl h0 [sb, ar]).trans K2 (fun _ q => Or.inl q)
  have Sx2 : own_St Z h0 T2.heap := own_St.trans own_St.refl St2
  have C2 := own_C_step K2 St2 n1 n2 n3 n4 C
  have Bf : own_B Z T2.heap sb ar kb z (xs ++ own_tl 4 v) := B2
  refine ⟨T2, T2.heap, _, X2, rfl, N2, Kt2, Sx2, Bf, fun target kt => ?_⟩
  show Steps p.tables e below (T0.setTop (mkF m 93 #[.val (.ref ba), .val (.ref sb), .val (.int v), .val (.int (4 : Int32)), .val (.ref ba), .val (.int nn), .val (.int j), s7] [])) _
  refine XS.iloadN X0.here hx rfl (hb hby den2_93) rfl ?_
  show Steps p.tables e below (T0.setTop (mkF m 94 #[.val (.ref ba), .val (.ref sb), .val (.int v), .val (.int (4 : Int32)), .val (.ref ba), .val (.int nn), .val (.int j), s7] [(.int (4 : Int32))])) _
  refine XS.ifNo X0.here hx rfl (hb hby den2_94) rfl ((if0 _ _).trans (tlt (by decide)).2.2.2) ?_
  show Steps p.tables e below (T0.setTop (mkF m 97 #[.val (.ref ba), .val (.ref sb), .val (.int v), .val (.int (4 : Int32)), .val (.ref ba), .val (.int nn), .val (.int j), s7] [])) _
  refine XS.aloadN X0.here hx rfl (hb hby den2_97) rfl rfl ?_
  show Steps p.tables e below (T0.setTop (mkF m 98 #[.val (.ref ba), .val (.ref sb), .val (.int v), .val (.int (4 : Int32)), .val (.ref ba), .val (.int nn), .val (.int j), s7] [(.ref sb)])) _
  refine st1 _ ?_
  show Steps p.tables e below (T1.setTop (mkF m 101 #[.val (.ref ba), .val (.ref sb), .val (.int v), .val (.int (4 : Int32)), .val (.ref ba), .val (.int nn), .val (.int j), s7] [(.ref al), (.ref sb)])) _
  refine XS.iloadN X1.here hx rfl (hb hby den2_101) rfl ?_
  show Steps p.tables e below (T1.setTop (mkF m 102 #[.val (.ref ba), .val (.ref sb), .val (.int v), .val (.int (4 : Int32)), .val (.ref ba), .val (.int nn), .val (.int j), s7] [(.int v), (.ref al), (.ref sb)])) _
  refine XS.iconst X1.here hx rfl (hb hby den2_102) ?_
  show Steps p.tables e below (T1.setTop (mkF m 103 #[.val (.ref ba), .val (.ref sb), .val (.int v), .val (.int (4 : Int32)), .val (.ref ba), .val (.int nn), .val (.int j), s7] [(.int (5 : Int32)), (.int v), (.ref al), (.ref sb)])) _
  refine XS.iloadN X1.here hx rfl (hb hby den2_103) rfl ?_
  show Steps p.tables e below (T1.setTop (mkF m 104 #[.val (.ref ba), .val (.ref sb), .val (.int v), .val (.int (4 : Int32)), .val (.ref ba), .val (.int nn), .val (.int j), s7] [(.int (4 : Int32)), (.int (5 : Int32)), (.int v), (.ref al), (.ref sb)])) _
  refine XS.isub X1.here hx rfl (hb hby den2_104) rfl ?_
  show Steps p.tables e below (T1.setTop (mkF m 105 #[.val (.ref ba), .val (.ref sb), .val (.int v), .val (.int (4 : Int32)), .val (.ref ba), .val (.int nn), .val (.int j), s7] [(.int ((5 : Int32) - (4 : Int32))), (.int v), (.ref al), (.ref sb)])) _
  refine XS.ishl X1.here hx rfl (hb hby den2_105) rfl ?_
  show Steps p.tables e below (T1.setTop (mkF m 106 #[.val (.ref ba), .val (.ref sb), .val (.int v), .val (.int (4 : Int32)), .val (.ref ba), .val (.int nn), .val (.int j), s7] [(.int (v <<< (((5 : Int32) - (4 : Int32)) &&& 31))), (.ref al), (.ref sb)])) _
  refine XS.bipush X1.here hx rfl (hb hby den2_106) ?_
  show Steps p.tables e below (T1.setTop (mkF m 108 #[.val (.ref ba), .val (.ref sb), .val (.int v), .val (.int (4 : Int32)), .val (.ref ba), .val (.int nn), .val (.int j), s7] [(.int (31 : Int32)), (.int (v <<< (((5 : Int32) - (4 : Int32)) &&& 31))), (.ref al), (.ref sb)])) _
  refine XS.iand X1.here hx rfl (hb hby den2_108) rfl ?_
  show Steps p.tables e below (T1.setTop (mkF m 109 #[.val (.ref ba), .val (.ref sb), .val (.int v), .val (.int (4 : Int32)), .val (.ref ba), .val (.int nn), .val (.int j), s7] [(.int ((v <<< (((5 : Int32) - (4 : Int32)) &&& 31)) &&& (31 : Int32))), (.ref al), (.ref sb)])) _
  show Steps p.tables e below (T1.setTop (mkF m 109 #[.val (.ref ba), .val (.ref sb), .val (.int v), .val (.int (4 : Int32)), .val (.ref ba), .val (.int nn), .val (.int j), s7] [(.int (own_tx v (4 : Int32))), (.ref al), (.ref sb)])) _
  refine X1.caload hx (j := (own_tx v (4 : Int32))) (v := (.int (own_al (own_tx v (4 : Int32))))) (by rw [e1]; exact Av0a.1) (State.isArrayOf_alike hZ.alike Av0a.2.1) Av0a.2.2 hin0a (Has.at Hv0a hin0a (own_alat (own_txr v (4 : Int32)))) (g := (mkF m 109 #[.val (.ref ba), .val (.ref sb), .val (.int v), .val (.int (4 : Int32)), .val (.ref ba), .val (.int nn), .val (.int j), s7] [(.int (own_tx v (4 : Int32))), (.ref al), (.ref sb)])) rfl rfl (hb hby den2_109) _ ?_
  show Steps p.tables e below (T1.setTop (mkF m 110 #[.val (.ref ba), .val (.ref sb), .val (.int v), .val (.int (4 : Int32)), .val (.ref ba), .val (.int nn), .val (.int j), s7] [(.int (own_al (own_tx v (4 : Int32)))), (.ref sb)])) _
  refine st2.trans ?_
  show Steps p.tables e below (T2.setTop (mkF m 113 #[.val (.ref ba), .val (.ref sb), .val (.int v), .val (.int (4 : Int32)), .val (.ref ba), .val (.int nn), .val (.int j), s7] [(.ref sb)])) _
  refine XS.pop X2.here hx rfl (hb hby den2_113) rfl rfl ?_
  show Steps p.tables e below (T2.setTop (mkF m 114 #[.val (.ref ba), .val (.ref sb), .val (.int v), .val (.int (4 : Int32)), .val (.ref ba), .val (.int nn), .val (.int j), s7] [])) _
  exact kt

set_option maxRecDepth 65536 in
set_option maxHeartbeats 40000000 in
theorem own_tail2 {p : Program} {l : Launch} {e : Env} {s : State} {m : MethodId} {args : Array Value} {below : List Frame} {meth : Method} {c : Code} {T0 : State} {locs : List Loc} {Z : State} {a0 : Array Value} {h0 : Heap} {n0 : Nat} (X0 : Stand p l e ({ frames := 5, cells := 4, slots := 40, locals := 71 } : Room) s m args below meth c T0 locs 2 20) (hx : p.tables.exec = Jvm.exec) (hZ : Z.Warmed39 s.vm) (hw : ∀ d ∈ tables_1, d.before a0 Z = true) (hby : c.code = prog_19_method_2_code) (hml : c.maxLocals = 8) (hown : s.vm.findClass "com/example/harrier/harrier/warc/Base32" = some m.cls) (e0 : T0.heap = h0) (N0 : Fr n0 locs) (Z0 : n0 ≤ h0.size) {cs0 : Int32} (hcs : ¬ cs0 = 0) {al ba sb ar : Addr} {kA kB kb : ClassId} {z nn : Int32} {bs xs : List Int32} (C : own_C Z h0 cs0 al kA ba kB nn bs) (B : own_B Z h0 sb ar kb z xs) (n1 : al ≠ sb) (n2 : al ≠ ar) (n3 : ba ≠ sb) (n4 : ba ≠ ar) (hz16 : z.toNatClampNeg ≤ 16) (gs : n0 ≤ sb) (gr : n0 ≤ ar) (v j : Int32) (s7 : Slot) (hroom : xs.length + 1 ≤ z.toNatClampNeg) :
    ∃ (T' : State) (h' : Heap) (locs' : List Loc), Stand p l e ({ frames := 5, cells := 4, slots := 40, locals := 71 } : Room) s m args below meth c T' locs' 2 20 ∧ T'.heap = h' ∧ Fr n0 locs' ∧ Keep h0 h' [sb, ar] ∧ own_St Z h0 h' ∧ own_B Z h' sb ar kb z (xs ++ own_tl 2 v) ∧
      ∀ target, Steps p.tables e below (T'.setTop (mkF m 114 #[.val (.ref ba), .val (.ref sb), .val (.int v), .val (.int (2 : Int32)), .val (.ref ba), .val (.int nn), .val (.int j), s7] [])) target → Steps p.tables e below (T0.setTop (mkF m 93 #[.val (.ref ba), .val (.ref sb), .val (.int v), .val (.int (2 : Int32)), .val (.ref ba), .val (.int nn), .val (.int j), s7] [])) target := by
  obtain ⟨T1, X1, e1, st1⟩ := getS2 X0 hx hZ hown (host := "") (Or.inl (hw _ (List.mem_of_getElem? (i := 112) rfl))) Via.refl e0 C.2.1 (g := (mkF m 98 #[.val (.ref ba), .val (.ref sb), .val (.int v), .val (.int (2 : Int32)), .val (.ref ba), .val (.int nn), .val (.int j), s7] [(.ref sb)])) rfl (hb hby den2_98)
  obtain ⟨ca0a, Av0a, qv0a, Sv0a, Nv0a, Hv0a, Gv0a⟩ := C.2.2.1
  have hin0a := inb_of Sv0a (own_al_in (own_txr v (2 : Int32)))
  obtain ⟨cq2, kq2, q2a, q2b, q2c⟩ := isOf hZ e1 B.1
  obtain ⟨_, _, ⟨T2, L2, k2, n2⟩, -, X2, ⟨Lc2, hQ2, l2, y2, z2⟩, st2⟩ := X1.virtualBack hx (y := (⟨"java/lang/StringBuilder", "append", "(C)Ljava/lang/StringBuilder;"⟩ : MethodName)) (z := (⟨"java/lang/StringBuilder", "append", "(C)Ljava/lang/StringBuilder;"⟩ : MethodName)) hown (mvT hZ (hw _ (List.mem_of_getElem? (i := 114) rfl))) (mvT hZ (hw _ (List.mem_of_getElem? (i := 115) rfl))) (notFace_of_selects (args := #[]) (mvT hZ (hw _ (List.mem_of_getElem? (i := 117) rfl)))) (mvT hZ (hw _ (List.mem_of_getElem? (i := 117) rfl))) (mvT hZ (hw _ (List.mem_of_getElem? (i := 116) rfl))) (by decide) (backOf (W := 0) (rmSA l Z a0 hw [] sb (own_al (own_tx v (2 : Int32))) cs0 ar kb z xs h0 n0 (Nat.le_trans Z0 (Keep.refl h0 [sb, ar]).1) C.1 hcs B (own_alr (own_txr v (2 : Int32))) (by have := hroom; omega) hz16 gs gr) hZ (hw _ (List.mem_of_getElem? (i := 118) rfl)) (hw _ (List.mem_of_getElem? (i := 8) rfl)) (by decide) (by decide)) q2a q2c (g := (mkF m 110 #[.val (.ref ba), .val (.ref sb), .val (.int v), .val (.int (2 : Int32)), .val (.ref ba), .val (.int nn), .val (.int j), s7] [(.int (own_al (own_tx v (2 : Int32)))), (.ref sb)])) rfl (by rw [hml]; rfl) (Steps.refl _) (argsL := [(.int (own_al (own_tx v (2 : Int32))))]) (rest := []) (lenOf pd_den2__C_Ljava_lang_StringBuilder_ rfl) rfl (by show 2 * 0 + _ ≤ _; exact Nat.le_of_eq rfl) (hb hby den2_110) (fun _ _ => ⟨rfl, e1, (by decide : 2 + 0 ≤ _), (by decide : 20 + 0 ≤ _)⟩)
  dsimp only [Pt.U, Pt.locs, Pt.cells, Pt.slots] at X2 l2 y2 z2 st2 hQ2
  subst l2 y2 z2
  obtain ⟨rfl, N2q, K2, St2, B2⟩ := hQ2
  have N2 := Fr.app N0 N2q
  have Kt2 : Keep h0 T2.heap [sb, ar] := (Keep.refl h0 [sb, ar]).trans K2 (fun _ q => Or.inl q)
  have Sx2 : own_St Z h0 T2.heap := own_St.trans own_St.refl St2
  have C2 := own_C_step K2 St2 n1 n2 n3 n4 C
  have Bf : own_B Z T2.heap sb ar kb z (xs ++ own_tl 2 v) := B2
  refine ⟨T2, T2.heap, _, X2, rfl, N2, Kt2, Sx2, Bf, fun target kt => ?_⟩
  show Steps p.tables e below (T0.setTop (mkF m 93 #[.val (.ref ba), .val (.ref sb), .val (.int v), .val (.int (2 : Int32)), .val (.ref ba), .val (.int nn), .val (.int j), s7] [])) _
  refine XS.iloadN X0.here hx rfl (hb hby den2_93) rfl ?_
  show Steps p.tables e below (T0.setTop (mkF m 94 #[.val (.ref ba), .val (.ref sb), .val (.int v), .val (.int (2 : Int32)), .val (.ref ba), .val (.int nn), .val (.int j), s7] [(.int (2 : Int32))])) _
  refine XS.ifNo X0.here hx rfl (hb hby den2_94) rfl ((if0 _ _).trans (tlt (by decide)).2.2.2) ?_
  show Steps p.tables e below (T0.setTop (mkF m 97 #[.val (.ref ba), .val (.ref sb), .val (.int v), .val (.int (2 : Int32)), .val (.ref ba), .val (.int nn), .val (.int j), s7] [])) _
  refine XS.aloadN X0.here hx rfl (hb hby den2_97) rfl rfl ?_
  show Steps p.tables e below (T0.setTop (mkF m 98 #[.val (.ref ba), .val (.ref sb), .val (.int v), .val (.int (2 : Int32)), .val (.ref ba), .val (.int nn), .val (.int j), s7] [(.ref sb)])) _
  refine st1 _ ?_
  show Steps p.tables e below (T1.setTop (mkF m 101 #[.val (.ref ba), .val (.ref sb), .val (.int v), .val (.int (2 : Int32)), .val (.ref ba), .val (.int nn), .val (.int j), s7] [(.ref al), (.ref sb)])) _
  refine XS.iloadN X1.here hx rfl (hb hby den2_101) rfl ?_
  show Steps p.tables e below (T1.setTop (mkF m 102 #[.val (.ref ba), .val (.ref sb), .val (.int v), .val (.int (2 : Int32)), .val (.ref ba), .val (.int nn), .val (.int j), s7] [(.int v), (.ref al), (.ref sb)])) _
  refine XS.iconst X1.here hx rfl (hb hby den2_102) ?_
  show Steps p.tables e below (T1.setTop (mkF m 103 #[.val (.ref ba), .val (.ref sb), .val (.int v), .val (.int (2 : Int32)), .val (.ref ba), .val (.int nn), .val (.int j), s7] [(.int (5 : Int32)), (.int v), (.ref al), (.ref sb)])) _
  refine XS.iloadN X1.here hx rfl (hb hby den2_103) rfl ?_
  show Steps p.tables e below (T1.setTop (mkF m 104 #[.val (.ref ba), .val (.ref sb), .val (.int v), .val (.int (2 : Int32)), .val (.ref ba), .val (.int nn), .val (.int j), s7] [(.int (2 : Int32)), (.int (5 : Int32)), (.int v), (.ref al), (.ref sb)])) _
  refine XS.isub X1.here hx rfl (hb hby den2_104) rfl ?_
  show Steps p.tables e below (T1.setTop (mkF m 105 #[.val (.ref ba), .val (.ref sb), .val (.int v), .val (.int (2 : Int32)), .val (.ref ba), .val (.int nn), .val (.int j), s7] [(.int ((5 : Int32) - (2 : Int32))), (.int v), (.ref al), (.ref sb)])) _
  refine XS.ishl X1.here hx rfl (hb hby den2_105) rfl ?_
  show Steps p.tables e below (T1.setTop (mkF m 106 #[.val (.ref ba), .val (.ref sb), .val (.int v), .val (.int (2 : Int32)), .val (.ref ba), .val (.int nn), .val (.int j), s7] [(.int (v <<< (((5 : Int32) - (2 : Int32)) &&& 31))), (.ref al), (.ref sb)])) _
  refine XS.bipush X1.here hx rfl (hb hby den2_106) ?_
  show Steps p.tables e below (T1.setTop (mkF m 108 #[.val (.ref ba), .val (.ref sb), .val (.int v), .val (.int (2 : Int32)), .val (.ref ba), .val (.int nn), .val (.int j), s7] [(.int (31 : Int32)), (.int (v <<< (((5 : Int32) - (2 : Int32)) &&& 31))), (.ref al), (.ref sb)])) _
  refine XS.iand X1.here hx rfl (hb hby den2_108) rfl ?_
  show Steps p.tables e below (T1.setTop (mkF m 109 #[.val (.ref ba), .val (.ref sb), .val (.int v), .val (.int (2 : Int32)), .val (.ref ba), .val (.int nn), .val (.int j), s7] [(.int ((v <<< (((5 : Int32) - (2 : Int32)) &&& 31)) &&& (31 : Int32))), (.ref al), (.ref sb)])) _
  show Steps p.tables e below (T1.setTop (mkF m 109 #[.val (.ref ba), .val (.ref sb), .val (.int v), .val (.int (2 : Int32)), .val (.ref ba), .val (.int nn), .val (.int j), s7] [(.int (own_tx v (2 : Int32))), (.ref al), (.ref sb)])) _
  refine X1.caload hx (j := (own_tx v (2 : Int32))) (v := (.int (own_al (own_tx v (2 : Int32))))) (by rw [e1]; exact Av0a.1) (State.isArrayOf_alike hZ.alike Av0a.2.1) Av0a.2.2 hin0a (Has.at Hv0a hin0a (own_alat (own_txr v (2 : Int32)))) (g := (mkF m 109 #[.val (.ref ba), .val (.ref sb), .val (.int v), .val (.int (2 : Int32)), .val (.ref ba), .val (.int nn), .val (.int j), s7] [(.int (own_tx v (2 : Int32))), (.ref al), (.ref sb)])) rfl rfl (hb hby den2_109) _ ?_
  show Steps p.tables e below (T1.setTop (mkF m 110 #[.val (.ref ba), .val (.ref sb), .val (.int v), .val (.int (2 : Int32)), .val (.ref ba), .val (.int nn), .val (.int j), s7] [(.int (own_al (own_tx v (2 : Int32)))), (.ref sb)])) _
  refine st2.trans ?_
  show Steps p.tables e below (T2.setTop (mkF m 113 #[.val (.ref ba), .val (.ref sb), .val (.int v), .val (.int (2 : Int32)), .val (.ref ba), .val (.int nn), .val (.int j), s7] [(.ref sb)])) _
  refine XS.pop X2.here hx rfl (hb hby den2_113) rfl rfl ?_
  show Steps p.tables e below (T2.setTop (mkF m 114 #[.val (.ref ba), .val (.ref sb), .val (.int v), .val (.int (2 : Int32)), .val (.ref ba), .val (.int nn), .val (.int j), s7] [])) _
  exact kt

set_option maxRecDepth 65536 in
set_option maxHeartbeats 40000000 in
theorem own_padE {p : Program} {l : Launch} {e : Env} {s : State} {m : MethodId} {args : Array Value} {below : List Frame} {meth : Method} {c : Code} {T0 : State} {locs : List Loc} {Z : State} {a0 : Array Value} {h0 : Heap} {n0 : Nat} (X0 : Stand p l e ({ frames := 5, cells := 4, slots := 40, locals := 71 } : Room) s m args below meth c T0 locs 2 20) (hx : p.tables.exec = Jvm.exec) (hZ : Z.Warmed39 s.vm) (hw : ∀ d ∈ tables_1, d.before a0 Z = true) (hby : c.code = prog_19_method_2_code) (hml : c.maxLocals = 8) (hown : s.vm.findClass "com/example/harrier/harrier/warc/Base32" = some m.cls) (e0 : T0.heap = h0) (N0 : Fr n0 locs) (Z0 : n0 ≤ h0.size) {cs0 : Int32} (hcs : ¬ cs0 = 0) {al ba sb ar : Addr} {kA kB kb : ClassId} {z nn : Int32} {bs xs : List Int32} (C : own_C Z h0 cs0 al kA ba kB nn bs) (B : own_B Z h0 sb ar kb z xs) (n1 : al ≠ sb) (n2 : al ≠ ar) (n3 : ba ≠ sb) (n4 : ba ≠ ar) (hz16 : z.toNatClampNeg ≤ 16) (gs : n0 ≤ sb) (gr : n0 ≤ ar) (v r j : Int32) (s7 : Slot) (hpad : ((Int32.ofNat xs.length) % (8 : Int32)) = (0 : Int32)) :
    ∃ (T' : State) (h' : Heap) (locs' : List Loc), Stand p l e ({ frames := 5, cells := 4, slots := 40, locals := 71 } : Room) s m args below meth c T' locs' 2 20 ∧ T'.heap = h' ∧ Fr n0 locs' ∧ Keep h0 h' [sb, ar] ∧ own_St Z h0 h' ∧ own_B Z h' sb ar kb z xs ∧
      ∀ target, Steps p.tables e below (T'.setTop (mkF m 134 #[.val (.ref ba), .val (.ref sb), .val (.int v), .val (.int r), .val (.ref ba), .val (.int nn), .val (.int j), s7] [])) target → Steps p.tables e below (T0.setTop (mkF m 114 #[.val (.ref ba), .val (.ref sb), .val (.int v), .val (.int r), .val (.ref ba), .val (.int nn), .val (.int j), s7] [])) target := by
  obtain ⟨cq1, kq1, q1a, q1b, q1c⟩ := isOf hZ e0 B.1
  obtain ⟨_, _, ⟨T1, L1, k1, n1⟩, -, X1, ⟨Lc1, hQ1, l1, y1, z1⟩, st1⟩ := X0.virtualBack hx (y := (⟨"java/lang/StringBuilder", "length", "()I"⟩ : MethodName)) (z := (⟨"java/lang/StringBuilder", "length", "()I"⟩ : MethodName)) hown (mvT hZ (hw _ (List.mem_of_getElem? (i := 27) rfl))) (mvT hZ (hw _ (List.mem_of_getElem? (i := 28) rfl))) (notFace_of_selects (args := #[]) (mvT hZ (hw _ (List.mem_of_getElem? (i := 30) rfl)))) (mvT hZ (hw _ (List.mem_of_getElem? (i := 30) rfl))) (mvT hZ (hw _ (List.mem_of_getElem? (i := 29) rfl))) (by decide) (backOf (W := 0) (rmSL l Z a0 hw [] sb ar kb z xs h0 n0 Z0 B) hZ (hw _ (List.mem_of_getElem? (i := 31) rfl)) (hw _ (List.mem_of_getElem? (i := 8) rfl)) (by decide) (by decide)) q1a q1c (g := (mkF m 115 #[.val (.ref ba), .val (.ref sb), .val (.int v), .val (.int r), .val (.ref ba), .val (.int nn), .val (.int j), s7] [(.ref sb)])) rfl (by rw [hml]; rfl) (Steps.refl _) (argsL := []) (rest := []) (lenOf pd_den2___I rfl) rfl (by show 2 * 0 + _ ≤ _; exact Nat.le_of_eq rfl) (hb hby den2_115) (fun _ _ => ⟨rfl, e0, (by decide : 2 + 0 ≤ _), (by decide : 20 + 0 ≤ _)⟩)
  dsimp only [Pt.U, Pt.locs, Pt.cells, Pt.slots] at X1 l1 y1 z1 st1 hQ1
  subst l1 y1 z1
  obtain ⟨rfl, N1q, e1⟩ := hQ1
  have N1 := Fr.app N0 N1q
  have Bf : own_B Z h0 sb ar kb z xs := B
  refine ⟨T1, h0, _, X1, e1, N1, (Keep.refl h0 [sb, ar]), own_St.refl, Bf, fun target kt => ?_⟩
  show Steps p.tables e below (T0.setTop (mkF m 114 #[.val (.ref ba), .val (.ref sb), .val (.int v), .val (.int r), .val (.ref ba), .val (.int nn), .val (.int j), s7] [])) _
  refine XS.aloadN X0.here hx rfl (hb hby den2_114) rfl rfl ?_
  show Steps p.tables e below (T0.setTop (mkF m 115 #[.val (.ref ba), .val (.ref sb), .val (.int v), .val (.int r), .val (.ref ba), .val (.int nn), .val (.int j), s7] [(.ref sb)])) _
  refine st1.trans ?_
  show Steps p.tables e below (T1.setTop (mkF m 118 #[.val (.ref ba), .val (.ref sb), .val (.int v), .val (.int r), .val (.ref ba), .val (.int nn), .val (.int j), s7] [(.int (Int32.ofNat xs.length))])) _
  refine XS.bipush X1.here hx rfl (hb hby den2_118) ?_
  show Steps p.tables e below (T1.setTop (mkF m 120 #[.val (.ref ba), .val (.ref sb), .val (.int v), .val (.int r), .val (.ref ba), .val (.int nn), .val (.int j), s7] [(.int (8 : Int32)), (.int (Int32.ofNat xs.length))])) _
  refine iremM X1 hx rfl (hb hby den2_120) rfl (by decide) ?_
  show Steps p.tables e below (T1.setTop (mkF m 121 #[.val (.ref ba), .val (.ref sb), .val (.int v), .val (.int r), .val (.ref ba), .val (.int nn), .val (.int j), s7] [(.int ((Int32.ofNat xs.length) % (8 : Int32)))])) _
  refine XS.ifYes X1.here hx rfl (pc0 := 121) (pc' := 134) rfl (hb hby den2_121) rfl ((if0 _ _).trans (teq hpad).1) (by decide) (by decide) ?_
  show Steps p.tables e below (T1.setTop (mkF m 134 #[.val (.ref ba), .val (.ref sb), .val (.int v), .val (.int r), .val (.ref ba), .val (.int nn), .val (.int j), s7] [])) _
  exact kt

set_option maxRecDepth 65536 in
set_option maxHeartbeats 40000000 in
theorem own_padT {p : Program} {l : Launch} {e : Env} {s : State} {m : MethodId} {args : Array Value} {below : List Frame} {meth : Method} {c : Code} {T0 : State} {locs : List Loc} {Z : State} {a0 : Array Value} {h0 : Heap} {n0 : Nat} (X0 : Stand p l e ({ frames := 5, cells := 4, slots := 40, locals := 71 } : Room) s m args below meth c T0 locs 2 20) (hx : p.tables.exec = Jvm.exec) (hZ : Z.Warmed39 s.vm) (hw : ∀ d ∈ tables_1, d.before a0 Z = true) (hby : c.code = prog_19_method_2_code) (hml : c.maxLocals = 8) (hown : s.vm.findClass "com/example/harrier/harrier/warc/Base32" = some m.cls) (e0 : T0.heap = h0) (N0 : Fr n0 locs) (Z0 : n0 ≤ h0.size) {cs0 : Int32} (hcs : ¬ cs0 = 0) {al ba sb ar : Addr} {kA kB kb : ClassId} {z nn : Int32} {bs xs : List Int32} (C : own_C Z h0 cs0 al kA ba kB nn bs) (B : own_B Z h0 sb ar kb z xs) (n1 : al ≠ sb) (n2 : al ≠ ar) (n3 : ba ≠ sb) (n4 : ba ≠ ar) (hz16 : z.toNatClampNeg ≤ 16) (gs : n0 ≤ sb) (gr : n0 ≤ ar) (v r j : Int32) (s7 : Slot) (hpad : ¬ ((Int32.ofNat xs.length) % (8 : Int32)) = (0 : Int32)) (hroom : xs.length + 1 ≤ z.toNatClampNeg) :
    ∃ (T' : State) (h' : Heap) (locs' : List Loc), Stand p l e ({ frames := 5, cells := 4, slots := 40, locals := 71 } : Room) s m args below meth c T' locs' 2 20 ∧ T'.heap = h' ∧ Fr n0 locs' ∧ Keep h0 h' [sb, ar] ∧ own_St Z h0 h' ∧ own_B Z h' sb ar kb z (xs ++ [(61 : Int32)]) ∧
      ∀ target, Steps p.tables e below (T'.setTop (mkF m 114 #[.val (.ref ba), .val (.ref sb), .val (.int v), .val (.int r), .val (.ref ba), .val (.int nn), .val (.int j), s7] [])) target → Steps p.tables e below (T0.setTop (mkF m 114 #[.val (.ref ba), .val (.ref sb), .val (.int v), .val (.int r), .val (.ref ba), .val (.int nn), .val (.int j), s7] [])) target := by
  obtain ⟨cq1, kq1, q1a, q1b, q1c⟩ := isOf hZ e0 B.1
  obtain ⟨_, _, ⟨T1, L1, k1, n1⟩, -, X1, ⟨Lc1, hQ1, l1, y1, z1⟩, st1⟩ := X0.virtualBack hx (y := (⟨"java/lang/StringBuilder", "length", "()I"⟩ : MethodName)) (z := (⟨"java/lang/StringBuilder", "length", "()I"⟩ : MethodName)) hown (mvT hZ (hw _ (List.mem_of_getElem? (i := 27) rfl))) (mvT hZ (hw _ (List.mem_of_getElem? (i := 28) rfl))) (notFace_of_selects (args := #[]) (mvT hZ (hw _ (List.mem_of_getElem? (i := 30) rfl)))) (mvT hZ (hw _ (List.mem_of_getElem? (i := 30) rfl))) (mvT hZ (hw _ (List.mem_of_getElem? (i := 29) rfl))) (by decide) (backOf (W := 0) (rmSL l Z a0 hw [] sb ar kb z xs h0 n0 Z0 B) hZ (hw _ (List.mem_of_getElem? (i := 31) rfl)) (hw _ (List.mem_of_getElem? (i := 8) rfl)) (by decide) (by decide)) q1a q1c (g := (mkF m 115 #[.val (.ref ba), .val (.ref sb), .val (.int v), .val (.int r), .val (.ref ba), .val (.int nn), .val (.int j), s7] [(.ref sb)])) rfl (by rw [hml]; rfl) (Steps.refl _) (argsL := []) (rest := []) (lenOf pd_den2___I rfl) rfl (by show 2 * 0 + _ ≤ _; exact Nat.le_of_eq rfl) (hb hby den2_115) (fun _ _ => ⟨rfl, e0, (by decide : 2 + 0 ≤ _), (by decide : 20 + 0 ≤ _)⟩)
  dsimp only [Pt.U, Pt.locs, Pt.cells, Pt.slots] at X1 l1 y1 z1 st1 hQ1
  subst l1 y1 z1
  obtain ⟨rfl, N1q, e1⟩ := hQ1
  have N1 := Fr.app N0 N1q
  obtain ⟨cq2, kq2, q2a, q2b, q2c⟩ := isOf hZ e1 B.1
  obtain ⟨_, _, ⟨T2, L2, k2, n2⟩, -, X2, ⟨Lc2, hQ2, l2, y2, z2⟩, st2⟩ := X1.virtualBack hx (y := (⟨"java/lang/StringBuilder", "append", "(C)Ljava/lang/StringBuilder;"⟩ : MethodName)) (z := (⟨"java/lang/StringBuilder", "append", "(C)Ljava/lang/StringBuilder;"⟩ : MethodName)) hown (mvT hZ (hw _ (List.mem_of_getElem? (i := 114) rfl))) (mvT hZ (hw _ (List.mem_of_getElem? (i := 115) rfl))) (notFace_of_selects (args := #[]) (mvT hZ (hw _ (List.mem_of_getElem? (i := 117) rfl)))) (mvT hZ (hw _ (List.mem_of_getElem? (i := 117) rfl))) (mvT hZ (hw _ (List.mem_of_getElem? (i := 116) rfl))) (by decide) (backOf (W := 0) (rmSA l Z a0 hw [] sb (61 : Int32) cs0 ar kb z xs h0 n0 (Nat.le_trans Z0 (Keep.refl h0 [sb, ar]).1) C.1 hcs B (by decide) (by have := hroom; omega) hz16 gs gr) hZ (hw _ (List.mem_of_getElem? (i := 118) rfl)) (hw _ (List.mem_of_getElem? (i := 8) rfl)) (by decide) (by decide)) q2a q2c (g := (mkF m 127 #[.val (.ref ba), .val (.ref sb), .val (.int v), .val (.int r), .val (.ref ba), .val (.int nn), .val (.int j), s7] [(.int (61 : Int32)), (.ref sb)])) rfl (by rw [hml]; rfl) (Steps.refl _) (argsL := [(.int (61 : Int32))]) (rest := []) (lenOf pd_den2__C_Ljava_lang_StringBuilder_ rfl) rfl (by show 2 * 0 + _ ≤ _; exact Nat.le_of_eq rfl) (hb hby den2_127) (fun _ _ => ⟨rfl, e1, (by decide : 2 + 0 ≤ _), (by decide : 20 + 0 ≤ _)⟩)
  dsimp only [Pt.U, Pt.locs, Pt.cells, Pt.slots] at X2 l2 y2 z2 st2 hQ2
  subst l2 y2 z2
  obtain ⟨rfl, N2q, K2, St2, B2⟩ := hQ2
  have N2 := Fr.app N1 N2q
  have Kt2 : Keep h0 T2.heap [sb, ar] := (Keep.refl h0 [sb, ar]).trans K2 (fun _ q => Or.inl q)
  have Sx2 : own_St Z h0 T2.heap := own_St.trans own_St.refl St2
  have C2 := own_C_step K2 St2 n1 n2 n3 n4 C
  have Bf : own_B Z T2.heap sb ar kb z (xs ++ [(61 : Int32)]) := B2
  refine ⟨T2, T2.heap, _, X2, rfl, N2, Kt2, Sx2, Bf, fun target kt => ?_⟩
  show Steps p.tables e below (T0.setTop (mkF m 114 #[.val (.ref ba), .val (.ref sb), .val (.int v), .val (.int r), .val (.ref ba), .val (.int nn), .val (.int j), s7] [])) _
  refine XS.aloadN X0.here hx rfl (hb hby den2_114) rfl rfl ?_
  show Steps p.tables e below (T0.setTop (mkF m 115 #[.val (.ref ba), .val (.ref sb), .val (.int v), .val (.int r), .val (.ref ba), .val (.int nn), .val (.int j), s7] [(.ref sb)])) _
  refine st1.trans ?_
  show Steps p.tables e below (T1.setTop (mkF m 118 #[.val (.ref ba), .val (.ref sb), .val (.int v), .val (.int r), .val (.ref ba), .val (.int nn), .val (.int j), s7] [(.int (Int32.ofNat xs.length))])) _
  refine XS.bipush X1.here hx rfl (hb hby den2_118) ?_
  show Steps p.tables e below (T1.setTop (mkF m 120 #[.val (.ref ba), .val (.ref sb), .val (.int v), .val (.int r), .val (.ref ba), .val (.int nn), .val (.int j), s7] [(.int (8 : Int32)), (.int (Int32.ofNat xs.length))])) _
  refine iremM X1 hx rfl (hb hby den2_120) rfl (by decide) ?_
  show Steps p.tables e below (T1.setTop (mkF m 121 #[.val (.ref ba), .val (.ref sb), .val (.int v), .val (.int r), .val (.ref ba), .val (.int nn), .val (.int j), s7] [(.int ((Int32.ofNat xs.length) % (8 : Int32)))])) _
  refine XS.ifNo X1.here hx rfl (hb hby den2_121) rfl ((if0 _ _).trans (feq hpad).1) ?_
  show Steps p.tables e below (T1.setTop (mkF m 124 #[.val (.ref ba), .val (.ref sb), .val (.int v), .val (.int r), .val (.ref ba), .val (.int nn), .val (.int j), s7] [])) _
  refine XS.aloadN X1.here hx rfl (hb hby den2_124) rfl rfl ?_
  show Steps p.tables e below (T1.setTop (mkF m 125 #[.val (.ref ba), .val (.ref sb), .val (.int v), .val (.int r), .val (.ref ba), .val (.int nn), .val (.int j), s7] [(.ref sb)])) _
  refine XS.bipush X1.here hx rfl (hb hby den2_125) ?_
  show Steps p.tables e below (T1.setTop (mkF m 127 #[.val (.ref ba), .val (.ref sb), .val (.int v), .val (.int r), .val (.ref ba), .val (.int nn), .val (.int j), s7] [(.int (61 : Int32)), (.ref sb)])) _
  refine st2.trans ?_
  show Steps p.tables e below (T2.setTop (mkF m 130 #[.val (.ref ba), .val (.ref sb), .val (.int v), .val (.int r), .val (.ref ba), .val (.int nn), .val (.int j), s7] [(.ref sb)])) _
  refine XS.pop X2.here hx rfl (hb hby den2_130) rfl rfl ?_
  show Steps p.tables e below (T2.setTop (mkF m 131 #[.val (.ref ba), .val (.ref sb), .val (.int v), .val (.int r), .val (.ref ba), .val (.int nn), .val (.int j), s7] [])) _
  refine XS.goto X2.here hx rfl (pc0 := 131) (pc' := 114) rfl (hb hby den2_131) (by decide) (by decide) ?_
  show Steps p.tables e below (T2.setTop (mkF m 114 #[.val (.ref ba), .val (.ref sb), .val (.int v), .val (.int r), .val (.ref ba), .val (.int nn), .val (.int j), s7] [])) _
  exact kt

set_option maxRecDepth 65536 in
set_option maxHeartbeats 40000000 in
theorem own_loop {p : Program} {l : Launch} {e : Env} {s : State} {m : MethodId} {args : Array Value} {below : List Frame} {meth : Method} {c : Code} {Z : State} {a0 : Array Value} {n0 : Nat} (hx : p.tables.exec = Jvm.exec) (hZ : Z.Warmed39 s.vm) (hw : ∀ d ∈ tables_1, d.before a0 Z = true) (hby : c.code = prog_19_method_2_code) (hml : c.maxLocals = 8) (hown : s.vm.findClass "com/example/harrier/harrier/warc/Base32" = some m.cls) {cs0 : Int32} (hcs : ¬ cs0 = 0) {al ba sb ar : Addr} {kA kB kb : ClassId} {z nn : Int32} {bs : List Int32} (n1 : al ≠ sb) (n2 : al ≠ ar) (n3 : ba ≠ sb) (n4 : ba ≠ ar) (hz16 : z.toNatClampNeg ≤ 16) (gs : n0 ≤ sb) (gr : n0 ≤ ar) (hnn : nn = Int32.ofNat bs.length) (hb10 : bs.length ≤ 10) :
    ∀ (ys : List Int32) (r : Nat) (v : Int32) (jn : Nat) (xs : List Int32) (T0 : State) (h0 : Heap) (locs : List Loc) (s7 : Slot), One s7 → bs.drop jn = ys → jn + ys.length = bs.length → (r = 0 ∨ r = 3 ∨ r = 1 ∨ r = 4 ∨ r = 2) → Stand p l e ({ frames := 5, cells := 4, slots := 40, locals := 71 } : Room) s m args below meth c T0 locs 2 20 → T0.heap = h0 → Fr n0 locs → n0 ≤ h0.size → own_C Z h0 cs0 al kA ba kB nn bs → own_B Z h0 sb ar kb z xs → xs.length + (own_run r v ys).1.length ≤ z.toNatClampNeg →
    ∃ (T' : State) (h' : Heap) (locs' : List Loc) (s7' : Slot), One s7' ∧ Stand p l e ({ frames := 5, cells := 4, slots := 40, locals := 71 } : Room) s m args below meth c T' locs' 2 20 ∧ T'.heap = h' ∧ Fr n0 locs' ∧ Keep h0 h' [sb, ar] ∧ own_St Z h0 h' ∧ own_C Z h' cs0 al kA ba kB nn bs ∧ own_B Z h' sb ar kb z (xs ++ (own_run r v ys).1) ∧
      ∀ target, Steps p.tables e below (T'.setTop (mkF m 93 #[.val (.ref ba), .val (.ref sb), .val (.int (own_run r v ys).2.2), .val (.int (Int32.ofNat (own_run r v ys).2.1)), .val (.ref ba), .val (.int nn), .val (.int nn), s7'] [])) target → Steps p.tables e below (T0.setTop (mkF m 32 #[.val (.ref ba), .val (.ref sb), .val (.int v), .val (.int (Int32.ofNat r)), .val (.ref ba), .val (.int nn), .val (.int (Int32.ofNat jn)), s7] [])) target := by
  intro ys
  induction ys with
  | nil =>
    intro r v jn xs T0 h0 locs s7 h7 hd hlen hr X0 e0 N0 Z0 C B hroom
    have hjn : Int32.ofNat jn = nn := by rw [hnn]; simp only [List.length_nil, Nat.add_zero] at hlen; rw [hlen]
    refine ⟨T0, h0, locs, s7, h7, X0, e0, N0, Keep.refl h0 [sb, ar], own_St.refl, C, ?_, fun target kt => ?_⟩
    · show own_B Z h0 sb ar kb z (xs ++ []); rw [List.append_nil]; exact B
    · rw [hjn]
      show Steps p.tables e below (T0.setTop (mkF m 32 #[.val (.ref ba), .val (.ref sb), .val (.int v), .val (.int (Int32.ofNat r)), .val (.ref ba), .val (.int nn), .val (.int nn), s7] [])) _
      refine XS.iload X0.here hx rfl (hb hby den2_32) rfl ?_
      show Steps p.tables e below (T0.setTop (mkF m 34 #[.val (.ref ba), .val (.ref sb), .val (.int v), .val (.int (Int32.ofNat r)), .val (.ref ba), .val (.int nn), .val (.int nn), s7] [(.int nn)])) _
      refine XS.iload X0.here hx rfl (hb hby den2_34) rfl ?_
      show Steps p.tables e below (T0.setTop (mkF m 36 #[.val (.ref ba), .val (.ref sb), .val (.int v), .val (.int (Int32.ofNat r)), .val (.ref ba), .val (.int nn), .val (.int nn), s7] [(.int nn), (.int nn)])) _
      refine XS.icmpYes X0.here hx rfl (pc0 := 36) (pc' := 93) rfl (hb hby den2_36) rfl (flt (by rw [Int32.lt_iff_toInt_lt]; omega : ¬ nn < nn)).2.1 (by decide) (by decide) ?_
      show Steps p.tables e below (T0.setTop (mkF m 93 #[.val (.ref ba), .val (.ref sb), .val (.int v), .val (.int (Int32.ofNat r)), .val (.ref ba), .val (.int nn), .val (.int nn), s7] [])) _
      exact kt
  | cons x ys ih =>
    intro r v jn xs T0 h0 locs s7 h7 hd hlen hr X0 e0 N0 Z0 C B hroom
    have hjl : jn < bs.length := by simp only [List.length_cons] at hlen; omega
    have hj31 : jn < 2147483648 := by omega
    have hj : ¬ (Int32.ofNat jn) < 0 ∧ (Int32.ofNat jn) < nn := ⟨own_nn hj31, by rw [hnn, Int32.lt_iff_toInt_lt, own_ofNat hj31, own_ofNat (by omega)]; omega⟩
    have hget : bs[jn]? = some x := by
      have := congrArg (·[0]?) hd
      simpa using this
    have hbx : (bs.map Value.int).getD (Int32.ofNat jn).toNatClampNeg (.int (0 : Int32)) = .int x := by
      rw [own_cl hj31, List.getD_eq_getElem?_getD, List.getElem?_map, hget]; rfl
    have hd' : bs.drop (jn + 1) = ys := by rw [← List.drop_drop, hd]; rfl
    have er : own_run r v (x :: ys) = (own_emit r (own_nv v x) ++ (own_run (own_nr r) (own_nv v x) ys).1, (own_run (own_nr r) (own_nv v x) ys).2) := rfl
    rcases hr with rfl | rfl | rfl | rfl | rfl
    · obtain ⟨T1, h1, locs1, X1, e1, N1, K1, St1, B1, st1⟩ := own_turn0 X0 hx hZ hw hby hml hown e0 N0 Z0 hcs C B n1 n2 n3 n4 hz16 gs gr v x (Int32.ofNat jn) s7 h7 hj hbx (by have q : (own_emit 0 (own_nv v x)).length = 1 := rfl; rw [er] at hroom; simp only [List.length_append] at hroom; omega)
      obtain ⟨T2, h2, locs2, s72, o2, X2, e2, N2, K2, St2, C2, B2, st2⟩ := ih 3 (own_nv v x) (jn + 1) (xs ++ own_emit 0 (own_nv v x)) T1 h1 locs1 (.val (.int x)) (One.val rfl) hd' (by simp only [List.length_cons] at hlen; omega) (by simp) X1 e1 N1 (Nat.le_trans Z0 K1.1) (own_C_step K1 St1 n1 n2 n3 n4 C) B1 (by rw [er] at hroom; simp only [List.length_append] at hroom ⊢; have q : own_nr 0 = 3 := rfl; rw [q] at hroom; omega)
      refine ⟨T2, h2, locs2, s72, o2, X2, e2, N2, K1.trans K2 (fun _ q => Or.inl q), own_St.trans St1 St2, C2, ?_, fun target kt => st1 _ ?_⟩
      · rw [er]; show own_B Z h2 sb ar kb z (xs ++ (own_emit 0 (own_nv v x) ++ (own_run 3 (own_nv v x) ys).1)); rw [← List.append_assoc]; exact B2
      · rw [own_up]; exact st2 _ kt
    · obtain ⟨T1, h1, locs1, X1, e1, N1, K1, St1, B1, st1⟩ := own_turn3 X0 hx hZ hw hby hml hown e0 N0 Z0 hcs C B n1 n2 n3 n4 hz16 gs gr v x (Int32.ofNat jn) s7 h7 hj hbx (by have q : (own_emit 3 (own_nv v x)).length = 2 := rfl; rw [er] at hroom; simp only [List.length_append] at hroom; omega)
      obtain ⟨T2, h2, locs2, s72, o2, X2, e2, N2, K2, St2, C2, B2, st2⟩ := ih 1 (own_nv v x) (jn + 1) (xs ++ own_emit 3 (own_nv v x)) T1 h1 locs1 (.val (.int x)) (One.val rfl) hd' (by simp only [List.length_cons] at hlen; omega) (by simp) X1 e1 N1 (Nat.le_trans Z0 K1.1) (own_C_step K1 St1 n1 n2 n3 n4 C) B1 (by rw [er] at hroom; simp only [List.length_append] at hroom ⊢; have q : own_nr 3 = 1 := rfl; rw [q] at hroom; omega)
      refine ⟨T2, h2, locs2, s72, o2, X2, e2, N2, K1.trans K2 (fun _ q => Or.inl q), own_St.trans St1 St2, C2, ?_, fun target kt => st1 _ ?_⟩
      · rw [er]; show own_B Z h2 sb ar kb z (xs ++ (own_emit 3 (own_nv v x) ++ (own_run 1 (own_nv v x) ys).1)); rw [← List.append_assoc]; exact B2
      · rw [own_up]; exact st2 _ kt
    · obtain ⟨T1, h1, locs1, X1, e1, N1, K1, St1, B1, st1⟩ := own_turn1 X0 hx hZ hw hby hml hown e0 N0 Z0 hcs C B n1 n2 n3 n4 hz16 gs gr v x (Int32.ofNat jn) s7 h7 hj hbx (by have q : (own_emit 1 (own_nv v x)).length = 1 := rfl; rw [er] at hroom; simp only [List.length_append] at hroom; omega)
      obtain ⟨T2, h2, locs2, s72, o2, X2, e2, N2, K2, St2, C2, B2, st2⟩ := ih 4 (own_nv v x) (jn + 1) (xs ++ own_emit 1 (own_nv v x)) T1 h1 locs1 (.val (.int x)) (One.val rfl) hd' (by simp only [List.length_cons] at hlen; omega) (by simp) X1 e1 N1 (Nat.le_trans Z0 K1.1) (own_C_step K1 St1 n1 n2 n3 n4 C) B1 (by rw [er] at hroom; simp only [List.length_append] at hroom ⊢; have q : own_nr 1 = 4 := rfl; rw [q] at hroom; omega)
      refine ⟨T2, h2, locs2, s72, o2, X2, e2, N2, K1.trans K2 (fun _ q => Or.inl q), own_St.trans St1 St2, C2, ?_, fun target kt => st1 _ ?_⟩
      · rw [er]; show own_B Z h2 sb ar kb z (xs ++ (own_emit 1 (own_nv v x) ++ (own_run 4 (own_nv v x) ys).1)); rw [← List.append_assoc]; exact B2
      · rw [own_up]; exact st2 _ kt
    · obtain ⟨T1, h1, locs1, X1, e1, N1, K1, St1, B1, st1⟩ := own_turn4 X0 hx hZ hw hby hml hown e0 N0 Z0 hcs C B n1 n2 n3 n4 hz16 gs gr v x (Int32.ofNat jn) s7 h7 hj hbx (by have q : (own_emit 4 (own_nv v x)).length = 2 := rfl; rw [er] at hroom; simp only [List.length_append] at hroom; omega)
      obtain ⟨T2, h2, locs2, s72, o2, X2, e2, N2, K2, St2, C2, B2, st2⟩ := ih 2 (own_nv v x) (jn + 1) (xs ++ own_emit 4 (own_nv v x)) T1 h1 locs1 (.val (.int x)) (One.val rfl) hd' (by simp only [List.length_cons] at hlen; omega) (by simp) X1 e1 N1 (Nat.le_trans Z0 K1.1) (own_C_step K1 St1 n1 n2 n3 n4 C) B1 (by rw [er] at hroom; simp only [List.length_append] at hroom ⊢; have q : own_nr 4 = 2 := rfl; rw [q] at hroom; omega)
      refine ⟨T2, h2, locs2, s72, o2, X2, e2, N2, K1.trans K2 (fun _ q => Or.inl q), own_St.trans St1 St2, C2, ?_, fun target kt => st1 _ ?_⟩
      · rw [er]; show own_B Z h2 sb ar kb z (xs ++ (own_emit 4 (own_nv v x) ++ (own_run 2 (own_nv v x) ys).1)); rw [← List.append_assoc]; exact B2
      · rw [own_up]; exact st2 _ kt
    · obtain ⟨T1, h1, locs1, X1, e1, N1, K1, St1, B1, st1⟩ := own_turn2 X0 hx hZ hw hby hml hown e0 N0 Z0 hcs C B n1 n2 n3 n4 hz16 gs gr v x (Int32.ofNat jn) s7 h7 hj hbx (by have q : (own_emit 2 (own_nv v x)).length = 2 := rfl; rw [er] at hroom; simp only [List.length_append] at hroom; omega)
      obtain ⟨T2, h2, locs2, s72, o2, X2, e2, N2, K2, St2, C2, B2, st2⟩ := ih 0 (own_nv v x) (jn + 1) (xs ++ own_emit 2 (own_nv v x)) T1 h1 locs1 (.val (.int x)) (One.val rfl) hd' (by simp only [List.length_cons] at hlen; omega) (by simp) X1 e1 N1 (Nat.le_trans Z0 K1.1) (own_C_step K1 St1 n1 n2 n3 n4 C) B1 (by rw [er] at hroom; simp only [List.length_append] at hroom ⊢; have q : own_nr 2 = 0 := rfl; rw [q] at hroom; omega)
      refine ⟨T2, h2, locs2, s72, o2, X2, e2, N2, K1.trans K2 (fun _ q => Or.inl q), own_St.trans St1 St2, C2, ?_, fun target kt => st1 _ ?_⟩
      · rw [er]; show own_B Z h2 sb ar kb z (xs ++ (own_emit 2 (own_nv v x) ++ (own_run 0 (own_nv v x) ys).1)); rw [← List.append_assoc]; exact B2
      · rw [own_up]; exact st2 _ kt

set_option maxRecDepth 65536 in
set_option maxHeartbeats 40000000 in
theorem own_tailA {p : Program} {l : Launch} {e : Env} {s : State} {m : MethodId} {args : Array Value} {below : List Frame} {meth : Method} {c : Code} {T0 : State} {locs : List Loc} {Z : State} {a0 : Array Value} {h0 : Heap} {n0 : Nat} (X0 : Stand p l e ({ frames := 5, cells := 4, slots := 40, locals := 71 } : Room) s m args below meth c T0 locs 2 20) (hx : p.tables.exec = Jvm.exec) (hZ : Z.Warmed39 s.vm) (hw : ∀ d ∈ tables_1, d.before a0 Z = true) (hby : c.code = prog_19_method_2_code) (hml : c.maxLocals = 8) (hown : s.vm.findClass "com/example/harrier/harrier/warc/Base32" = some m.cls) (e0 : T0.heap = h0) (N0 : Fr n0 locs) (Z0 : n0 ≤ h0.size) {cs0 : Int32} (hcs : ¬ cs0 = 0) {al ba sb ar : Addr} {kA kB kb : ClassId} {z nn : Int32} {bs xs : List Int32} (C : own_C Z h0 cs0 al kA ba kB nn bs) (B : own_B Z h0 sb ar kb z xs) (n1 : al ≠ sb) (n2 : al ≠ ar) (n3 : ba ≠ sb) (n4 : ba ≠ ar) (hz16 : z.toNatClampNeg ≤ 16) (gs : n0 ≤ sb) (gr : n0 ≤ ar) (v j : Int32) (s7 : Slot) (r : Nat) (hr : r = 0 ∨ r = 3 ∨ r = 1 ∨ r = 4 ∨ r = 2) (hroom : xs.length + (own_tl r v).length ≤ z.toNatClampNeg) :
    ∃ (T' : State) (h' : Heap) (locs' : List Loc), Stand p l e ({ frames := 5, cells := 4, slots := 40, locals := 71 } : Room) s m args below meth c T' locs' 2 20 ∧ T'.heap = h' ∧ Fr n0 locs' ∧ Keep h0 h' [sb, ar] ∧ own_St Z h0 h' ∧ own_B Z h' sb ar kb z (xs ++ own_tl r v) ∧
      ∀ target, Steps p.tables e below (T'.setTop (mkF m 114 #[.val (.ref ba), .val (.ref sb), .val (.int v), .val (.int (Int32.ofNat r)), .val (.ref ba), .val (.int nn), .val (.int j), s7] [])) target → Steps p.tables e below (T0.setTop (mkF m 93 #[.val (.ref ba), .val (.ref sb), .val (.int v), .val (.int (Int32.ofNat r)), .val (.ref ba), .val (.int nn), .val (.int j), s7] [])) target := by
  rcases hr with rfl | rfl | rfl | rfl | rfl
  · exact own_tail0 X0 hx hZ hw hby hml hown e0 N0 Z0 hcs C B n1 n2 n3 n4 hz16 gs gr v j s7
  · exact own_tail3 X0 hx hZ hw hby hml hown e0 N0 Z0 hcs C B n1 n2 n3 n4 hz16 gs gr v j s7 hroom
  · exact own_tail1 X0 hx hZ hw hby hml hown e0 N0 Z0 hcs C B n1 n2 n3 n4 hz16 gs gr v j s7 hroom
  · exact own_tail4 X0 hx hZ hw hby hml hown e0 N0 Z0 hcs C B n1 n2 n3 n4 hz16 gs gr v j s7 hroom
  · exact own_tail2 X0 hx hZ hw hby hml hown e0 N0 Z0 hcs C B n1 n2 n3 n4 hz16 gs gr v j s7 hroom

theorem own_mod8 : ∀ k : Fin 17, ((Int32.ofNat k.1) % (8 : Int32)) = (0 : Int32) ↔ k.1 % 8 = 0 := by decide
set_option maxRecDepth 65536 in
set_option maxHeartbeats 40000000 in
theorem own_padA {p : Program} {l : Launch} {e : Env} {s : State} {m : MethodId} {args : Array Value} {below : List Frame} {meth : Method} {c : Code} {Z : State} {a0 : Array Value} {n0 : Nat} (hx : p.tables.exec = Jvm.exec) (hZ : Z.Warmed39 s.vm) (hw : ∀ d ∈ tables_1, d.before a0 Z = true) (hby : c.code = prog_19_method_2_code) (hml : c.maxLocals = 8) (hown : s.vm.findClass "com/example/harrier/harrier/warc/Base32" = some m.cls) {cs0 : Int32} (hcs : ¬ cs0 = 0) {al ba sb ar : Addr} {kA kB kb : ClassId} {z nn : Int32} {bs : List Int32} (n1 : al ≠ sb) (n2 : al ≠ ar) (n3 : ba ≠ sb) (n4 : ba ≠ ar) (hz16 : z.toNatClampNeg ≤ 16) (gs : n0 ≤ sb) (gr : n0 ≤ ar) (v r j : Int32) (s7 : Slot) (hz8 : z.toNatClampNeg % 8 = 0) :
    ∀ (q : Nat) (xs : List Int32) (T0 : State) (h0 : Heap) (locs : List Loc), q ≤ 7 → xs.length + q = z.toNatClampNeg → Stand p l e ({ frames := 5, cells := 4, slots := 40, locals := 71 } : Room) s m args below meth c T0 locs 2 20 → T0.heap = h0 → Fr n0 locs → n0 ≤ h0.size → own_C Z h0 cs0 al kA ba kB nn bs → own_B Z h0 sb ar kb z xs →
    ∃ (T' : State) (h' : Heap) (locs' : List Loc), Stand p l e ({ frames := 5, cells := 4, slots := 40, locals := 71 } : Room) s m args below meth c T' locs' 2 20 ∧ T'.heap = h' ∧ Fr n0 locs' ∧ Keep h0 h' [sb, ar] ∧ own_St Z h0 h' ∧ own_B Z h' sb ar kb z (xs ++ List.replicate q (61 : Int32)) ∧
      ∀ target, Steps p.tables e below (T'.setTop (mkF m 134 #[.val (.ref ba), .val (.ref sb), .val (.int v), .val (.int r), .val (.ref ba), .val (.int nn), .val (.int j), s7] [])) target → Steps p.tables e below (T0.setTop (mkF m 114 #[.val (.ref ba), .val (.ref sb), .val (.int v), .val (.int r), .val (.ref ba), .val (.int nn), .val (.int j), s7] [])) target := by
  intro q
  induction q with
  | zero =>
    intro xs T0 h0 locs hq hlen X0 e0 N0 Z0 C B
    have hpad : ((Int32.ofNat xs.length) % (8 : Int32)) = (0 : Int32) := (own_mod8 ⟨xs.length, by omega⟩).mpr (by show xs.length % 8 = 0; omega)
    have e : xs ++ List.replicate 0 (61 : Int32) = xs := by simp
    rw [e]
    exact own_padE X0 hx hZ hw hby hml hown e0 N0 Z0 hcs C B n1 n2 n3 n4 hz16 gs gr v r j s7 hpad
  | succ q ih =>
    intro xs T0 h0 locs hq hlen X0 e0 N0 Z0 C B
    have hpad : ¬ ((Int32.ofNat xs.length) % (8 : Int32)) = (0 : Int32) := fun u => by
      have := (own_mod8 ⟨xs.length, by omega⟩).mp u
      have : xs.length % 8 = 0 := this
      omega
    obtain ⟨T1, h1, locs1, X1, e1, N1, K1, St1, B1, st1⟩ := own_padT X0 hx hZ hw hby hml hown e0 N0 Z0 hcs C B n1 n2 n3 n4 hz16 gs gr v r j s7 hpad (by omega)
    obtain ⟨T2, h2, locs2, X2, e2, N2, K2, St2, B2, st2⟩ := ih (xs ++ [(61 : Int32)]) T1 h1 locs1 (by omega) (by simp only [List.length_append, List.length_cons, List.length_nil]; omega) X1 e1 N1 (Nat.le_trans Z0 K1.1) (own_C_step K1 St1 n1 n2 n3 n4 C) B1
    refine ⟨T2, h2, locs2, X2, e2, N2, K1.trans K2 (fun _ q => Or.inl q), own_St.trans St1 St2, ?_, fun target kt => st1 _ (st2 _ kt)⟩
    have e : xs ++ List.replicate (q + 1) (61 : Int32) = (xs ++ [(61 : Int32)]) ++ List.replicate q (61 : Int32) := by rw [List.append_assoc]; rfl
    rw [e]; exact B2

def own_pre (bs : List Int32) : List Int32 := (own_run 0 0 bs).1 ++ own_tl (own_run 0 0 bs).2.1 (own_run 0 0 bs).2.2
def own_cap (n : Nat) : Nat := 8 * ((n + 4) / 5)
def own_enc (bs : List Int32) : List Int32 := own_pre bs ++ List.replicate (own_cap bs.length - (own_pre bs).length) (61 : Int32)
theorem own_rr : ∀ (ys : List Int32) (r : Nat) (v : Int32), (r = 0 ∨ r = 3 ∨ r = 1 ∨ r = 4 ∨ r = 2) → ((own_run r v ys).2.1 = 0 ∨ (own_run r v ys).2.1 = 3 ∨ (own_run r v ys).2.1 = 1 ∨ (own_run r v ys).2.1 = 4 ∨ (own_run r v ys).2.1 = 2) := by
  intro ys
  induction ys with
  | nil => intro r v h; exact h
  | cons x ys ih => intro r v h; exact ih _ _ (by rcases h with rfl | rfl | rfl | rfl | rfl <;> simp [own_nr])
theorem own_plen (bs : List Int32) (h : bs.length ≤ 10) : (own_pre bs).length ≤ own_cap bs.length ∧ own_cap bs.length - (own_pre bs).length ≤ 7 := by
  match bs, h with
  | [], _ => decide
  | [x0], _ =>
    have e1 : (own_pre [x0]).length = 2 := rfl
    have e2 : [x0].length = 1 := rfl
    rw [e1, e2]; decide
  | [x0, x1], _ =>
    have e1 : (own_pre [x0, x1]).length = 4 := rfl
    have e2 : [x0, x1].length = 2 := rfl
    rw [e1, e2]; decide
  | [x0, x1, x2], _ =>
    have e1 : (own_pre [x0, x1, x2]).length = 5 := rfl
    have e2 : [x0, x1, x2].length = 3 := rfl
    rw [e1, e2]; decide
  | [x0, x1, x2, x3], _ =>
    have e1 : (own_pre [x0, x1, x2, x3]).length = 7 := rfl
    have e2 : [x0, x1, x2, x3].length = 4 := rfl
    rw [e1, e2]; decide
  | [x0, x1, x2, x3, x4], _ =>
    have e1 : (own_pre [x0, x1, x2, x3, x4]).length = 8 := rfl
    have e2 : [x0, x1, x2, x3, x4].length = 5 := rfl
    rw [e1, e2]; decide
  | [x0, x1, x2, x3, x4, x5], _ =>
    have e1 : (own_pre [x0, x1, x2, x3, x4, x5]).length = 10 := rfl
    have e2 : [x0, x1, x2, x3, x4, x5].length = 6 := rfl
    rw [e1, e2]; decide
  | [x0, x1, x2, x3, x4, x5, x6], _ =>
    have e1 : (own_pre [x0, x1, x2, x3, x4, x5, x6]).length = 12 := rfl
    have e2 : [x0, x1, x2, x3, x4, x5, x6].length = 7 := rfl
    rw [e1, e2]; decide
  | [x0, x1, x2, x3, x4, x5, x6, x7], _ =>
    have e1 : (own_pre [x0, x1, x2, x3, x4, x5, x6, x7]).length = 13 := rfl
    have e2 : [x0, x1, x2, x3, x4, x5, x6, x7].length = 8 := rfl
    rw [e1, e2]; decide
  | [x0, x1, x2, x3, x4, x5, x6, x7, x8], _ =>
    have e1 : (own_pre [x0, x1, x2, x3, x4, x5, x6, x7, x8]).length = 15 := rfl
    have e2 : [x0, x1, x2, x3, x4, x5, x6, x7, x8].length = 9 := rfl
    rw [e1, e2]; decide
  | [x0, x1, x2, x3, x4, x5, x6, x7, x8, x9], _ =>
    have e1 : (own_pre [x0, x1, x2, x3, x4, x5, x6, x7, x8, x9]).length = 16 := rfl
    have e2 : [x0, x1, x2, x3, x4, x5, x6, x7, x8, x9].length = 10 := rfl
    rw [e1, e2]; decide
  | _ :: _ :: _ :: _ :: _ :: _ :: _ :: _ :: _ :: _ :: _ :: _, h => simp only [List.length_cons] at h; omega
theorem own_capz : ∀ n : Fin 11, ((Int32.ofNat n.1 + (4 : Int32)) / (5 : Int32)) * (8 : Int32) = Int32.ofNat (own_cap n.1) := by decide
theorem own_cap16 {n : Nat} (h : n ≤ 10) : own_cap n ≤ 16 ∧ own_cap n % 8 = 0 := by unfold own_cap; omega
theorem ef_den2_ (m : MethodId) (ba : Addr) : entryFrame m #[(.ref ba)] 8 = mkF m 0 #[.val (.ref ba), .unset, .unset, .unset, .unset, .unset, .unset, .unset] [] := by first | (simp [entryFrame, mkF, argsToLocals, Value.category]; done) | rfl
def Q_rmEnc (Z : State) (ba : Addr) (cs0 : Int32) (al : Addr) (kA : ClassId) (kB : ClassId) (nn : Int32) (bs : List Int32) (h0 : Heap) (n0 : Nat) (v : Option Value) (h : Heap) (L : List Loc) : Prop := ∃ sq, v = some (.ref sq) ∧ Fr n0 L ∧ Keep h0 h [] ∧ own_St Z h0 h ∧ ∃ ar kb, own_S Z h sq ar kb (Int32.ofNat (own_cap bs.length)) (own_enc bs)
theorem pn_rmEnc : plainName "com/example/harrier/harrier/warc/Base32" = true := by first | (simp [plainName, overriddenIn]; done) | decide +kernel
set_option maxRecDepth 65536 in
set_option maxHeartbeats 40000000 in
theorem rmEnc (l : Launch) (Z : State) (a0 : Array Value) (hw : ∀ d ∈ tables_1, d.before a0 Z = true) (ws : List Jvm.Cond) (ba : Addr) (cs0 : Int32) (al : Addr) (kA : ClassId) (kB : ClassId) (nn : Int32) (bs : List Int32) (h0 : Heap) (n0 : Nat) (Z0 : n0 ≤ h0.size) (hcs : ¬ cs0 = 0) (C : own_C Z h0 cs0 al kA ba kB nn bs) (hnn : nn = Int32.ofNat bs.length) (hb10 : bs.length ≤ 10) :
    MetFree l (⟨"com/example/harrier/harrier/warc/Base32", "encode", "([B)Ljava/lang/String;"⟩ : MethodName) (head1 (Jvm.Cond.code (⟨"com/example/harrier/harrier/warc/Base32", "encode", "([B)Ljava/lang/String;"⟩ : MethodName) prog_19_method_2_code 8 (some (.object "java/lang/String")) :: ws) ({ frames := 5, cells := 4, slots := 40, locals := 71 } : Room)) (fun aZ U => aZ = #[(.ref ba)] ∧ Z.Warmed39 U.vm ∧ U.heap = h0) (fun _ _ _ _ _ => True) (fun _ U o U' => ∃ v L, o = .returned v ∧ Q_rmEnc Z ba cs0  al  kA  kB  nn  bs  h0 n0 v U'.heap L ∧ FrameEnd U o U' L ({ frames := 5, cells := 4, slots := 40, locals := 71 } : Room).cells ({ frames := 5, cells := 4, slots := 40, locals := 71 } : Room).slots) := by
  refine MetFree.of_bodySF (plainFor_of_name pn_rmEnc) hisR ?_
  intro p e s m args below meth c s₁ Bd hml0 hP hK
  obtain ⟨rfl, hZ, hh⟩ := hP
  have hx := Bd.exec
  have hby := Bd.bytes
  have hml : c.maxLocals = 8 := hml0
  have hown : s.vm.findClass "com/example/harrier/harrier/warc/Base32" = some m.cls := findClass_of_methodNamed Bd.named
  have hnm := (name_of_methodNamed Bd.named Bd.method).1
  have X0 : Stand p l e ({ frames := 5, cells := 4, slots := 40, locals := 71 } : Room) s m #[(.ref ba)] below meth c s₁ [] 0 0 := Stand.of_body Bd
  have e0 : s₁.heap = h0 := by rw [← hh, Bd.state]; rfl
  have N0 := Fr.nil n0
  have pre0 : ∀ tZ, Steps p.tables e below (s₁.setTop (mkF m 0 #[.val (.ref ba), .unset, .unset, .unset, .unset, .unset, .unset, .unset] [])) tZ → Steps p.tables e below (s₁.setTop (entryFrame m #[(.ref ba)] 8)) tZ := fun tZ kZ => castTop (ef_den2_ m ba) kZ
  obtain ⟨T1, h1, X1, e1, E1, A1, D1, -, st1⟩ := newO X0 hx hZ hown (hw _ (List.mem_of_getElem? (i := 6) rfl)) (hw _ (List.mem_of_getElem? (i := 7) rfl)) (hw _ (List.mem_of_getElem? (i := 8) rfl)) e0 (g := (mkF m 0 #[.val (.ref ba), .unset, .unset, .unset, .unset, .unset, .unset, .unset] [])) rfl (hb hby den2_0) (by decide) (by decide)
  obtain ⟨b1, g1⟩ : ∃ z, z = h0.size := ⟨_, rfl⟩
  rw [← g1] at A1 D1 st1
  have F_value_b1 : Fld Z h1 b1 "java/lang/AbstractStringBuilder" "value" "[B" .null := D1 (Or.inl (hw _ (List.mem_of_getElem? (i := 24) rfl))) (ty := (.array .byte)) (by decide)
  have F_coder_b1 : Fld Z h1 b1 "java/lang/AbstractStringBuilder" "coder" "B" (.int (0 : Int32)) := D1 (Or.inl (hw _ (List.mem_of_getElem? (i := 26) rfl))) (ty := .byte) (by decide)
  have F_count_b1 : Fld Z h1 b1 "java/lang/AbstractStringBuilder" "count" "I" (.int (0 : Int32)) := D1 (Or.inl (hw _ (List.mem_of_getElem? (i := 38) rfl))) (ty := .int) (by decide)
  have hcap := own_cap16 hb10
  have hzz : (((nn + (4 : Int32)) / (5 : Int32)) * (8 : Int32)) = (Int32.ofNat (own_cap bs.length)) := by rw [hnn]; exact own_capz ⟨bs.length, by omega⟩
  have hznn : ¬ (Int32.ofNat (own_cap bs.length)) < 0 := own_nn (by omega)
  have hzcl : (Int32.ofNat (own_cap bs.length)).toNatClampNeg = own_cap bs.length := own_cl (by omega)
  have hz16 : (Int32.ofNat (own_cap bs.length)).toNatClampNeg ≤ 16 := by omega
  have C1 : own_C Z h1 cs0 al kA ba kB nn bs := ⟨C.1.ext E1, C.2.1.ext E1, C.2.2.1.ext E1, C.2.2.2.ext E1⟩
  obtain ⟨cb, Ab, qb, Sb, Nb, Hb, Gb⟩ := C1.2.2.2
  have gs : n0 ≤ b1 := Nat.le_trans Z0 (Nat.le_of_eq g1.symm)
  obtain ⟨bq, hbq⟩ : ∃ q, q = h1.size := ⟨_, rfl⟩
  obtain ⟨_, _, ⟨T2, L2, k2, n2⟩, -, X2, ⟨Lc2, hQ2, l2, y2, z2⟩, st2⟩ := X1.specialBack hx (y := (⟨"java/lang/StringBuilder", "<init>", "(I)V"⟩ : MethodName)) rfl hown (mvT hZ (hw _ (List.mem_of_getElem? (i := 9) rfl))) (mvT hZ (hw _ (List.mem_of_getElem? (i := 10) rfl))) (mvT hZ (hw _ (List.mem_of_getElem? (i := 11) rfl))) (by decide) (backOf (W := 1) (rmSI l Z a0 hw [] b1 (Int32.ofNat (own_cap bs.length)) cs0 bq h1 n0 (Nat.le_trans Z0 E1.1) C1.1 hcs hbq hznn hz16 A1 F_value_b1 F_coder_b1 F_count_b1 gs) hZ (hw _ (List.mem_of_getElem? (i := 11) rfl)) (hw _ (List.mem_of_getElem? (i := 8) rfl)) (by decide) (by decide)) (g := (mkF m 13 #[.val (.ref ba), .unset, .unset, .unset, .unset, .unset, .unset, .unset] [(.int (Int32.ofNat (own_cap bs.length))), (.ref b1), (.ref b1)])) rfl (by rw [hml]; rfl) (Steps.refl _) (a := b1) (argsL := [(.int (Int32.ofNat (own_cap bs.length)))]) (rest := [(.ref b1)]) (lenOf pd_den2__I_V rfl) rfl (by show 2 * 0 + _ ≤ _; exact Nat.le_of_eq rfl) (hb hby den2_13) (fun _ _ => ⟨rfl, e1, (by decide : 1 + 1 ≤ _), (by decide : 4 + 16 ≤ _)⟩)
  dsimp only [Pt.U, Pt.locs, Pt.cells, Pt.slots] at X2 l2 y2 z2 st2 hQ2
  subst l2 y2 z2
  obtain ⟨rfl, N2q, K2, St2, kb2, B2⟩ := hQ2
  have N2 := Fr.app N0 N2q
  have gr : n0 ≤ bq := Nat.le_trans (Nat.le_trans Z0 E1.1) (Nat.le_of_eq hbq.symm)
  have n1 : al ≠ b1 := Nat.ne_of_lt (Nat.lt_of_lt_of_le C.2.2.1.lt (Nat.le_of_eq g1.symm))
  have n2 : al ≠ bq := Nat.ne_of_lt (Nat.lt_of_lt_of_le C1.2.2.1.lt (Nat.le_of_eq hbq.symm))
  have n3 : ba ≠ b1 := Nat.ne_of_lt (Nat.lt_of_lt_of_le C.2.2.2.lt (Nat.le_of_eq g1.symm))
  have n4 : ba ≠ bq := Nat.ne_of_lt (Nat.lt_of_lt_of_le C1.2.2.2.lt (Nat.le_of_eq hbq.symm))
  have Kab : Keep h1 T2.heap [b1, bq] := (Keep.refl h1 [b1, bq]).trans K2 (allS (Or.inl (List.mem_of_getElem? (i := 0) rfl)) all0)
  have C2 := own_C_step Kab St2 n1 n2 n3 n4 C1
  obtain ⟨cb2, Ab2, qb2, Sb2, Nb2, Hb2, Gb2⟩ := C2.2.2.2
  have hrun := own_plen bs hb10
  have hpl : (own_run 0 0 bs).1.length + (own_tl (own_run 0 0 bs).2.1 (own_run 0 0 bs).2.2).length = (own_pre bs).length := (List.length_append).symm
  obtain ⟨T5, h5, locs5, s75, o5, X5, e5, N5, K5, St5, C5, B5, st5⟩ := own_loop hx hZ hw hby hml hown hcs n1 n2 n3 n4 hz16 gs gr hnn hb10 bs 0 0 0 [] T2 T2.heap _ .unset One.u rfl (by simp) (Or.inl rfl) (show Stand p l e ({ frames := 5, cells := 4, slots := 40, locals := 71 } : Room) s m #[(.ref ba)] below meth c T2 _ 2 20 from X2) rfl N2 (Nat.le_trans (Nat.le_trans Z0 E1.1) K2.1) C2 B2 (by show 0 + _ ≤ _; omega)
  have B5' : own_B Z h5 b1 bq kb2 (Int32.ofNat (own_cap bs.length)) (own_run 0 0 bs).1 := B5
  obtain ⟨T6, h6, locs6, X6, e6, N6, K6, St6, B6, st6⟩ := own_tailA X5 hx hZ hw hby hml hown e5 N5 (Nat.le_trans (Nat.le_trans (Nat.le_trans Z0 E1.1) K2.1) K5.1) hcs C5 B5' n1 n2 n3 n4 hz16 gs gr (own_run 0 0 bs).2.2 nn s75 (own_run 0 0 bs).2.1 (own_rr bs 0 0 (Or.inl rfl)) (by omega)
  have C6 := own_C_step K6 St6 n1 n2 n3 n4 C5
  obtain ⟨T7, h7, locs7, X7, e7, N7, K7, St7, B7, st7⟩ := own_padA hx hZ hw hby hml hown hcs n1 n2 n3 n4 hz16 gs gr (own_run 0 0 bs).2.2 (Int32.ofNat (own_run 0 0 bs).2.1) nn s75 (by omega) (own_cap bs.length - (own_pre bs).length) (own_pre bs) T6 h6 locs6 hrun.2 (by omega) X6 e6 N6 (Nat.le_trans (Nat.le_trans (Nat.le_trans (Nat.le_trans Z0 E1.1) K2.1) K5.1) K6.1) C6 B6
  have C7 := own_C_step K7 St7 n1 n2 n3 n4 C6
  have hfull : Int32.ofNat (own_enc bs).length = (Int32.ofNat (own_cap bs.length)) := by
    have : (own_enc bs).length = own_cap bs.length := by unfold own_enc; rw [List.length_append, List.length_replicate]; omega
    rw [this]
  obtain ⟨sq, hsq⟩ : ∃ q, q = h7.size := ⟨_, rfl⟩
  have Zt : n0 ≤ h7.size := Nat.le_trans (Nat.le_trans (Nat.le_trans (Nat.le_trans (Nat.le_trans Z0 E1.1) K2.1) K5.1) K6.1) K7.1
  obtain ⟨cq8, kq8, q8a, q8b, q8c⟩ := isOf hZ e7 B7.1
  obtain ⟨_, _, ⟨T8, L8, k8, n8⟩, -, X8, ⟨Lc8, hQ8, l8, y8, z8⟩, st8⟩ := X7.virtualBack hx (y := (⟨"java/lang/StringBuilder", "toString", "()Ljava/lang/String;"⟩ : MethodName)) (z := (⟨"java/lang/StringBuilder", "toString", "()Ljava/lang/String;"⟩ : MethodName)) hown (mvT hZ (hw _ (List.mem_of_getElem? (i := 39) rfl))) (mvT hZ (hw _ (List.mem_of_getElem? (i := 40) rfl))) (notFace_of_selects (args := #[]) (mvT hZ (hw _ (List.mem_of_getElem? (i := 42) rfl)))) (mvT hZ (hw _ (List.mem_of_getElem? (i := 42) rfl))) (mvT hZ (hw _ (List.mem_of_getElem? (i := 41) rfl))) (by decide) (backOf (W := 0) (rmTS l Z a0 hw [] b1 cs0 sq bq kb2 (Int32.ofNat (own_cap bs.length)) (own_enc bs) h7 n0 Zt C7.1 hcs B7 hfull hz16 hsq) hZ (hw _ (List.mem_of_getElem? (i := 43) rfl)) (hw _ (List.mem_of_getElem? (i := 8) rfl)) (by decide) (by decide)) q8a q8c (g := (mkF m 135 #[.val (.ref ba), .val (.ref b1), .val (.int (own_run 0 0 bs).2.2), .val (.int (Int32.ofNat (own_run 0 0 bs).2.1)), .val (.ref ba), .val (.int nn), .val (.int nn), s75] [(.ref b1)])) rfl (by rw [hml]; rfl) (Steps.refl _) (argsL := []) (rest := []) (lenOf pd_den2___Ljava_lang_String_ rfl) rfl (by show 2 * 0 + _ ≤ _; exact Nat.le_of_eq rfl) (hb hby den2_135) (fun _ _ => ⟨rfl, e7, (by decide : 2 + 2 ≤ _), (by decide : 20 + 20 ≤ _)⟩)
  dsimp only [Pt.U, Pt.locs, Pt.cells, Pt.slots] at X8 l8 y8 z8 st8 hQ8
  subst l8 y8 z8
  obtain ⟨rfl, N8q, K8, St8, ba8, Q8⟩ := hQ8
  have N8 := Fr.app N7 N8q
  have hold : ∀ x ∈ [b1, bq], x ∈ ([] : List Addr) ∨ h0.size ≤ x := allS (Or.inr (Nat.le_of_eq g1.symm)) (allS (Or.inr (Nat.le_trans E1.1 (Nat.le_of_eq hbq.symm))) all0)
  have Kz : Keep h0 T8.heap [] := ((((((Keep.refl h0 []).ext E1).trans Kab hold).trans K5 hold).trans K6 hold).trans K7 hold).trans K8 (fun _ q => nomatch q)
  have Stz : own_St Z h0 T8.heap := own_St.trans (own_St.trans (own_St.trans (own_St.trans (own_St.trans (own_st_ext E1) St2) St5) St6) St7) St8
  obtain ⟨fs, hr, hrun, hended, hW, hsame⟩ := X8.leave (v := some (.ref sq)) (fun h => by rw [Bd.returns] at h; cases h)
  refine ⟨_, _, pre0 _ ?_, hrun, hended, _, _, rfl, ?_, ⟨_, rfl⟩, hW, hsame.mono (by decide) (by decide)⟩
  · show Steps p.tables e below (s₁.setTop (mkF m 0 #[.val (.ref ba), .unset, .unset, .unset, .unset, .unset, .unset, .unset] [])) _
    refine st1 _ ?_
    show Steps p.tables e below (T1.setTop (mkF m 3 #[.val (.ref ba), .unset, .unset, .unset, .unset, .unset, .unset, .unset] [(.ref b1)])) _
    refine XS.dup X1.here hx rfl (hb hby den2_3) rfl rfl ?_
    show Steps p.tables e below (T1.setTop (mkF m 4 #[.val (.ref ba), .unset, .unset, .unset, .unset, .unset, .unset, .unset] [(.ref b1), (.ref b1)])) _
    refine XS.aloadN X1.here hx rfl (hb hby den2_4) rfl rfl ?_
    show Steps p.tables e below (T1.setTop (mkF m 5 #[.val (.ref ba), .unset, .unset, .unset, .unset, .unset, .unset, .unset] [(.ref ba), (.ref b1), (.ref b1)])) _
    refine X1.arraylength hx (by rw [e1]; exact Ab.1) (State.isArrayOf_alike hZ.alike Ab.2.1) (g := (mkF m 5 #[.val (.ref ba), .unset, .unset, .unset, .unset, .unset, .unset, .unset] [(.ref ba), (.ref b1), (.ref b1)])) rfl rfl (hb hby den2_5) _ ?_
    rw [len_of Sb Nb]
    show Steps p.tables e below (T1.setTop (mkF m 6 #[.val (.ref ba), .unset, .unset, .unset, .unset, .unset, .unset, .unset] [(.int nn), (.ref b1), (.ref b1)])) _
    refine XS.iconst X1.here hx rfl (hb hby den2_6) ?_
    show Steps p.tables e below (T1.setTop (mkF m 7 #[.val (.ref ba), .unset, .unset, .unset, .unset, .unset, .unset, .unset] [(.int (4 : Int32)), (.int nn), (.ref b1), (.ref b1)])) _
    refine XS.iadd X1.here hx rfl (hb hby den2_7) rfl ?_
    show Steps p.tables e below (T1.setTop (mkF m 8 #[.val (.ref ba), .unset, .unset, .unset, .unset, .unset, .unset, .unset] [(.int (nn + (4 : Int32))), (.ref b1), (.ref b1)])) _
    refine XS.iconst X1.here hx rfl (hb hby den2_8) ?_
    show Steps p.tables e below (T1.setTop (mkF m 9 #[.val (.ref ba), .unset, .unset, .unset, .unset, .unset, .unset, .unset] [(.int (5 : Int32)), (.int (nn + (4 : Int32))), (.ref b1), (.ref b1)])) _
    refine XS.idiv X1.here hx rfl (hb hby den2_9) rfl (by decide) ?_
    show Steps p.tables e below (T1.setTop (mkF m 10 #[.val (.ref ba), .unset, .unset, .unset, .unset, .unset, .unset, .unset] [(.int ((nn + (4 : Int32)) / (5 : Int32))), (.ref b1), (.ref b1)])) _
    refine XS.bipush X1.here hx rfl (hb hby den2_10) ?_
    show Steps p.tables e below (T1.setTop (mkF m 12 #[.val (.ref ba), .unset, .unset, .unset, .unset, .unset, .unset, .unset] [(.int (8 : Int32)), (.int ((nn + (4 : Int32)) / (5 : Int32))), (.ref b1), (.ref b1)])) _
    refine XS.imul X1.here hx rfl (hb hby den2_12) rfl ?_
    show Steps p.tables e below (T1.setTop (mkF m 13 #[.val (.ref ba), .unset, .unset, .unset, .unset, .unset, .unset, .unset] [(.int (((nn + (4 : Int32)) / (5 : Int32)) * (8 : Int32))), (.ref b1), (.ref b1)])) _
    rw [hzz]
    show Steps p.tables e below (T1.setTop (mkF m 13 #[.val (.ref ba), .unset, .unset, .unset, .unset, .unset, .unset, .unset] [(.int (Int32.ofNat (own_cap bs.length))), (.ref b1), (.ref b1)])) _
    refine st2.trans ?_
    show Steps p.tables e below (T2.setTop (mkF m 16 #[.val (.ref ba), .unset, .unset, .unset, .unset, .unset, .unset, .unset] [(.ref b1)])) _
    refine XS.astoreN X2.here hx rfl (hb hby den2_16) rfl rfl (l' := #[.val (.ref ba), .val (.ref b1), .unset, .unset, .unset, .unset, .unset, .unset]) rfl ?_
    show Steps p.tables e below (T2.setTop (mkF m 17 #[.val (.ref ba), .val (.ref b1), .unset, .unset, .unset, .unset, .unset, .unset] [])) _
    refine XS.iconst X2.here hx rfl (hb hby den2_17) ?_
    show Steps p.tables e below (T2.setTop (mkF m 18 #[.val (.ref ba), .val (.ref b1), .unset, .unset, .unset, .unset, .unset, .unset] [(.int (0 : Int32))])) _
    refine XS.istoreN X2.here hx rfl (hb hby den2_18) rfl (l' := #[.val (.ref ba), .val (.ref b1), .val (.int (0 : Int32)), .unset, .unset, .unset, .unset, .unset]) rfl ?_
    show Steps p.tables e below (T2.setTop (mkF m 19 #[.val (.ref ba), .val (.ref b1), .val (.int (0 : Int32)), .unset, .unset, .unset, .unset, .unset] [])) _
    refine XS.iconst X2.here hx rfl (hb hby den2_19) ?_
    show Steps p.tables e below (T2.setTop (mkF m 20 #[.val (.ref ba), .val (.ref b1), .val (.int (0 : Int32)), .unset, .unset, .unset, .unset, .unset] [(.int (0 : Int32))])) _
    refine XS.istoreN X2.here hx rfl (hb hby den2_20) rfl (l' := #[.val (.ref ba), .val (.ref b1), .val (.int (0 : Int32)), .val (.int (0 : Int32)), .unset, .unset, .unset, .unset]) rfl ?_
    show Steps p.tables e below (T2.setTop (mkF m 21 #[.val (.ref ba), .val (.ref b1), .val (.int (0 : Int32)), .val (.int (0 : Int32)), .unset, .unset, .unset, .unset] [])) _
    refine XS.aloadN X2.here hx rfl (hb hby den2_21) rfl rfl ?_
    show Steps p.tables e below (T2.setTop (mkF m 22 #[.val (.ref ba), .val (.ref b1), .val (.int (0 : Int32)), .val (.int (0 : Int32)), .unset, .unset, .unset, .unset] [(.ref ba)])) _
    refine XS.astore X2.here hx rfl (hb hby den2_22) rfl rfl (l' := #[.val (.ref ba), .val (.ref b1), .val (.int (0 : Int32)), .val (.int (0 : Int32)), .val (.ref ba), .unset, .unset, .unset]) rfl ?_
    show Steps p.tables e below (T2.setTop (mkF m 24 #[.val (.ref ba), .val (.ref b1), .val (.int (0 : Int32)), .val (.int (0 : Int32)), .val (.ref ba), .unset, .unset, .unset] [])) _
    refine XS.aload X2.here hx rfl (hb hby den2_24) rfl rfl ?_
    show Steps p.tables e below (T2.setTop (mkF m 26 #[.val (.ref ba), .val (.ref b1), .val (.int (0 : Int32)), .val (.int (0 : Int32)), .val (.ref ba), .unset, .unset, .unset] [(.ref ba)])) _
    refine X2.arraylength hx Ab2.1 (State.isArrayOf_alike hZ.alike Ab2.2.1) (g := (mkF m 26 #[.val (.ref ba), .val (.ref b1), .val (.int (0 : Int32)), .val (.int (0 : Int32)), .val (.ref ba), .unset, .unset, .unset] [(.ref ba)])) rfl rfl (hb hby den2_26) _ ?_
    rw [len_of Sb2 Nb2]
    show Steps p.tables e below (T2.setTop (mkF m 27 #[.val (.ref ba), .val (.ref b1), .val (.int (0 : Int32)), .val (.int (0 : Int32)), .val (.ref ba), .unset, .unset, .unset] [(.int nn)])) _
    refine XS.istore X2.here hx rfl (hb hby den2_27) rfl (l' := #[.val (.ref ba), .val (.ref b1), .val (.int (0 : Int32)), .val (.int (0 : Int32)), .val (.ref ba), .val (.int nn), .unset, .unset]) rfl ?_
    show Steps p.tables e below (T2.setTop (mkF m 29 #[.val (.ref ba), .val (.ref b1), .val (.int (0 : Int32)), .val (.int (0 : Int32)), .val (.ref ba), .val (.int nn), .unset, .unset] [])) _
    refine XS.iconst X2.here hx rfl (hb hby den2_29) ?_
    show Steps p.tables e below (T2.setTop (mkF m 30 #[.val (.ref ba), .val (.ref b1), .val (.int (0 : Int32)), .val (.int (0 : Int32)), .val (.ref ba), .val (.int nn), .unset, .unset] [(.int (0 : Int32))])) _
    refine XS.istore X2.here hx rfl (hb hby den2_30) rfl (l' := #[.val (.ref ba), .val (.ref b1), .val (.int (0 : Int32)), .val (.int (0 : Int32)), .val (.ref ba), .val (.int nn), .val (.int (0 : Int32)), .unset]) rfl ?_
    show Steps p.tables e below (T2.setTop (mkF m 32 #[.val (.ref ba), .val (.ref b1), .val (.int (0 : Int32)), .val (.int (0 : Int32)), .val (.ref ba), .val (.int nn), .val (.int (0 : Int32)), .unset] [])) _
    refine st5 _ ?_
    refine st6 _ ?_
    refine st7 _ ?_
    show Steps p.tables e below (T7.setTop (mkF m 134 #[.val (.ref ba), .val (.ref b1), .val (.int (own_run 0 0 bs).2.2), .val (.int (Int32.ofNat (own_run 0 0 bs).2.1)), .val (.ref ba), .val (.int nn), .val (.int nn), s75] [])) _
    refine XS.aloadN X7.here hx rfl (hb hby den2_134) rfl rfl ?_
    show Steps p.tables e below (T7.setTop (mkF m 135 #[.val (.ref ba), .val (.ref b1), .val (.int (own_run 0 0 bs).2.2), .val (.int (Int32.ofNat (own_run 0 0 bs).2.1)), .val (.ref ba), .val (.int nn), .val (.int nn), s75] [(.ref b1)])) _
    refine st8.trans ?_
    show Steps p.tables e below (T8.setTop (mkF m 138 #[.val (.ref ba), .val (.ref b1), .val (.int (own_run 0 0 bs).2.2), .val (.int (Int32.ofNat (own_run 0 0 bs).2.1)), .val (.ref ba), .val (.int nn), .val (.int nn), s75] [(.ref sq)])) _
    exact X8.areturnOut hx rfl Bd.returns rfl (hb hby den2_138) hr
  · show Q_rmEnc Z ba cs0 al kA kB nn bs h0 n0 _ T8.heap _
    exact ⟨_, rfl, N8, Kz, Stz, _, _, Q8⟩

def own_bj (a b : Int64) : Nat → Int32
  | 0 => own_byteOf a 0
  | 1 => own_byteOf a 1
  | 2 => own_byteOf a 2
  | 3 => own_byteOf a 3
  | 4 => own_byteOf a 4
  | 5 => own_byteOf b 0
  | 6 => own_byteOf b 1
  | 7 => own_byteOf b 2
  | 8 => own_byteOf b 3
  | 9 => own_byteOf b 4
  | _ => 0
def own_bytes (a b : Int64) : Nat → List Int32
  | 0 => []
  | j + 1 => own_bytes a b j ++ [own_bj a b j]
theorem own_blen (a b : Int64) : ∀ n, (own_bytes a b n).length = n
  | 0 => rfl
  | n + 1 => by simp only [own_bytes, List.length_append, own_blen a b n, List.length_cons, List.length_nil]
def own_k0 (N : Nat) : Int32 := if (Int32.ofNat N) < (5 : Int32) then (Int32.ofNat N) else (5 : Int32)
def own_k1 (N : Nat) : Int32 := if (0 : Int32) < ((Int32.ofNat N) - (5 : Int32)) then ((Int32.ofNat N) - (5 : Int32)) else (0 : Int32)
theorem own_nv_m (v x : Int32) : (own_nv v x).toInt % 65536 = (v.toInt % 256) * 256 + (x &&& (255 : Int32)).toInt := by
  have k256 : ((2 ^ 8 : Nat) : Int) = 256 := by decide
  have e1 := c_ishl v 8 8 (by decide)
  have e2 := c_mask x 255 8 (by decide) (by decide)
  rw [k256] at e1 e2
  have e3 := c_or (v <<< ((8 : Int32) &&& 31)) (x &&& (255 : Int32)) 8 (by decide) 256 k256.symm (by omega) (by omega) (by omega)
  unfold own_nv
  omega
theorem own_u_r (x : Int32) : 0 ≤ (x &&& (255 : Int32)).toInt ∧ (x &&& (255 : Int32)).toInt < 256 := by
  have k256 : ((2 ^ 8 : Nat) : Int) = 256 := by decide
  have e2 := c_mask x 255 8 (by decide) (by decide)
  rw [k256] at e2
  omega
theorem own_ixn0 (w : Int32) : (own_ix w 0).toInt = (w.toInt % 65536) / 1 % 32 := by
  have k32 : ((2 ^ 5 : Nat) : Int) = 32 := by decide
  have e0 : (w.toUInt32 >>> ((0 : Int32) &&& 31).toUInt32).toInt32 = w := by
    have e : ((0 : Int32) &&& 31).toUInt32 = 0 := by decide
    rw [e, UInt32.shiftRight_zero]; rfl
  have e1 := c_mask w 31 5 (by decide) (by decide)
  rw [k32] at e1
  unfold own_ix
  rw [e0, e1]; omega
theorem own_ixn1 (w : Int32) : (own_ix w 1).toInt = (w.toInt % 65536) / 2 % 32 := by
  have k32 : ((2 ^ 5 : Nat) : Int) = 32 := by decide
  have kp : ((2 ^ 1 : Nat) : Int) = 2 := by decide
  have e0 := c_iushr w 1 1 (by decide) (by decide)
  have e1 := c_mask ((w.toUInt32 >>> ((1 : Int32) &&& 31).toUInt32).toInt32) 31 5 (by decide) (by decide)
  rw [k32] at e1
  rw [kp] at e0
  unfold own_ix
  rw [e1, e0]; omega
theorem own_ixn2 (w : Int32) : (own_ix w 2).toInt = (w.toInt % 65536) / 4 % 32 := by
  have k32 : ((2 ^ 5 : Nat) : Int) = 32 := by decide
  have kp : ((2 ^ 2 : Nat) : Int) = 4 := by decide
  have e0 := c_iushr w 2 2 (by decide) (by decide)
  have e1 := c_mask ((w.toUInt32 >>> ((2 : Int32) &&& 31).toUInt32).toInt32) 31 5 (by decide) (by decide)
  rw [k32] at e1
  rw [kp] at e0
  unfold own_ix
  rw [e1, e0]; omega
theorem own_ixn3 (w : Int32) : (own_ix w 3).toInt = (w.toInt % 65536) / 8 % 32 := by
  have k32 : ((2 ^ 5 : Nat) : Int) = 32 := by decide
  have kp : ((2 ^ 3 : Nat) : Int) = 8 := by decide
  have e0 := c_iushr w 3 3 (by decide) (by decide)
  have e1 := c_mask ((w.toUInt32 >>> ((3 : Int32) &&& 31).toUInt32).toInt32) 31 5 (by decide) (by decide)
  rw [k32] at e1
  rw [kp] at e0
  unfold own_ix
  rw [e1, e0]; omega
theorem own_ixn4 (w : Int32) : (own_ix w 4).toInt = (w.toInt % 65536) / 16 % 32 := by
  have k32 : ((2 ^ 5 : Nat) : Int) = 32 := by decide
  have kp : ((2 ^ 4 : Nat) : Int) = 16 := by decide
  have e0 := c_iushr w 4 4 (by decide) (by decide)
  have e1 := c_mask ((w.toUInt32 >>> ((4 : Int32) &&& 31).toUInt32).toInt32) 31 5 (by decide) (by decide)
  rw [k32] at e1
  rw [kp] at e0
  unfold own_ix
  rw [e1, e0]; omega
theorem own_ixn5 (w : Int32) : (own_ix w 5).toInt = (w.toInt % 65536) / 32 % 32 := by
  have k32 : ((2 ^ 5 : Nat) : Int) = 32 := by decide
  have kp : ((2 ^ 5 : Nat) : Int) = 32 := by decide
  have e0 := c_iushr w 5 5 (by decide) (by decide)
  have e1 := c_mask ((w.toUInt32 >>> ((5 : Int32) &&& 31).toUInt32).toInt32) 31 5 (by decide) (by decide)
  rw [k32] at e1
  rw [kp] at e0
  unfold own_ix
  rw [e1, e0]; omega
theorem own_ixn6 (w : Int32) : (own_ix w 6).toInt = (w.toInt % 65536) / 64 % 32 := by
  have k32 : ((2 ^ 5 : Nat) : Int) = 32 := by decide
  have kp : ((2 ^ 6 : Nat) : Int) = 64 := by decide
  have e0 := c_iushr w 6 6 (by decide) (by decide)
  have e1 := c_mask ((w.toUInt32 >>> ((6 : Int32) &&& 31).toUInt32).toInt32) 31 5 (by decide) (by decide)
  rw [k32] at e1
  rw [kp] at e0
  unfold own_ix
  rw [e1, e0]; omega
theorem own_ixn7 (w : Int32) : (own_ix w 7).toInt = (w.toInt % 65536) / 128 % 32 := by
  have k32 : ((2 ^ 5 : Nat) : Int) = 32 := by decide
  have kp : ((2 ^ 7 : Nat) : Int) = 128 := by decide
  have e0 := c_iushr w 7 7 (by decide) (by decide)
  have e1 := c_mask ((w.toUInt32 >>> ((7 : Int32) &&& 31).toUInt32).toInt32) 31 5 (by decide) (by decide)
  rw [k32] at e1
  rw [kp] at e0
  unfold own_ix
  rw [e1, e0]; omega
theorem own_txn3 (v : Int32) : (own_tx v 3).toInt = (v.toInt % 65536) * 4 % 32 := by
  have k32 : ((2 ^ 5 : Nat) : Int) = 32 := by decide
  have kp : ((2 ^ 2 : Nat) : Int) = 4 := by decide
  have e0 := c_ishl v ((5 : Int32) - (3 : Int32)) 2 (by decide)
  have e1 := c_mask (v <<< (((5 : Int32) - (3 : Int32)) &&& 31)) 31 5 (by decide) (by decide)
  rw [k32] at e1
  rw [kp] at e0
  unfold own_tx
  rw [e1]; omega
theorem own_txn1 (v : Int32) : (own_tx v 1).toInt = (v.toInt % 65536) * 16 % 32 := by
  have k32 : ((2 ^ 5 : Nat) : Int) = 32 := by decide
  have kp : ((2 ^ 4 : Nat) : Int) = 16 := by decide
  have e0 := c_ishl v ((5 : Int32) - (1 : Int32)) 4 (by decide)
  have e1 := c_mask (v <<< (((5 : Int32) - (1 : Int32)) &&& 31)) 31 5 (by decide) (by decide)
  rw [k32] at e1
  rw [kp] at e0
  unfold own_tx
  rw [e1]; omega
theorem own_txn4 (v : Int32) : (own_tx v 4).toInt = (v.toInt % 65536) * 2 % 32 := by
  have k32 : ((2 ^ 5 : Nat) : Int) = 32 := by decide
  have kp : ((2 ^ 1 : Nat) : Int) = 2 := by decide
  have e0 := c_ishl v ((5 : Int32) - (4 : Int32)) 1 (by decide)
  have e1 := c_mask (v <<< (((5 : Int32) - (4 : Int32)) &&& 31)) 31 5 (by decide) (by decide)
  rw [k32] at e1
  rw [kp] at e0
  unfold own_tx
  rw [e1]; omega
theorem own_txn2 (v : Int32) : (own_tx v 2).toInt = (v.toInt % 65536) * 8 % 32 := by
  have k32 : ((2 ^ 5 : Nat) : Int) = 32 := by decide
  have kp : ((2 ^ 3 : Nat) : Int) = 8 := by decide
  have e0 := c_ishl v ((5 : Int32) - (2 : Int32)) 3 (by decide)
  have e1 := c_mask (v <<< (((5 : Int32) - (2 : Int32)) &&& 31)) 31 5 (by decide) (by decide)
  rw [k32] at e1
  rw [kp] at e0
  unfold own_tx
  rw [e1]; omega
theorem own_u0 (a : Int64) : (own_byteOf a 0 &&& (255 : Int32)).toInt = a.toInt / 4294967296 % 256 := by
  have e0' : (((a.toUInt64 >>> (((32 : Int32) - ((8 : Int32) * (0 : Int32))) &&& 0x3f).toInt64.toUInt64).toInt64)).toInt = (a.toInt % 18446744073709551616) / 4294967296 := by
    have e := c_lushr a ((32 : Int32) - ((8 : Int32) * (0 : Int32))) 32 (by decide) (by decide)
    have kp : ((2 ^ 32 : Nat) : Int) = 4294967296 := by decide
    rw [kp] at e; exact e
  have e1 := c_l2i ((a.toUInt64 >>> (((32 : Int32) - ((8 : Int32) * (0 : Int32))) &&& 0x3f).toInt64.toUInt64).toInt64)
  have e2 := c_i2b (((a.toUInt64 >>> (((32 : Int32) - ((8 : Int32) * (0 : Int32))) &&& 0x3f).toInt64.toUInt64).toInt64)).toInt32
  have e3 := c_mask ((((a.toUInt64 >>> (((32 : Int32) - ((8 : Int32) * (0 : Int32))) &&& 0x3f).toInt64.toUInt64).toInt64)).toInt32.toInt8.toInt32) 255 8 (by decide) (by decide)
  have k256 : ((2 ^ 8 : Nat) : Int) = 256 := by decide
  rw [k256] at e3
  unfold own_byteOf
  rw [e3]
  generalize (((a.toUInt64 >>> (((32 : Int32) - ((8 : Int32) * (0 : Int32))) &&& 0x3f).toInt64.toUInt64).toInt64)).toInt32.toInt8.toInt32.toInt = B at *
  generalize (((a.toUInt64 >>> (((32 : Int32) - ((8 : Int32) * (0 : Int32))) &&& 0x3f).toInt64.toUInt64).toInt64)).toInt32.toInt = C at *
  omega
theorem own_u1 (a : Int64) : (own_byteOf a 1 &&& (255 : Int32)).toInt = a.toInt / 16777216 % 256 := by
  have e0' : (((a.toUInt64 >>> (((32 : Int32) - ((8 : Int32) * (1 : Int32))) &&& 0x3f).toInt64.toUInt64).toInt64)).toInt = (a.toInt % 18446744073709551616) / 16777216 := by
    have e := c_lushr a ((32 : Int32) - ((8 : Int32) * (1 : Int32))) 24 (by decide) (by decide)
    have kp : ((2 ^ 24 : Nat) : Int) = 16777216 := by decide
    rw [kp] at e; exact e
  have e1 := c_l2i ((a.toUInt64 >>> (((32 : Int32) - ((8 : Int32) * (1 : Int32))) &&& 0x3f).toInt64.toUInt64).toInt64)
  have e2 := c_i2b (((a.toUInt64 >>> (((32 : Int32) - ((8 : Int32) * (1 : Int32))) &&& 0x3f).toInt64.toUInt64).toInt64)).toInt32
  have e3 := c_mask ((((a.toUInt64 >>> (((32 : Int32) - ((8 : Int32) * (1 : Int32))) &&& 0x3f).toInt64.toUInt64).toInt64)).toInt32.toInt8.toInt32) 255 8 (by decide) (by decide)
  have k256 : ((2 ^ 8 : Nat) : Int) = 256 := by decide
  rw [k256] at e3
  unfold own_byteOf
  rw [e3]
  generalize (((a.toUInt64 >>> (((32 : Int32) - ((8 : Int32) * (1 : Int32))) &&& 0x3f).toInt64.toUInt64).toInt64)).toInt32.toInt8.toInt32.toInt = B at *
  generalize (((a.toUInt64 >>> (((32 : Int32) - ((8 : Int32) * (1 : Int32))) &&& 0x3f).toInt64.toUInt64).toInt64)).toInt32.toInt = C at *
  omega
theorem own_u2 (a : Int64) : (own_byteOf a 2 &&& (255 : Int32)).toInt = a.toInt / 65536 % 256 := by
  have e0' : (((a.toUInt64 >>> (((32 : Int32) - ((8 : Int32) * (2 : Int32))) &&& 0x3f).toInt64.toUInt64).toInt64)).toInt = (a.toInt % 18446744073709551616) / 65536 := by
    have e := c_lushr a ((32 : Int32) - ((8 : Int32) * (2 : Int32))) 16 (by decide) (by decide)
    have kp : ((2 ^ 16 : Nat) : Int) = 65536 := by decide
    rw [kp] at e; exact e
  have e1 := c_l2i ((a.toUInt64 >>> (((32 : Int32) - ((8 : Int32) * (2 : Int32))) &&& 0x3f).toInt64.toUInt64).toInt64)
  have e2 := c_i2b (((a.toUInt64 >>> (((32 : Int32) - ((8 : Int32) * (2 : Int32))) &&& 0x3f).toInt64.toUInt64).toInt64)).toInt32
  have e3 := c_mask ((((a.toUInt64 >>> (((32 : Int32) - ((8 : Int32) * (2 : Int32))) &&& 0x3f).toInt64.toUInt64).toInt64)).toInt32.toInt8.toInt32) 255 8 (by decide) (by decide)
  have k256 : ((2 ^ 8 : Nat) : Int) = 256 := by decide
  rw [k256] at e3
  unfold own_byteOf
  rw [e3]
  generalize (((a.toUInt64 >>> (((32 : Int32) - ((8 : Int32) * (2 : Int32))) &&& 0x3f).toInt64.toUInt64).toInt64)).toInt32.toInt8.toInt32.toInt = B at *
  generalize (((a.toUInt64 >>> (((32 : Int32) - ((8 : Int32) * (2 : Int32))) &&& 0x3f).toInt64.toUInt64).toInt64)).toInt32.toInt = C at *
  omega
theorem own_u3 (a : Int64) : (own_byteOf a 3 &&& (255 : Int32)).toInt = a.toInt / 256 % 256 := by
  have e0' : (((a.toUInt64 >>> (((32 : Int32) - ((8 : Int32) * (3 : Int32))) &&& 0x3f).toInt64.toUInt64).toInt64)).toInt = (a.toInt % 18446744073709551616) / 256 := by
    have e := c_lushr a ((32 : Int32) - ((8 : Int32) * (3 : Int32))) 8 (by decide) (by decide)
    have kp : ((2 ^ 8 : Nat) : Int) = 256 := by decide
    rw [kp] at e; exact e
  have e1 := c_l2i ((a.toUInt64 >>> (((32 : Int32) - ((8 : Int32) * (3 : Int32))) &&& 0x3f).toInt64.toUInt64).toInt64)
  have e2 := c_i2b (((a.toUInt64 >>> (((32 : Int32) - ((8 : Int32) * (3 : Int32))) &&& 0x3f).toInt64.toUInt64).toInt64)).toInt32
  have e3 := c_mask ((((a.toUInt64 >>> (((32 : Int32) - ((8 : Int32) * (3 : Int32))) &&& 0x3f).toInt64.toUInt64).toInt64)).toInt32.toInt8.toInt32) 255 8 (by decide) (by decide)
  have k256 : ((2 ^ 8 : Nat) : Int) = 256 := by decide
  rw [k256] at e3
  unfold own_byteOf
  rw [e3]
  generalize (((a.toUInt64 >>> (((32 : Int32) - ((8 : Int32) * (3 : Int32))) &&& 0x3f).toInt64.toUInt64).toInt64)).toInt32.toInt8.toInt32.toInt = B at *
  generalize (((a.toUInt64 >>> (((32 : Int32) - ((8 : Int32) * (3 : Int32))) &&& 0x3f).toInt64.toUInt64).toInt64)).toInt32.toInt = C at *
  omega
theorem own_u4 (a : Int64) : (own_byteOf a 4 &&& (255 : Int32)).toInt = a.toInt / 1 % 256 := by
  have e0 : ((a.toUInt64 >>> (((32 : Int32) - ((8 : Int32) * (4 : Int32))) &&& 0x3f).toInt64.toUInt64).toInt64) = a := by
    have e : (((32 : Int32) - ((8 : Int32) * (4 : Int32))) &&& 0x3f).toInt64.toUInt64 = 0 := by decide
    rw [e, UInt64.shiftRight_zero]; rfl
  have e0' : (((a.toUInt64 >>> (((32 : Int32) - ((8 : Int32) * (4 : Int32))) &&& 0x3f).toInt64.toUInt64).toInt64)).toInt = a.toInt := by rw [e0]
  have e1 := c_l2i ((a.toUInt64 >>> (((32 : Int32) - ((8 : Int32) * (4 : Int32))) &&& 0x3f).toInt64.toUInt64).toInt64)
  have e2 := c_i2b (((a.toUInt64 >>> (((32 : Int32) - ((8 : Int32) * (4 : Int32))) &&& 0x3f).toInt64.toUInt64).toInt64)).toInt32
  have e3 := c_mask ((((a.toUInt64 >>> (((32 : Int32) - ((8 : Int32) * (4 : Int32))) &&& 0x3f).toInt64.toUInt64).toInt64)).toInt32.toInt8.toInt32) 255 8 (by decide) (by decide)
  have k256 : ((2 ^ 8 : Nat) : Int) = 256 := by decide
  rw [k256] at e3
  unfold own_byteOf
  rw [e3]
  generalize (((a.toUInt64 >>> (((32 : Int32) - ((8 : Int32) * (4 : Int32))) &&& 0x3f).toInt64.toUInt64).toInt64)).toInt32.toInt8.toInt32.toInt = B at *
  generalize (((a.toUInt64 >>> (((32 : Int32) - ((8 : Int32) * (4 : Int32))) &&& 0x3f).toInt64.toUInt64).toInt64)).toInt32.toInt = C at *
  omega
theorem own_kn1 (a : Int64) : (own_keep a 1).toInt = a.toInt % 1099511627776 / 4294967296 * 4294967296 := by
  have em := c_maskL a 1099511627775 40 (by decide) (by decide)
  have k40 : ((2 ^ 40 : Nat) : Int) = 1099511627776 := by decide
  rw [k40] at em
  have e0' : ((((a &&& (1099511627775 : Int64)).toUInt64 >>> (((8 : Int32) * ((5 : Int32) - (1 : Int32))) &&& 0x3f).toInt64.toUInt64).toInt64)).toInt = ((a &&& (1099511627775 : Int64)).toInt % 18446744073709551616) / 4294967296 := by
    have e := c_lushr (a &&& (1099511627775 : Int64)) ((8 : Int32) * ((5 : Int32) - (1 : Int32))) 32 (by decide) (by decide)
    have kp : ((2 ^ 32 : Nat) : Int) = 4294967296 := by decide
    rw [kp] at e; exact e
  have e2 := c_lshl (((a &&& (1099511627775 : Int64)).toUInt64 >>> (((8 : Int32) * ((5 : Int32) - (1 : Int32))) &&& 0x3f).toInt64.toUInt64).toInt64) ((8 : Int32) * ((5 : Int32) - (1 : Int32))) 32 (by decide)
  have kp2 : ((2 ^ 32 : Nat) : Int) = 4294967296 := by decide
  rw [kp2] at e2
  have r := rng64 (own_keep a 1)
  have e3 : ((own_keep a 1).toInt - ((((a &&& (1099511627775 : Int64)).toUInt64 >>> (((8 : Int32) * ((5 : Int32) - (1 : Int32))) &&& 0x3f).toInt64.toUInt64).toInt64)).toInt * 4294967296) % 18446744073709551616 = 0 := e2
  omega
theorem own_kn2 (a : Int64) : (own_keep a 2).toInt = a.toInt % 1099511627776 / 16777216 * 16777216 := by
  have em := c_maskL a 1099511627775 40 (by decide) (by decide)
  have k40 : ((2 ^ 40 : Nat) : Int) = 1099511627776 := by decide
  rw [k40] at em
  have e0' : ((((a &&& (1099511627775 : Int64)).toUInt64 >>> (((8 : Int32) * ((5 : Int32) - (2 : Int32))) &&& 0x3f).toInt64.toUInt64).toInt64)).toInt = ((a &&& (1099511627775 : Int64)).toInt % 18446744073709551616) / 16777216 := by
    have e := c_lushr (a &&& (1099511627775 : Int64)) ((8 : Int32) * ((5 : Int32) - (2 : Int32))) 24 (by decide) (by decide)
    have kp : ((2 ^ 24 : Nat) : Int) = 16777216 := by decide
    rw [kp] at e; exact e
  have e2 := c_lshl (((a &&& (1099511627775 : Int64)).toUInt64 >>> (((8 : Int32) * ((5 : Int32) - (2 : Int32))) &&& 0x3f).toInt64.toUInt64).toInt64) ((8 : Int32) * ((5 : Int32) - (2 : Int32))) 24 (by decide)
  have kp2 : ((2 ^ 24 : Nat) : Int) = 16777216 := by decide
  rw [kp2] at e2
  have r := rng64 (own_keep a 2)
  have e3 : ((own_keep a 2).toInt - ((((a &&& (1099511627775 : Int64)).toUInt64 >>> (((8 : Int32) * ((5 : Int32) - (2 : Int32))) &&& 0x3f).toInt64.toUInt64).toInt64)).toInt * 16777216) % 18446744073709551616 = 0 := e2
  omega
theorem own_kn3 (a : Int64) : (own_keep a 3).toInt = a.toInt % 1099511627776 / 65536 * 65536 := by
  have em := c_maskL a 1099511627775 40 (by decide) (by decide)
  have k40 : ((2 ^ 40 : Nat) : Int) = 1099511627776 := by decide
  rw [k40] at em
  have e0' : ((((a &&& (1099511627775 : Int64)).toUInt64 >>> (((8 : Int32) * ((5 : Int32) - (3 : Int32))) &&& 0x3f).toInt64.toUInt64).toInt64)).toInt = ((a &&& (1099511627775 : Int64)).toInt % 18446744073709551616) / 65536 := by
    have e := c_lushr (a &&& (1099511627775 : Int64)) ((8 : Int32) * ((5 : Int32) - (3 : Int32))) 16 (by decide) (by decide)
    have kp : ((2 ^ 16 : Nat) : Int) = 65536 := by decide
    rw [kp] at e; exact e
  have e2 := c_lshl (((a &&& (1099511627775 : Int64)).toUInt64 >>> (((8 : Int32) * ((5 : Int32) - (3 : Int32))) &&& 0x3f).toInt64.toUInt64).toInt64) ((8 : Int32) * ((5 : Int32) - (3 : Int32))) 16 (by decide)
  have kp2 : ((2 ^ 16 : Nat) : Int) = 65536 := by decide
  rw [kp2] at e2
  have r := rng64 (own_keep a 3)
  have e3 : ((own_keep a 3).toInt - ((((a &&& (1099511627775 : Int64)).toUInt64 >>> (((8 : Int32) * ((5 : Int32) - (3 : Int32))) &&& 0x3f).toInt64.toUInt64).toInt64)).toInt * 65536) % 18446744073709551616 = 0 := e2
  omega
theorem own_kn4 (a : Int64) : (own_keep a 4).toInt = a.toInt % 1099511627776 / 256 * 256 := by
  have em := c_maskL a 1099511627775 40 (by decide) (by decide)
  have k40 : ((2 ^ 40 : Nat) : Int) = 1099511627776 := by decide
  rw [k40] at em
  have e0' : ((((a &&& (1099511627775 : Int64)).toUInt64 >>> (((8 : Int32) * ((5 : Int32) - (4 : Int32))) &&& 0x3f).toInt64.toUInt64).toInt64)).toInt = ((a &&& (1099511627775 : Int64)).toInt % 18446744073709551616) / 256 := by
    have e := c_lushr (a &&& (1099511627775 : Int64)) ((8 : Int32) * ((5 : Int32) - (4 : Int32))) 8 (by decide) (by decide)
    have kp : ((2 ^ 8 : Nat) : Int) = 256 := by decide
    rw [kp] at e; exact e
  have e2 := c_lshl (((a &&& (1099511627775 : Int64)).toUInt64 >>> (((8 : Int32) * ((5 : Int32) - (4 : Int32))) &&& 0x3f).toInt64.toUInt64).toInt64) ((8 : Int32) * ((5 : Int32) - (4 : Int32))) 8 (by decide)
  have kp2 : ((2 ^ 8 : Nat) : Int) = 256 := by decide
  rw [kp2] at e2
  have r := rng64 (own_keep a 4)
  have e3 : ((own_keep a 4).toInt - ((((a &&& (1099511627775 : Int64)).toUInt64 >>> (((8 : Int32) * ((5 : Int32) - (4 : Int32))) &&& 0x3f).toInt64.toUInt64).toInt64)).toInt * 256) % 18446744073709551616 = 0 := e2
  omega
theorem own_kn5 (a : Int64) : (own_keep a 5).toInt = a.toInt % 1099511627776 / 1 * 1 := by
  have em := c_maskL a 1099511627775 40 (by decide) (by decide)
  have k40 : ((2 ^ 40 : Nat) : Int) = 1099511627776 := by decide
  rw [k40] at em
  have e0 : (((a &&& (1099511627775 : Int64)).toUInt64 >>> (((8 : Int32) * ((5 : Int32) - (5 : Int32))) &&& 0x3f).toInt64.toUInt64).toInt64) = (a &&& (1099511627775 : Int64)) := by
    have e : (((8 : Int32) * ((5 : Int32) - (5 : Int32))) &&& 0x3f).toInt64.toUInt64 = 0 := by decide
    rw [e, UInt64.shiftRight_zero]; rfl
  have e0' : ((((a &&& (1099511627775 : Int64)).toUInt64 >>> (((8 : Int32) * ((5 : Int32) - (5 : Int32))) &&& 0x3f).toInt64.toUInt64).toInt64)).toInt = (a &&& (1099511627775 : Int64)).toInt := by rw [e0]
  have e2 := c_lshl (((a &&& (1099511627775 : Int64)).toUInt64 >>> (((8 : Int32) * ((5 : Int32) - (5 : Int32))) &&& 0x3f).toInt64.toUInt64).toInt64) ((8 : Int32) * ((5 : Int32) - (5 : Int32))) 0 (by decide)
  have kp2 : ((2 ^ 0 : Nat) : Int) = 1 := by decide
  rw [kp2] at e2
  have r := rng64 (own_keep a 5)
  have e3 : ((own_keep a 5).toInt - ((((a &&& (1099511627775 : Int64)).toUInt64 >>> (((8 : Int32) * ((5 : Int32) - (5 : Int32))) &&& 0x3f).toInt64.toUInt64).toInt64)).toInt * 1) % 18446744073709551616 = 0 := e2
  omega
theorem own_dn0 (q : Int64) (h : 0 ≤ q.toInt ∧ q.toInt < 1099511627776) : (own_d 0 q).toInt = q.toInt / 34359738368 % 32 := by
  have e0' : (((q.toUInt64 >>> (((35 : Int32) - ((5 : Int32) * ((0 : Int32) &&& (7 : Int32)))) &&& 0x3f).toInt64.toUInt64).toInt64)).toInt = (q.toInt % 18446744073709551616) / 34359738368 := by
    have e := c_lushr q ((35 : Int32) - ((5 : Int32) * ((0 : Int32) &&& (7 : Int32)))) 35 (by decide) (by decide)
    have kp : ((2 ^ 35 : Nat) : Int) = 34359738368 := by decide
    rw [kp] at e; exact e
  have e1 := c_maskL ((q.toUInt64 >>> (((35 : Int32) - ((5 : Int32) * ((0 : Int32) &&& (7 : Int32)))) &&& 0x3f).toInt64.toUInt64).toInt64) 31 5 (by decide) (by decide)
  have k32 : ((2 ^ 5 : Nat) : Int) = 32 := by decide
  rw [k32] at e1
  have e2 := c_l2i (((q.toUInt64 >>> (((35 : Int32) - ((5 : Int32) * ((0 : Int32) &&& (7 : Int32)))) &&& 0x3f).toInt64.toUInt64).toInt64) &&& (31 : Int64))
  have r := rng32 (own_d 0 q)
  have e3 : ((own_d 0 q).toInt - (((q.toUInt64 >>> (((35 : Int32) - ((5 : Int32) * ((0 : Int32) &&& (7 : Int32)))) &&& 0x3f).toInt64.toUInt64).toInt64) &&& (31 : Int64)).toInt) % 4294967296 = 0 := e2
  omega
theorem own_d8_0 (q : Int64) : own_d 8 q = own_d 0 q := by
  unfold own_d
  rw [show ((8 : Int32) &&& (7 : Int32)) = ((0 : Int32) &&& (7 : Int32)) from by decide]
theorem own_dn1 (q : Int64) (h : 0 ≤ q.toInt ∧ q.toInt < 1099511627776) : (own_d 1 q).toInt = q.toInt / 1073741824 % 32 := by
  have e0' : (((q.toUInt64 >>> (((35 : Int32) - ((5 : Int32) * ((1 : Int32) &&& (7 : Int32)))) &&& 0x3f).toInt64.toUInt64).toInt64)).toInt = (q.toInt % 18446744073709551616) / 1073741824 := by
    have e := c_lushr q ((35 : Int32) - ((5 : Int32) * ((1 : Int32) &&& (7 : Int32)))) 30 (by decide) (by decide)
    have kp : ((2 ^ 30 : Nat) : Int) = 1073741824 := by decide
    rw [kp] at e; exact e
  have e1 := c_maskL ((q.toUInt64 >>> (((35 : Int32) - ((5 : Int32) * ((1 : Int32) &&& (7 : Int32)))) &&& 0x3f).toInt64.toUInt64).toInt64) 31 5 (by decide) (by decide)
  have k32 : ((2 ^ 5 : Nat) : Int) = 32 := by decide
  rw [k32] at e1
  have e2 := c_l2i (((q.toUInt64 >>> (((35 : Int32) - ((5 : Int32) * ((1 : Int32) &&& (7 : Int32)))) &&& 0x3f).toInt64.toUInt64).toInt64) &&& (31 : Int64))
  have r := rng32 (own_d 1 q)
  have e3 : ((own_d 1 q).toInt - (((q.toUInt64 >>> (((35 : Int32) - ((5 : Int32) * ((1 : Int32) &&& (7 : Int32)))) &&& 0x3f).toInt64.toUInt64).toInt64) &&& (31 : Int64)).toInt) % 4294967296 = 0 := e2
  omega
theorem own_d8_1 (q : Int64) : own_d 9 q = own_d 1 q := by
  unfold own_d
  rw [show ((9 : Int32) &&& (7 : Int32)) = ((1 : Int32) &&& (7 : Int32)) from by decide]
theorem own_dn2 (q : Int64) (h : 0 ≤ q.toInt ∧ q.toInt < 1099511627776) : (own_d 2 q).toInt = q.toInt / 33554432 % 32 := by
  have e0' : (((q.toUInt64 >>> (((35 : Int32) - ((5 : Int32) * ((2 : Int32) &&& (7 : Int32)))) &&& 0x3f).toInt64.toUInt64).toInt64)).toInt = (q.toInt % 18446744073709551616) / 33554432 := by
    have e := c_lushr q ((35 : Int32) - ((5 : Int32) * ((2 : Int32) &&& (7 : Int32)))) 25 (by decide) (by decide)
    have kp : ((2 ^ 25 : Nat) : Int) = 33554432 := by decide
    rw [kp] at e; exact e
  have e1 := c_maskL ((q.toUInt64 >>> (((35 : Int32) - ((5 : Int32) * ((2 : Int32) &&& (7 : Int32)))) &&& 0x3f).toInt64.toUInt64).toInt64) 31 5 (by decide) (by decide)
  have k32 : ((2 ^ 5 : Nat) : Int) = 32 := by decide
  rw [k32] at e1
  have e2 := c_l2i (((q.toUInt64 >>> (((35 : Int32) - ((5 : Int32) * ((2 : Int32) &&& (7 : Int32)))) &&& 0x3f).toInt64.toUInt64).toInt64) &&& (31 : Int64))
  have r := rng32 (own_d 2 q)
  have e3 : ((own_d 2 q).toInt - (((q.toUInt64 >>> (((35 : Int32) - ((5 : Int32) * ((2 : Int32) &&& (7 : Int32)))) &&& 0x3f).toInt64.toUInt64).toInt64) &&& (31 : Int64)).toInt) % 4294967296 = 0 := e2
  omega
theorem own_d8_2 (q : Int64) : own_d 10 q = own_d 2 q := by
  unfold own_d
  rw [show ((10 : Int32) &&& (7 : Int32)) = ((2 : Int32) &&& (7 : Int32)) from by decide]
theorem own_dn3 (q : Int64) (h : 0 ≤ q.toInt ∧ q.toInt < 1099511627776) : (own_d 3 q).toInt = q.toInt / 1048576 % 32 := by
  have e0' : (((q.toUInt64 >>> (((35 : Int32) - ((5 : Int32) * ((3 : Int32) &&& (7 : Int32)))) &&& 0x3f).toInt64.toUInt64).toInt64)).toInt = (q.toInt % 18446744073709551616) / 1048576 := by
    have e := c_lushr q ((35 : Int32) - ((5 : Int32) * ((3 : Int32) &&& (7 : Int32)))) 20 (by decide) (by decide)
    have kp : ((2 ^ 20 : Nat) : Int) = 1048576 := by decide
    rw [kp] at e; exact e
  have e1 := c_maskL ((q.toUInt64 >>> (((35 : Int32) - ((5 : Int32) * ((3 : Int32) &&& (7 : Int32)))) &&& 0x3f).toInt64.toUInt64).toInt64) 31 5 (by decide) (by decide)
  have k32 : ((2 ^ 5 : Nat) : Int) = 32 := by decide
  rw [k32] at e1
  have e2 := c_l2i (((q.toUInt64 >>> (((35 : Int32) - ((5 : Int32) * ((3 : Int32) &&& (7 : Int32)))) &&& 0x3f).toInt64.toUInt64).toInt64) &&& (31 : Int64))
  have r := rng32 (own_d 3 q)
  have e3 : ((own_d 3 q).toInt - (((q.toUInt64 >>> (((35 : Int32) - ((5 : Int32) * ((3 : Int32) &&& (7 : Int32)))) &&& 0x3f).toInt64.toUInt64).toInt64) &&& (31 : Int64)).toInt) % 4294967296 = 0 := e2
  omega
theorem own_d8_3 (q : Int64) : own_d 11 q = own_d 3 q := by
  unfold own_d
  rw [show ((11 : Int32) &&& (7 : Int32)) = ((3 : Int32) &&& (7 : Int32)) from by decide]
theorem own_dn4 (q : Int64) (h : 0 ≤ q.toInt ∧ q.toInt < 1099511627776) : (own_d 4 q).toInt = q.toInt / 32768 % 32 := by
  have e0' : (((q.toUInt64 >>> (((35 : Int32) - ((5 : Int32) * ((4 : Int32) &&& (7 : Int32)))) &&& 0x3f).toInt64.toUInt64).toInt64)).toInt = (q.toInt % 18446744073709551616) / 32768 := by
    have e := c_lushr q ((35 : Int32) - ((5 : Int32) * ((4 : Int32) &&& (7 : Int32)))) 15 (by decide) (by decide)
    have kp : ((2 ^ 15 : Nat) : Int) = 32768 := by decide
    rw [kp] at e; exact e
  have e1 := c_maskL ((q.toUInt64 >>> (((35 : Int32) - ((5 : Int32) * ((4 : Int32) &&& (7 : Int32)))) &&& 0x3f).toInt64.toUInt64).toInt64) 31 5 (by decide) (by decide)
  have k32 : ((2 ^ 5 : Nat) : Int) = 32 := by decide
  rw [k32] at e1
  have e2 := c_l2i (((q.toUInt64 >>> (((35 : Int32) - ((5 : Int32) * ((4 : Int32) &&& (7 : Int32)))) &&& 0x3f).toInt64.toUInt64).toInt64) &&& (31 : Int64))
  have r := rng32 (own_d 4 q)
  have e3 : ((own_d 4 q).toInt - (((q.toUInt64 >>> (((35 : Int32) - ((5 : Int32) * ((4 : Int32) &&& (7 : Int32)))) &&& 0x3f).toInt64.toUInt64).toInt64) &&& (31 : Int64)).toInt) % 4294967296 = 0 := e2
  omega
theorem own_d8_4 (q : Int64) : own_d 12 q = own_d 4 q := by
  unfold own_d
  rw [show ((12 : Int32) &&& (7 : Int32)) = ((4 : Int32) &&& (7 : Int32)) from by decide]
theorem own_dn5 (q : Int64) (h : 0 ≤ q.toInt ∧ q.toInt < 1099511627776) : (own_d 5 q).toInt = q.toInt / 1024 % 32 := by
  have e0' : (((q.toUInt64 >>> (((35 : Int32) - ((5 : Int32) * ((5 : Int32) &&& (7 : Int32)))) &&& 0x3f).toInt64.toUInt64).toInt64)).toInt = (q.toInt % 18446744073709551616) / 1024 := by
    have e := c_lushr q ((35 : Int32) - ((5 : Int32) * ((5 : Int32) &&& (7 : Int32)))) 10 (by decide) (by decide)
    have kp : ((2 ^ 10 : Nat) : Int) = 1024 := by decide
    rw [kp] at e; exact e
  have e1 := c_maskL ((q.toUInt64 >>> (((35 : Int32) - ((5 : Int32) * ((5 : Int32) &&& (7 : Int32)))) &&& 0x3f).toInt64.toUInt64).toInt64) 31 5 (by decide) (by decide)
  have k32 : ((2 ^ 5 : Nat) : Int) = 32 := by decide
  rw [k32] at e1
  have e2 := c_l2i (((q.toUInt64 >>> (((35 : Int32) - ((5 : Int32) * ((5 : Int32) &&& (7 : Int32)))) &&& 0x3f).toInt64.toUInt64).toInt64) &&& (31 : Int64))
  have r := rng32 (own_d 5 q)
  have e3 : ((own_d 5 q).toInt - (((q.toUInt64 >>> (((35 : Int32) - ((5 : Int32) * ((5 : Int32) &&& (7 : Int32)))) &&& 0x3f).toInt64.toUInt64).toInt64) &&& (31 : Int64)).toInt) % 4294967296 = 0 := e2
  omega
theorem own_d8_5 (q : Int64) : own_d 13 q = own_d 5 q := by
  unfold own_d
  rw [show ((13 : Int32) &&& (7 : Int32)) = ((5 : Int32) &&& (7 : Int32)) from by decide]
theorem own_dn6 (q : Int64) (h : 0 ≤ q.toInt ∧ q.toInt < 1099511627776) : (own_d 6 q).toInt = q.toInt / 32 % 32 := by
  have e0' : (((q.toUInt64 >>> (((35 : Int32) - ((5 : Int32) * ((6 : Int32) &&& (7 : Int32)))) &&& 0x3f).toInt64.toUInt64).toInt64)).toInt = (q.toInt % 18446744073709551616) / 32 := by
    have e := c_lushr q ((35 : Int32) - ((5 : Int32) * ((6 : Int32) &&& (7 : Int32)))) 5 (by decide) (by decide)
    have kp : ((2 ^ 5 : Nat) : Int) = 32 := by decide
    rw [kp] at e; exact e
  have e1 := c_maskL ((q.toUInt64 >>> (((35 : Int32) - ((5 : Int32) * ((6 : Int32) &&& (7 : Int32)))) &&& 0x3f).toInt64.toUInt64).toInt64) 31 5 (by decide) (by decide)
  have k32 : ((2 ^ 5 : Nat) : Int) = 32 := by decide
  rw [k32] at e1
  have e2 := c_l2i (((q.toUInt64 >>> (((35 : Int32) - ((5 : Int32) * ((6 : Int32) &&& (7 : Int32)))) &&& 0x3f).toInt64.toUInt64).toInt64) &&& (31 : Int64))
  have r := rng32 (own_d 6 q)
  have e3 : ((own_d 6 q).toInt - (((q.toUInt64 >>> (((35 : Int32) - ((5 : Int32) * ((6 : Int32) &&& (7 : Int32)))) &&& 0x3f).toInt64.toUInt64).toInt64) &&& (31 : Int64)).toInt) % 4294967296 = 0 := e2
  omega
theorem own_d8_6 (q : Int64) : own_d 14 q = own_d 6 q := by
  unfold own_d
  rw [show ((14 : Int32) &&& (7 : Int32)) = ((6 : Int32) &&& (7 : Int32)) from by decide]
theorem own_dn7 (q : Int64) (h : 0 ≤ q.toInt ∧ q.toInt < 1099511627776) : (own_d 7 q).toInt = q.toInt / 1 % 32 := by
  have e0 : ((q.toUInt64 >>> (((35 : Int32) - ((5 : Int32) * ((7 : Int32) &&& (7 : Int32)))) &&& 0x3f).toInt64.toUInt64).toInt64) = q := by
    have e : (((35 : Int32) - ((5 : Int32) * ((7 : Int32) &&& (7 : Int32)))) &&& 0x3f).toInt64.toUInt64 = 0 := by decide
    rw [e, UInt64.shiftRight_zero]; rfl
  have e0' : (((q.toUInt64 >>> (((35 : Int32) - ((5 : Int32) * ((7 : Int32) &&& (7 : Int32)))) &&& 0x3f).toInt64.toUInt64).toInt64)).toInt = q.toInt := by rw [e0]
  have e1 := c_maskL ((q.toUInt64 >>> (((35 : Int32) - ((5 : Int32) * ((7 : Int32) &&& (7 : Int32)))) &&& 0x3f).toInt64.toUInt64).toInt64) 31 5 (by decide) (by decide)
  have k32 : ((2 ^ 5 : Nat) : Int) = 32 := by decide
  rw [k32] at e1
  have e2 := c_l2i (((q.toUInt64 >>> (((35 : Int32) - ((5 : Int32) * ((7 : Int32) &&& (7 : Int32)))) &&& 0x3f).toInt64.toUInt64).toInt64) &&& (31 : Int64))
  have r := rng32 (own_d 7 q)
  have e3 : ((own_d 7 q).toInt - (((q.toUInt64 >>> (((35 : Int32) - ((5 : Int32) * ((7 : Int32) &&& (7 : Int32)))) &&& 0x3f).toInt64.toUInt64).toInt64) &&& (31 : Int64)).toInt) % 4294967296 = 0 := e2
  omega
theorem own_d8_7 (q : Int64) : own_d 15 q = own_d 7 q := by
  unfold own_d
  rw [show ((15 : Int32) &&& (7 : Int32)) = ((7 : Int32) &&& (7 : Int32)) from by decide]
theorem own_q_1_0 (a : Int64) (v : Int32) : own_ix (own_nv v (own_byteOf a (0 : Int32))) (3 : Int32) = own_d (0 : Int32) (own_keep a (1 : Int32)) := by
  apply Int32.toInt_inj.mp
  have m1 := own_nv_m v (own_byteOf a (0 : Int32))
  have u1 := own_u0 a
  have r1 := own_u_r (own_byteOf a (0 : Int32))
  have kk := own_kn1 a
  have kr : 0 ≤ (own_keep a 1).toInt ∧ (own_keep a 1).toInt < 1099511627776 := by omega
  have dd := own_dn0 (own_keep a 1) kr
  have ii := own_ixn3 (own_nv v (own_byteOf a (0 : Int32)))
  rw [ii, dd]
  clear ii dd
  generalize (own_nv v (own_byteOf a (0 : Int32))).toInt = WW at *
  generalize (own_keep a 1).toInt = KK at *
  generalize (own_byteOf a (0 : Int32) &&& (255 : Int32)).toInt = UA at *
  generalize a.toInt = AA at *
  omega
theorem own_q_1_1 (a : Int64) (v : Int32) : own_tx (own_nv v (own_byteOf a (0 : Int32))) (3 : Int32) = own_d (1 : Int32) (own_keep a (1 : Int32)) := by
  apply Int32.toInt_inj.mp
  have m1 := own_nv_m v (own_byteOf a (0 : Int32))
  have u1 := own_u0 a
  have r1 := own_u_r (own_byteOf a (0 : Int32))
  have kk := own_kn1 a
  have kr : 0 ≤ (own_keep a 1).toInt ∧ (own_keep a 1).toInt < 1099511627776 := by omega
  have dd := own_dn1 (own_keep a 1) kr
  have ii := own_txn3 (own_nv v (own_byteOf a (0 : Int32)))
  rw [ii, dd]
  clear ii dd
  generalize (own_nv v (own_byteOf a (0 : Int32))).toInt = WW at *
  generalize (own_keep a 1).toInt = KK at *
  generalize (own_byteOf a (0 : Int32) &&& (255 : Int32)).toInt = UA at *
  generalize a.toInt = AA at *
  omega
theorem own_q_2_0 (a : Int64) (v : Int32) : own_ix (own_nv v (own_byteOf a (0 : Int32))) (3 : Int32) = own_d (0 : Int32) (own_keep a (2 : Int32)) := by
  apply Int32.toInt_inj.mp
  have m1 := own_nv_m v (own_byteOf a (0 : Int32))
  have u1 := own_u0 a
  have r1 := own_u_r (own_byteOf a (0 : Int32))
  have kk := own_kn2 a
  have kr : 0 ≤ (own_keep a 2).toInt ∧ (own_keep a 2).toInt < 1099511627776 := by omega
  have dd := own_dn0 (own_keep a 2) kr
  have ii := own_ixn3 (own_nv v (own_byteOf a (0 : Int32)))
  rw [ii, dd]
  clear ii dd
  generalize (own_nv v (own_byteOf a (0 : Int32))).toInt = WW at *
  generalize (own_keep a 2).toInt = KK at *
  generalize (own_byteOf a (0 : Int32) &&& (255 : Int32)).toInt = UA at *
  generalize a.toInt = AA at *
  omega
theorem own_q_2_1 (a : Int64) (v : Int32) : own_ix (own_nv (own_nv v (own_byteOf a (0 : Int32))) (own_byteOf a (1 : Int32))) (6 : Int32) = own_d (1 : Int32) (own_keep a (2 : Int32)) := by
  apply Int32.toInt_inj.mp
  have m1 := own_nv_m (own_nv v (own_byteOf a (0 : Int32))) (own_byteOf a (1 : Int32))
  have u1 := own_u1 a
  have r1 := own_u_r (own_byteOf a (1 : Int32))
  have m0 := own_nv_m v (own_byteOf a (0 : Int32))
  have u0 := own_u0 a
  have r0 := own_u_r (own_byteOf a (0 : Int32))
  have kk := own_kn2 a
  have kr : 0 ≤ (own_keep a 2).toInt ∧ (own_keep a 2).toInt < 1099511627776 := by omega
  have dd := own_dn1 (own_keep a 2) kr
  have ii := own_ixn6 (own_nv (own_nv v (own_byteOf a (0 : Int32))) (own_byteOf a (1 : Int32)))
  rw [ii, dd]
  clear ii dd
  generalize (own_nv (own_nv v (own_byteOf a (0 : Int32))) (own_byteOf a (1 : Int32))).toInt = WW at *
  generalize (own_keep a 2).toInt = KK at *
  generalize (own_byteOf a (1 : Int32) &&& (255 : Int32)).toInt = UA at *
  generalize (own_byteOf a (0 : Int32) &&& (255 : Int32)).toInt = UB at *
  generalize a.toInt = AA at *
  omega
theorem own_q_2_2 (a : Int64) (v : Int32) : own_ix (own_nv (own_nv v (own_byteOf a (0 : Int32))) (own_byteOf a (1 : Int32))) (1 : Int32) = own_d (2 : Int32) (own_keep a (2 : Int32)) := by
  apply Int32.toInt_inj.mp
  have m1 := own_nv_m (own_nv v (own_byteOf a (0 : Int32))) (own_byteOf a (1 : Int32))
  have u1 := own_u1 a
  have r1 := own_u_r (own_byteOf a (1 : Int32))
  have m0 := own_nv_m v (own_byteOf a (0 : Int32))
  have u0 := own_u0 a
  have r0 := own_u_r (own_byteOf a (0 : Int32))
  have kk := own_kn2 a
  have kr : 0 ≤ (own_keep a 2).toInt ∧ (own_keep a 2).toInt < 1099511627776 := by omega
  have dd := own_dn2 (own_keep a 2) kr
  have ii := own_ixn1 (own_nv (own_nv v (own_byteOf a (0 : Int32))) (own_byteOf a (1 : Int32)))
  rw [ii, dd]
  clear ii dd
  generalize (own_nv (own_nv v (own_byteOf a (0 : Int32))) (own_byteOf a (1 : Int32))).toInt = WW at *
  generalize (own_keep a 2).toInt = KK at *
  generalize (own_byteOf a (1 : Int32) &&& (255 : Int32)).toInt = UA at *
  generalize (own_byteOf a (0 : Int32) &&& (255 : Int32)).toInt = UB at *
  generalize a.toInt = AA at *
  omega
theorem own_q_2_3 (a : Int64) (v : Int32) : own_tx (own_nv (own_nv v (own_byteOf a (0 : Int32))) (own_byteOf a (1 : Int32))) (1 : Int32) = own_d (3 : Int32) (own_keep a (2 : Int32)) := by
  apply Int32.toInt_inj.mp
  have m1 := own_nv_m (own_nv v (own_byteOf a (0 : Int32))) (own_byteOf a (1 : Int32))
  have u1 := own_u1 a
  have r1 := own_u_r (own_byteOf a (1 : Int32))
  have m0 := own_nv_m v (own_byteOf a (0 : Int32))
  have u0 := own_u0 a
  have r0 := own_u_r (own_byteOf a (0 : Int32))
  have kk := own_kn2 a
  have kr : 0 ≤ (own_keep a 2).toInt ∧ (own_keep a 2).toInt < 1099511627776 := by omega
  have dd := own_dn3 (own_keep a 2) kr
  have ii := own_txn1 (own_nv (own_nv v (own_byteOf a (0 : Int32))) (own_byteOf a (1 : Int32)))
  rw [ii, dd]
  clear ii dd
  generalize (own_nv (own_nv v (own_byteOf a (0 : Int32))) (own_byteOf a (1 : Int32))).toInt = WW at *
  generalize (own_keep a 2).toInt = KK at *
  generalize (own_byteOf a (1 : Int32) &&& (255 : Int32)).toInt = UA at *
  generalize (own_byteOf a (0 : Int32) &&& (255 : Int32)).toInt = UB at *
  generalize a.toInt = AA at *
  omega
theorem own_q_3_0 (a : Int64) (v : Int32) : own_ix (own_nv v (own_byteOf a (0 : Int32))) (3 : Int32) = own_d (0 : Int32) (own_keep a (3 : Int32)) := by
  apply Int32.toInt_inj.mp
  have m1 := own_nv_m v (own_byteOf a (0 : Int32))
  have u1 := own_u0 a
  have r1 := own_u_r (own_byteOf a (0 : Int32))
  have kk := own_kn3 a
  have kr : 0 ≤ (own_keep a 3).toInt ∧ (own_keep a 3).toInt < 1099511627776 := by omega
  have dd := own_dn0 (own_keep a 3) kr
  have ii := own_ixn3 (own_nv v (own_byteOf a (0 : Int32)))
  rw [ii, dd]
  clear ii dd
  generalize (own_nv v (own_byteOf a (0 : Int32))).toInt = WW at *
  generalize (own_keep a 3).toInt = KK at *
  generalize (own_byteOf a (0 : Int32) &&& (255 : Int32)).toInt = UA at *
  generalize a.toInt = AA at *
  omega
theorem own_q_3_1 (a : Int64) (v : Int32) : own_ix (own_nv (own_nv v (own_byteOf a (0 : Int32))) (own_byteOf a (1 : Int32))) (6 : Int32) = own_d (1 : Int32) (own_keep a (3 : Int32)) := by
  apply Int32.toInt_inj.mp
  have m1 := own_nv_m (own_nv v (own_byteOf a (0 : Int32))) (own_byteOf a (1 : Int32))
  have u1 := own_u1 a
  have r1 := own_u_r (own_byteOf a (1 : Int32))
  have m0 := own_nv_m v (own_byteOf a (0 : Int32))
  have u0 := own_u0 a
  have r0 := own_u_r (own_byteOf a (0 : Int32))
  have kk := own_kn3 a
  have kr : 0 ≤ (own_keep a 3).toInt ∧ (own_keep a 3).toInt < 1099511627776 := by omega
  have dd := own_dn1 (own_keep a 3) kr
  have ii := own_ixn6 (own_nv (own_nv v (own_byteOf a (0 : Int32))) (own_byteOf a (1 : Int32)))
  rw [ii, dd]
  clear ii dd
  generalize (own_nv (own_nv v (own_byteOf a (0 : Int32))) (own_byteOf a (1 : Int32))).toInt = WW at *
  generalize (own_keep a 3).toInt = KK at *
  generalize (own_byteOf a (1 : Int32) &&& (255 : Int32)).toInt = UA at *
  generalize (own_byteOf a (0 : Int32) &&& (255 : Int32)).toInt = UB at *
  generalize a.toInt = AA at *
  omega
theorem own_q_3_2 (a : Int64) (v : Int32) : own_ix (own_nv (own_nv v (own_byteOf a (0 : Int32))) (own_byteOf a (1 : Int32))) (1 : Int32) = own_d (2 : Int32) (own_keep a (3 : Int32)) := by
  apply Int32.toInt_inj.mp
  have m1 := own_nv_m (own_nv v (own_byteOf a (0 : Int32))) (own_byteOf a (1 : Int32))
  have u1 := own_u1 a
  have r1 := own_u_r (own_byteOf a (1 : Int32))
  have m0 := own_nv_m v (own_byteOf a (0 : Int32))
  have u0 := own_u0 a
  have r0 := own_u_r (own_byteOf a (0 : Int32))
  have kk := own_kn3 a
  have kr : 0 ≤ (own_keep a 3).toInt ∧ (own_keep a 3).toInt < 1099511627776 := by omega
  have dd := own_dn2 (own_keep a 3) kr
  have ii := own_ixn1 (own_nv (own_nv v (own_byteOf a (0 : Int32))) (own_byteOf a (1 : Int32)))
  rw [ii, dd]
  clear ii dd
  generalize (own_nv (own_nv v (own_byteOf a (0 : Int32))) (own_byteOf a (1 : Int32))).toInt = WW at *
  generalize (own_keep a 3).toInt = KK at *
  generalize (own_byteOf a (1 : Int32) &&& (255 : Int32)).toInt = UA at *
  generalize (own_byteOf a (0 : Int32) &&& (255 : Int32)).toInt = UB at *
  generalize a.toInt = AA at *
  omega
theorem own_q_3_3 (a : Int64) (v : Int32) : own_ix (own_nv (own_nv (own_nv v (own_byteOf a (0 : Int32))) (own_byteOf a (1 : Int32))) (own_byteOf a (2 : Int32))) (4 : Int32) = own_d (3 : Int32) (own_keep a (3 : Int32)) := by
  apply Int32.toInt_inj.mp
  have m1 := own_nv_m (own_nv (own_nv v (own_byteOf a (0 : Int32))) (own_byteOf a (1 : Int32))) (own_byteOf a (2 : Int32))
  have u1 := own_u2 a
  have r1 := own_u_r (own_byteOf a (2 : Int32))
  have m0 := own_nv_m (own_nv v (own_byteOf a (0 : Int32))) (own_byteOf a (1 : Int32))
  have u0 := own_u1 a
  have r0 := own_u_r (own_byteOf a (1 : Int32))
  have kk := own_kn3 a
  have kr : 0 ≤ (own_keep a 3).toInt ∧ (own_keep a 3).toInt < 1099511627776 := by omega
  have dd := own_dn3 (own_keep a 3) kr
  have ii := own_ixn4 (own_nv (own_nv (own_nv v (own_byteOf a (0 : Int32))) (own_byteOf a (1 : Int32))) (own_byteOf a (2 : Int32)))
  rw [ii, dd]
  clear ii dd
  generalize (own_nv (own_nv (own_nv v (own_byteOf a (0 : Int32))) (own_byteOf a (1 : Int32))) (own_byteOf a (2 : Int32))).toInt = WW at *
  generalize (own_keep a 3).toInt = KK at *
  generalize (own_byteOf a (2 : Int32) &&& (255 : Int32)).toInt = UA at *
  generalize (own_byteOf a (1 : Int32) &&& (255 : Int32)).toInt = UB at *
  generalize a.toInt = AA at *
  omega
theorem own_q_3_4 (a : Int64) (v : Int32) : own_tx (own_nv (own_nv (own_nv v (own_byteOf a (0 : Int32))) (own_byteOf a (1 : Int32))) (own_byteOf a (2 : Int32))) (4 : Int32) = own_d (4 : Int32) (own_keep a (3 : Int32)) := by
  apply Int32.toInt_inj.mp
  have m1 := own_nv_m (own_nv (own_nv v (own_byteOf a (0 : Int32))) (own_byteOf a (1 : Int32))) (own_byteOf a (2 : Int32))
  have u1 := own_u2 a
  have r1 := own_u_r (own_byteOf a (2 : Int32))
  have m0 := own_nv_m (own_nv v (own_byteOf a (0 : Int32))) (own_byteOf a (1 : Int32))
  have u0 := own_u1 a
  have r0 := own_u_r (own_byteOf a (1 : Int32))
  have kk := own_kn3 a
  have kr : 0 ≤ (own_keep a 3).toInt ∧ (own_keep a 3).toInt < 1099511627776 := by omega
  have dd := own_dn4 (own_keep a 3) kr
  have ii := own_txn4 (own_nv (own_nv (own_nv v (own_byteOf a (0 : Int32))) (own_byteOf a (1 : Int32))) (own_byteOf a (2 : Int32)))
  rw [ii, dd]
  clear ii dd
  generalize (own_nv (own_nv (own_nv v (own_byteOf a (0 : Int32))) (own_byteOf a (1 : Int32))) (own_byteOf a (2 : Int32))).toInt = WW at *
  generalize (own_keep a 3).toInt = KK at *
  generalize (own_byteOf a (2 : Int32) &&& (255 : Int32)).toInt = UA at *
  generalize (own_byteOf a (1 : Int32) &&& (255 : Int32)).toInt = UB at *
  generalize a.toInt = AA at *
  omega
theorem own_q_4_0 (a : Int64) (v : Int32) : own_ix (own_nv v (own_byteOf a (0 : Int32))) (3 : Int32) = own_d (0 : Int32) (own_keep a (4 : Int32)) := by
  apply Int32.toInt_inj.mp
  have m1 := own_nv_m v (own_byteOf a (0 : Int32))
  have u1 := own_u0 a
  have r1 := own_u_r (own_byteOf a (0 : Int32))
  have kk := own_kn4 a
  have kr : 0 ≤ (own_keep a 4).toInt ∧ (own_keep a 4).toInt < 1099511627776 := by omega
  have dd := own_dn0 (own_keep a 4) kr
  have ii := own_ixn3 (own_nv v (own_byteOf a (0 : Int32)))
  rw [ii, dd]
  clear ii dd
  generalize (own_nv v (own_byteOf a (0 : Int32))).toInt = WW at *
  generalize (own_keep a 4).toInt = KK at *
  generalize (own_byteOf a (0 : Int32) &&& (255 : Int32)).toInt = UA at *
  generalize a.toInt = AA at *
  omega
theorem own_q_4_1 (a : Int64) (v : Int32) : own_ix (own_nv (own_nv v (own_byteOf a (0 : Int32))) (own_byteOf a (1 : Int32))) (6 : Int32) = own_d (1 : Int32) (own_keep a (4 : Int32)) := by
  apply Int32.toInt_inj.mp
  have m1 := own_nv_m (own_nv v (own_byteOf a (0 : Int32))) (own_byteOf a (1 : Int32))
  have u1 := own_u1 a
  have r1 := own_u_r (own_byteOf a (1 : Int32))
  have m0 := own_nv_m v (own_byteOf a (0 : Int32))
  have u0 := own_u0 a
  have r0 := own_u_r (own_byteOf a (0 : Int32))
  have kk := own_kn4 a
  have kr : 0 ≤ (own_keep a 4).toInt ∧ (own_keep a 4).toInt < 1099511627776 := by omega
  have dd := own_dn1 (own_keep a 4) kr
  have ii := own_ixn6 (own_nv (own_nv v (own_byteOf a (0 : Int32))) (own_byteOf a (1 : Int32)))
  rw [ii, dd]
  clear ii dd
  generalize (own_nv (own_nv v (own_byteOf a (0 : Int32))) (own_byteOf a (1 : Int32))).toInt = WW at *
  generalize (own_keep a 4).toInt = KK at *
  generalize (own_byteOf a (1 : Int32) &&& (255 : Int32)).toInt = UA at *
  generalize (own_byteOf a (0 : Int32) &&& (255 : Int32)).toInt = UB at *
  generalize a.toInt = AA at *
  omega
theorem own_q_4_2 (a : Int64) (v : Int32) : own_ix (own_nv (own_nv v (own_byteOf a (0 : Int32))) (own_byteOf a (1 : Int32))) (1 : Int32) = own_d (2 : Int32) (own_keep a (4 : Int32)) := by
  apply Int32.toInt_inj.mp
  have m1 := own_nv_m (own_nv v (own_byteOf a (0 : Int32))) (own_byteOf a (1 : Int32))
  have u1 := own_u1 a
  have r1 := own_u_r (own_byteOf a (1 : Int32))
  have m0 := own_nv_m v (own_byteOf a (0 : Int32))
  have u0 := own_u0 a
  have r0 := own_u_r (own_byteOf a (0 : Int32))
  have kk := own_kn4 a
  have kr : 0 ≤ (own_keep a 4).toInt ∧ (own_keep a 4).toInt < 1099511627776 := by omega
  have dd := own_dn2 (own_keep a 4) kr
  have ii := own_ixn1 (own_nv (own_nv v (own_byteOf a (0 : Int32))) (own_byteOf a (1 : Int32)))
  rw [ii, dd]
  clear ii dd
  generalize (own_nv (own_nv v (own_byteOf a (0 : Int32))) (own_byteOf a (1 : Int32))).toInt = WW at *
  generalize (own_keep a 4).toInt = KK at *
  generalize (own_byteOf a (1 : Int32) &&& (255 : Int32)).toInt = UA at *
  generalize (own_byteOf a (0 : Int32) &&& (255 : Int32)).toInt = UB at *
  generalize a.toInt = AA at *
  omega
theorem own_q_4_3 (a : Int64) (v : Int32) : own_ix (own_nv (own_nv (own_nv v (own_byteOf a (0 : Int32))) (own_byteOf a (1 : Int32))) (own_byteOf a (2 : Int32))) (4 : Int32) = own_d (3 : Int32) (own_keep a (4 : Int32)) := by
  apply Int32.toInt_inj.mp
  have m1 := own_nv_m (own_nv (own_nv v (own_byteOf a (0 : Int32))) (own_byteOf a (1 : Int32))) (own_byteOf a (2 : Int32))
  have u1 := own_u2 a
  have r1 := own_u_r (own_byteOf a (2 : Int32))
  have m0 := own_nv_m (own_nv v (own_byteOf a (0 : Int32))) (own_byteOf a (1 : Int32))
  have u0 := own_u1 a
  have r0 := own_u_r (own_byteOf a (1 : Int32))
  have kk := own_kn4 a
  have kr : 0 ≤ (own_keep a 4).toInt ∧ (own_keep a 4).toInt < 1099511627776 := by omega
  have dd := own_dn3 (own_keep a 4) kr
  have ii := own_ixn4 (own_nv (own_nv (own_nv v (own_byteOf a (0 : Int32))) (own_byteOf a (1 : Int32))) (own_byteOf a (2 : Int32)))
  rw [ii, dd]
  clear ii dd
  generalize (own_nv (own_nv (own_nv v (own_byteOf a (0 : Int32))) (own_byteOf a (1 : Int32))) (own_byteOf a (2 : Int32))).toInt = WW at *
  generalize (own_keep a 4).toInt = KK at *
  generalize (own_byteOf a (2 : Int32) &&& (255 : Int32)).toInt = UA at *
  generalize (own_byteOf a (1 : Int32) &&& (255 : Int32)).toInt = UB at *
  generalize a.toInt = AA at *
  omega
theorem own_q_4_4 (a : Int64) (v : Int32) : own_ix (own_nv (own_nv (own_nv (own_nv v (own_byteOf a (0 : Int32))) (own_byteOf a (1 : Int32))) (own_byteOf a (2 : Int32))) (own_byteOf a (3 : Int32))) (7 : Int32) = own_d (4 : Int32) (own_keep a (4 : Int32)) := by
  apply Int32.toInt_inj.mp
  have m1 := own_nv_m (own_nv (own_nv (own_nv v (own_byteOf a (0 : Int32))) (own_byteOf a (1 : Int32))) (own_byteOf a (2 : Int32))) (own_byteOf a (3 : Int32))
  have u1 := own_u3 a
  have r1 := own_u_r (own_byteOf a (3 : Int32))
  have m0 := own_nv_m (own_nv (own_nv v (own_byteOf a (0 : Int32))) (own_byteOf a (1 : Int32))) (own_byteOf a (2 : Int32))
  have u0 := own_u2 a
  have r0 := own_u_r (own_byteOf a (2 : Int32))
  have kk := own_kn4 a
  have kr : 0 ≤ (own_keep a 4).toInt ∧ (own_keep a 4).toInt < 1099511627776 := by omega
  have dd := own_dn4 (own_keep a 4) kr
  have ii := own_ixn7 (own_nv (own_nv (own_nv (own_nv v (own_byteOf a (0 : Int32))) (own_byteOf a (1 : Int32))) (own_byteOf a (2 : Int32))) (own_byteOf a (3 : Int32)))
  rw [ii, dd]
  clear ii dd
  generalize (own_nv (own_nv (own_nv (own_nv v (own_byteOf a (0 : Int32))) (own_byteOf a (1 : Int32))) (own_byteOf a (2 : Int32))) (own_byteOf a (3 : Int32))).toInt = WW at *
  generalize (own_keep a 4).toInt = KK at *
  generalize (own_byteOf a (3 : Int32) &&& (255 : Int32)).toInt = UA at *
  generalize (own_byteOf a (2 : Int32) &&& (255 : Int32)).toInt = UB at *
  generalize a.toInt = AA at *
  omega
theorem own_q_4_5 (a : Int64) (v : Int32) : own_ix (own_nv (own_nv (own_nv (own_nv v (own_byteOf a (0 : Int32))) (own_byteOf a (1 : Int32))) (own_byteOf a (2 : Int32))) (own_byteOf a (3 : Int32))) (2 : Int32) = own_d (5 : Int32) (own_keep a (4 : Int32)) := by
  apply Int32.toInt_inj.mp
  have m1 := own_nv_m (own_nv (own_nv (own_nv v (own_byteOf a (0 : Int32))) (own_byteOf a (1 : Int32))) (own_byteOf a (2 : Int32))) (own_byteOf a (3 : Int32))
  have u1 := own_u3 a
  have r1 := own_u_r (own_byteOf a (3 : Int32))
  have m0 := own_nv_m (own_nv (own_nv v (own_byteOf a (0 : Int32))) (own_byteOf a (1 : Int32))) (own_byteOf a (2 : Int32))
  have u0 := own_u2 a
  have r0 := own_u_r (own_byteOf a (2 : Int32))
  have kk := own_kn4 a
  have kr : 0 ≤ (own_keep a 4).toInt ∧ (own_keep a 4).toInt < 1099511627776 := by omega
  have dd := own_dn5 (own_keep a 4) kr
  have ii := own_ixn2 (own_nv (own_nv (own_nv (own_nv v (own_byteOf a (0 : Int32))) (own_byteOf a (1 : Int32))) (own_byteOf a (2 : Int32))) (own_byteOf a (3 : Int32)))
  rw [ii, dd]
  clear ii dd
  generalize (own_nv (own_nv (own_nv (own_nv v (own_byteOf a (0 : Int32))) (own_byteOf a (1 : Int32))) (own_byteOf a (2 : Int32))) (own_byteOf a (3 : Int32))).toInt = WW at *
  generalize (own_keep a 4).toInt = KK at *
  generalize (own_byteOf a (3 : Int32) &&& (255 : Int32)).toInt = UA at *
  generalize (own_byteOf a (2 : Int32) &&& (255 : Int32)).toInt = UB at *
  generalize a.toInt = AA at *
  omega
theorem own_q_4_6 (a : Int64) (v : Int32) : own_tx (own_nv (own_nv (own_nv (own_nv v (own_byteOf a (0 : Int32))) (own_byteOf a (1 : Int32))) (own_byteOf a (2 : Int32))) (own_byteOf a (3 : Int32))) (2 : Int32) = own_d (6 : Int32) (own_keep a (4 : Int32)) := by
  apply Int32.toInt_inj.mp
  have m1 := own_nv_m (own_nv (own_nv (own_nv v (own_byteOf a (0 : Int32))) (own_byteOf a (1 : Int32))) (own_byteOf a (2 : Int32))) (own_byteOf a (3 : Int32))
  have u1 := own_u3 a
  have r1 := own_u_r (own_byteOf a (3 : Int32))
  have m0 := own_nv_m (own_nv (own_nv v (own_byteOf a (0 : Int32))) (own_byteOf a (1 : Int32))) (own_byteOf a (2 : Int32))
  have u0 := own_u2 a
  have r0 := own_u_r (own_byteOf a (2 : Int32))
  have kk := own_kn4 a
  have kr : 0 ≤ (own_keep a 4).toInt ∧ (own_keep a 4).toInt < 1099511627776 := by omega
  have dd := own_dn6 (own_keep a 4) kr
  have ii := own_txn2 (own_nv (own_nv (own_nv (own_nv v (own_byteOf a (0 : Int32))) (own_byteOf a (1 : Int32))) (own_byteOf a (2 : Int32))) (own_byteOf a (3 : Int32)))
  rw [ii, dd]
  clear ii dd
  generalize (own_nv (own_nv (own_nv (own_nv v (own_byteOf a (0 : Int32))) (own_byteOf a (1 : Int32))) (own_byteOf a (2 : Int32))) (own_byteOf a (3 : Int32))).toInt = WW at *
  generalize (own_keep a 4).toInt = KK at *
  generalize (own_byteOf a (3 : Int32) &&& (255 : Int32)).toInt = UA at *
  generalize (own_byteOf a (2 : Int32) &&& (255 : Int32)).toInt = UB at *
  generalize a.toInt = AA at *
  omega
theorem own_q_5_0 (a : Int64) (v : Int32) : own_ix (own_nv v (own_byteOf a (0 : Int32))) (3 : Int32) = own_d (0 : Int32) (own_keep a (5 : Int32)) := by
  apply Int32.toInt_inj.mp
  have m1 := own_nv_m v (own_byteOf a (0 : Int32))
  have u1 := own_u0 a
  have r1 := own_u_r (own_byteOf a (0 : Int32))
  have kk := own_kn5 a
  have kr : 0 ≤ (own_keep a 5).toInt ∧ (own_keep a 5).toInt < 1099511627776 := by omega
  have dd := own_dn0 (own_keep a 5) kr
  have ii := own_ixn3 (own_nv v (own_byteOf a (0 : Int32)))
  rw [ii, dd]
  clear ii dd
  generalize (own_nv v (own_byteOf a (0 : Int32))).toInt = WW at *
  generalize (own_keep a 5).toInt = KK at *
  generalize (own_byteOf a (0 : Int32) &&& (255 : Int32)).toInt = UA at *
  generalize a.toInt = AA at *
  omega
theorem own_q_5_1 (a : Int64) (v : Int32) : own_ix (own_nv (own_nv v (own_byteOf a (0 : Int32))) (own_byteOf a (1 : Int32))) (6 : Int32) = own_d (1 : Int32) (own_keep a (5 : Int32)) := by
  apply Int32.toInt_inj.mp
  have m1 := own_nv_m (own_nv v (own_byteOf a (0 : Int32))) (own_byteOf a (1 : Int32))
  have u1 := own_u1 a
  have r1 := own_u_r (own_byteOf a (1 : Int32))
  have m0 := own_nv_m v (own_byteOf a (0 : Int32))
  have u0 := own_u0 a
  have r0 := own_u_r (own_byteOf a (0 : Int32))
  have kk := own_kn5 a
  have kr : 0 ≤ (own_keep a 5).toInt ∧ (own_keep a 5).toInt < 1099511627776 := by omega
  have dd := own_dn1 (own_keep a 5) kr
  have ii := own_ixn6 (own_nv (own_nv v (own_byteOf a (0 : Int32))) (own_byteOf a (1 : Int32)))
  rw [ii, dd]
  clear ii dd
  generalize (own_nv (own_nv v (own_byteOf a (0 : Int32))) (own_byteOf a (1 : Int32))).toInt = WW at *
  generalize (own_keep a 5).toInt = KK at *
  generalize (own_byteOf a (1 : Int32) &&& (255 : Int32)).toInt = UA at *
  generalize (own_byteOf a (0 : Int32) &&& (255 : Int32)).toInt = UB at *
  generalize a.toInt = AA at *
  omega
theorem own_q_5_2 (a : Int64) (v : Int32) : own_ix (own_nv (own_nv v (own_byteOf a (0 : Int32))) (own_byteOf a (1 : Int32))) (1 : Int32) = own_d (2 : Int32) (own_keep a (5 : Int32)) := by
  apply Int32.toInt_inj.mp
  have m1 := own_nv_m (own_nv v (own_byteOf a (0 : Int32))) (own_byteOf a (1 : Int32))
  have u1 := own_u1 a
  have r1 := own_u_r (own_byteOf a (1 : Int32))
  have m0 := own_nv_m v (own_byteOf a (0 : Int32))
  have u0 := own_u0 a
  have r0 := own_u_r (own_byteOf a (0 : Int32))
  have kk := own_kn5 a
  have kr : 0 ≤ (own_keep a 5).toInt ∧ (own_keep a 5).toInt < 1099511627776 := by omega
  have dd := own_dn2 (own_keep a 5) kr
  have ii := own_ixn1 (own_nv (own_nv v (own_byteOf a (0 : Int32))) (own_byteOf a (1 : Int32)))
  rw [ii, dd]
  clear ii dd
  generalize (own_nv (own_nv v (own_byteOf a (0 : Int32))) (own_byteOf a (1 : Int32))).toInt = WW at *
  generalize (own_keep a 5).toInt = KK at *
  generalize (own_byteOf a (1 : Int32) &&& (255 : Int32)).toInt = UA at *
  generalize (own_byteOf a (0 : Int32) &&& (255 : Int32)).toInt = UB at *
  generalize a.toInt = AA at *
  omega
theorem own_q_5_3 (a : Int64) (v : Int32) : own_ix (own_nv (own_nv (own_nv v (own_byteOf a (0 : Int32))) (own_byteOf a (1 : Int32))) (own_byteOf a (2 : Int32))) (4 : Int32) = own_d (3 : Int32) (own_keep a (5 : Int32)) := by
  apply Int32.toInt_inj.mp
  have m1 := own_nv_m (own_nv (own_nv v (own_byteOf a (0 : Int32))) (own_byteOf a (1 : Int32))) (own_byteOf a (2 : Int32))
  have u1 := own_u2 a
  have r1 := own_u_r (own_byteOf a (2 : Int32))
  have m0 := own_nv_m (own_nv v (own_byteOf a (0 : Int32))) (own_byteOf a (1 : Int32))
  have u0 := own_u1 a
  have r0 := own_u_r (own_byteOf a (1 : Int32))
  have kk := own_kn5 a
  have kr : 0 ≤ (own_keep a 5).toInt ∧ (own_keep a 5).toInt < 1099511627776 := by omega
  have dd := own_dn3 (own_keep a 5) kr
  have ii := own_ixn4 (own_nv (own_nv (own_nv v (own_byteOf a (0 : Int32))) (own_byteOf a (1 : Int32))) (own_byteOf a (2 : Int32)))
  rw [ii, dd]
  clear ii dd
  generalize (own_nv (own_nv (own_nv v (own_byteOf a (0 : Int32))) (own_byteOf a (1 : Int32))) (own_byteOf a (2 : Int32))).toInt = WW at *
  generalize (own_keep a 5).toInt = KK at *
  generalize (own_byteOf a (2 : Int32) &&& (255 : Int32)).toInt = UA at *
  generalize (own_byteOf a (1 : Int32) &&& (255 : Int32)).toInt = UB at *
  generalize a.toInt = AA at *
  omega
theorem own_q_5_4 (a : Int64) (v : Int32) : own_ix (own_nv (own_nv (own_nv (own_nv v (own_byteOf a (0 : Int32))) (own_byteOf a (1 : Int32))) (own_byteOf a (2 : Int32))) (own_byteOf a (3 : Int32))) (7 : Int32) = own_d (4 : Int32) (own_keep a (5 : Int32)) := by
  apply Int32.toInt_inj.mp
  have m1 := own_nv_m (own_nv (own_nv (own_nv v (own_byteOf a (0 : Int32))) (own_byteOf a (1 : Int32))) (own_byteOf a (2 : Int32))) (own_byteOf a (3 : Int32))
  have u1 := own_u3 a
  have r1 := own_u_r (own_byteOf a (3 : Int32))
  have m0 := own_nv_m (own_nv (own_nv v (own_byteOf a (0 : Int32))) (own_byteOf a (1 : Int32))) (own_byteOf a (2 : Int32))
  have u0 := own_u2 a
  have r0 := own_u_r (own_byteOf a (2 : Int32))
  have kk := own_kn5 a
  have kr : 0 ≤ (own_keep a 5).toInt ∧ (own_keep a 5).toInt < 1099511627776 := by omega
  have dd := own_dn4 (own_keep a 5) kr
  have ii := own_ixn7 (own_nv (own_nv (own_nv (own_nv v (own_byteOf a (0 : Int32))) (own_byteOf a (1 : Int32))) (own_byteOf a (2 : Int32))) (own_byteOf a (3 : Int32)))
  rw [ii, dd]
  clear ii dd
  generalize (own_nv (own_nv (own_nv (own_nv v (own_byteOf a (0 : Int32))) (own_byteOf a (1 : Int32))) (own_byteOf a (2 : Int32))) (own_byteOf a (3 : Int32))).toInt = WW at *
  generalize (own_keep a 5).toInt = KK at *
  generalize (own_byteOf a (3 : Int32) &&& (255 : Int32)).toInt = UA at *
  generalize (own_byteOf a (2 : Int32) &&& (255 : Int32)).toInt = UB at *
  generalize a.toInt = AA at *
  omega
theorem own_q_5_5 (a : Int64) (v : Int32) : own_ix (own_nv (own_nv (own_nv (own_nv v (own_byteOf a (0 : Int32))) (own_byteOf a (1 : Int32))) (own_byteOf a (2 : Int32))) (own_byteOf a (3 : Int32))) (2 : Int32) = own_d (5 : Int32) (own_keep a (5 : Int32)) := by
  apply Int32.toInt_inj.mp
  have m1 := own_nv_m (own_nv (own_nv (own_nv v (own_byteOf a (0 : Int32))) (own_byteOf a (1 : Int32))) (own_byteOf a (2 : Int32))) (own_byteOf a (3 : Int32))
  have u1 := own_u3 a
  have r1 := own_u_r (own_byteOf a (3 : Int32))
  have m0 := own_nv_m (own_nv (own_nv v (own_byteOf a (0 : Int32))) (own_byteOf a (1 : Int32))) (own_byteOf a (2 : Int32))
  have u0 := own_u2 a
  have r0 := own_u_r (own_byteOf a (2 : Int32))
  have kk := own_kn5 a
  have kr : 0 ≤ (own_keep a 5).toInt ∧ (own_keep a 5).toInt < 1099511627776 := by omega
  have dd := own_dn5 (own_keep a 5) kr
  have ii := own_ixn2 (own_nv (own_nv (own_nv (own_nv v (own_byteOf a (0 : Int32))) (own_byteOf a (1 : Int32))) (own_byteOf a (2 : Int32))) (own_byteOf a (3 : Int32)))
  rw [ii, dd]
  clear ii dd
  generalize (own_nv (own_nv (own_nv (own_nv v (own_byteOf a (0 : Int32))) (own_byteOf a (1 : Int32))) (own_byteOf a (2 : Int32))) (own_byteOf a (3 : Int32))).toInt = WW at *
  generalize (own_keep a 5).toInt = KK at *
  generalize (own_byteOf a (3 : Int32) &&& (255 : Int32)).toInt = UA at *
  generalize (own_byteOf a (2 : Int32) &&& (255 : Int32)).toInt = UB at *
  generalize a.toInt = AA at *
  omega
theorem own_q_5_6 (a : Int64) (v : Int32) : own_ix (own_nv (own_nv (own_nv (own_nv (own_nv v (own_byteOf a (0 : Int32))) (own_byteOf a (1 : Int32))) (own_byteOf a (2 : Int32))) (own_byteOf a (3 : Int32))) (own_byteOf a (4 : Int32))) (5 : Int32) = own_d (6 : Int32) (own_keep a (5 : Int32)) := by
  apply Int32.toInt_inj.mp
  have m1 := own_nv_m (own_nv (own_nv (own_nv (own_nv v (own_byteOf a (0 : Int32))) (own_byteOf a (1 : Int32))) (own_byteOf a (2 : Int32))) (own_byteOf a (3 : Int32))) (own_byteOf a (4 : Int32))
  have u1 := own_u4 a
  have r1 := own_u_r (own_byteOf a (4 : Int32))
  have m0 := own_nv_m (own_nv (own_nv (own_nv v (own_byteOf a (0 : Int32))) (own_byteOf a (1 : Int32))) (own_byteOf a (2 : Int32))) (own_byteOf a (3 : Int32))
  have u0 := own_u3 a
  have r0 := own_u_r (own_byteOf a (3 : Int32))
  have kk := own_kn5 a
  have kr : 0 ≤ (own_keep a 5).toInt ∧ (own_keep a 5).toInt < 1099511627776 := by omega
  have dd := own_dn6 (own_keep a 5) kr
  have ii := own_ixn5 (own_nv (own_nv (own_nv (own_nv (own_nv v (own_byteOf a (0 : Int32))) (own_byteOf a (1 : Int32))) (own_byteOf a (2 : Int32))) (own_byteOf a (3 : Int32))) (own_byteOf a (4 : Int32)))
  rw [ii, dd]
  clear ii dd
  generalize (own_nv (own_nv (own_nv (own_nv (own_nv v (own_byteOf a (0 : Int32))) (own_byteOf a (1 : Int32))) (own_byteOf a (2 : Int32))) (own_byteOf a (3 : Int32))) (own_byteOf a (4 : Int32))).toInt = WW at *
  generalize (own_keep a 5).toInt = KK at *
  generalize (own_byteOf a (4 : Int32) &&& (255 : Int32)).toInt = UA at *
  generalize (own_byteOf a (3 : Int32) &&& (255 : Int32)).toInt = UB at *
  generalize a.toInt = AA at *
  omega
theorem own_q_5_7 (a : Int64) (v : Int32) : own_ix (own_nv (own_nv (own_nv (own_nv (own_nv v (own_byteOf a (0 : Int32))) (own_byteOf a (1 : Int32))) (own_byteOf a (2 : Int32))) (own_byteOf a (3 : Int32))) (own_byteOf a (4 : Int32))) (0 : Int32) = own_d (7 : Int32) (own_keep a (5 : Int32)) := by
  apply Int32.toInt_inj.mp
  have m1 := own_nv_m (own_nv (own_nv (own_nv (own_nv v (own_byteOf a (0 : Int32))) (own_byteOf a (1 : Int32))) (own_byteOf a (2 : Int32))) (own_byteOf a (3 : Int32))) (own_byteOf a (4 : Int32))
  have u1 := own_u4 a
  have r1 := own_u_r (own_byteOf a (4 : Int32))
  have m0 := own_nv_m (own_nv (own_nv (own_nv v (own_byteOf a (0 : Int32))) (own_byteOf a (1 : Int32))) (own_byteOf a (2 : Int32))) (own_byteOf a (3 : Int32))
  have u0 := own_u3 a
  have r0 := own_u_r (own_byteOf a (3 : Int32))
  have kk := own_kn5 a
  have kr : 0 ≤ (own_keep a 5).toInt ∧ (own_keep a 5).toInt < 1099511627776 := by omega
  have dd := own_dn7 (own_keep a 5) kr
  have ii := own_ixn0 (own_nv (own_nv (own_nv (own_nv (own_nv v (own_byteOf a (0 : Int32))) (own_byteOf a (1 : Int32))) (own_byteOf a (2 : Int32))) (own_byteOf a (3 : Int32))) (own_byteOf a (4 : Int32)))
  rw [ii, dd]
  clear ii dd
  generalize (own_nv (own_nv (own_nv (own_nv (own_nv v (own_byteOf a (0 : Int32))) (own_byteOf a (1 : Int32))) (own_byteOf a (2 : Int32))) (own_byteOf a (3 : Int32))) (own_byteOf a (4 : Int32))).toInt = WW at *
  generalize (own_keep a 5).toInt = KK at *
  generalize (own_byteOf a (4 : Int32) &&& (255 : Int32)).toInt = UA at *
  generalize (own_byteOf a (3 : Int32) &&& (255 : Int32)).toInt = UB at *
  generalize a.toInt = AA at *
  omega
theorem own_enc0 (a b : Int64) : own_enc (own_bytes a b 0) = [] := by
  unfold own_enc
  rw [own_blen, show (own_pre (own_bytes a b 0)).length = 0 from rfl]
  rfl
theorem own_enc1 (a b : Int64) : own_enc (own_bytes a b 1) = [own_al (own_ix (own_nv (0 : Int32) (own_byteOf a (0 : Int32))) (3 : Int32)), own_al (own_tx (own_nv (0 : Int32) (own_byteOf a (0 : Int32))) (3 : Int32)), (61 : Int32), (61 : Int32), (61 : Int32), (61 : Int32), (61 : Int32), (61 : Int32)] := by
  unfold own_enc
  rw [own_blen, show (own_pre (own_bytes a b 1)).length = 2 from rfl]
  rfl
theorem own_g_1_0 (a b : Int64) : ((own_enc (own_bytes a b 1)).map Value.int).getD 0 (.int (0 : Int32)) = .int (own_ex (0 : Int32) (own_keep a (1 : Int32)) (1 : Int32)) := by
  rw [own_enc1]
  unfold own_ex
  rw [if_pos (by decide)]
  exact congrArg (fun z => Value.int (own_al z)) (own_q_1_0 a (0 : Int32))
theorem own_g_1_1 (a b : Int64) : ((own_enc (own_bytes a b 1)).map Value.int).getD 1 (.int (0 : Int32)) = .int (own_ex (1 : Int32) (own_keep a (1 : Int32)) (1 : Int32)) := by
  rw [own_enc1]
  unfold own_ex
  rw [if_pos (by decide)]
  exact congrArg (fun z => Value.int (own_al z)) (own_q_1_1 a (0 : Int32))
theorem own_g_1_2 (a b : Int64) : ((own_enc (own_bytes a b 1)).map Value.int).getD 2 (.int (0 : Int32)) = .int (own_ex (2 : Int32) (own_keep a (1 : Int32)) (1 : Int32)) := by
  rw [own_enc1]
  unfold own_ex
  rw [if_neg (by decide)]
  rfl
theorem own_g_1_3 (a b : Int64) : ((own_enc (own_bytes a b 1)).map Value.int).getD 3 (.int (0 : Int32)) = .int (own_ex (3 : Int32) (own_keep a (1 : Int32)) (1 : Int32)) := by
  rw [own_enc1]
  unfold own_ex
  rw [if_neg (by decide)]
  rfl
theorem own_g_1_4 (a b : Int64) : ((own_enc (own_bytes a b 1)).map Value.int).getD 4 (.int (0 : Int32)) = .int (own_ex (4 : Int32) (own_keep a (1 : Int32)) (1 : Int32)) := by
  rw [own_enc1]
  unfold own_ex
  rw [if_neg (by decide)]
  rfl
theorem own_g_1_5 (a b : Int64) : ((own_enc (own_bytes a b 1)).map Value.int).getD 5 (.int (0 : Int32)) = .int (own_ex (5 : Int32) (own_keep a (1 : Int32)) (1 : Int32)) := by
  rw [own_enc1]
  unfold own_ex
  rw [if_neg (by decide)]
  rfl
theorem own_g_1_6 (a b : Int64) : ((own_enc (own_bytes a b 1)).map Value.int).getD 6 (.int (0 : Int32)) = .int (own_ex (6 : Int32) (own_keep a (1 : Int32)) (1 : Int32)) := by
  rw [own_enc1]
  unfold own_ex
  rw [if_neg (by decide)]
  rfl
theorem own_g_1_7 (a b : Int64) : ((own_enc (own_bytes a b 1)).map Value.int).getD 7 (.int (0 : Int32)) = .int (own_ex (7 : Int32) (own_keep a (1 : Int32)) (1 : Int32)) := by
  rw [own_enc1]
  unfold own_ex
  rw [if_neg (by decide)]
  rfl
theorem own_enc2 (a b : Int64) : own_enc (own_bytes a b 2) = [own_al (own_ix (own_nv (0 : Int32) (own_byteOf a (0 : Int32))) (3 : Int32)), own_al (own_ix (own_nv (own_nv (0 : Int32) (own_byteOf a (0 : Int32))) (own_byteOf a (1 : Int32))) (6 : Int32)), own_al (own_ix (own_nv (own_nv (0 : Int32) (own_byteOf a (0 : Int32))) (own_byteOf a (1 : Int32))) (1 : Int32)), own_al (own_tx (own_nv (own_nv (0 : Int32) (own_byteOf a (0 : Int32))) (own_byteOf a (1 : Int32))) (1 : Int32)), (61 : Int32), (61 : Int32), (61 : Int32), (61 : Int32)] := by
  unfold own_enc
  rw [own_blen, show (own_pre (own_bytes a b 2)).length = 4 from rfl]
  rfl
theorem own_g_2_0 (a b : Int64) : ((own_enc (own_bytes a b 2)).map Value.int).getD 0 (.int (0 : Int32)) = .int (own_ex (0 : Int32) (own_keep a (2 : Int32)) (2 : Int32)) := by
  rw [own_enc2]
  unfold own_ex
  rw [if_pos (by decide)]
  exact congrArg (fun z => Value.int (own_al z)) (own_q_2_0 a (0 : Int32))
theorem own_g_2_1 (a b : Int64) : ((own_enc (own_bytes a b 2)).map Value.int).getD 1 (.int (0 : Int32)) = .int (own_ex (1 : Int32) (own_keep a (2 : Int32)) (2 : Int32)) := by
  rw [own_enc2]
  unfold own_ex
  rw [if_pos (by decide)]
  exact congrArg (fun z => Value.int (own_al z)) (own_q_2_1 a (0 : Int32))
theorem own_g_2_2 (a b : Int64) : ((own_enc (own_bytes a b 2)).map Value.int).getD 2 (.int (0 : Int32)) = .int (own_ex (2 : Int32) (own_keep a (2 : Int32)) (2 : Int32)) := by
  rw [own_enc2]
  unfold own_ex
  rw [if_pos (by decide)]
  exact congrArg (fun z => Value.int (own_al z)) (own_q_2_2 a (0 : Int32))
theorem own_g_2_3 (a b : Int64) : ((own_enc (own_bytes a b 2)).map Value.int).getD 3 (.int (0 : Int32)) = .int (own_ex (3 : Int32) (own_keep a (2 : Int32)) (2 : Int32)) := by
  rw [own_enc2]
  unfold own_ex
  rw [if_pos (by decide)]
  exact congrArg (fun z => Value.int (own_al z)) (own_q_2_3 a (0 : Int32))
theorem own_g_2_4 (a b : Int64) : ((own_enc (own_bytes a b 2)).map Value.int).getD 4 (.int (0 : Int32)) = .int (own_ex (4 : Int32) (own_keep a (2 : Int32)) (2 : Int32)) := by
  rw [own_enc2]
  unfold own_ex
  rw [if_neg (by decide)]
  rfl
theorem own_g_2_5 (a b : Int64) : ((own_enc (own_bytes a b 2)).map Value.int).getD 5 (.int (0 : Int32)) = .int (own_ex (5 : Int32) (own_keep a (2 : Int32)) (2 : Int32)) := by
  rw [own_enc2]
  unfold own_ex
  rw [if_neg (by decide)]
  rfl
theorem own_g_2_6 (a b : Int64) : ((own_enc (own_bytes a b 2)).map Value.int).getD 6 (.int (0 : Int32)) = .int (own_ex (6 : Int32) (own_keep a (2 : Int32)) (2 : Int32)) := by
  rw [own_enc2]
  unfold own_ex
  rw [if_neg (by decide)]
  rfl
theorem own_g_2_7 (a b : Int64) : ((own_enc (own_bytes a b 2)).map Value.int).getD 7 (.int (0 : Int32)) = .int (own_ex (7 : Int32) (own_keep a (2 : Int32)) (2 : Int32)) := by
  rw [own_enc2]
  unfold own_ex
  rw [if_neg (by decide)]
  rfl
theorem own_enc3 (a b : Int64) : own_enc (own_bytes a b 3) = [own_al (own_ix (own_nv (0 : Int32) (own_byteOf a (0 : Int32))) (3 : Int32)), own_al (own_ix (own_nv (own_nv (0 : Int32) (own_byteOf a (0 : Int32))) (own_byteOf a (1 : Int32))) (6 : Int32)), own_al (own_ix (own_nv (own_nv (0 : Int32) (own_byteOf a (0 : Int32))) (own_byteOf a (1 : Int32))) (1 : Int32)), own_al (own_ix (own_nv (own_nv (own_nv (0 : Int32) (own_byteOf a (0 : Int32))) (own_byteOf a (1 : Int32))) (own_byteOf a (2 : Int32))) (4 : Int32)), own_al (own_tx (own_nv (own_nv (own_nv (0 : Int32) (own_byteOf a (0 : Int32))) (own_byteOf a (1 : Int32))) (own_byteOf a (2 : Int32))) (4 : Int32)), (61 : Int32), (61 : Int32), (61 : Int32)] := by
  unfold own_enc
  rw [own_blen, show (own_pre (own_bytes a b 3)).length = 5 from rfl]
  rfl
theorem own_g_3_0 (a b : Int64) : ((own_enc (own_bytes a b 3)).map Value.int).getD 0 (.int (0 : Int32)) = .int (own_ex (0 : Int32) (own_keep a (3 : Int32)) (3 : Int32)) := by
  rw [own_enc3]
  unfold own_ex
  rw [if_pos (by decide)]
  exact congrArg (fun z => Value.int (own_al z)) (own_q_3_0 a (0 : Int32))
theorem own_g_3_1 (a b : Int64) : ((own_enc (own_bytes a b 3)).map Value.int).getD 1 (.int (0 : Int32)) = .int (own_ex (1 : Int32) (own_keep a (3 : Int32)) (3 : Int32)) := by
  rw [own_enc3]
  unfold own_ex
  rw [if_pos (by decide)]
  exact congrArg (fun z => Value.int (own_al z)) (own_q_3_1 a (0 : Int32))
theorem own_g_3_2 (a b : Int64) : ((own_enc (own_bytes a b 3)).map Value.int).getD 2 (.int (0 : Int32)) = .int (own_ex (2 : Int32) (own_keep a (3 : Int32)) (3 : Int32)) := by
  rw [own_enc3]
  unfold own_ex
  rw [if_pos (by decide)]
  exact congrArg (fun z => Value.int (own_al z)) (own_q_3_2 a (0 : Int32))
theorem own_g_3_3 (a b : Int64) : ((own_enc (own_bytes a b 3)).map Value.int).getD 3 (.int (0 : Int32)) = .int (own_ex (3 : Int32) (own_keep a (3 : Int32)) (3 : Int32)) := by
  rw [own_enc3]
  unfold own_ex
  rw [if_pos (by decide)]
  exact congrArg (fun z => Value.int (own_al z)) (own_q_3_3 a (0 : Int32))
theorem own_g_3_4 (a b : Int64) : ((own_enc (own_bytes a b 3)).map Value.int).getD 4 (.int (0 : Int32)) = .int (own_ex (4 : Int32) (own_keep a (3 : Int32)) (3 : Int32)) := by
  rw [own_enc3]
  unfold own_ex
  rw [if_pos (by decide)]
  exact congrArg (fun z => Value.int (own_al z)) (own_q_3_4 a (0 : Int32))
theorem own_g_3_5 (a b : Int64) : ((own_enc (own_bytes a b 3)).map Value.int).getD 5 (.int (0 : Int32)) = .int (own_ex (5 : Int32) (own_keep a (3 : Int32)) (3 : Int32)) := by
  rw [own_enc3]
  unfold own_ex
  rw [if_neg (by decide)]
  rfl
theorem own_g_3_6 (a b : Int64) : ((own_enc (own_bytes a b 3)).map Value.int).getD 6 (.int (0 : Int32)) = .int (own_ex (6 : Int32) (own_keep a (3 : Int32)) (3 : Int32)) := by
  rw [own_enc3]
  unfold own_ex
  rw [if_neg (by decide)]
  rfl
theorem own_g_3_7 (a b : Int64) : ((own_enc (own_bytes a b 3)).map Value.int).getD 7 (.int (0 : Int32)) = .int (own_ex (7 : Int32) (own_keep a (3 : Int32)) (3 : Int32)) := by
  rw [own_enc3]
  unfold own_ex
  rw [if_neg (by decide)]
  rfl
theorem own_enc4 (a b : Int64) : own_enc (own_bytes a b 4) = [own_al (own_ix (own_nv (0 : Int32) (own_byteOf a (0 : Int32))) (3 : Int32)), own_al (own_ix (own_nv (own_nv (0 : Int32) (own_byteOf a (0 : Int32))) (own_byteOf a (1 : Int32))) (6 : Int32)), own_al (own_ix (own_nv (own_nv (0 : Int32) (own_byteOf a (0 : Int32))) (own_byteOf a (1 : Int32))) (1 : Int32)), own_al (own_ix (own_nv (own_nv (own_nv (0 : Int32) (own_byteOf a (0 : Int32))) (own_byteOf a (1 : Int32))) (own_byteOf a (2 : Int32))) (4 : Int32)), own_al (own_ix (own_nv (own_nv (own_nv (own_nv (0 : Int32) (own_byteOf a (0 : Int32))) (own_byteOf a (1 : Int32))) (own_byteOf a (2 : Int32))) (own_byteOf a (3 : Int32))) (7 : Int32)), own_al (own_ix (own_nv (own_nv (own_nv (own_nv (0 : Int32) (own_byteOf a (0 : Int32))) (own_byteOf a (1 : Int32))) (own_byteOf a (2 : Int32))) (own_byteOf a (3 : Int32))) (2 : Int32)), own_al (own_tx (own_nv (own_nv (own_nv (own_nv (0 : Int32) (own_byteOf a (0 : Int32))) (own_byteOf a (1 : Int32))) (own_byteOf a (2 : Int32))) (own_byteOf a (3 : Int32))) (2 : Int32)), (61 : Int32)] := by
  unfold own_enc
  rw [own_blen, show (own_pre (own_bytes a b 4)).length = 7 from rfl]
  rfl
theorem own_g_4_0 (a b : Int64) : ((own_enc (own_bytes a b 4)).map Value.int).getD 0 (.int (0 : Int32)) = .int (own_ex (0 : Int32) (own_keep a (4 : Int32)) (4 : Int32)) := by
  rw [own_enc4]
  unfold own_ex
  rw [if_pos (by decide)]
  exact congrArg (fun z => Value.int (own_al z)) (own_q_4_0 a (0 : Int32))
theorem own_g_4_1 (a b : Int64) : ((own_enc (own_bytes a b 4)).map Value.int).getD 1 (.int (0 : Int32)) = .int (own_ex (1 : Int32) (own_keep a (4 : Int32)) (4 : Int32)) := by
  rw [own_enc4]
  unfold own_ex
  rw [if_pos (by decide)]
  exact congrArg (fun z => Value.int (own_al z)) (own_q_4_1 a (0 : Int32))
theorem own_g_4_2 (a b : Int64) : ((own_enc (own_bytes a b 4)).map Value.int).getD 2 (.int (0 : Int32)) = .int (own_ex (2 : Int32) (own_keep a (4 : Int32)) (4 : Int32)) := by
  rw [own_enc4]
  unfold own_ex
  rw [if_pos (by decide)]
  exact congrArg (fun z => Value.int (own_al z)) (own_q_4_2 a (0 : Int32))
theorem own_g_4_3 (a b : Int64) : ((own_enc (own_bytes a b 4)).map Value.int).getD 3 (.int (0 : Int32)) = .int (own_ex (3 : Int32) (own_keep a (4 : Int32)) (4 : Int32)) := by
  rw [own_enc4]
  unfold own_ex
  rw [if_pos (by decide)]
  exact congrArg (fun z => Value.int (own_al z)) (own_q_4_3 a (0 : Int32))
theorem own_g_4_4 (a b : Int64) : ((own_enc (own_bytes a b 4)).map Value.int).getD 4 (.int (0 : Int32)) = .int (own_ex (4 : Int32) (own_keep a (4 : Int32)) (4 : Int32)) := by
  rw [own_enc4]
  unfold own_ex
  rw [if_pos (by decide)]
  exact congrArg (fun z => Value.int (own_al z)) (own_q_4_4 a (0 : Int32))
theorem own_g_4_5 (a b : Int64) : ((own_enc (own_bytes a b 4)).map Value.int).getD 5 (.int (0 : Int32)) = .int (own_ex (5 : Int32) (own_keep a (4 : Int32)) (4 : Int32)) := by
  rw [own_enc4]
  unfold own_ex
  rw [if_pos (by decide)]
  exact congrArg (fun z => Value.int (own_al z)) (own_q_4_5 a (0 : Int32))
theorem own_g_4_6 (a b : Int64) : ((own_enc (own_bytes a b 4)).map Value.int).getD 6 (.int (0 : Int32)) = .int (own_ex (6 : Int32) (own_keep a (4 : Int32)) (4 : Int32)) := by
  rw [own_enc4]
  unfold own_ex
  rw [if_pos (by decide)]
  exact congrArg (fun z => Value.int (own_al z)) (own_q_4_6 a (0 : Int32))
theorem own_g_4_7 (a b : Int64) : ((own_enc (own_bytes a b 4)).map Value.int).getD 7 (.int (0 : Int32)) = .int (own_ex (7 : Int32) (own_keep a (4 : Int32)) (4 : Int32)) := by
  rw [own_enc4]
  unfold own_ex
  rw [if_neg (by decide)]
  rfl
theorem own_enc5 (a b : Int64) : own_enc (own_bytes a b 5) = [own_al (own_ix (own_nv (0 : Int32) (own_byteOf a (0 : Int32))) (3 : Int32)), own_al (own_ix (own_nv (own_nv (0 : Int32) (own_byteOf a (0 : Int32))) (own_byteOf a (1 : Int32))) (6 : Int32)), own_al (own_ix (own_nv (own_nv (0 : Int32) (own_byteOf a (0 : Int32))) (own_byteOf a (1 : Int32))) (1 : Int32)), own_al (own_ix (own_nv (own_nv (own_nv (0 : Int32) (own_byteOf a (0 : Int32))) (own_byteOf a (1 : Int32))) (own_byteOf a (2 : Int32))) (4 : Int32)), own_al (own_ix (own_nv (own_nv (own_nv (own_nv (0 : Int32) (own_byteOf a (0 : Int32))) (own_byteOf a (1 : Int32))) (own_byteOf a (2 : Int32))) (own_byteOf a (3 : Int32))) (7 : Int32)), own_al (own_ix (own_nv (own_nv (own_nv (own_nv (0 : Int32) (own_byteOf a (0 : Int32))) (own_byteOf a (1 : Int32))) (own_byteOf a (2 : Int32))) (own_byteOf a (3 : Int32))) (2 : Int32)), own_al (own_ix (own_nv (own_nv (own_nv (own_nv (own_nv (0 : Int32) (own_byteOf a (0 : Int32))) (own_byteOf a (1 : Int32))) (own_byteOf a (2 : Int32))) (own_byteOf a (3 : Int32))) (own_byteOf a (4 : Int32))) (5 : Int32)), own_al (own_ix (own_nv (own_nv (own_nv (own_nv (own_nv (0 : Int32) (own_byteOf a (0 : Int32))) (own_byteOf a (1 : Int32))) (own_byteOf a (2 : Int32))) (own_byteOf a (3 : Int32))) (own_byteOf a (4 : Int32))) (0 : Int32))] := by
  unfold own_enc
  rw [own_blen, show (own_pre (own_bytes a b 5)).length = 8 from rfl]
  rfl
theorem own_g_5_0 (a b : Int64) : ((own_enc (own_bytes a b 5)).map Value.int).getD 0 (.int (0 : Int32)) = .int (own_ex (0 : Int32) (own_keep a (5 : Int32)) (5 : Int32)) := by
  rw [own_enc5]
  unfold own_ex
  rw [if_pos (by decide)]
  exact congrArg (fun z => Value.int (own_al z)) (own_q_5_0 a (0 : Int32))
theorem own_g_5_1 (a b : Int64) : ((own_enc (own_bytes a b 5)).map Value.int).getD 1 (.int (0 : Int32)) = .int (own_ex (1 : Int32) (own_keep a (5 : Int32)) (5 : Int32)) := by
  rw [own_enc5]
  unfold own_ex
  rw [if_pos (by decide)]
  exact congrArg (fun z => Value.int (own_al z)) (own_q_5_1 a (0 : Int32))
theorem own_g_5_2 (a b : Int64) : ((own_enc (own_bytes a b 5)).map Value.int).getD 2 (.int (0 : Int32)) = .int (own_ex (2 : Int32) (own_keep a (5 : Int32)) (5 : Int32)) := by
  rw [own_enc5]
  unfold own_ex
  rw [if_pos (by decide)]
  exact congrArg (fun z => Value.int (own_al z)) (own_q_5_2 a (0 : Int32))
theorem own_g_5_3 (a b : Int64) : ((own_enc (own_bytes a b 5)).map Value.int).getD 3 (.int (0 : Int32)) = .int (own_ex (3 : Int32) (own_keep a (5 : Int32)) (5 : Int32)) := by
  rw [own_enc5]
  unfold own_ex
  rw [if_pos (by decide)]
  exact congrArg (fun z => Value.int (own_al z)) (own_q_5_3 a (0 : Int32))
theorem own_g_5_4 (a b : Int64) : ((own_enc (own_bytes a b 5)).map Value.int).getD 4 (.int (0 : Int32)) = .int (own_ex (4 : Int32) (own_keep a (5 : Int32)) (5 : Int32)) := by
  rw [own_enc5]
  unfold own_ex
  rw [if_pos (by decide)]
  exact congrArg (fun z => Value.int (own_al z)) (own_q_5_4 a (0 : Int32))
theorem own_g_5_5 (a b : Int64) : ((own_enc (own_bytes a b 5)).map Value.int).getD 5 (.int (0 : Int32)) = .int (own_ex (5 : Int32) (own_keep a (5 : Int32)) (5 : Int32)) := by
  rw [own_enc5]
  unfold own_ex
  rw [if_pos (by decide)]
  exact congrArg (fun z => Value.int (own_al z)) (own_q_5_5 a (0 : Int32))
theorem own_g_5_6 (a b : Int64) : ((own_enc (own_bytes a b 5)).map Value.int).getD 6 (.int (0 : Int32)) = .int (own_ex (6 : Int32) (own_keep a (5 : Int32)) (5 : Int32)) := by
  rw [own_enc5]
  unfold own_ex
  rw [if_pos (by decide)]
  exact congrArg (fun z => Value.int (own_al z)) (own_q_5_6 a (0 : Int32))
theorem own_g_5_7 (a b : Int64) : ((own_enc (own_bytes a b 5)).map Value.int).getD 7 (.int (0 : Int32)) = .int (own_ex (7 : Int32) (own_keep a (5 : Int32)) (5 : Int32)) := by
  rw [own_enc5]
  unfold own_ex
  rw [if_pos (by decide)]
  exact congrArg (fun z => Value.int (own_al z)) (own_q_5_7 a (0 : Int32))
theorem own_enc6 (a b : Int64) : own_enc (own_bytes a b 6) = [own_al (own_ix (own_nv (0 : Int32) (own_byteOf a (0 : Int32))) (3 : Int32)), own_al (own_ix (own_nv (own_nv (0 : Int32) (own_byteOf a (0 : Int32))) (own_byteOf a (1 : Int32))) (6 : Int32)), own_al (own_ix (own_nv (own_nv (0 : Int32) (own_byteOf a (0 : Int32))) (own_byteOf a (1 : Int32))) (1 : Int32)), own_al (own_ix (own_nv (own_nv (own_nv (0 : Int32) (own_byteOf a (0 : Int32))) (own_byteOf a (1 : Int32))) (own_byteOf a (2 : Int32))) (4 : Int32)), own_al (own_ix (own_nv (own_nv (own_nv (own_nv (0 : Int32) (own_byteOf a (0 : Int32))) (own_byteOf a (1 : Int32))) (own_byteOf a (2 : Int32))) (own_byteOf a (3 : Int32))) (7 : Int32)), own_al (own_ix (own_nv (own_nv (own_nv (own_nv (0 : Int32) (own_byteOf a (0 : Int32))) (own_byteOf a (1 : Int32))) (own_byteOf a (2 : Int32))) (own_byteOf a (3 : Int32))) (2 : Int32)), own_al (own_ix (own_nv (own_nv (own_nv (own_nv (own_nv (0 : Int32) (own_byteOf a (0 : Int32))) (own_byteOf a (1 : Int32))) (own_byteOf a (2 : Int32))) (own_byteOf a (3 : Int32))) (own_byteOf a (4 : Int32))) (5 : Int32)), own_al (own_ix (own_nv (own_nv (own_nv (own_nv (own_nv (0 : Int32) (own_byteOf a (0 : Int32))) (own_byteOf a (1 : Int32))) (own_byteOf a (2 : Int32))) (own_byteOf a (3 : Int32))) (own_byteOf a (4 : Int32))) (0 : Int32)), own_al (own_ix (own_nv (own_nv (own_nv (own_nv (own_nv (own_nv (0 : Int32) (own_byteOf a (0 : Int32))) (own_byteOf a (1 : Int32))) (own_byteOf a (2 : Int32))) (own_byteOf a (3 : Int32))) (own_byteOf a (4 : Int32))) (own_byteOf b (0 : Int32))) (3 : Int32)), own_al (own_tx (own_nv (own_nv (own_nv (own_nv (own_nv (own_nv (0 : Int32) (own_byteOf a (0 : Int32))) (own_byteOf a (1 : Int32))) (own_byteOf a (2 : Int32))) (own_byteOf a (3 : Int32))) (own_byteOf a (4 : Int32))) (own_byteOf b (0 : Int32))) (3 : Int32)), (61 : Int32), (61 : Int32), (61 : Int32), (61 : Int32), (61 : Int32), (61 : Int32)] := by
  unfold own_enc
  rw [own_blen, show (own_pre (own_bytes a b 6)).length = 10 from rfl]
  rfl
theorem own_g_6_0 (a b : Int64) : ((own_enc (own_bytes a b 6)).map Value.int).getD 0 (.int (0 : Int32)) = .int (own_ex (0 : Int32) (own_keep a (5 : Int32)) (5 : Int32)) := by
  rw [own_enc6]
  unfold own_ex
  rw [if_pos (by decide)]
  exact congrArg (fun z => Value.int (own_al z)) (own_q_5_0 a (0 : Int32))
theorem own_g_6_1 (a b : Int64) : ((own_enc (own_bytes a b 6)).map Value.int).getD 1 (.int (0 : Int32)) = .int (own_ex (1 : Int32) (own_keep a (5 : Int32)) (5 : Int32)) := by
  rw [own_enc6]
  unfold own_ex
  rw [if_pos (by decide)]
  exact congrArg (fun z => Value.int (own_al z)) (own_q_5_1 a (0 : Int32))
theorem own_g_6_2 (a b : Int64) : ((own_enc (own_bytes a b 6)).map Value.int).getD 2 (.int (0 : Int32)) = .int (own_ex (2 : Int32) (own_keep a (5 : Int32)) (5 : Int32)) := by
  rw [own_enc6]
  unfold own_ex
  rw [if_pos (by decide)]
  exact congrArg (fun z => Value.int (own_al z)) (own_q_5_2 a (0 : Int32))
theorem own_g_6_3 (a b : Int64) : ((own_enc (own_bytes a b 6)).map Value.int).getD 3 (.int (0 : Int32)) = .int (own_ex (3 : Int32) (own_keep a (5 : Int32)) (5 : Int32)) := by
  rw [own_enc6]
  unfold own_ex
  rw [if_pos (by decide)]
  exact congrArg (fun z => Value.int (own_al z)) (own_q_5_3 a (0 : Int32))
theorem own_g_6_4 (a b : Int64) : ((own_enc (own_bytes a b 6)).map Value.int).getD 4 (.int (0 : Int32)) = .int (own_ex (4 : Int32) (own_keep a (5 : Int32)) (5 : Int32)) := by
  rw [own_enc6]
  unfold own_ex
  rw [if_pos (by decide)]
  exact congrArg (fun z => Value.int (own_al z)) (own_q_5_4 a (0 : Int32))
theorem own_g_6_5 (a b : Int64) : ((own_enc (own_bytes a b 6)).map Value.int).getD 5 (.int (0 : Int32)) = .int (own_ex (5 : Int32) (own_keep a (5 : Int32)) (5 : Int32)) := by
  rw [own_enc6]
  unfold own_ex
  rw [if_pos (by decide)]
  exact congrArg (fun z => Value.int (own_al z)) (own_q_5_5 a (0 : Int32))
theorem own_g_6_6 (a b : Int64) : ((own_enc (own_bytes a b 6)).map Value.int).getD 6 (.int (0 : Int32)) = .int (own_ex (6 : Int32) (own_keep a (5 : Int32)) (5 : Int32)) := by
  rw [own_enc6]
  unfold own_ex
  rw [if_pos (by decide)]
  exact congrArg (fun z => Value.int (own_al z)) (own_q_5_6 a (0 : Int32))
theorem own_g_6_7 (a b : Int64) : ((own_enc (own_bytes a b 6)).map Value.int).getD 7 (.int (0 : Int32)) = .int (own_ex (7 : Int32) (own_keep a (5 : Int32)) (5 : Int32)) := by
  rw [own_enc6]
  unfold own_ex
  rw [if_pos (by decide)]
  exact congrArg (fun z => Value.int (own_al z)) (own_q_5_7 a (0 : Int32))
theorem own_g_6_8 (a b : Int64) : ((own_enc (own_bytes a b 6)).map Value.int).getD 8 (.int (0 : Int32)) = .int (own_ex (8 : Int32) (own_keep b (1 : Int32)) (1 : Int32)) := by
  rw [own_enc6]
  unfold own_ex
  rw [if_pos (by decide), own_d8_0]
  exact congrArg (fun z => Value.int (own_al z)) (own_q_1_0 b (own_nv (own_nv (own_nv (own_nv (own_nv (0 : Int32) (own_byteOf a (0 : Int32))) (own_byteOf a (1 : Int32))) (own_byteOf a (2 : Int32))) (own_byteOf a (3 : Int32))) (own_byteOf a (4 : Int32))))
theorem own_g_6_9 (a b : Int64) : ((own_enc (own_bytes a b 6)).map Value.int).getD 9 (.int (0 : Int32)) = .int (own_ex (9 : Int32) (own_keep b (1 : Int32)) (1 : Int32)) := by
  rw [own_enc6]
  unfold own_ex
  rw [if_pos (by decide), own_d8_1]
  exact congrArg (fun z => Value.int (own_al z)) (own_q_1_1 b (own_nv (own_nv (own_nv (own_nv (own_nv (0 : Int32) (own_byteOf a (0 : Int32))) (own_byteOf a (1 : Int32))) (own_byteOf a (2 : Int32))) (own_byteOf a (3 : Int32))) (own_byteOf a (4 : Int32))))
theorem own_g_6_10 (a b : Int64) : ((own_enc (own_bytes a b 6)).map Value.int).getD 10 (.int (0 : Int32)) = .int (own_ex (10 : Int32) (own_keep b (1 : Int32)) (1 : Int32)) := by
  rw [own_enc6]
  unfold own_ex
  rw [if_neg (by decide)]
  rfl
theorem own_g_6_11 (a b : Int64) : ((own_enc (own_bytes a b 6)).map Value.int).getD 11 (.int (0 : Int32)) = .int (own_ex (11 : Int32) (own_keep b (1 : Int32)) (1 : Int32)) := by
  rw [own_enc6]
  unfold own_ex
  rw [if_neg (by decide)]
  rfl
theorem own_g_6_12 (a b : Int64) : ((own_enc (own_bytes a b 6)).map Value.int).getD 12 (.int (0 : Int32)) = .int (own_ex (12 : Int32) (own_keep b (1 : Int32)) (1 : Int32)) := by
  rw [own_enc6]
  unfold own_ex
  rw [if_neg (by decide)]
  rfl
theorem own_g_6_13 (a b : Int64) : ((own_enc (own_bytes a b 6)).map Value.int).getD 13 (.int (0 : Int32)) = .int (own_ex (13 : Int32) (own_keep b (1 : Int32)) (1 : Int32)) := by
  rw [own_enc6]
  unfold own_ex
  rw [if_neg (by decide)]
  rfl
theorem own_g_6_14 (a b : Int64) : ((own_enc (own_bytes a b 6)).map Value.int).getD 14 (.int (0 : Int32)) = .int (own_ex (14 : Int32) (own_keep b (1 : Int32)) (1 : Int32)) := by
  rw [own_enc6]
  unfold own_ex
  rw [if_neg (by decide)]
  rfl
theorem own_g_6_15 (a b : Int64) : ((own_enc (own_bytes a b 6)).map Value.int).getD 15 (.int (0 : Int32)) = .int (own_ex (15 : Int32) (own_keep b (1 : Int32)) (1 : Int32)) := by
  rw [own_enc6]
  unfold own_ex
  rw [if_neg (by decide)]
  rfl
theorem own_enc7 (a b : Int64) : own_enc (own_bytes a b 7) = [own_al (own_ix (own_nv (0 : Int32) (own_byteOf a (0 : Int32))) (3 : Int32)), own_al (own_ix (own_nv (own_nv (0 : Int32) (own_byteOf a (0 : Int32))) (own_byteOf a (1 : Int32))) (6 : Int32)), own_al (own_ix (own_nv (own_nv (0 : Int32) (own_byteOf a (0 : Int32))) (own_byteOf a (1 : Int32))) (1 : Int32)), own_al (own_ix (own_nv (own_nv (own_nv (0 : Int32) (own_byteOf a (0 : Int32))) (own_byteOf a (1 : Int32))) (own_byteOf a (2 : Int32))) (4 : Int32)), own_al (own_ix (own_nv (own_nv (own_nv (own_nv (0 : Int32) (own_byteOf a (0 : Int32))) (own_byteOf a (1 : Int32))) (own_byteOf a (2 : Int32))) (own_byteOf a (3 : Int32))) (7 : Int32)), own_al (own_ix (own_nv (own_nv (own_nv (own_nv (0 : Int32) (own_byteOf a (0 : Int32))) (own_byteOf a (1 : Int32))) (own_byteOf a (2 : Int32))) (own_byteOf a (3 : Int32))) (2 : Int32)), own_al (own_ix (own_nv (own_nv (own_nv (own_nv (own_nv (0 : Int32) (own_byteOf a (0 : Int32))) (own_byteOf a (1 : Int32))) (own_byteOf a (2 : Int32))) (own_byteOf a (3 : Int32))) (own_byteOf a (4 : Int32))) (5 : Int32)), own_al (own_ix (own_nv (own_nv (own_nv (own_nv (own_nv (0 : Int32) (own_byteOf a (0 : Int32))) (own_byteOf a (1 : Int32))) (own_byteOf a (2 : Int32))) (own_byteOf a (3 : Int32))) (own_byteOf a (4 : Int32))) (0 : Int32)), own_al (own_ix (own_nv (own_nv (own_nv (own_nv (own_nv (own_nv (0 : Int32) (own_byteOf a (0 : Int32))) (own_byteOf a (1 : Int32))) (own_byteOf a (2 : Int32))) (own_byteOf a (3 : Int32))) (own_byteOf a (4 : Int32))) (own_byteOf b (0 : Int32))) (3 : Int32)), own_al (own_ix (own_nv (own_nv (own_nv (own_nv (own_nv (own_nv (own_nv (0 : Int32) (own_byteOf a (0 : Int32))) (own_byteOf a (1 : Int32))) (own_byteOf a (2 : Int32))) (own_byteOf a (3 : Int32))) (own_byteOf a (4 : Int32))) (own_byteOf b (0 : Int32))) (own_byteOf b (1 : Int32))) (6 : Int32)), own_al (own_ix (own_nv (own_nv (own_nv (own_nv (own_nv (own_nv (own_nv (0 : Int32) (own_byteOf a (0 : Int32))) (own_byteOf a (1 : Int32))) (own_byteOf a (2 : Int32))) (own_byteOf a (3 : Int32))) (own_byteOf a (4 : Int32))) (own_byteOf b (0 : Int32))) (own_byteOf b (1 : Int32))) (1 : Int32)), own_al (own_tx (own_nv (own_nv (own_nv (own_nv (own_nv (own_nv (own_nv (0 : Int32) (own_byteOf a (0 : Int32))) (own_byteOf a (1 : Int32))) (own_byteOf a (2 : Int32))) (own_byteOf a (3 : Int32))) (own_byteOf a (4 : Int32))) (own_byteOf b (0 : Int32))) (own_byteOf b (1 : Int32))) (1 : Int32)), (61 : Int32), (61 : Int32), (61 : Int32), (61 : Int32)] := by
  unfold own_enc
  rw [own_blen, show (own_pre (own_bytes a b 7)).length = 12 from rfl]
  rfl
theorem own_g_7_0 (a b : Int64) : ((own_enc (own_bytes a b 7)).map Value.int).getD 0 (.int (0 : Int32)) = .int (own_ex (0 : Int32) (own_keep a (5 : Int32)) (5 : Int32)) := by
  rw [own_enc7]
  unfold own_ex
  rw [if_pos (by decide)]
  exact congrArg (fun z => Value.int (own_al z)) (own_q_5_0 a (0 : Int32))
theorem own_g_7_1 (a b : Int64) : ((own_enc (own_bytes a b 7)).map Value.int).getD 1 (.int (0 : Int32)) = .int (own_ex (1 : Int32) (own_keep a (5 : Int32)) (5 : Int32)) := by
  rw [own_enc7]
  unfold own_ex
  rw [if_pos (by decide)]
  exact congrArg (fun z => Value.int (own_al z)) (own_q_5_1 a (0 : Int32))
theorem own_g_7_2 (a b : Int64) : ((own_enc (own_bytes a b 7)).map Value.int).getD 2 (.int (0 : Int32)) = .int (own_ex (2 : Int32) (own_keep a (5 : Int32)) (5 : Int32)) := by
  rw [own_enc7]
  unfold own_ex
  rw [if_pos (by decide)]
  exact congrArg (fun z => Value.int (own_al z)) (own_q_5_2 a (0 : Int32))
theorem own_g_7_3 (a b : Int64) : ((own_enc (own_bytes a b 7)).map Value.int).getD 3 (.int (0 : Int32)) = .int (own_ex (3 : Int32) (own_keep a (5 : Int32)) (5 : Int32)) := by
  rw [own_enc7]
  unfold own_ex
  rw [if_pos (by decide)]
  exact congrArg (fun z => Value.int (own_al z)) (own_q_5_3 a (0 : Int32))
theorem own_g_7_4 (a b : Int64) : ((own_enc (own_bytes a b 7)).map Value.int).getD 4 (.int (0 : Int32)) = .int (own_ex (4 : Int32) (own_keep a (5 : Int32)) (5 : Int32)) := by
  rw [own_enc7]
  unfold own_ex
  rw [if_pos (by decide)]
  exact congrArg (fun z => Value.int (own_al z)) (own_q_5_4 a (0 : Int32))
theorem own_g_7_5 (a b : Int64) : ((own_enc (own_bytes a b 7)).map Value.int).getD 5 (.int (0 : Int32)) = .int (own_ex (5 : Int32) (own_keep a (5 : Int32)) (5 : Int32)) := by
  rw [own_enc7]
  unfold own_ex
  rw [if_pos (by decide)]
  exact congrArg (fun z => Value.int (own_al z)) (own_q_5_5 a (0 : Int32))
theorem own_g_7_6 (a b : Int64) : ((own_enc (own_bytes a b 7)).map Value.int).getD 6 (.int (0 : Int32)) = .int (own_ex (6 : Int32) (own_keep a (5 : Int32)) (5 : Int32)) := by
  rw [own_enc7]
  unfold own_ex
  rw [if_pos (by decide)]
  exact congrArg (fun z => Value.int (own_al z)) (own_q_5_6 a (0 : Int32))
theorem own_g_7_7 (a b : Int64) : ((own_enc (own_bytes a b 7)).map Value.int).getD 7 (.int (0 : Int32)) = .int (own_ex (7 : Int32) (own_keep a (5 : Int32)) (5 : Int32)) := by
  rw [own_enc7]
  unfold own_ex
  rw [if_pos (by decide)]
  exact congrArg (fun z => Value.int (own_al z)) (own_q_5_7 a (0 : Int32))
theorem own_g_7_8 (a b : Int64) : ((own_enc (own_bytes a b 7)).map Value.int).getD 8 (.int (0 : Int32)) = .int (own_ex (8 : Int32) (own_keep b (2 : Int32)) (2 : Int32)) := by
  rw [own_enc7]
  unfold own_ex
  rw [if_pos (by decide), own_d8_0]
  exact congrArg (fun z => Value.int (own_al z)) (own_q_2_0 b (own_nv (own_nv (own_nv (own_nv (own_nv (0 : Int32) (own_byteOf a (0 : Int32))) (own_byteOf a (1 : Int32))) (own_byteOf a (2 : Int32))) (own_byteOf a (3 : Int32))) (own_byteOf a (4 : Int32))))
theorem own_g_7_9 (a b : Int64) : ((own_enc (own_bytes a b 7)).map Value.int).getD 9 (.int (0 : Int32)) = .int (own_ex (9 : Int32) (own_keep b (2 : Int32)) (2 : Int32)) := by
  rw [own_enc7]
  unfold own_ex
  rw [if_pos (by decide), own_d8_1]
  exact congrArg (fun z => Value.int (own_al z)) (own_q_2_1 b (own_nv (own_nv (own_nv (own_nv (own_nv (0 : Int32) (own_byteOf a (0 : Int32))) (own_byteOf a (1 : Int32))) (own_byteOf a (2 : Int32))) (own_byteOf a (3 : Int32))) (own_byteOf a (4 : Int32))))
theorem own_g_7_10 (a b : Int64) : ((own_enc (own_bytes a b 7)).map Value.int).getD 10 (.int (0 : Int32)) = .int (own_ex (10 : Int32) (own_keep b (2 : Int32)) (2 : Int32)) := by
  rw [own_enc7]
  unfold own_ex
  rw [if_pos (by decide), own_d8_2]
  exact congrArg (fun z => Value.int (own_al z)) (own_q_2_2 b (own_nv (own_nv (own_nv (own_nv (own_nv (0 : Int32) (own_byteOf a (0 : Int32))) (own_byteOf a (1 : Int32))) (own_byteOf a (2 : Int32))) (own_byteOf a (3 : Int32))) (own_byteOf a (4 : Int32))))
theorem own_g_7_11 (a b : Int64) : ((own_enc (own_bytes a b 7)).map Value.int).getD 11 (.int (0 : Int32)) = .int (own_ex (11 : Int32) (own_keep b (2 : Int32)) (2 : Int32)) := by
  rw [own_enc7]
  unfold own_ex
  rw [if_pos (by decide), own_d8_3]
  exact congrArg (fun z => Value.int (own_al z)) (own_q_2_3 b (own_nv (own_nv (own_nv (own_nv (own_nv (0 : Int32) (own_byteOf a (0 : Int32))) (own_byteOf a (1 : Int32))) (own_byteOf a (2 : Int32))) (own_byteOf a (3 : Int32))) (own_byteOf a (4 : Int32))))
theorem own_g_7_12 (a b : Int64) : ((own_enc (own_bytes a b 7)).map Value.int).getD 12 (.int (0 : Int32)) = .int (own_ex (12 : Int32) (own_keep b (2 : Int32)) (2 : Int32)) := by
  rw [own_enc7]
  unfold own_ex
  rw [if_neg (by decide)]
  rfl
theorem own_g_7_13 (a b : Int64) : ((own_enc (own_bytes a b 7)).map Value.int).getD 13 (.int (0 : Int32)) = .int (own_ex (13 : Int32) (own_keep b (2 : Int32)) (2 : Int32)) := by
  rw [own_enc7]
  unfold own_ex
  rw [if_neg (by decide)]
  rfl
theorem own_g_7_14 (a b : Int64) : ((own_enc (own_bytes a b 7)).map Value.int).getD 14 (.int (0 : Int32)) = .int (own_ex (14 : Int32) (own_keep b (2 : Int32)) (2 : Int32)) := by
  rw [own_enc7]
  unfold own_ex
  rw [if_neg (by decide)]
  rfl
theorem own_g_7_15 (a b : Int64) : ((own_enc (own_bytes a b 7)).map Value.int).getD 15 (.int (0 : Int32)) = .int (own_ex (15 : Int32) (own_keep b (2 : Int32)) (2 : Int32)) := by
  rw [own_enc7]
  unfold own_ex
  rw [if_neg (by decide)]
  rfl
theorem own_enc8 (a b : Int64) : own_enc (own_bytes a b 8) = [own_al (own_ix (own_nv (0 : Int32) (own_byteOf a (0 : Int32))) (3 : Int32)), own_al (own_ix (own_nv (own_nv (0 : Int32) (own_byteOf a (0 : Int32))) (own_byteOf a (1 : Int32))) (6 : Int32)), own_al (own_ix (own_nv (own_nv (0 : Int32) (own_byteOf a (0 : Int32))) (own_byteOf a (1 : Int32))) (1 : Int32)), own_al (own_ix (own_nv (own_nv (own_nv (0 : Int32) (own_byteOf a (0 : Int32))) (own_byteOf a (1 : Int32))) (own_byteOf a (2 : Int32))) (4 : Int32)), own_al (own_ix (own_nv (own_nv (own_nv (own_nv (0 : Int32) (own_byteOf a (0 : Int32))) (own_byteOf a (1 : Int32))) (own_byteOf a (2 : Int32))) (own_byteOf a (3 : Int32))) (7 : Int32)), own_al (own_ix (own_nv (own_nv (own_nv (own_nv (0 : Int32) (own_byteOf a (0 : Int32))) (own_byteOf a (1 : Int32))) (own_byteOf a (2 : Int32))) (own_byteOf a (3 : Int32))) (2 : Int32)), own_al (own_ix (own_nv (own_nv (own_nv (own_nv (own_nv (0 : Int32) (own_byteOf a (0 : Int32))) (own_byteOf a (1 : Int32))) (own_byteOf a (2 : Int32))) (own_byteOf a (3 : Int32))) (own_byteOf a (4 : Int32))) (5 : Int32)), own_al (own_ix (own_nv (own_nv (own_nv (own_nv (own_nv (0 : Int32) (own_byteOf a (0 : Int32))) (own_byteOf a (1 : Int32))) (own_byteOf a (2 : Int32))) (own_byteOf a (3 : Int32))) (own_byteOf a (4 : Int32))) (0 : Int32)), own_al (own_ix (own_nv (own_nv (own_nv (own_nv (own_nv (own_nv (0 : Int32) (own_byteOf a (0 : Int32))) (own_byteOf a (1 : Int32))) (own_byteOf a (2 : Int32))) (own_byteOf a (3 : Int32))) (own_byteOf a (4 : Int32))) (own_byteOf b (0 : Int32))) (3 : Int32)), own_al (own_ix (own_nv (own_nv (own_nv (own_nv (own_nv (own_nv (own_nv (0 : Int32) (own_byteOf a (0 : Int32))) (own_byteOf a (1 : Int32))) (own_byteOf a (2 : Int32))) (own_byteOf a (3 : Int32))) (own_byteOf a (4 : Int32))) (own_byteOf b (0 : Int32))) (own_byteOf b (1 : Int32))) (6 : Int32)), own_al (own_ix (own_nv (own_nv (own_nv (own_nv (own_nv (own_nv (own_nv (0 : Int32) (own_byteOf a (0 : Int32))) (own_byteOf a (1 : Int32))) (own_byteOf a (2 : Int32))) (own_byteOf a (3 : Int32))) (own_byteOf a (4 : Int32))) (own_byteOf b (0 : Int32))) (own_byteOf b (1 : Int32))) (1 : Int32)), own_al (own_ix (own_nv (own_nv (own_nv (own_nv (own_nv (own_nv (own_nv (own_nv (0 : Int32) (own_byteOf a (0 : Int32))) (own_byteOf a (1 : Int32))) (own_byteOf a (2 : Int32))) (own_byteOf a (3 : Int32))) (own_byteOf a (4 : Int32))) (own_byteOf b (0 : Int32))) (own_byteOf b (1 : Int32))) (own_byteOf b (2 : Int32))) (4 : Int32)), own_al (own_tx (own_nv (own_nv (own_nv (own_nv (own_nv (own_nv (own_nv (own_nv (0 : Int32) (own_byteOf a (0 : Int32))) (own_byteOf a (1 : Int32))) (own_byteOf a (2 : Int32))) (own_byteOf a (3 : Int32))) (own_byteOf a (4 : Int32))) (own_byteOf b (0 : Int32))) (own_byteOf b (1 : Int32))) (own_byteOf b (2 : Int32))) (4 : Int32)), (61 : Int32), (61 : Int32), (61 : Int32)] := by
  unfold own_enc
  rw [own_blen, show (own_pre (own_bytes a b 8)).length = 13 from rfl]
  rfl
theorem own_g_8_0 (a b : Int64) : ((own_enc (own_bytes a b 8)).map Value.int).getD 0 (.int (0 : Int32)) = .int (own_ex (0 : Int32) (own_keep a (5 : Int32)) (5 : Int32)) := by
  rw [own_enc8]
  unfold own_ex
  rw [if_pos (by decide)]
  exact congrArg (fun z => Value.int (own_al z)) (own_q_5_0 a (0 : Int32))
theorem own_g_8_1 (a b : Int64) : ((own_enc (own_bytes a b 8)).map Value.int).getD 1 (.int (0 : Int32)) = .int (own_ex (1 : Int32) (own_keep a (5 : Int32)) (5 : Int32)) := by
  rw [own_enc8]
  unfold own_ex
  rw [if_pos (by decide)]
  exact congrArg (fun z => Value.int (own_al z)) (own_q_5_1 a (0 : Int32))
theorem own_g_8_2 (a b : Int64) : ((own_enc (own_bytes a b 8)).map Value.int).getD 2 (.int (0 : Int32)) = .int (own_ex (2 : Int32) (own_keep a (5 : Int32)) (5 : Int32)) := by
  rw [own_enc8]
  unfold own_ex
  rw [if_pos (by decide)]
  exact congrArg (fun z => Value.int (own_al z)) (own_q_5_2 a (0 : Int32))
theorem own_g_8_3 (a b : Int64) : ((own_enc (own_bytes a b 8)).map Value.int).getD 3 (.int (0 : Int32)) = .int (own_ex (3 : Int32) (own_keep a (5 : Int32)) (5 : Int32)) := by
  rw [own_enc8]
  unfold own_ex
  rw [if_pos (by decide)]
  exact congrArg (fun z => Value.int (own_al z)) (own_q_5_3 a (0 : Int32))
theorem own_g_8_4 (a b : Int64) : ((own_enc (own_bytes a b 8)).map Value.int).getD 4 (.int (0 : Int32)) = .int (own_ex (4 : Int32) (own_keep a (5 : Int32)) (5 : Int32)) := by
  rw [own_enc8]
  unfold own_ex
  rw [if_pos (by decide)]
  exact congrArg (fun z => Value.int (own_al z)) (own_q_5_4 a (0 : Int32))
theorem own_g_8_5 (a b : Int64) : ((own_enc (own_bytes a b 8)).map Value.int).getD 5 (.int (0 : Int32)) = .int (own_ex (5 : Int32) (own_keep a (5 : Int32)) (5 : Int32)) := by
  rw [own_enc8]
  unfold own_ex
  rw [if_pos (by decide)]
  exact congrArg (fun z => Value.int (own_al z)) (own_q_5_5 a (0 : Int32))
theorem own_g_8_6 (a b : Int64) : ((own_enc (own_bytes a b 8)).map Value.int).getD 6 (.int (0 : Int32)) = .int (own_ex (6 : Int32) (own_keep a (5 : Int32)) (5 : Int32)) := by
  rw [own_enc8]
  unfold own_ex
  rw [if_pos (by decide)]
  exact congrArg (fun z => Value.int (own_al z)) (own_q_5_6 a (0 : Int32))
theorem own_g_8_7 (a b : Int64) : ((own_enc (own_bytes a b 8)).map Value.int).getD 7 (.int (0 : Int32)) = .int (own_ex (7 : Int32) (own_keep a (5 : Int32)) (5 : Int32)) := by
  rw [own_enc8]
  unfold own_ex
  rw [if_pos (by decide)]
  exact congrArg (fun z => Value.int (own_al z)) (own_q_5_7 a (0 : Int32))
theorem own_g_8_8 (a b : Int64) : ((own_enc (own_bytes a b 8)).map Value.int).getD 8 (.int (0 : Int32)) = .int (own_ex (8 : Int32) (own_keep b (3 : Int32)) (3 : Int32)) := by
  rw [own_enc8]
  unfold own_ex
  rw [if_pos (by decide), own_d8_0]
  exact congrArg (fun z => Value.int (own_al z)) (own_q_3_0 b (own_nv (own_nv (own_nv (own_nv (own_nv (0 : Int32) (own_byteOf a (0 : Int32))) (own_byteOf a (1 : Int32))) (own_byteOf a (2 : Int32))) (own_byteOf a (3 : Int32))) (own_byteOf a (4 : Int32))))
theorem own_g_8_9 (a b : Int64) : ((own_enc (own_bytes a b 8)).map Value.int).getD 9 (.int (0 : Int32)) = .int (own_ex (9 : Int32) (own_keep b (3 : Int32)) (3 : Int32)) := by
  rw [own_enc8]
  unfold own_ex
  rw [if_pos (by decide), own_d8_1]
  exact congrArg (fun z => Value.int (own_al z)) (own_q_3_1 b (own_nv (own_nv (own_nv (own_nv (own_nv (0 : Int32) (own_byteOf a (0 : Int32))) (own_byteOf a (1 : Int32))) (own_byteOf a (2 : Int32))) (own_byteOf a (3 : Int32))) (own_byteOf a (4 : Int32))))
theorem own_g_8_10 (a b : Int64) : ((own_enc (own_bytes a b 8)).map Value.int).getD 10 (.int (0 : Int32)) = .int (own_ex (10 : Int32) (own_keep b (3 : Int32)) (3 : Int32)) := by
  rw [own_enc8]
  unfold own_ex
  rw [if_pos (by decide), own_d8_2]
  exact congrArg (fun z => Value.int (own_al z)) (own_q_3_2 b (own_nv (own_nv (own_nv (own_nv (own_nv (0 : Int32) (own_byteOf a (0 : Int32))) (own_byteOf a (1 : Int32))) (own_byteOf a (2 : Int32))) (own_byteOf a (3 : Int32))) (own_byteOf a (4 : Int32))))
theorem own_g_8_11 (a b : Int64) : ((own_enc (own_bytes a b 8)).map Value.int).getD 11 (.int (0 : Int32)) = .int (own_ex (11 : Int32) (own_keep b (3 : Int32)) (3 : Int32)) := by
  rw [own_enc8]
  unfold own_ex
  rw [if_pos (by decide), own_d8_3]
  exact congrArg (fun z => Value.int (own_al z)) (own_q_3_3 b (own_nv (own_nv (own_nv (own_nv (own_nv (0 : Int32) (own_byteOf a (0 : Int32))) (own_byteOf a (1 : Int32))) (own_byteOf a (2 : Int32))) (own_byteOf a (3 : Int32))) (own_byteOf a (4 : Int32))))
theorem own_g_8_12 (a b : Int64) : ((own_enc (own_bytes a b 8)).map Value.int).getD 12 (.int (0 : Int32)) = .int (own_ex (12 : Int32) (own_keep b (3 : Int32)) (3 : Int32)) := by
  rw [own_enc8]
  unfold own_ex
  rw [if_pos (by decide), own_d8_4]
  exact congrArg (fun z => Value.int (own_al z)) (own_q_3_4 b (own_nv (own_nv (own_nv (own_nv (own_nv (0 : Int32) (own_byteOf a (0 : Int32))) (own_byteOf a (1 : Int32))) (own_byteOf a (2 : Int32))) (own_byteOf a (3 : Int32))) (own_byteOf a (4 : Int32))))
theorem own_g_8_13 (a b : Int64) : ((own_enc (own_bytes a b 8)).map Value.int).getD 13 (.int (0 : Int32)) = .int (own_ex (13 : Int32) (own_keep b (3 : Int32)) (3 : Int32)) := by
  rw [own_enc8]
  unfold own_ex
  rw [if_neg (by decide)]
  rfl
theorem own_g_8_14 (a b : Int64) : ((own_enc (own_bytes a b 8)).map Value.int).getD 14 (.int (0 : Int32)) = .int (own_ex (14 : Int32) (own_keep b (3 : Int32)) (3 : Int32)) := by
  rw [own_enc8]
  unfold own_ex
  rw [if_neg (by decide)]
  rfl
theorem own_g_8_15 (a b : Int64) : ((own_enc (own_bytes a b 8)).map Value.int).getD 15 (.int (0 : Int32)) = .int (own_ex (15 : Int32) (own_keep b (3 : Int32)) (3 : Int32)) := by
  rw [own_enc8]
  unfold own_ex
  rw [if_neg (by decide)]
  rfl
theorem own_enc9 (a b : Int64) : own_enc (own_bytes a b 9) = [own_al (own_ix (own_nv (0 : Int32) (own_byteOf a (0 : Int32))) (3 : Int32)), own_al (own_ix (own_nv (own_nv (0 : Int32) (own_byteOf a (0 : Int32))) (own_byteOf a (1 : Int32))) (6 : Int32)), own_al (own_ix (own_nv (own_nv (0 : Int32) (own_byteOf a (0 : Int32))) (own_byteOf a (1 : Int32))) (1 : Int32)), own_al (own_ix (own_nv (own_nv (own_nv (0 : Int32) (own_byteOf a (0 : Int32))) (own_byteOf a (1 : Int32))) (own_byteOf a (2 : Int32))) (4 : Int32)), own_al (own_ix (own_nv (own_nv (own_nv (own_nv (0 : Int32) (own_byteOf a (0 : Int32))) (own_byteOf a (1 : Int32))) (own_byteOf a (2 : Int32))) (own_byteOf a (3 : Int32))) (7 : Int32)), own_al (own_ix (own_nv (own_nv (own_nv (own_nv (0 : Int32) (own_byteOf a (0 : Int32))) (own_byteOf a (1 : Int32))) (own_byteOf a (2 : Int32))) (own_byteOf a (3 : Int32))) (2 : Int32)), own_al (own_ix (own_nv (own_nv (own_nv (own_nv (own_nv (0 : Int32) (own_byteOf a (0 : Int32))) (own_byteOf a (1 : Int32))) (own_byteOf a (2 : Int32))) (own_byteOf a (3 : Int32))) (own_byteOf a (4 : Int32))) (5 : Int32)), own_al (own_ix (own_nv (own_nv (own_nv (own_nv (own_nv (0 : Int32) (own_byteOf a (0 : Int32))) (own_byteOf a (1 : Int32))) (own_byteOf a (2 : Int32))) (own_byteOf a (3 : Int32))) (own_byteOf a (4 : Int32))) (0 : Int32)), own_al (own_ix (own_nv (own_nv (own_nv (own_nv (own_nv (own_nv (0 : Int32) (own_byteOf a (0 : Int32))) (own_byteOf a (1 : Int32))) (own_byteOf a (2 : Int32))) (own_byteOf a (3 : Int32))) (own_byteOf a (4 : Int32))) (own_byteOf b (0 : Int32))) (3 : Int32)), own_al (own_ix (own_nv (own_nv (own_nv (own_nv (own_nv (own_nv (own_nv (0 : Int32) (own_byteOf a (0 : Int32))) (own_byteOf a (1 : Int32))) (own_byteOf a (2 : Int32))) (own_byteOf a (3 : Int32))) (own_byteOf a (4 : Int32))) (own_byteOf b (0 : Int32))) (own_byteOf b (1 : Int32))) (6 : Int32)), own_al (own_ix (own_nv (own_nv (own_nv (own_nv (own_nv (own_nv (own_nv (0 : Int32) (own_byteOf a (0 : Int32))) (own_byteOf a (1 : Int32))) (own_byteOf a (2 : Int32))) (own_byteOf a (3 : Int32))) (own_byteOf a (4 : Int32))) (own_byteOf b (0 : Int32))) (own_byteOf b (1 : Int32))) (1 : Int32)), own_al (own_ix (own_nv (own_nv (own_nv (own_nv (own_nv (own_nv (own_nv (own_nv (0 : Int32) (own_byteOf a (0 : Int32))) (own_byteOf a (1 : Int32))) (own_byteOf a (2 : Int32))) (own_byteOf a (3 : Int32))) (own_byteOf a (4 : Int32))) (own_byteOf b (0 : Int32))) (own_byteOf b (1 : Int32))) (own_byteOf b (2 : Int32))) (4 : Int32)), own_al (own_ix (own_nv (own_nv (own_nv (own_nv (own_nv (own_nv (own_nv (own_nv (own_nv (0 : Int32) (own_byteOf a (0 : Int32))) (own_byteOf a (1 : Int32))) (own_byteOf a (2 : Int32))) (own_byteOf a (3 : Int32))) (own_byteOf a (4 : Int32))) (own_byteOf b (0 : Int32))) (own_byteOf b (1 : Int32))) (own_byteOf b (2 : Int32))) (own_byteOf b (3 : Int32))) (7 : Int32)), own_al (own_ix (own_nv (own_nv (own_nv (own_nv (own_nv (own_nv (own_nv (own_nv (own_nv (0 : Int32) (own_byteOf a (0 : Int32))) (own_byteOf a (1 : Int32))) (own_byteOf a (2 : Int32))) (own_byteOf a (3 : Int32))) (own_byteOf a (4 : Int32))) (own_byteOf b (0 : Int32))) (own_byteOf b (1 : Int32))) (own_byteOf b (2 : Int32))) (own_byteOf b (3 : Int32))) (2 : Int32)), own_al (own_tx (own_nv (own_nv (own_nv (own_nv (own_nv (own_nv (own_nv (own_nv (own_nv (0 : Int32) (own_byteOf a (0 : Int32))) (own_byteOf a (1 : Int32))) (own_byteOf a (2 : Int32))) (own_byteOf a (3 : Int32))) (own_byteOf a (4 : Int32))) (own_byteOf b (0 : Int32))) (own_byteOf b (1 : Int32))) (own_byteOf b (2 : Int32))) (own_byteOf b (3 : Int32))) (2 : Int32)), (61 : Int32)] := by
  unfold own_enc
  rw [own_blen, show (own_pre (own_bytes a b 9)).length = 15 from rfl]
  rfl
theorem own_g_9_0 (a b : Int64) : ((own_enc (own_bytes a b 9)).map Value.int).getD 0 (.int (0 : Int32)) = .int (own_ex (0 : Int32) (own_keep a (5 : Int32)) (5 : Int32)) := by
  rw [own_enc9]
  unfold own_ex
  rw [if_pos (by decide)]
  exact congrArg (fun z => Value.int (own_al z)) (own_q_5_0 a (0 : Int32))
theorem own_g_9_1 (a b : Int64) : ((own_enc (own_bytes a b 9)).map Value.int).getD 1 (.int (0 : Int32)) = .int (own_ex (1 : Int32) (own_keep a (5 : Int32)) (5 : Int32)) := by
  rw [own_enc9]
  unfold own_ex
  rw [if_pos (by decide)]
  exact congrArg (fun z => Value.int (own_al z)) (own_q_5_1 a (0 : Int32))
theorem own_g_9_2 (a b : Int64) : ((own_enc (own_bytes a b 9)).map Value.int).getD 2 (.int (0 : Int32)) = .int (own_ex (2 : Int32) (own_keep a (5 : Int32)) (5 : Int32)) := by
  rw [own_enc9]
  unfold own_ex
  rw [if_pos (by decide)]
  exact congrArg (fun z => Value.int (own_al z)) (own_q_5_2 a (0 : Int32))
theorem own_g_9_3 (a b : Int64) : ((own_enc (own_bytes a b 9)).map Value.int).getD 3 (.int (0 : Int32)) = .int (own_ex (3 : Int32) (own_keep a (5 : Int32)) (5 : Int32)) := by
  rw [own_enc9]
  unfold own_ex
  rw [if_pos (by decide)]
  exact congrArg (fun z => Value.int (own_al z)) (own_q_5_3 a (0 : Int32))
theorem own_g_9_4 (a b : Int64) : ((own_enc (own_bytes a b 9)).map Value.int).getD 4 (.int (0 : Int32)) = .int (own_ex (4 : Int32) (own_keep a (5 : Int32)) (5 : Int32)) := by
  rw [own_enc9]
  unfold own_ex
  rw [if_pos (by decide)]
  exact congrArg (fun z => Value.int (own_al z)) (own_q_5_4 a (0 : Int32))
theorem own_g_9_5 (a b : Int64) : ((own_enc (own_bytes a b 9)).map Value.int).getD 5 (.int (0 : Int32)) = .int (own_ex (5 : Int32) (own_keep a (5 : Int32)) (5 : Int32)) := by
  rw [own_enc9]
  unfold own_ex
  rw [if_pos (by decide)]
  exact congrArg (fun z => Value.int (own_al z)) (own_q_5_5 a (0 : Int32))
theorem own_g_9_6 (a b : Int64) : ((own_enc (own_bytes a b 9)).map Value.int).getD 6 (.int (0 : Int32)) = .int (own_ex (6 : Int32) (own_keep a (5 : Int32)) (5 : Int32)) := by
  rw [own_enc9]
  unfold own_ex
  rw [if_pos (by decide)]
  exact congrArg (fun z => Value.int (own_al z)) (own_q_5_6 a (0 : Int32))
theorem own_g_9_7 (a b : Int64) : ((own_enc (own_bytes a b 9)).map Value.int).getD 7 (.int (0 : Int32)) = .int (own_ex (7 : Int32) (own_keep a (5 : Int32)) (5 : Int32)) := by
  rw [own_enc9]
  unfold own_ex
  rw [if_pos (by decide)]
  exact congrArg (fun z => Value.int (own_al z)) (own_q_5_7 a (0 : Int32))
theorem own_g_9_8 (a b : Int64) : ((own_enc (own_bytes a b 9)).map Value.int).getD 8 (.int (0 : Int32)) = .int (own_ex (8 : Int32) (own_keep b (4 : Int32)) (4 : Int32)) := by
  rw [own_enc9]
  unfold own_ex
  rw [if_pos (by decide), own_d8_0]
  exact congrArg (fun z => Value.int (own_al z)) (own_q_4_0 b (own_nv (own_nv (own_nv (own_nv (own_nv (0 : Int32) (own_byteOf a (0 : Int32))) (own_byteOf a (1 : Int32))) (own_byteOf a (2 : Int32))) (own_byteOf a (3 : Int32))) (own_byteOf a (4 : Int32))))
theorem own_g_9_9 (a b : Int64) : ((own_enc (own_bytes a b 9)).map Value.int).getD 9 (.int (0 : Int32)) = .int (own_ex (9 : Int32) (own_keep b (4 : Int32)) (4 : Int32)) := by
  rw [own_enc9]
  unfold own_ex
  rw [if_pos (by decide), own_d8_1]
  exact congrArg (fun z => Value.int (own_al z)) (own_q_4_1 b (own_nv (own_nv (own_nv (own_nv (own_nv (0 : Int32) (own_byteOf a (0 : Int32))) (own_byteOf a (1 : Int32))) (own_byteOf a (2 : Int32))) (own_byteOf a (3 : Int32))) (own_byteOf a (4 : Int32))))
theorem own_g_9_10 (a b : Int64) : ((own_enc (own_bytes a b 9)).map Value.int).getD 10 (.int (0 : Int32)) = .int (own_ex (10 : Int32) (own_keep b (4 : Int32)) (4 : Int32)) := by
  rw [own_enc9]
  unfold own_ex
  rw [if_pos (by decide), own_d8_2]
  exact congrArg (fun z => Value.int (own_al z)) (own_q_4_2 b (own_nv (own_nv (own_nv (own_nv (own_nv (0 : Int32) (own_byteOf a (0 : Int32))) (own_byteOf a (1 : Int32))) (own_byteOf a (2 : Int32))) (own_byteOf a (3 : Int32))) (own_byteOf a (4 : Int32))))
theorem own_g_9_11 (a b : Int64) : ((own_enc (own_bytes a b 9)).map Value.int).getD 11 (.int (0 : Int32)) = .int (own_ex (11 : Int32) (own_keep b (4 : Int32)) (4 : Int32)) := by
  rw [own_enc9]
  unfold own_ex
  rw [if_pos (by decide), own_d8_3]
  exact congrArg (fun z => Value.int (own_al z)) (own_q_4_3 b (own_nv (own_nv (own_nv (own_nv (own_nv (0 : Int32) (own_byteOf a (0 : Int32))) (own_byteOf a (1 : Int32))) (own_byteOf a (2 : Int32))) (own_byteOf a (3 : Int32))) (own_byteOf a (4 : Int32))))
theorem own_g_9_12 (a b : Int64) : ((own_enc (own_bytes a b 9)).map Value.int).getD 12 (.int (0 : Int32)) = .int (own_ex (12 : Int32) (own_keep b (4 : Int32)) (4 : Int32)) := by
  rw [own_enc9]
  unfold own_ex
  rw [if_pos (by decide), own_d8_4]
  exact congrArg (fun z => Value.int (own_al z)) (own_q_4_4 b (own_nv (own_nv (own_nv (own_nv (own_nv (0 : Int32) (own_byteOf a (0 : Int32))) (own_byteOf a (1 : Int32))) (own_byteOf a (2 : Int32))) (own_byteOf a (3 : Int32))) (own_byteOf a (4 : Int32))))
theorem own_g_9_13 (a b : Int64) : ((own_enc (own_bytes a b 9)).map Value.int).getD 13 (.int (0 : Int32)) = .int (own_ex (13 : Int32) (own_keep b (4 : Int32)) (4 : Int32)) := by
  rw [own_enc9]
  unfold own_ex
  rw [if_pos (by decide), own_d8_5]
  exact congrArg (fun z => Value.int (own_al z)) (own_q_4_5 b (own_nv (own_nv (own_nv (own_nv (own_nv (0 : Int32) (own_byteOf a (0 : Int32))) (own_byteOf a (1 : Int32))) (own_byteOf a (2 : Int32))) (own_byteOf a (3 : Int32))) (own_byteOf a (4 : Int32))))
theorem own_g_9_14 (a b : Int64) : ((own_enc (own_bytes a b 9)).map Value.int).getD 14 (.int (0 : Int32)) = .int (own_ex (14 : Int32) (own_keep b (4 : Int32)) (4 : Int32)) := by
  rw [own_enc9]
  unfold own_ex
  rw [if_pos (by decide), own_d8_6]
  exact congrArg (fun z => Value.int (own_al z)) (own_q_4_6 b (own_nv (own_nv (own_nv (own_nv (own_nv (0 : Int32) (own_byteOf a (0 : Int32))) (own_byteOf a (1 : Int32))) (own_byteOf a (2 : Int32))) (own_byteOf a (3 : Int32))) (own_byteOf a (4 : Int32))))
theorem own_g_9_15 (a b : Int64) : ((own_enc (own_bytes a b 9)).map Value.int).getD 15 (.int (0 : Int32)) = .int (own_ex (15 : Int32) (own_keep b (4 : Int32)) (4 : Int32)) := by
  rw [own_enc9]
  unfold own_ex
  rw [if_neg (by decide)]
  rfl
theorem own_enc10 (a b : Int64) : own_enc (own_bytes a b 10) = [own_al (own_ix (own_nv (0 : Int32) (own_byteOf a (0 : Int32))) (3 : Int32)), own_al (own_ix (own_nv (own_nv (0 : Int32) (own_byteOf a (0 : Int32))) (own_byteOf a (1 : Int32))) (6 : Int32)), own_al (own_ix (own_nv (own_nv (0 : Int32) (own_byteOf a (0 : Int32))) (own_byteOf a (1 : Int32))) (1 : Int32)), own_al (own_ix (own_nv (own_nv (own_nv (0 : Int32) (own_byteOf a (0 : Int32))) (own_byteOf a (1 : Int32))) (own_byteOf a (2 : Int32))) (4 : Int32)), own_al (own_ix (own_nv (own_nv (own_nv (own_nv (0 : Int32) (own_byteOf a (0 : Int32))) (own_byteOf a (1 : Int32))) (own_byteOf a (2 : Int32))) (own_byteOf a (3 : Int32))) (7 : Int32)), own_al (own_ix (own_nv (own_nv (own_nv (own_nv (0 : Int32) (own_byteOf a (0 : Int32))) (own_byteOf a (1 : Int32))) (own_byteOf a (2 : Int32))) (own_byteOf a (3 : Int32))) (2 : Int32)), own_al (own_ix (own_nv (own_nv (own_nv (own_nv (own_nv (0 : Int32) (own_byteOf a (0 : Int32))) (own_byteOf a (1 : Int32))) (own_byteOf a (2 : Int32))) (own_byteOf a (3 : Int32))) (own_byteOf a (4 : Int32))) (5 : Int32)), own_al (own_ix (own_nv (own_nv (own_nv (own_nv (own_nv (0 : Int32) (own_byteOf a (0 : Int32))) (own_byteOf a (1 : Int32))) (own_byteOf a (2 : Int32))) (own_byteOf a (3 : Int32))) (own_byteOf a (4 : Int32))) (0 : Int32)), own_al (own_ix (own_nv (own_nv (own_nv (own_nv (own_nv (own_nv (0 : Int32) (own_byteOf a (0 : Int32))) (own_byteOf a (1 : Int32))) (own_byteOf a (2 : Int32))) (own_byteOf a (3 : Int32))) (own_byteOf a (4 : Int32))) (own_byteOf b (0 : Int32))) (3 : Int32)), own_al (own_ix (own_nv (own_nv (own_nv (own_nv (own_nv (own_nv (own_nv (0 : Int32) (own_byteOf a (0 : Int32))) (own_byteOf a (1 : Int32))) (own_byteOf a (2 : Int32))) (own_byteOf a (3 : Int32))) (own_byteOf a (4 : Int32))) (own_byteOf b (0 : Int32))) (own_byteOf b (1 : Int32))) (6 : Int32)), own_al (own_ix (own_nv (own_nv (own_nv (own_nv (own_nv (own_nv (own_nv (0 : Int32) (own_byteOf a (0 : Int32))) (own_byteOf a (1 : Int32))) (own_byteOf a (2 : Int32))) (own_byteOf a (3 : Int32))) (own_byteOf a (4 : Int32))) (own_byteOf b (0 : Int32))) (own_byteOf b (1 : Int32))) (1 : Int32)), own_al (own_ix (own_nv (own_nv (own_nv (own_nv (own_nv (own_nv (own_nv (own_nv (0 : Int32) (own_byteOf a (0 : Int32))) (own_byteOf a (1 : Int32))) (own_byteOf a (2 : Int32))) (own_byteOf a (3 : Int32))) (own_byteOf a (4 : Int32))) (own_byteOf b (0 : Int32))) (own_byteOf b (1 : Int32))) (own_byteOf b (2 : Int32))) (4 : Int32)), own_al (own_ix (own_nv (own_nv (own_nv (own_nv (own_nv (own_nv (own_nv (own_nv (own_nv (0 : Int32) (own_byteOf a (0 : Int32))) (own_byteOf a (1 : Int32))) (own_byteOf a (2 : Int32))) (own_byteOf a (3 : Int32))) (own_byteOf a (4 : Int32))) (own_byteOf b (0 : Int32))) (own_byteOf b (1 : Int32))) (own_byteOf b (2 : Int32))) (own_byteOf b (3 : Int32))) (7 : Int32)), own_al (own_ix (own_nv (own_nv (own_nv (own_nv (own_nv (own_nv (own_nv (own_nv (own_nv (0 : Int32) (own_byteOf a (0 : Int32))) (own_byteOf a (1 : Int32))) (own_byteOf a (2 : Int32))) (own_byteOf a (3 : Int32))) (own_byteOf a (4 : Int32))) (own_byteOf b (0 : Int32))) (own_byteOf b (1 : Int32))) (own_byteOf b (2 : Int32))) (own_byteOf b (3 : Int32))) (2 : Int32)), own_al (own_ix (own_nv (own_nv (own_nv (own_nv (own_nv (own_nv (own_nv (own_nv (own_nv (own_nv (0 : Int32) (own_byteOf a (0 : Int32))) (own_byteOf a (1 : Int32))) (own_byteOf a (2 : Int32))) (own_byteOf a (3 : Int32))) (own_byteOf a (4 : Int32))) (own_byteOf b (0 : Int32))) (own_byteOf b (1 : Int32))) (own_byteOf b (2 : Int32))) (own_byteOf b (3 : Int32))) (own_byteOf b (4 : Int32))) (5 : Int32)), own_al (own_ix (own_nv (own_nv (own_nv (own_nv (own_nv (own_nv (own_nv (own_nv (own_nv (own_nv (0 : Int32) (own_byteOf a (0 : Int32))) (own_byteOf a (1 : Int32))) (own_byteOf a (2 : Int32))) (own_byteOf a (3 : Int32))) (own_byteOf a (4 : Int32))) (own_byteOf b (0 : Int32))) (own_byteOf b (1 : Int32))) (own_byteOf b (2 : Int32))) (own_byteOf b (3 : Int32))) (own_byteOf b (4 : Int32))) (0 : Int32))] := by
  unfold own_enc
  rw [own_blen, show (own_pre (own_bytes a b 10)).length = 16 from rfl]
  rfl
theorem own_g_10_0 (a b : Int64) : ((own_enc (own_bytes a b 10)).map Value.int).getD 0 (.int (0 : Int32)) = .int (own_ex (0 : Int32) (own_keep a (5 : Int32)) (5 : Int32)) := by
  rw [own_enc10]
  unfold own_ex
  rw [if_pos (by decide)]
  exact congrArg (fun z => Value.int (own_al z)) (own_q_5_0 a (0 : Int32))
theorem own_g_10_1 (a b : Int64) : ((own_enc (own_bytes a b 10)).map Value.int).getD 1 (.int (0 : Int32)) = .int (own_ex (1 : Int32) (own_keep a (5 : Int32)) (5 : Int32)) := by
  rw [own_enc10]
  unfold own_ex
  rw [if_pos (by decide)]
  exact congrArg (fun z => Value.int (own_al z)) (own_q_5_1 a (0 : Int32))
theorem own_g_10_2 (a b : Int64) : ((own_enc (own_bytes a b 10)).map Value.int).getD 2 (.int (0 : Int32)) = .int (own_ex (2 : Int32) (own_keep a (5 : Int32)) (5 : Int32)) := by
  rw [own_enc10]
  unfold own_ex
  rw [if_pos (by decide)]
  exact congrArg (fun z => Value.int (own_al z)) (own_q_5_2 a (0 : Int32))
theorem own_g_10_3 (a b : Int64) : ((own_enc (own_bytes a b 10)).map Value.int).getD 3 (.int (0 : Int32)) = .int (own_ex (3 : Int32) (own_keep a (5 : Int32)) (5 : Int32)) := by
  rw [own_enc10]
  unfold own_ex
  rw [if_pos (by decide)]
  exact congrArg (fun z => Value.int (own_al z)) (own_q_5_3 a (0 : Int32))
theorem own_g_10_4 (a b : Int64) : ((own_enc (own_bytes a b 10)).map Value.int).getD 4 (.int (0 : Int32)) = .int (own_ex (4 : Int32) (own_keep a (5 : Int32)) (5 : Int32)) := by
  rw [own_enc10]
  unfold own_ex
  rw [if_pos (by decide)]
  exact congrArg (fun z => Value.int (own_al z)) (own_q_5_4 a (0 : Int32))
theorem own_g_10_5 (a b : Int64) : ((own_enc (own_bytes a b 10)).map Value.int).getD 5 (.int (0 : Int32)) = .int (own_ex (5 : Int32) (own_keep a (5 : Int32)) (5 : Int32)) := by
  rw [own_enc10]
  unfold own_ex
  rw [if_pos (by decide)]
  exact congrArg (fun z => Value.int (own_al z)) (own_q_5_5 a (0 : Int32))
theorem own_g_10_6 (a b : Int64) : ((own_enc (own_bytes a b 10)).map Value.int).getD 6 (.int (0 : Int32)) = .int (own_ex (6 : Int32) (own_keep a (5 : Int32)) (5 : Int32)) := by
  rw [own_enc10]
  unfold own_ex
  rw [if_pos (by decide)]
  exact congrArg (fun z => Value.int (own_al z)) (own_q_5_6 a (0 : Int32))
theorem own_g_10_7 (a b : Int64) : ((own_enc (own_bytes a b 10)).map Value.int).getD 7 (.int (0 : Int32)) = .int (own_ex (7 : Int32) (own_keep a (5 : Int32)) (5 : Int32)) := by
  rw [own_enc10]
  unfold own_ex
  rw [if_pos (by decide)]
  exact congrArg (fun z => Value.int (own_al z)) (own_q_5_7 a (0 : Int32))
theorem own_g_10_8 (a b : Int64) : ((own_enc (own_bytes a b 10)).map Value.int).getD 8 (.int (0 : Int32)) = .int (own_ex (8 : Int32) (own_keep b (5 : Int32)) (5 : Int32)) := by
  rw [own_enc10]
  unfold own_ex
  rw [if_pos (by decide), own_d8_0]
  exact congrArg (fun z => Value.int (own_al z)) (own_q_5_0 b (own_nv (own_nv (own_nv (own_nv (own_nv (0 : Int32) (own_byteOf a (0 : Int32))) (own_byteOf a (1 : Int32))) (own_byteOf a (2 : Int32))) (own_byteOf a (3 : Int32))) (own_byteOf a (4 : Int32))))
theorem own_g_10_9 (a b : Int64) : ((own_enc (own_bytes a b 10)).map Value.int).getD 9 (.int (0 : Int32)) = .int (own_ex (9 : Int32) (own_keep b (5 : Int32)) (5 : Int32)) := by
  rw [own_enc10]
  unfold own_ex
  rw [if_pos (by decide), own_d8_1]
  exact congrArg (fun z => Value.int (own_al z)) (own_q_5_1 b (own_nv (own_nv (own_nv (own_nv (own_nv (0 : Int32) (own_byteOf a (0 : Int32))) (own_byteOf a (1 : Int32))) (own_byteOf a (2 : Int32))) (own_byteOf a (3 : Int32))) (own_byteOf a (4 : Int32))))
theorem own_g_10_10 (a b : Int64) : ((own_enc (own_bytes a b 10)).map Value.int).getD 10 (.int (0 : Int32)) = .int (own_ex (10 : Int32) (own_keep b (5 : Int32)) (5 : Int32)) := by
  rw [own_enc10]
  unfold own_ex
  rw [if_pos (by decide), own_d8_2]
  exact congrArg (fun z => Value.int (own_al z)) (own_q_5_2 b (own_nv (own_nv (own_nv (own_nv (own_nv (0 : Int32) (own_byteOf a (0 : Int32))) (own_byteOf a (1 : Int32))) (own_byteOf a (2 : Int32))) (own_byteOf a (3 : Int32))) (own_byteOf a (4 : Int32))))
theorem own_g_10_11 (a b : Int64) : ((own_enc (own_bytes a b 10)).map Value.int).getD 11 (.int (0 : Int32)) = .int (own_ex (11 : Int32) (own_keep b (5 : Int32)) (5 : Int32)) := by
  rw [own_enc10]
  unfold own_ex
  rw [if_pos (by decide), own_d8_3]
  exact congrArg (fun z => Value.int (own_al z)) (own_q_5_3 b (own_nv (own_nv (own_nv (own_nv (own_nv (0 : Int32) (own_byteOf a (0 : Int32))) (own_byteOf a (1 : Int32))) (own_byteOf a (2 : Int32))) (own_byteOf a (3 : Int32))) (own_byteOf a (4 : Int32))))
theorem own_g_10_12 (a b : Int64) : ((own_enc (own_bytes a b 10)).map Value.int).getD 12 (.int (0 : Int32)) = .int (own_ex (12 : Int32) (own_keep b (5 : Int32)) (5 : Int32)) := by
  rw [own_enc10]
  unfold own_ex
  rw [if_pos (by decide), own_d8_4]
  exact congrArg (fun z => Value.int (own_al z)) (own_q_5_4 b (own_nv (own_nv (own_nv (own_nv (own_nv (0 : Int32) (own_byteOf a (0 : Int32))) (own_byteOf a (1 : Int32))) (own_byteOf a (2 : Int32))) (own_byteOf a (3 : Int32))) (own_byteOf a (4 : Int32))))
theorem own_g_10_13 (a b : Int64) : ((own_enc (own_bytes a b 10)).map Value.int).getD 13 (.int (0 : Int32)) = .int (own_ex (13 : Int32) (own_keep b (5 : Int32)) (5 : Int32)) := by
  rw [own_enc10]
  unfold own_ex
  rw [if_pos (by decide), own_d8_5]
  exact congrArg (fun z => Value.int (own_al z)) (own_q_5_5 b (own_nv (own_nv (own_nv (own_nv (own_nv (0 : Int32) (own_byteOf a (0 : Int32))) (own_byteOf a (1 : Int32))) (own_byteOf a (2 : Int32))) (own_byteOf a (3 : Int32))) (own_byteOf a (4 : Int32))))
theorem own_g_10_14 (a b : Int64) : ((own_enc (own_bytes a b 10)).map Value.int).getD 14 (.int (0 : Int32)) = .int (own_ex (14 : Int32) (own_keep b (5 : Int32)) (5 : Int32)) := by
  rw [own_enc10]
  unfold own_ex
  rw [if_pos (by decide), own_d8_6]
  exact congrArg (fun z => Value.int (own_al z)) (own_q_5_6 b (own_nv (own_nv (own_nv (own_nv (own_nv (0 : Int32) (own_byteOf a (0 : Int32))) (own_byteOf a (1 : Int32))) (own_byteOf a (2 : Int32))) (own_byteOf a (3 : Int32))) (own_byteOf a (4 : Int32))))
theorem own_g_10_15 (a b : Int64) : ((own_enc (own_bytes a b 10)).map Value.int).getD 15 (.int (0 : Int32)) = .int (own_ex (15 : Int32) (own_keep b (5 : Int32)) (5 : Int32)) := by
  rw [own_enc10]
  unfold own_ex
  rw [if_pos (by decide), own_d8_7]
  exact congrArg (fun z => Value.int (own_al z)) (own_q_5_7 b (own_nv (own_nv (own_nv (own_nv (own_nv (0 : Int32) (own_byteOf a (0 : Int32))) (own_byteOf a (1 : Int32))) (own_byteOf a (2 : Int32))) (own_byteOf a (3 : Int32))) (own_byteOf a (4 : Int32))))
theorem own_h_0 (a b : Int64) (N : Nat) (hN : N ≤ 10) (h : (0 : Int32) < Int32.ofNat (own_cap N)) : (¬ (0 : Int32) < 0 ∧ (0 : Int32) < Int32.ofNat (own_cap N)) ∧ ((own_enc (own_bytes a b N)).map Value.int).getD (0 : Int32).toNatClampNeg (.int (0 : Int32)) = .int (own_ex (0 : Int32) (own_keep a (own_k0 N)) (own_k0 N)) := by
  refine ⟨⟨by decide, h⟩, ?_⟩
  have e : (0 : Int32).toNatClampNeg = 0 := by decide
  rw [e]
  match N, hN, h with
  | 0, _, h => exact absurd h (by decide)
  | 1, _, _ => rw [show own_k0 1 = (1 : Int32) from by decide]; exact own_g_1_0 a b
  | 2, _, _ => rw [show own_k0 2 = (2 : Int32) from by decide]; exact own_g_2_0 a b
  | 3, _, _ => rw [show own_k0 3 = (3 : Int32) from by decide]; exact own_g_3_0 a b
  | 4, _, _ => rw [show own_k0 4 = (4 : Int32) from by decide]; exact own_g_4_0 a b
  | 5, _, _ => rw [show own_k0 5 = (5 : Int32) from by decide]; exact own_g_5_0 a b
  | 6, _, _ => rw [show own_k0 6 = (5 : Int32) from by decide]; exact own_g_6_0 a b
  | 7, _, _ => rw [show own_k0 7 = (5 : Int32) from by decide]; exact own_g_7_0 a b
  | 8, _, _ => rw [show own_k0 8 = (5 : Int32) from by decide]; exact own_g_8_0 a b
  | 9, _, _ => rw [show own_k0 9 = (5 : Int32) from by decide]; exact own_g_9_0 a b
  | 10, _, _ => rw [show own_k0 10 = (5 : Int32) from by decide]; exact own_g_10_0 a b
  | n + 11, hN, _ => omega
theorem own_h_1 (a b : Int64) (N : Nat) (hN : N ≤ 10) (h : (1 : Int32) < Int32.ofNat (own_cap N)) : (¬ (1 : Int32) < 0 ∧ (1 : Int32) < Int32.ofNat (own_cap N)) ∧ ((own_enc (own_bytes a b N)).map Value.int).getD (1 : Int32).toNatClampNeg (.int (0 : Int32)) = .int (own_ex (1 : Int32) (own_keep a (own_k0 N)) (own_k0 N)) := by
  refine ⟨⟨by decide, h⟩, ?_⟩
  have e : (1 : Int32).toNatClampNeg = 1 := by decide
  rw [e]
  match N, hN, h with
  | 0, _, h => exact absurd h (by decide)
  | 1, _, _ => rw [show own_k0 1 = (1 : Int32) from by decide]; exact own_g_1_1 a b
  | 2, _, _ => rw [show own_k0 2 = (2 : Int32) from by decide]; exact own_g_2_1 a b
  | 3, _, _ => rw [show own_k0 3 = (3 : Int32) from by decide]; exact own_g_3_1 a b
  | 4, _, _ => rw [show own_k0 4 = (4 : Int32) from by decide]; exact own_g_4_1 a b
  | 5, _, _ => rw [show own_k0 5 = (5 : Int32) from by decide]; exact own_g_5_1 a b
  | 6, _, _ => rw [show own_k0 6 = (5 : Int32) from by decide]; exact own_g_6_1 a b
  | 7, _, _ => rw [show own_k0 7 = (5 : Int32) from by decide]; exact own_g_7_1 a b
  | 8, _, _ => rw [show own_k0 8 = (5 : Int32) from by decide]; exact own_g_8_1 a b
  | 9, _, _ => rw [show own_k0 9 = (5 : Int32) from by decide]; exact own_g_9_1 a b
  | 10, _, _ => rw [show own_k0 10 = (5 : Int32) from by decide]; exact own_g_10_1 a b
  | n + 11, hN, _ => omega
theorem own_h_2 (a b : Int64) (N : Nat) (hN : N ≤ 10) (h : (2 : Int32) < Int32.ofNat (own_cap N)) : (¬ (2 : Int32) < 0 ∧ (2 : Int32) < Int32.ofNat (own_cap N)) ∧ ((own_enc (own_bytes a b N)).map Value.int).getD (2 : Int32).toNatClampNeg (.int (0 : Int32)) = .int (own_ex (2 : Int32) (own_keep a (own_k0 N)) (own_k0 N)) := by
  refine ⟨⟨by decide, h⟩, ?_⟩
  have e : (2 : Int32).toNatClampNeg = 2 := by decide
  rw [e]
  match N, hN, h with
  | 0, _, h => exact absurd h (by decide)
  | 1, _, _ => rw [show own_k0 1 = (1 : Int32) from by decide]; exact own_g_1_2 a b
  | 2, _, _ => rw [show own_k0 2 = (2 : Int32) from by decide]; exact own_g_2_2 a b
  | 3, _, _ => rw [show own_k0 3 = (3 : Int32) from by decide]; exact own_g_3_2 a b
  | 4, _, _ => rw [show own_k0 4 = (4 : Int32) from by decide]; exact own_g_4_2 a b
  | 5, _, _ => rw [show own_k0 5 = (5 : Int32) from by decide]; exact own_g_5_2 a b
  | 6, _, _ => rw [show own_k0 6 = (5 : Int32) from by decide]; exact own_g_6_2 a b
  | 7, _, _ => rw [show own_k0 7 = (5 : Int32) from by decide]; exact own_g_7_2 a b
  | 8, _, _ => rw [show own_k0 8 = (5 : Int32) from by decide]; exact own_g_8_2 a b
  | 9, _, _ => rw [show own_k0 9 = (5 : Int32) from by decide]; exact own_g_9_2 a b
  | 10, _, _ => rw [show own_k0 10 = (5 : Int32) from by decide]; exact own_g_10_2 a b
  | n + 11, hN, _ => omega
theorem own_h_3 (a b : Int64) (N : Nat) (hN : N ≤ 10) (h : (3 : Int32) < Int32.ofNat (own_cap N)) : (¬ (3 : Int32) < 0 ∧ (3 : Int32) < Int32.ofNat (own_cap N)) ∧ ((own_enc (own_bytes a b N)).map Value.int).getD (3 : Int32).toNatClampNeg (.int (0 : Int32)) = .int (own_ex (3 : Int32) (own_keep a (own_k0 N)) (own_k0 N)) := by
  refine ⟨⟨by decide, h⟩, ?_⟩
  have e : (3 : Int32).toNatClampNeg = 3 := by decide
  rw [e]
  match N, hN, h with
  | 0, _, h => exact absurd h (by decide)
  | 1, _, _ => rw [show own_k0 1 = (1 : Int32) from by decide]; exact own_g_1_3 a b
  | 2, _, _ => rw [show own_k0 2 = (2 : Int32) from by decide]; exact own_g_2_3 a b
  | 3, _, _ => rw [show own_k0 3 = (3 : Int32) from by decide]; exact own_g_3_3 a b
  | 4, _, _ => rw [show own_k0 4 = (4 : Int32) from by decide]; exact own_g_4_3 a b
  | 5, _, _ => rw [show own_k0 5 = (5 : Int32) from by decide]; exact own_g_5_3 a b
  | 6, _, _ => rw [show own_k0 6 = (5 : Int32) from by decide]; exact own_g_6_3 a b
  | 7, _, _ => rw [show own_k0 7 = (5 : Int32) from by decide]; exact own_g_7_3 a b
  | 8, _, _ => rw [show own_k0 8 = (5 : Int32) from by decide]; exact own_g_8_3 a b
  | 9, _, _ => rw [show own_k0 9 = (5 : Int32) from by decide]; exact own_g_9_3 a b
  | 10, _, _ => rw [show own_k0 10 = (5 : Int32) from by decide]; exact own_g_10_3 a b
  | n + 11, hN, _ => omega
theorem own_h_4 (a b : Int64) (N : Nat) (hN : N ≤ 10) (h : (4 : Int32) < Int32.ofNat (own_cap N)) : (¬ (4 : Int32) < 0 ∧ (4 : Int32) < Int32.ofNat (own_cap N)) ∧ ((own_enc (own_bytes a b N)).map Value.int).getD (4 : Int32).toNatClampNeg (.int (0 : Int32)) = .int (own_ex (4 : Int32) (own_keep a (own_k0 N)) (own_k0 N)) := by
  refine ⟨⟨by decide, h⟩, ?_⟩
  have e : (4 : Int32).toNatClampNeg = 4 := by decide
  rw [e]
  match N, hN, h with
  | 0, _, h => exact absurd h (by decide)
  | 1, _, _ => rw [show own_k0 1 = (1 : Int32) from by decide]; exact own_g_1_4 a b
  | 2, _, _ => rw [show own_k0 2 = (2 : Int32) from by decide]; exact own_g_2_4 a b
  | 3, _, _ => rw [show own_k0 3 = (3 : Int32) from by decide]; exact own_g_3_4 a b
  | 4, _, _ => rw [show own_k0 4 = (4 : Int32) from by decide]; exact own_g_4_4 a b
  | 5, _, _ => rw [show own_k0 5 = (5 : Int32) from by decide]; exact own_g_5_4 a b
  | 6, _, _ => rw [show own_k0 6 = (5 : Int32) from by decide]; exact own_g_6_4 a b
  | 7, _, _ => rw [show own_k0 7 = (5 : Int32) from by decide]; exact own_g_7_4 a b
  | 8, _, _ => rw [show own_k0 8 = (5 : Int32) from by decide]; exact own_g_8_4 a b
  | 9, _, _ => rw [show own_k0 9 = (5 : Int32) from by decide]; exact own_g_9_4 a b
  | 10, _, _ => rw [show own_k0 10 = (5 : Int32) from by decide]; exact own_g_10_4 a b
  | n + 11, hN, _ => omega
theorem own_h_5 (a b : Int64) (N : Nat) (hN : N ≤ 10) (h : (5 : Int32) < Int32.ofNat (own_cap N)) : (¬ (5 : Int32) < 0 ∧ (5 : Int32) < Int32.ofNat (own_cap N)) ∧ ((own_enc (own_bytes a b N)).map Value.int).getD (5 : Int32).toNatClampNeg (.int (0 : Int32)) = .int (own_ex (5 : Int32) (own_keep a (own_k0 N)) (own_k0 N)) := by
  refine ⟨⟨by decide, h⟩, ?_⟩
  have e : (5 : Int32).toNatClampNeg = 5 := by decide
  rw [e]
  match N, hN, h with
  | 0, _, h => exact absurd h (by decide)
  | 1, _, _ => rw [show own_k0 1 = (1 : Int32) from by decide]; exact own_g_1_5 a b
  | 2, _, _ => rw [show own_k0 2 = (2 : Int32) from by decide]; exact own_g_2_5 a b
  | 3, _, _ => rw [show own_k0 3 = (3 : Int32) from by decide]; exact own_g_3_5 a b
  | 4, _, _ => rw [show own_k0 4 = (4 : Int32) from by decide]; exact own_g_4_5 a b
  | 5, _, _ => rw [show own_k0 5 = (5 : Int32) from by decide]; exact own_g_5_5 a b
  | 6, _, _ => rw [show own_k0 6 = (5 : Int32) from by decide]; exact own_g_6_5 a b
  | 7, _, _ => rw [show own_k0 7 = (5 : Int32) from by decide]; exact own_g_7_5 a b
  | 8, _, _ => rw [show own_k0 8 = (5 : Int32) from by decide]; exact own_g_8_5 a b
  | 9, _, _ => rw [show own_k0 9 = (5 : Int32) from by decide]; exact own_g_9_5 a b
  | 10, _, _ => rw [show own_k0 10 = (5 : Int32) from by decide]; exact own_g_10_5 a b
  | n + 11, hN, _ => omega
theorem own_h_6 (a b : Int64) (N : Nat) (hN : N ≤ 10) (h : (6 : Int32) < Int32.ofNat (own_cap N)) : (¬ (6 : Int32) < 0 ∧ (6 : Int32) < Int32.ofNat (own_cap N)) ∧ ((own_enc (own_bytes a b N)).map Value.int).getD (6 : Int32).toNatClampNeg (.int (0 : Int32)) = .int (own_ex (6 : Int32) (own_keep a (own_k0 N)) (own_k0 N)) := by
  refine ⟨⟨by decide, h⟩, ?_⟩
  have e : (6 : Int32).toNatClampNeg = 6 := by decide
  rw [e]
  match N, hN, h with
  | 0, _, h => exact absurd h (by decide)
  | 1, _, _ => rw [show own_k0 1 = (1 : Int32) from by decide]; exact own_g_1_6 a b
  | 2, _, _ => rw [show own_k0 2 = (2 : Int32) from by decide]; exact own_g_2_6 a b
  | 3, _, _ => rw [show own_k0 3 = (3 : Int32) from by decide]; exact own_g_3_6 a b
  | 4, _, _ => rw [show own_k0 4 = (4 : Int32) from by decide]; exact own_g_4_6 a b
  | 5, _, _ => rw [show own_k0 5 = (5 : Int32) from by decide]; exact own_g_5_6 a b
  | 6, _, _ => rw [show own_k0 6 = (5 : Int32) from by decide]; exact own_g_6_6 a b
  | 7, _, _ => rw [show own_k0 7 = (5 : Int32) from by decide]; exact own_g_7_6 a b
  | 8, _, _ => rw [show own_k0 8 = (5 : Int32) from by decide]; exact own_g_8_6 a b
  | 9, _, _ => rw [show own_k0 9 = (5 : Int32) from by decide]; exact own_g_9_6 a b
  | 10, _, _ => rw [show own_k0 10 = (5 : Int32) from by decide]; exact own_g_10_6 a b
  | n + 11, hN, _ => omega
theorem own_h_7 (a b : Int64) (N : Nat) (hN : N ≤ 10) (h : (7 : Int32) < Int32.ofNat (own_cap N)) : (¬ (7 : Int32) < 0 ∧ (7 : Int32) < Int32.ofNat (own_cap N)) ∧ ((own_enc (own_bytes a b N)).map Value.int).getD (7 : Int32).toNatClampNeg (.int (0 : Int32)) = .int (own_ex (7 : Int32) (own_keep a (own_k0 N)) (own_k0 N)) := by
  refine ⟨⟨by decide, h⟩, ?_⟩
  have e : (7 : Int32).toNatClampNeg = 7 := by decide
  rw [e]
  match N, hN, h with
  | 0, _, h => exact absurd h (by decide)
  | 1, _, _ => rw [show own_k0 1 = (1 : Int32) from by decide]; exact own_g_1_7 a b
  | 2, _, _ => rw [show own_k0 2 = (2 : Int32) from by decide]; exact own_g_2_7 a b
  | 3, _, _ => rw [show own_k0 3 = (3 : Int32) from by decide]; exact own_g_3_7 a b
  | 4, _, _ => rw [show own_k0 4 = (4 : Int32) from by decide]; exact own_g_4_7 a b
  | 5, _, _ => rw [show own_k0 5 = (5 : Int32) from by decide]; exact own_g_5_7 a b
  | 6, _, _ => rw [show own_k0 6 = (5 : Int32) from by decide]; exact own_g_6_7 a b
  | 7, _, _ => rw [show own_k0 7 = (5 : Int32) from by decide]; exact own_g_7_7 a b
  | 8, _, _ => rw [show own_k0 8 = (5 : Int32) from by decide]; exact own_g_8_7 a b
  | 9, _, _ => rw [show own_k0 9 = (5 : Int32) from by decide]; exact own_g_9_7 a b
  | 10, _, _ => rw [show own_k0 10 = (5 : Int32) from by decide]; exact own_g_10_7 a b
  | n + 11, hN, _ => omega
theorem own_h_8 (a b : Int64) (N : Nat) (hN : N ≤ 10) (h : (8 : Int32) < Int32.ofNat (own_cap N)) : (¬ (8 : Int32) < 0 ∧ (8 : Int32) < Int32.ofNat (own_cap N)) ∧ ((own_enc (own_bytes a b N)).map Value.int).getD (8 : Int32).toNatClampNeg (.int (0 : Int32)) = .int (own_ex (8 : Int32) (own_keep b (own_k1 N)) (own_k1 N)) := by
  refine ⟨⟨by decide, h⟩, ?_⟩
  have e : (8 : Int32).toNatClampNeg = 8 := by decide
  rw [e]
  match N, hN, h with
  | 0, _, h => exact absurd h (by decide)
  | 1, _, h => exact absurd h (by decide)
  | 2, _, h => exact absurd h (by decide)
  | 3, _, h => exact absurd h (by decide)
  | 4, _, h => exact absurd h (by decide)
  | 5, _, h => exact absurd h (by decide)
  | 6, _, _ => rw [show own_k1 6 = (1 : Int32) from by decide]; exact own_g_6_8 a b
  | 7, _, _ => rw [show own_k1 7 = (2 : Int32) from by decide]; exact own_g_7_8 a b
  | 8, _, _ => rw [show own_k1 8 = (3 : Int32) from by decide]; exact own_g_8_8 a b
  | 9, _, _ => rw [show own_k1 9 = (4 : Int32) from by decide]; exact own_g_9_8 a b
  | 10, _, _ => rw [show own_k1 10 = (5 : Int32) from by decide]; exact own_g_10_8 a b
  | n + 11, hN, _ => omega
theorem own_h_9 (a b : Int64) (N : Nat) (hN : N ≤ 10) (h : (9 : Int32) < Int32.ofNat (own_cap N)) : (¬ (9 : Int32) < 0 ∧ (9 : Int32) < Int32.ofNat (own_cap N)) ∧ ((own_enc (own_bytes a b N)).map Value.int).getD (9 : Int32).toNatClampNeg (.int (0 : Int32)) = .int (own_ex (9 : Int32) (own_keep b (own_k1 N)) (own_k1 N)) := by
  refine ⟨⟨by decide, h⟩, ?_⟩
  have e : (9 : Int32).toNatClampNeg = 9 := by decide
  rw [e]
  match N, hN, h with
  | 0, _, h => exact absurd h (by decide)
  | 1, _, h => exact absurd h (by decide)
  | 2, _, h => exact absurd h (by decide)
  | 3, _, h => exact absurd h (by decide)
  | 4, _, h => exact absurd h (by decide)
  | 5, _, h => exact absurd h (by decide)
  | 6, _, _ => rw [show own_k1 6 = (1 : Int32) from by decide]; exact own_g_6_9 a b
  | 7, _, _ => rw [show own_k1 7 = (2 : Int32) from by decide]; exact own_g_7_9 a b
  | 8, _, _ => rw [show own_k1 8 = (3 : Int32) from by decide]; exact own_g_8_9 a b
  | 9, _, _ => rw [show own_k1 9 = (4 : Int32) from by decide]; exact own_g_9_9 a b
  | 10, _, _ => rw [show own_k1 10 = (5 : Int32) from by decide]; exact own_g_10_9 a b
  | n + 11, hN, _ => omega
theorem own_h_10 (a b : Int64) (N : Nat) (hN : N ≤ 10) (h : (10 : Int32) < Int32.ofNat (own_cap N)) : (¬ (10 : Int32) < 0 ∧ (10 : Int32) < Int32.ofNat (own_cap N)) ∧ ((own_enc (own_bytes a b N)).map Value.int).getD (10 : Int32).toNatClampNeg (.int (0 : Int32)) = .int (own_ex (10 : Int32) (own_keep b (own_k1 N)) (own_k1 N)) := by
  refine ⟨⟨by decide, h⟩, ?_⟩
  have e : (10 : Int32).toNatClampNeg = 10 := by decide
  rw [e]
  match N, hN, h with
  | 0, _, h => exact absurd h (by decide)
  | 1, _, h => exact absurd h (by decide)
  | 2, _, h => exact absurd h (by decide)
  | 3, _, h => exact absurd h (by decide)
  | 4, _, h => exact absurd h (by decide)
  | 5, _, h => exact absurd h (by decide)
  | 6, _, _ => rw [show own_k1 6 = (1 : Int32) from by decide]; exact own_g_6_10 a b
  | 7, _, _ => rw [show own_k1 7 = (2 : Int32) from by decide]; exact own_g_7_10 a b
  | 8, _, _ => rw [show own_k1 8 = (3 : Int32) from by decide]; exact own_g_8_10 a b
  | 9, _, _ => rw [show own_k1 9 = (4 : Int32) from by decide]; exact own_g_9_10 a b
  | 10, _, _ => rw [show own_k1 10 = (5 : Int32) from by decide]; exact own_g_10_10 a b
  | n + 11, hN, _ => omega
theorem own_h_11 (a b : Int64) (N : Nat) (hN : N ≤ 10) (h : (11 : Int32) < Int32.ofNat (own_cap N)) : (¬ (11 : Int32) < 0 ∧ (11 : Int32) < Int32.ofNat (own_cap N)) ∧ ((own_enc (own_bytes a b N)).map Value.int).getD (11 : Int32).toNatClampNeg (.int (0 : Int32)) = .int (own_ex (11 : Int32) (own_keep b (own_k1 N)) (own_k1 N)) := by
  refine ⟨⟨by decide, h⟩, ?_⟩
  have e : (11 : Int32).toNatClampNeg = 11 := by decide
  rw [e]
  match N, hN, h with
  | 0, _, h => exact absurd h (by decide)
  | 1, _, h => exact absurd h (by decide)
  | 2, _, h => exact absurd h (by decide)
  | 3, _, h => exact absurd h (by decide)
  | 4, _, h => exact absurd h (by decide)
  | 5, _, h => exact absurd h (by decide)
  | 6, _, _ => rw [show own_k1 6 = (1 : Int32) from by decide]; exact own_g_6_11 a b
  | 7, _, _ => rw [show own_k1 7 = (2 : Int32) from by decide]; exact own_g_7_11 a b
  | 8, _, _ => rw [show own_k1 8 = (3 : Int32) from by decide]; exact own_g_8_11 a b
  | 9, _, _ => rw [show own_k1 9 = (4 : Int32) from by decide]; exact own_g_9_11 a b
  | 10, _, _ => rw [show own_k1 10 = (5 : Int32) from by decide]; exact own_g_10_11 a b
  | n + 11, hN, _ => omega
theorem own_h_12 (a b : Int64) (N : Nat) (hN : N ≤ 10) (h : (12 : Int32) < Int32.ofNat (own_cap N)) : (¬ (12 : Int32) < 0 ∧ (12 : Int32) < Int32.ofNat (own_cap N)) ∧ ((own_enc (own_bytes a b N)).map Value.int).getD (12 : Int32).toNatClampNeg (.int (0 : Int32)) = .int (own_ex (12 : Int32) (own_keep b (own_k1 N)) (own_k1 N)) := by
  refine ⟨⟨by decide, h⟩, ?_⟩
  have e : (12 : Int32).toNatClampNeg = 12 := by decide
  rw [e]
  match N, hN, h with
  | 0, _, h => exact absurd h (by decide)
  | 1, _, h => exact absurd h (by decide)
  | 2, _, h => exact absurd h (by decide)
  | 3, _, h => exact absurd h (by decide)
  | 4, _, h => exact absurd h (by decide)
  | 5, _, h => exact absurd h (by decide)
  | 6, _, _ => rw [show own_k1 6 = (1 : Int32) from by decide]; exact own_g_6_12 a b
  | 7, _, _ => rw [show own_k1 7 = (2 : Int32) from by decide]; exact own_g_7_12 a b
  | 8, _, _ => rw [show own_k1 8 = (3 : Int32) from by decide]; exact own_g_8_12 a b
  | 9, _, _ => rw [show own_k1 9 = (4 : Int32) from by decide]; exact own_g_9_12 a b
  | 10, _, _ => rw [show own_k1 10 = (5 : Int32) from by decide]; exact own_g_10_12 a b
  | n + 11, hN, _ => omega
theorem own_h_13 (a b : Int64) (N : Nat) (hN : N ≤ 10) (h : (13 : Int32) < Int32.ofNat (own_cap N)) : (¬ (13 : Int32) < 0 ∧ (13 : Int32) < Int32.ofNat (own_cap N)) ∧ ((own_enc (own_bytes a b N)).map Value.int).getD (13 : Int32).toNatClampNeg (.int (0 : Int32)) = .int (own_ex (13 : Int32) (own_keep b (own_k1 N)) (own_k1 N)) := by
  refine ⟨⟨by decide, h⟩, ?_⟩
  have e : (13 : Int32).toNatClampNeg = 13 := by decide
  rw [e]
  match N, hN, h with
  | 0, _, h => exact absurd h (by decide)
  | 1, _, h => exact absurd h (by decide)
  | 2, _, h => exact absurd h (by decide)
  | 3, _, h => exact absurd h (by decide)
  | 4, _, h => exact absurd h (by decide)
  | 5, _, h => exact absurd h (by decide)
  | 6, _, _ => rw [show own_k1 6 = (1 : Int32) from by decide]; exact own_g_6_13 a b
  | 7, _, _ => rw [show own_k1 7 = (2 : Int32) from by decide]; exact own_g_7_13 a b
  | 8, _, _ => rw [show own_k1 8 = (3 : Int32) from by decide]; exact own_g_8_13 a b
  | 9, _, _ => rw [show own_k1 9 = (4 : Int32) from by decide]; exact own_g_9_13 a b
  | 10, _, _ => rw [show own_k1 10 = (5 : Int32) from by decide]; exact own_g_10_13 a b
  | n + 11, hN, _ => omega
theorem own_h_14 (a b : Int64) (N : Nat) (hN : N ≤ 10) (h : (14 : Int32) < Int32.ofNat (own_cap N)) : (¬ (14 : Int32) < 0 ∧ (14 : Int32) < Int32.ofNat (own_cap N)) ∧ ((own_enc (own_bytes a b N)).map Value.int).getD (14 : Int32).toNatClampNeg (.int (0 : Int32)) = .int (own_ex (14 : Int32) (own_keep b (own_k1 N)) (own_k1 N)) := by
  refine ⟨⟨by decide, h⟩, ?_⟩
  have e : (14 : Int32).toNatClampNeg = 14 := by decide
  rw [e]
  match N, hN, h with
  | 0, _, h => exact absurd h (by decide)
  | 1, _, h => exact absurd h (by decide)
  | 2, _, h => exact absurd h (by decide)
  | 3, _, h => exact absurd h (by decide)
  | 4, _, h => exact absurd h (by decide)
  | 5, _, h => exact absurd h (by decide)
  | 6, _, _ => rw [show own_k1 6 = (1 : Int32) from by decide]; exact own_g_6_14 a b
  | 7, _, _ => rw [show own_k1 7 = (2 : Int32) from by decide]; exact own_g_7_14 a b
  | 8, _, _ => rw [show own_k1 8 = (3 : Int32) from by decide]; exact own_g_8_14 a b
  | 9, _, _ => rw [show own_k1 9 = (4 : Int32) from by decide]; exact own_g_9_14 a b
  | 10, _, _ => rw [show own_k1 10 = (5 : Int32) from by decide]; exact own_g_10_14 a b
  | n + 11, hN, _ => omega
theorem own_h_15 (a b : Int64) (N : Nat) (hN : N ≤ 10) (h : (15 : Int32) < Int32.ofNat (own_cap N)) : (¬ (15 : Int32) < 0 ∧ (15 : Int32) < Int32.ofNat (own_cap N)) ∧ ((own_enc (own_bytes a b N)).map Value.int).getD (15 : Int32).toNatClampNeg (.int (0 : Int32)) = .int (own_ex (15 : Int32) (own_keep b (own_k1 N)) (own_k1 N)) := by
  refine ⟨⟨by decide, h⟩, ?_⟩
  have e : (15 : Int32).toNatClampNeg = 15 := by decide
  rw [e]
  match N, hN, h with
  | 0, _, h => exact absurd h (by decide)
  | 1, _, h => exact absurd h (by decide)
  | 2, _, h => exact absurd h (by decide)
  | 3, _, h => exact absurd h (by decide)
  | 4, _, h => exact absurd h (by decide)
  | 5, _, h => exact absurd h (by decide)
  | 6, _, _ => rw [show own_k1 6 = (1 : Int32) from by decide]; exact own_g_6_15 a b
  | 7, _, _ => rw [show own_k1 7 = (2 : Int32) from by decide]; exact own_g_7_15 a b
  | 8, _, _ => rw [show own_k1 8 = (3 : Int32) from by decide]; exact own_g_8_15 a b
  | 9, _, _ => rw [show own_k1 9 = (4 : Int32) from by decide]; exact own_g_9_15 a b
  | 10, _, _ => rw [show own_k1 10 = (5 : Int32) from by decide]; exact own_g_10_15 a b
  | n + 11, hN, _ => omega
theorem own_snoc2 {Z : State} {h h' : Heap} {ar : Addr} {kb : ClassId} {z : Int32} {xs : List Int32} {x jx : Int32} (V : Arv Z h ar kb .byte z (xs.map Value.int) (.int (0 : Int32))) (hj : jx.toNatClampNeg = xs.length) (hx : nar .byte x = x)
    (W : Wr h h' ar jx.toNatClampNeg (.int (nar .byte x))) : Arv Z h' ar kb .byte z ((xs ++ [x]).map Value.int) (.int (0 : Int32)) := by
  obtain ⟨c, A, q1, S, q3, H, G⟩ := V.pad (pad_rep (xs.map Value.int) (.int (0 : Int32)) 1)
  have R := Arv.set A q1 S q3 H G (fits_nar_byte _) W xs.length hj (by simp)
  have e1 : ((xs.map Value.int ++ List.replicate 1 (Value.int (0 : Int32))).set xs.length (.int (nar .byte x))) = (xs ++ [x]).map Value.int := by
    rw [hx, List.set_append_right _ _ (by simp)]
    simp
  have R' : Arv Z h' ar kb .byte z ((xs.map Value.int ++ List.replicate 1 (Value.int (0 : Int32))).set xs.length (.int (nar .byte x))) (.int (0 : Int32)) := R
  rw [e1] at R'
  exact R'
theorem own_n11 (ln : Int32) : 0 ≤ ((ln &&& (2147483647 : Int32)) % (11 : Int32)).toInt ∧ ((ln &&& (2147483647 : Int32)) % (11 : Int32)).toInt ≤ 10 := by
  have e1 := c_and ln (2147483647 : Int32) (by decide)
  have e2 := c_irem (ln &&& (2147483647 : Int32)) (11 : Int32) 11 (by decide)
  omega
theorem own_cap8 : ∀ n : Fin 11, Int32.ofNat (own_cap n.1) = (8 : Int32) * ((Int32.ofNat n.1 + (4 : Int32)) / (5 : Int32)) := by decide
theorem pd_at__JI_B : parseMethodDescriptor "(JI)B" = some ⟨[.long, .int], some .byte⟩ := by decide +kernel
theorem pd_at___B_Ljava_lang_String_ : parseMethodDescriptor "([B)Ljava/lang/String;" = some ⟨[(.array .byte)], some (.object "java/lang/String")⟩ := by decide +kernel
theorem pd_at___I : parseMethodDescriptor "()I" = some ⟨[], some .int⟩ := by decide +kernel
theorem pd_at__II_I : parseMethodDescriptor "(II)I" = some ⟨[.int, .int], some .int⟩ := by decide +kernel
theorem pd_at__JI_J : parseMethodDescriptor "(JI)J" = some ⟨[.long, .int], some .long⟩ := by decide +kernel
theorem pd_at__Ljava_lang_String_IJI_Z : parseMethodDescriptor "(Ljava/lang/String;IJI)Z" = some ⟨[(.object "java/lang/String"), .int, .long, .int], some .boolean⟩ := by decide +kernel
set_option maxRecDepth 65536 in
set_option maxHeartbeats 40000000 in
theorem own_put0 {p : Program} {l : Launch} {e : Env} {s : State} {m : MethodId} {args : Array Value} {below : List Frame} {meth : Method} {c : Code} {T0 : State} {locs : List Loc} {Z : State} {a0 : Array Value} {h0 : Heap} {n0 : Nat} (X0 : Stand p l e room_1 s m args below meth c T0 locs 1 10) (hx : p.tables.exec = Jvm.exec) (hZ : Z.Warmed39 s.vm) (hw : ∀ d ∈ tables_1, d.before a0 Z = true) (hby : c.code = code) (hml : c.maxLocals = 17) (hown : s.vm.findClass "com/example/harrier/harrier/warc/Base32EncodePinLaw" = some m.cls) (e0 : T0.heap = h0) (N0 : Fr n0 locs) (Z0 : n0 ≤ h0.size) {ba : Addr} {kB : ClassId} (a b : Int64) (ln nn : Int32) (N : Nat) (hN : nn = Int32.ofNat N) (hN10 : N ≤ 10) (gb : n0 ≤ ba) (V : Arv Z h0 ba kB .byte nn ((own_bytes a b (min N 0)).map Value.int) (.int (0 : Int32))) :
    ∃ (T' : State) (h' : Heap) (locs' : List Loc), Stand p l e room_1 s m args below meth c T' locs' 1 10 ∧ T'.heap = h' ∧ Fr n0 locs' ∧ Keep h0 h' [ba] ∧ own_St Z h0 h' ∧ Arv Z h' ba kB .byte nn ((own_bytes a b (min N (0 + 1))).map Value.int) (.int (0 : Int32)) ∧
      ∀ target, Steps p.tables e below (T'.setTop (mkF m 30 #[.val (.long a), .second, .val (.long b), .second, .val (.int ln), .val (.int nn), .val (.ref ba), .unset, .unset, .unset, .unset, .unset, .unset, .unset, .unset, .unset, .unset] [])) target → Steps p.tables e below (T0.setTop (mkF m 16 #[.val (.long a), .second, .val (.long b), .second, .val (.int ln), .val (.int nn), .val (.ref ba), .unset, .unset, .unset, .unset, .unset, .unset, .unset, .unset, .unset, .unset] [])) target := by
  rcases Classical.em ((0 : Int32) < nn) with c0 | c0
  · have kj : (0 : Int32).toInt = 0 := by decide
    have hjN : 0 < N := by rw [hN, Int32.lt_iff_toInt_lt, own_ofNat (by omega), kj] at c0; omega
    have em : min N 0 = 0 := by omega
    have em2 : min N (0 + 1) = 0 + 1 := by omega
    rw [em] at V
    have V0 := V
    obtain ⟨ca, Av, qv, Sv, Nv, Hv, Gv⟩ := V
    have hin := inb_of (j := (0 : Int32)) Sv ⟨by decide, c0⟩
    obtain ⟨_, _, ⟨T1, L1, k1, n1⟩, -, X1, ⟨Lc1, hQ1, l1, y1, z1⟩, st1⟩ := Jvm.LawKit.callS X0 hx (y := (⟨"com/example/harrier/harrier/warc/Base32EncodePinLaw", "byteOf", "(JI)B"⟩ : MethodName)) hown (mvT hZ (hw _ (List.mem_of_getElem? (i := 109) rfl))) (mvT hZ (hw _ (List.mem_of_getElem? (i := 110) rfl))) (mvT hZ (hw _ (List.mem_of_getElem? (i := 103) rfl))) (mvT hZ (hw _ (List.mem_of_getElem? (i := 111) rfl))) (by decide) (backOf (W := 2) (rmBy l Z a0 hw [] a (0 : Int32) h0 n0 Z0) hZ (hw _ (List.mem_of_getElem? (i := 111) rfl)) (hw _ (List.mem_of_getElem? (i := 103) rfl)) (by decide) (by decide)) (g := (mkF m 26 #[.val (.long a), .second, .val (.long b), .second, .val (.int ln), .val (.int nn), .val (.ref ba), .unset, .unset, .unset, .unset, .unset, .unset, .unset, .unset, .unset, .unset] [(.int (0 : Int32)), (.long a), (.int (0 : Int32)), (.ref ba)])) rfl (by rw [hml]; rfl) (argsL := [(.long a), (.int (0 : Int32))]) (rest := [(.int (0 : Int32)), (.ref ba)]) (lenOf pd_at__JI_B rfl) rfl (by show 2 * 0 + _ ≤ _; exact Nat.le_of_eq rfl) (hb hby at_26) (fun _ _ => ⟨rfl, e0, (by decide : 1 + 0 ≤ _), (by decide : 10 + 0 ≤ _)⟩)
    dsimp only [Pt.U, Pt.locs, Pt.cells, Pt.slots] at X1 l1 y1 z1 st1 hQ1
    subst l1 y1 z1
    obtain ⟨rfl, N1q, e1⟩ := hQ1
    have N1 := Fr.app N0 N1q
    obtain ⟨T2, h2, X2, e2, W2, st2⟩ := stB X1 hx hZ e1 Av (j := (0 : Int32)) hin (g := (mkF m 29 #[.val (.long a), .second, .val (.long b), .second, .val (.int ln), .val (.int nn), .val (.ref ba), .unset, .unset, .unset, .unset, .unset, .unset, .unset, .unset, .unset, .unset] [(.int (own_byteOf a (0 : Int32))), (.int (0 : Int32)), (.ref ba)])) rfl rfl (hb hby at_29)
    have V1 := own_snoc2 (xs := own_bytes a b 0) (x := own_byteOf a (0 : Int32)) (jx := (0 : Int32)) V0 (by rw [own_blen]; decide) (own_nb _) W2
    have M1 := Fr.snoc X2 N1 gb
    refine ⟨T2, h2, _, X2, e2, M1, (Keep.refl h0 [ba]).wr W2 (Or.inl (List.mem_of_getElem? (i := 0) rfl)), own_st_wr W2, by rw [em2]; exact V1, fun target kt => ?_⟩
    show Steps p.tables e below (T0.setTop (mkF m 16 #[.val (.long a), .second, .val (.long b), .second, .val (.int ln), .val (.int nn), .val (.ref ba), .unset, .unset, .unset, .unset, .unset, .unset, .unset, .unset, .unset, .unset] [])) _
    refine XS.iload X0.here hx rfl (hb hby at_16) rfl ?_
    show Steps p.tables e below (T0.setTop (mkF m 18 #[.val (.long a), .second, .val (.long b), .second, .val (.int ln), .val (.int nn), .val (.ref ba), .unset, .unset, .unset, .unset, .unset, .unset, .unset, .unset, .unset, .unset] [(.int nn)])) _
    refine XS.ifNo X0.here hx rfl (hb hby at_18) rfl ((if0 _ _).trans (tlt c0).2.2.2) ?_
    show Steps p.tables e below (T0.setTop (mkF m 21 #[.val (.long a), .second, .val (.long b), .second, .val (.int ln), .val (.int nn), .val (.ref ba), .unset, .unset, .unset, .unset, .unset, .unset, .unset, .unset, .unset, .unset] [])) _
    refine XS.aload X0.here hx rfl (hb hby at_21) rfl rfl ?_
    show Steps p.tables e below (T0.setTop (mkF m 23 #[.val (.long a), .second, .val (.long b), .second, .val (.int ln), .val (.int nn), .val (.ref ba), .unset, .unset, .unset, .unset, .unset, .unset, .unset, .unset, .unset, .unset] [(.ref ba)])) _
    refine XS.iconst X0.here hx rfl (hb hby at_23) ?_
    show Steps p.tables e below (T0.setTop (mkF m 24 #[.val (.long a), .second, .val (.long b), .second, .val (.int ln), .val (.int nn), .val (.ref ba), .unset, .unset, .unset, .unset, .unset, .unset, .unset, .unset, .unset, .unset] [(.int (0 : Int32)), (.ref ba)])) _
    refine XS.lloadN X0.here hx rfl (hb hby at_24) rfl ?_
    show Steps p.tables e below (T0.setTop (mkF m 25 #[.val (.long a), .second, .val (.long b), .second, .val (.int ln), .val (.int nn), .val (.ref ba), .unset, .unset, .unset, .unset, .unset, .unset, .unset, .unset, .unset, .unset] [(.long a), (.int (0 : Int32)), (.ref ba)])) _
    refine XS.iconst X0.here hx rfl (hb hby at_25) ?_
    show Steps p.tables e below (T0.setTop (mkF m 26 #[.val (.long a), .second, .val (.long b), .second, .val (.int ln), .val (.int nn), .val (.ref ba), .unset, .unset, .unset, .unset, .unset, .unset, .unset, .unset, .unset, .unset] [(.int (0 : Int32)), (.long a), (.int (0 : Int32)), (.ref ba)])) _
    refine st1 _ ?_
    show Steps p.tables e below (T1.setTop (mkF m 29 #[.val (.long a), .second, .val (.long b), .second, .val (.int ln), .val (.int nn), .val (.ref ba), .unset, .unset, .unset, .unset, .unset, .unset, .unset, .unset, .unset, .unset] [(.int (own_byteOf a (0 : Int32))), (.int (0 : Int32)), (.ref ba)])) _
    refine st2 _ ?_
    show Steps p.tables e below (T2.setTop (mkF m 30 #[.val (.long a), .second, .val (.long b), .second, .val (.int ln), .val (.int nn), .val (.ref ba), .unset, .unset, .unset, .unset, .unset, .unset, .unset, .unset, .unset, .unset] [])) _
    exact kt
  · have kj : (0 : Int32).toInt = 0 := by decide
    have hjN : ¬ 0 < N := by rw [hN, Int32.lt_iff_toInt_lt, own_ofNat (by omega), kj] at c0; omega
    have em : min N (0 + 1) = min N 0 := by omega
    refine ⟨T0, h0, locs, X0, e0, N0, Keep.refl h0 [ba], own_St.refl, by rw [em]; exact V, fun target kt => ?_⟩
    show Steps p.tables e below (T0.setTop (mkF m 16 #[.val (.long a), .second, .val (.long b), .second, .val (.int ln), .val (.int nn), .val (.ref ba), .unset, .unset, .unset, .unset, .unset, .unset, .unset, .unset, .unset, .unset] [])) _
    refine XS.iload X0.here hx rfl (hb hby at_16) rfl ?_
    show Steps p.tables e below (T0.setTop (mkF m 18 #[.val (.long a), .second, .val (.long b), .second, .val (.int ln), .val (.int nn), .val (.ref ba), .unset, .unset, .unset, .unset, .unset, .unset, .unset, .unset, .unset, .unset] [(.int nn)])) _
    refine XS.ifYes X0.here hx rfl (pc0 := 18) (pc' := 30) rfl (hb hby at_18) rfl ((if0 _ _).trans (flt c0).2.2.2) (by decide) (by decide) ?_
    show Steps p.tables e below (T0.setTop (mkF m 30 #[.val (.long a), .second, .val (.long b), .second, .val (.int ln), .val (.int nn), .val (.ref ba), .unset, .unset, .unset, .unset, .unset, .unset, .unset, .unset, .unset, .unset] [])) _
    exact kt

set_option maxRecDepth 65536 in
set_option maxHeartbeats 40000000 in
theorem own_put1 {p : Program} {l : Launch} {e : Env} {s : State} {m : MethodId} {args : Array Value} {below : List Frame} {meth : Method} {c : Code} {T0 : State} {locs : List Loc} {Z : State} {a0 : Array Value} {h0 : Heap} {n0 : Nat} (X0 : Stand p l e room_1 s m args below meth c T0 locs 1 10) (hx : p.tables.exec = Jvm.exec) (hZ : Z.Warmed39 s.vm) (hw : ∀ d ∈ tables_1, d.before a0 Z = true) (hby : c.code = code) (hml : c.maxLocals = 17) (hown : s.vm.findClass "com/example/harrier/harrier/warc/Base32EncodePinLaw" = some m.cls) (e0 : T0.heap = h0) (N0 : Fr n0 locs) (Z0 : n0 ≤ h0.size) {ba : Addr} {kB : ClassId} (a b : Int64) (ln nn : Int32) (N : Nat) (hN : nn = Int32.ofNat N) (hN10 : N ≤ 10) (gb : n0 ≤ ba) (V : Arv Z h0 ba kB .byte nn ((own_bytes a b (min N 1)).map Value.int) (.int (0 : Int32))) :
    ∃ (T' : State) (h' : Heap) (locs' : List Loc), Stand p l e room_1 s m args below meth c T' locs' 1 10 ∧ T'.heap = h' ∧ Fr n0 locs' ∧ Keep h0 h' [ba] ∧ own_St Z h0 h' ∧ Arv Z h' ba kB .byte nn ((own_bytes a b (min N (1 + 1))).map Value.int) (.int (0 : Int32)) ∧
      ∀ target, Steps p.tables e below (T'.setTop (mkF m 45 #[.val (.long a), .second, .val (.long b), .second, .val (.int ln), .val (.int nn), .val (.ref ba), .unset, .unset, .unset, .unset, .unset, .unset, .unset, .unset, .unset, .unset] [])) target → Steps p.tables e below (T0.setTop (mkF m 30 #[.val (.long a), .second, .val (.long b), .second, .val (.int ln), .val (.int nn), .val (.ref ba), .unset, .unset, .unset, .unset, .unset, .unset, .unset, .unset, .unset, .unset] [])) target := by
  rcases Classical.em ((1 : Int32) < nn) with c0 | c0
  · have kj : (1 : Int32).toInt = 1 := by decide
    have hjN : 1 < N := by rw [hN, Int32.lt_iff_toInt_lt, own_ofNat (by omega), kj] at c0; omega
    have em : min N 1 = 1 := by omega
    have em2 : min N (1 + 1) = 1 + 1 := by omega
    rw [em] at V
    have V0 := V
    obtain ⟨ca, Av, qv, Sv, Nv, Hv, Gv⟩ := V
    have hin := inb_of (j := (1 : Int32)) Sv ⟨by decide, c0⟩
    obtain ⟨_, _, ⟨T1, L1, k1, n1⟩, -, X1, ⟨Lc1, hQ1, l1, y1, z1⟩, st1⟩ := Jvm.LawKit.callS X0 hx (y := (⟨"com/example/harrier/harrier/warc/Base32EncodePinLaw", "byteOf", "(JI)B"⟩ : MethodName)) hown (mvT hZ (hw _ (List.mem_of_getElem? (i := 109) rfl))) (mvT hZ (hw _ (List.mem_of_getElem? (i := 110) rfl))) (mvT hZ (hw _ (List.mem_of_getElem? (i := 103) rfl))) (mvT hZ (hw _ (List.mem_of_getElem? (i := 111) rfl))) (by decide) (backOf (W := 2) (rmBy l Z a0 hw [] a (1 : Int32) h0 n0 Z0) hZ (hw _ (List.mem_of_getElem? (i := 111) rfl)) (hw _ (List.mem_of_getElem? (i := 103) rfl)) (by decide) (by decide)) (g := (mkF m 41 #[.val (.long a), .second, .val (.long b), .second, .val (.int ln), .val (.int nn), .val (.ref ba), .unset, .unset, .unset, .unset, .unset, .unset, .unset, .unset, .unset, .unset] [(.int (1 : Int32)), (.long a), (.int (1 : Int32)), (.ref ba)])) rfl (by rw [hml]; rfl) (argsL := [(.long a), (.int (1 : Int32))]) (rest := [(.int (1 : Int32)), (.ref ba)]) (lenOf pd_at__JI_B rfl) rfl (by show 2 * 0 + _ ≤ _; exact Nat.le_of_eq rfl) (hb hby at_41) (fun _ _ => ⟨rfl, e0, (by decide : 1 + 0 ≤ _), (by decide : 10 + 0 ≤ _)⟩)
    dsimp only [Pt.U, Pt.locs, Pt.cells, Pt.slots] at X1 l1 y1 z1 st1 hQ1
    subst l1 y1 z1
    obtain ⟨rfl, N1q, e1⟩ := hQ1
    have N1 := Fr.app N0 N1q
    obtain ⟨T2, h2, X2, e2, W2, st2⟩ := stB X1 hx hZ e1 Av (j := (1 : Int32)) hin (g := (mkF m 44 #[.val (.long a), .second, .val (.long b), .second, .val (.int ln), .val (.int nn), .val (.ref ba), .unset, .unset, .unset, .unset, .unset, .unset, .unset, .unset, .unset, .unset] [(.int (own_byteOf a (1 : Int32))), (.int (1 : Int32)), (.ref ba)])) rfl rfl (hb hby at_44)
    have V1 := own_snoc2 (xs := own_bytes a b 1) (x := own_byteOf a (1 : Int32)) (jx := (1 : Int32)) V0 (by rw [own_blen]; decide) (own_nb _) W2
    have M1 := Fr.snoc X2 N1 gb
    refine ⟨T2, h2, _, X2, e2, M1, (Keep.refl h0 [ba]).wr W2 (Or.inl (List.mem_of_getElem? (i := 0) rfl)), own_st_wr W2, by rw [em2]; exact V1, fun target kt => ?_⟩
    show Steps p.tables e below (T0.setTop (mkF m 30 #[.val (.long a), .second, .val (.long b), .second, .val (.int ln), .val (.int nn), .val (.ref ba), .unset, .unset, .unset, .unset, .unset, .unset, .unset, .unset, .unset, .unset] [])) _
    refine XS.iload X0.here hx rfl (hb hby at_30) rfl ?_
    show Steps p.tables e below (T0.setTop (mkF m 32 #[.val (.long a), .second, .val (.long b), .second, .val (.int ln), .val (.int nn), .val (.ref ba), .unset, .unset, .unset, .unset, .unset, .unset, .unset, .unset, .unset, .unset] [(.int nn)])) _
    refine XS.iconst X0.here hx rfl (hb hby at_32) ?_
    show Steps p.tables e below (T0.setTop (mkF m 33 #[.val (.long a), .second, .val (.long b), .second, .val (.int ln), .val (.int nn), .val (.ref ba), .unset, .unset, .unset, .unset, .unset, .unset, .unset, .unset, .unset, .unset] [(.int (1 : Int32)), (.int nn)])) _
    refine XS.icmpNo X0.here hx rfl (hb hby at_33) rfl (tlt c0).2.2.2 ?_
    show Steps p.tables e below (T0.setTop (mkF m 36 #[.val (.long a), .second, .val (.long b), .second, .val (.int ln), .val (.int nn), .val (.ref ba), .unset, .unset, .unset, .unset, .unset, .unset, .unset, .unset, .unset, .unset] [])) _
    refine XS.aload X0.here hx rfl (hb hby at_36) rfl rfl ?_
    show Steps p.tables e below (T0.setTop (mkF m 38 #[.val (.long a), .second, .val (.long b), .second, .val (.int ln), .val (.int nn), .val (.ref ba), .unset, .unset, .unset, .unset, .unset, .unset, .unset, .unset, .unset, .unset] [(.ref ba)])) _
    refine XS.iconst X0.here hx rfl (hb hby at_38) ?_
    show Steps p.tables e below (T0.setTop (mkF m 39 #[.val (.long a), .second, .val (.long b), .second, .val (.int ln), .val (.int nn), .val (.ref ba), .unset, .unset, .unset, .unset, .unset, .unset, .unset, .unset, .unset, .unset] [(.int (1 : Int32)), (.ref ba)])) _
    refine XS.lloadN X0.here hx rfl (hb hby at_39) rfl ?_
    show Steps p.tables e below (T0.setTop (mkF m 40 #[.val (.long a), .second, .val (.long b), .second, .val (.int ln), .val (.int nn), .val (.ref ba), .unset, .unset, .unset, .unset, .unset, .unset, .unset, .unset, .unset, .unset] [(.long a), (.int (1 : Int32)), (.ref ba)])) _
    refine XS.iconst X0.here hx rfl (hb hby at_40) ?_
    show Steps p.tables e below (T0.setTop (mkF m 41 #[.val (.long a), .second, .val (.long b), .second, .val (.int ln), .val (.int nn), .val (.ref ba), .unset, .unset, .unset, .unset, .unset, .unset, .unset, .unset, .unset, .unset] [(.int (1 : Int32)), (.long a), (.int (1 : Int32)), (.ref ba)])) _
    refine st1 _ ?_
    show Steps p.tables e below (T1.setTop (mkF m 44 #[.val (.long a), .second, .val (.long b), .second, .val (.int ln), .val (.int nn), .val (.ref ba), .unset, .unset, .unset, .unset, .unset, .unset, .unset, .unset, .unset, .unset] [(.int (own_byteOf a (1 : Int32))), (.int (1 : Int32)), (.ref ba)])) _
    refine st2 _ ?_
    show Steps p.tables e below (T2.setTop (mkF m 45 #[.val (.long a), .second, .val (.long b), .second, .val (.int ln), .val (.int nn), .val (.ref ba), .unset, .unset, .unset, .unset, .unset, .unset, .unset, .unset, .unset, .unset] [])) _
    exact kt
  · have kj : (1 : Int32).toInt = 1 := by decide
    have hjN : ¬ 1 < N := by rw [hN, Int32.lt_iff_toInt_lt, own_ofNat (by omega), kj] at c0; omega
    have em : min N (1 + 1) = min N 1 := by omega
    refine ⟨T0, h0, locs, X0, e0, N0, Keep.refl h0 [ba], own_St.refl, by rw [em]; exact V, fun target kt => ?_⟩
    show Steps p.tables e below (T0.setTop (mkF m 30 #[.val (.long a), .second, .val (.long b), .second, .val (.int ln), .val (.int nn), .val (.ref ba), .unset, .unset, .unset, .unset, .unset, .unset, .unset, .unset, .unset, .unset] [])) _
    refine XS.iload X0.here hx rfl (hb hby at_30) rfl ?_
    show Steps p.tables e below (T0.setTop (mkF m 32 #[.val (.long a), .second, .val (.long b), .second, .val (.int ln), .val (.int nn), .val (.ref ba), .unset, .unset, .unset, .unset, .unset, .unset, .unset, .unset, .unset, .unset] [(.int nn)])) _
    refine XS.iconst X0.here hx rfl (hb hby at_32) ?_
    show Steps p.tables e below (T0.setTop (mkF m 33 #[.val (.long a), .second, .val (.long b), .second, .val (.int ln), .val (.int nn), .val (.ref ba), .unset, .unset, .unset, .unset, .unset, .unset, .unset, .unset, .unset, .unset] [(.int (1 : Int32)), (.int nn)])) _
    refine XS.icmpYes X0.here hx rfl (pc0 := 33) (pc' := 45) rfl (hb hby at_33) rfl (flt c0).2.2.2 (by decide) (by decide) ?_
    show Steps p.tables e below (T0.setTop (mkF m 45 #[.val (.long a), .second, .val (.long b), .second, .val (.int ln), .val (.int nn), .val (.ref ba), .unset, .unset, .unset, .unset, .unset, .unset, .unset, .unset, .unset, .unset] [])) _
    exact kt

set_option maxRecDepth 65536 in
set_option maxHeartbeats 40000000 in
theorem own_put2 {p : Program} {l : Launch} {e : Env} {s : State} {m : MethodId} {args : Array Value} {below : List Frame} {meth : Method} {c : Code} {T0 : State} {locs : List Loc} {Z : State} {a0 : Array Value} {h0 : Heap} {n0 : Nat} (X0 : Stand p l e room_1 s m args below meth c T0 locs 1 10) (hx : p.tables.exec = Jvm.exec) (hZ : Z.Warmed39 s.vm) (hw : ∀ d ∈ tables_1, d.before a0 Z = true) (hby : c.code = code) (hml : c.maxLocals = 17) (hown : s.vm.findClass "com/example/harrier/harrier/warc/Base32EncodePinLaw" = some m.cls) (e0 : T0.heap = h0) (N0 : Fr n0 locs) (Z0 : n0 ≤ h0.size) {ba : Addr} {kB : ClassId} (a b : Int64) (ln nn : Int32) (N : Nat) (hN : nn = Int32.ofNat N) (hN10 : N ≤ 10) (gb : n0 ≤ ba) (V : Arv Z h0 ba kB .byte nn ((own_bytes a b (min N 2)).map Value.int) (.int (0 : Int32))) :
    ∃ (T' : State) (h' : Heap) (locs' : List Loc), Stand p l e room_1 s m args below meth c T' locs' 1 10 ∧ T'.heap = h' ∧ Fr n0 locs' ∧ Keep h0 h' [ba] ∧ own_St Z h0 h' ∧ Arv Z h' ba kB .byte nn ((own_bytes a b (min N (2 + 1))).map Value.int) (.int (0 : Int32)) ∧
      ∀ target, Steps p.tables e below (T'.setTop (mkF m 60 #[.val (.long a), .second, .val (.long b), .second, .val (.int ln), .val (.int nn), .val (.ref ba), .unset, .unset, .unset, .unset, .unset, .unset, .unset, .unset, .unset, .unset] [])) target → Steps p.tables e below (T0.setTop (mkF m 45 #[.val (.long a), .second, .val (.long b), .second, .val (.int ln), .val (.int nn), .val (.ref ba), .unset, .unset, .unset, .unset, .unset, .unset, .unset, .unset, .unset, .unset] [])) target := by
  rcases Classical.em ((2 : Int32) < nn) with c0 | c0
  · have kj : (2 : Int32).toInt = 2 := by decide
    have hjN : 2 < N := by rw [hN, Int32.lt_iff_toInt_lt, own_ofNat (by omega), kj] at c0; omega
    have em : min N 2 = 2 := by omega
    have em2 : min N (2 + 1) = 2 + 1 := by omega
    rw [em] at V
    have V0 := V
    obtain ⟨ca, Av, qv, Sv, Nv, Hv, Gv⟩ := V
    have hin := inb_of (j := (2 : Int32)) Sv ⟨by decide, c0⟩
    obtain ⟨_, _, ⟨T1, L1, k1, n1⟩, -, X1, ⟨Lc1, hQ1, l1, y1, z1⟩, st1⟩ := Jvm.LawKit.callS X0 hx (y := (⟨"com/example/harrier/harrier/warc/Base32EncodePinLaw", "byteOf", "(JI)B"⟩ : MethodName)) hown (mvT hZ (hw _ (List.mem_of_getElem? (i := 109) rfl))) (mvT hZ (hw _ (List.mem_of_getElem? (i := 110) rfl))) (mvT hZ (hw _ (List.mem_of_getElem? (i := 103) rfl))) (mvT hZ (hw _ (List.mem_of_getElem? (i := 111) rfl))) (by decide) (backOf (W := 2) (rmBy l Z a0 hw [] a (2 : Int32) h0 n0 Z0) hZ (hw _ (List.mem_of_getElem? (i := 111) rfl)) (hw _ (List.mem_of_getElem? (i := 103) rfl)) (by decide) (by decide)) (g := (mkF m 56 #[.val (.long a), .second, .val (.long b), .second, .val (.int ln), .val (.int nn), .val (.ref ba), .unset, .unset, .unset, .unset, .unset, .unset, .unset, .unset, .unset, .unset] [(.int (2 : Int32)), (.long a), (.int (2 : Int32)), (.ref ba)])) rfl (by rw [hml]; rfl) (argsL := [(.long a), (.int (2 : Int32))]) (rest := [(.int (2 : Int32)), (.ref ba)]) (lenOf pd_at__JI_B rfl) rfl (by show 2 * 0 + _ ≤ _; exact Nat.le_of_eq rfl) (hb hby at_56) (fun _ _ => ⟨rfl, e0, (by decide : 1 + 0 ≤ _), (by decide : 10 + 0 ≤ _)⟩)
    dsimp only [Pt.U, Pt.locs, Pt.cells, Pt.slots] at X1 l1 y1 z1 st1 hQ1
    subst l1 y1 z1
    obtain ⟨rfl, N1q, e1⟩ := hQ1
    have N1 := Fr.app N0 N1q
    obtain ⟨T2, h2, X2, e2, W2, st2⟩ := stB X1 hx hZ e1 Av (j := (2 : Int32)) hin (g := (mkF m 59 #[.val (.long a), .second, .val (.long b), .second, .val (.int ln), .val (.int nn), .val (.ref ba), .unset, .unset, .unset, .unset, .unset, .unset, .unset, .unset, .unset, .unset] [(.int (own_byteOf a (2 : Int32))), (.int (2 : Int32)), (.ref ba)])) rfl rfl (hb hby at_59)
    have V1 := own_snoc2 (xs := own_bytes a b 2) (x := own_byteOf a (2 : Int32)) (jx := (2 : Int32)) V0 (by rw [own_blen]; decide) (own_nb _) W2
    have M1 := Fr.snoc X2 N1 gb
    refine ⟨T2, h2, _, X2, e2, M1, (Keep.refl h0 [ba]).wr W2 (Or.inl (List.mem_of_getElem? (i := 0) rfl)), own_st_wr W2, by rw [em2]; exact V1, fun target kt => ?_⟩
    show Steps p.tables e below (T0.setTop (mkF m 45 #[.val (.long a), .second, .val (.long b), .second, .val (.int ln), .val (.int nn), .val (.ref ba), .unset, .unset, .unset, .unset, .unset, .unset, .unset, .unset, .unset, .unset] [])) _
    refine XS.iload X0.here hx rfl (hb hby at_45) rfl ?_
    show Steps p.tables e below (T0.setTop (mkF m 47 #[.val (.long a), .second, .val (.long b), .second, .val (.int ln), .val (.int nn), .val (.ref ba), .unset, .unset, .unset, .unset, .unset, .unset, .unset, .unset, .unset, .unset] [(.int nn)])) _
    refine XS.iconst X0.here hx rfl (hb hby at_47) ?_
    show Steps p.tables e below (T0.setTop (mkF m 48 #[.val (.long a), .second, .val (.long b), .second, .val (.int ln), .val (.int nn), .val (.ref ba), .unset, .unset, .unset, .unset, .unset, .unset, .unset, .unset, .unset, .unset] [(.int (2 : Int32)), (.int nn)])) _
    refine XS.icmpNo X0.here hx rfl (hb hby at_48) rfl (tlt c0).2.2.2 ?_
    show Steps p.tables e below (T0.setTop (mkF m 51 #[.val (.long a), .second, .val (.long b), .second, .val (.int ln), .val (.int nn), .val (.ref ba), .unset, .unset, .unset, .unset, .unset, .unset, .unset, .unset, .unset, .unset] [])) _
    refine XS.aload X0.here hx rfl (hb hby at_51) rfl rfl ?_
    show Steps p.tables e below (T0.setTop (mkF m 53 #[.val (.long a), .second, .val (.long b), .second, .val (.int ln), .val (.int nn), .val (.ref ba), .unset, .unset, .unset, .unset, .unset, .unset, .unset, .unset, .unset, .unset] [(.ref ba)])) _
    refine XS.iconst X0.here hx rfl (hb hby at_53) ?_
    show Steps p.tables e below (T0.setTop (mkF m 54 #[.val (.long a), .second, .val (.long b), .second, .val (.int ln), .val (.int nn), .val (.ref ba), .unset, .unset, .unset, .unset, .unset, .unset, .unset, .unset, .unset, .unset] [(.int (2 : Int32)), (.ref ba)])) _
    refine XS.lloadN X0.here hx rfl (hb hby at_54) rfl ?_
    show Steps p.tables e below (T0.setTop (mkF m 55 #[.val (.long a), .second, .val (.long b), .second, .val (.int ln), .val (.int nn), .val (.ref ba), .unset, .unset, .unset, .unset, .unset, .unset, .unset, .unset, .unset, .unset] [(.long a), (.int (2 : Int32)), (.ref ba)])) _
    refine XS.iconst X0.here hx rfl (hb hby at_55) ?_
    show Steps p.tables e below (T0.setTop (mkF m 56 #[.val (.long a), .second, .val (.long b), .second, .val (.int ln), .val (.int nn), .val (.ref ba), .unset, .unset, .unset, .unset, .unset, .unset, .unset, .unset, .unset, .unset] [(.int (2 : Int32)), (.long a), (.int (2 : Int32)), (.ref ba)])) _
    refine st1 _ ?_
    show Steps p.tables e below (T1.setTop (mkF m 59 #[.val (.long a), .second, .val (.long b), .second, .val (.int ln), .val (.int nn), .val (.ref ba), .unset, .unset, .unset, .unset, .unset, .unset, .unset, .unset, .unset, .unset] [(.int (own_byteOf a (2 : Int32))), (.int (2 : Int32)), (.ref ba)])) _
    refine st2 _ ?_
    show Steps p.tables e below (T2.setTop (mkF m 60 #[.val (.long a), .second, .val (.long b), .second, .val (.int ln), .val (.int nn), .val (.ref ba), .unset, .unset, .unset, .unset, .unset, .unset, .unset, .unset, .unset, .unset] [])) _
    exact kt
  · have kj : (2 : Int32).toInt = 2 := by decide
    have hjN : ¬ 2 < N := by rw [hN, Int32.lt_iff_toInt_lt, own_ofNat (by omega), kj] at c0; omega
    have em : min N (2 + 1) = min N 2 := by omega
    refine ⟨T0, h0, locs, X0, e0, N0, Keep.refl h0 [ba], own_St.refl, by rw [em]; exact V, fun target kt => ?_⟩
    show Steps p.tables e below (T0.setTop (mkF m 45 #[.val (.long a), .second, .val (.long b), .second, .val (.int ln), .val (.int nn), .val (.ref ba), .unset, .unset, .unset, .unset, .unset, .unset, .unset, .unset, .unset, .unset] [])) _
    refine XS.iload X0.here hx rfl (hb hby at_45) rfl ?_
    show Steps p.tables e below (T0.setTop (mkF m 47 #[.val (.long a), .second, .val (.long b), .second, .val (.int ln), .val (.int nn), .val (.ref ba), .unset, .unset, .unset, .unset, .unset, .unset, .unset, .unset, .unset, .unset] [(.int nn)])) _
    refine XS.iconst X0.here hx rfl (hb hby at_47) ?_
    show Steps p.tables e below (T0.setTop (mkF m 48 #[.val (.long a), .second, .val (.long b), .second, .val (.int ln), .val (.int nn), .val (.ref ba), .unset, .unset, .unset, .unset, .unset, .unset, .unset, .unset, .unset, .unset] [(.int (2 : Int32)), (.int nn)])) _
    refine XS.icmpYes X0.here hx rfl (pc0 := 48) (pc' := 60) rfl (hb hby at_48) rfl (flt c0).2.2.2 (by decide) (by decide) ?_
    show Steps p.tables e below (T0.setTop (mkF m 60 #[.val (.long a), .second, .val (.long b), .second, .val (.int ln), .val (.int nn), .val (.ref ba), .unset, .unset, .unset, .unset, .unset, .unset, .unset, .unset, .unset, .unset] [])) _
    exact kt

set_option maxRecDepth 65536 in
set_option maxHeartbeats 40000000 in
theorem own_put3 {p : Program} {l : Launch} {e : Env} {s : State} {m : MethodId} {args : Array Value} {below : List Frame} {meth : Method} {c : Code} {T0 : State} {locs : List Loc} {Z : State} {a0 : Array Value} {h0 : Heap} {n0 : Nat} (X0 : Stand p l e room_1 s m args below meth c T0 locs 1 10) (hx : p.tables.exec = Jvm.exec) (hZ : Z.Warmed39 s.vm) (hw : ∀ d ∈ tables_1, d.before a0 Z = true) (hby : c.code = code) (hml : c.maxLocals = 17) (hown : s.vm.findClass "com/example/harrier/harrier/warc/Base32EncodePinLaw" = some m.cls) (e0 : T0.heap = h0) (N0 : Fr n0 locs) (Z0 : n0 ≤ h0.size) {ba : Addr} {kB : ClassId} (a b : Int64) (ln nn : Int32) (N : Nat) (hN : nn = Int32.ofNat N) (hN10 : N ≤ 10) (gb : n0 ≤ ba) (V : Arv Z h0 ba kB .byte nn ((own_bytes a b (min N 3)).map Value.int) (.int (0 : Int32))) :
    ∃ (T' : State) (h' : Heap) (locs' : List Loc), Stand p l e room_1 s m args below meth c T' locs' 1 10 ∧ T'.heap = h' ∧ Fr n0 locs' ∧ Keep h0 h' [ba] ∧ own_St Z h0 h' ∧ Arv Z h' ba kB .byte nn ((own_bytes a b (min N (3 + 1))).map Value.int) (.int (0 : Int32)) ∧
      ∀ target, Steps p.tables e below (T'.setTop (mkF m 75 #[.val (.long a), .second, .val (.long b), .second, .val (.int ln), .val (.int nn), .val (.ref ba), .unset, .unset, .unset, .unset, .unset, .unset, .unset, .unset, .unset, .unset] [])) target → Steps p.tables e below (T0.setTop (mkF m 60 #[.val (.long a), .second, .val (.long b), .second, .val (.int ln), .val (.int nn), .val (.ref ba), .unset, .unset, .unset, .unset, .unset, .unset, .unset, .unset, .unset, .unset] [])) target := by
  rcases Classical.em ((3 : Int32) < nn) with c0 | c0
  · have kj : (3 : Int32).toInt = 3 := by decide
    have hjN : 3 < N := by rw [hN, Int32.lt_iff_toInt_lt, own_ofNat (by omega), kj] at c0; omega
    have em : min N 3 = 3 := by omega
    have em2 : min N (3 + 1) = 3 + 1 := by omega
    rw [em] at V
    have V0 := V
    obtain ⟨ca, Av, qv, Sv, Nv, Hv, Gv⟩ := V
    have hin := inb_of (j := (3 : Int32)) Sv ⟨by decide, c0⟩
    obtain ⟨_, _, ⟨T1, L1, k1, n1⟩, -, X1, ⟨Lc1, hQ1, l1, y1, z1⟩, st1⟩ := Jvm.LawKit.callS X0 hx (y := (⟨"com/example/harrier/harrier/warc/Base32EncodePinLaw", "byteOf", "(JI)B"⟩ : MethodName)) hown (mvT hZ (hw _ (List.mem_of_getElem? (i := 109) rfl))) (mvT hZ (hw _ (List.mem_of_getElem? (i := 110) rfl))) (mvT hZ (hw _ (List.mem_of_getElem? (i := 103) rfl))) (mvT hZ (hw _ (List.mem_of_getElem? (i := 111) rfl))) (by decide) (backOf (W := 2) (rmBy l Z a0 hw [] a (3 : Int32) h0 n0 Z0) hZ (hw _ (List.mem_of_getElem? (i := 111) rfl)) (hw _ (List.mem_of_getElem? (i := 103) rfl)) (by decide) (by decide)) (g := (mkF m 71 #[.val (.long a), .second, .val (.long b), .second, .val (.int ln), .val (.int nn), .val (.ref ba), .unset, .unset, .unset, .unset, .unset, .unset, .unset, .unset, .unset, .unset] [(.int (3 : Int32)), (.long a), (.int (3 : Int32)), (.ref ba)])) rfl (by rw [hml]; rfl) (argsL := [(.long a), (.int (3 : Int32))]) (rest := [(.int (3 : Int32)), (.ref ba)]) (lenOf pd_at__JI_B rfl) rfl (by show 2 * 0 + _ ≤ _; exact Nat.le_of_eq rfl) (hb hby at_71) (fun _ _ => ⟨rfl, e0, (by decide : 1 + 0 ≤ _), (by decide : 10 + 0 ≤ _)⟩)
    dsimp only [Pt.U, Pt.locs, Pt.cells, Pt.slots] at X1 l1 y1 z1 st1 hQ1
    subst l1 y1 z1
    obtain ⟨rfl, N1q, e1⟩ := hQ1
    have N1 := Fr.app N0 N1q
    obtain ⟨T2, h2, X2, e2, W2, st2⟩ := stB X1 hx hZ e1 Av (j := (3 : Int32)) hin (g := (mkF m 74 #[.val (.long a), .second, .val (.long b), .second, .val (.int ln), .val (.int nn), .val (.ref ba), .unset, .unset, .unset, .unset, .unset, .unset, .unset, .unset, .unset, .unset] [(.int (own_byteOf a (3 : Int32))), (.int (3 : Int32)), (.ref ba)])) rfl rfl (hb hby at_74)
    have V1 := own_snoc2 (xs := own_bytes a b 3) (x := own_byteOf a (3 : Int32)) (jx := (3 : Int32)) V0 (by rw [own_blen]; decide) (own_nb _) W2
    have M1 := Fr.snoc X2 N1 gb
    refine ⟨T2, h2, _, X2, e2, M1, (Keep.refl h0 [ba]).wr W2 (Or.inl (List.mem_of_getElem? (i := 0) rfl)), own_st_wr W2, by rw [em2]; exact V1, fun target kt => ?_⟩
    show Steps p.tables e below (T0.setTop (mkF m 60 #[.val (.long a), .second, .val (.long b), .second, .val (.int ln), .val (.int nn), .val (.ref ba), .unset, .unset, .unset, .unset, .unset, .unset, .unset, .unset, .unset, .unset] [])) _
    refine XS.iload X0.here hx rfl (hb hby at_60) rfl ?_
    show Steps p.tables e below (T0.setTop (mkF m 62 #[.val (.long a), .second, .val (.long b), .second, .val (.int ln), .val (.int nn), .val (.ref ba), .unset, .unset, .unset, .unset, .unset, .unset, .unset, .unset, .unset, .unset] [(.int nn)])) _
    refine XS.iconst X0.here hx rfl (hb hby at_62) ?_
    show Steps p.tables e below (T0.setTop (mkF m 63 #[.val (.long a), .second, .val (.long b), .second, .val (.int ln), .val (.int nn), .val (.ref ba), .unset, .unset, .unset, .unset, .unset, .unset, .unset, .unset, .unset, .unset] [(.int (3 : Int32)), (.int nn)])) _
    refine XS.icmpNo X0.here hx rfl (hb hby at_63) rfl (tlt c0).2.2.2 ?_
    show Steps p.tables e below (T0.setTop (mkF m 66 #[.val (.long a), .second, .val (.long b), .second, .val (.int ln), .val (.int nn), .val (.ref ba), .unset, .unset, .unset, .unset, .unset, .unset, .unset, .unset, .unset, .unset] [])) _
    refine XS.aload X0.here hx rfl (hb hby at_66) rfl rfl ?_
    show Steps p.tables e below (T0.setTop (mkF m 68 #[.val (.long a), .second, .val (.long b), .second, .val (.int ln), .val (.int nn), .val (.ref ba), .unset, .unset, .unset, .unset, .unset, .unset, .unset, .unset, .unset, .unset] [(.ref ba)])) _
    refine XS.iconst X0.here hx rfl (hb hby at_68) ?_
    show Steps p.tables e below (T0.setTop (mkF m 69 #[.val (.long a), .second, .val (.long b), .second, .val (.int ln), .val (.int nn), .val (.ref ba), .unset, .unset, .unset, .unset, .unset, .unset, .unset, .unset, .unset, .unset] [(.int (3 : Int32)), (.ref ba)])) _
    refine XS.lloadN X0.here hx rfl (hb hby at_69) rfl ?_
    show Steps p.tables e below (T0.setTop (mkF m 70 #[.val (.long a), .second, .val (.long b), .second, .val (.int ln), .val (.int nn), .val (.ref ba), .unset, .unset, .unset, .unset, .unset, .unset, .unset, .unset, .unset, .unset] [(.long a), (.int (3 : Int32)), (.ref ba)])) _
    refine XS.iconst X0.here hx rfl (hb hby at_70) ?_
    show Steps p.tables e below (T0.setTop (mkF m 71 #[.val (.long a), .second, .val (.long b), .second, .val (.int ln), .val (.int nn), .val (.ref ba), .unset, .unset, .unset, .unset, .unset, .unset, .unset, .unset, .unset, .unset] [(.int (3 : Int32)), (.long a), (.int (3 : Int32)), (.ref ba)])) _
    refine st1 _ ?_
    show Steps p.tables e below (T1.setTop (mkF m 74 #[.val (.long a), .second, .val (.long b), .second, .val (.int ln), .val (.int nn), .val (.ref ba), .unset, .unset, .unset, .unset, .unset, .unset, .unset, .unset, .unset, .unset] [(.int (own_byteOf a (3 : Int32))), (.int (3 : Int32)), (.ref ba)])) _
    refine st2 _ ?_
    show Steps p.tables e below (T2.setTop (mkF m 75 #[.val (.long a), .second, .val (.long b), .second, .val (.int ln), .val (.int nn), .val (.ref ba), .unset, .unset, .unset, .unset, .unset, .unset, .unset, .unset, .unset, .unset] [])) _
    exact kt
  · have kj : (3 : Int32).toInt = 3 := by decide
    have hjN : ¬ 3 < N := by rw [hN, Int32.lt_iff_toInt_lt, own_ofNat (by omega), kj] at c0; omega
    have em : min N (3 + 1) = min N 3 := by omega
    refine ⟨T0, h0, locs, X0, e0, N0, Keep.refl h0 [ba], own_St.refl, by rw [em]; exact V, fun target kt => ?_⟩
    show Steps p.tables e below (T0.setTop (mkF m 60 #[.val (.long a), .second, .val (.long b), .second, .val (.int ln), .val (.int nn), .val (.ref ba), .unset, .unset, .unset, .unset, .unset, .unset, .unset, .unset, .unset, .unset] [])) _
    refine XS.iload X0.here hx rfl (hb hby at_60) rfl ?_
    show Steps p.tables e below (T0.setTop (mkF m 62 #[.val (.long a), .second, .val (.long b), .second, .val (.int ln), .val (.int nn), .val (.ref ba), .unset, .unset, .unset, .unset, .unset, .unset, .unset, .unset, .unset, .unset] [(.int nn)])) _
    refine XS.iconst X0.here hx rfl (hb hby at_62) ?_
    show Steps p.tables e below (T0.setTop (mkF m 63 #[.val (.long a), .second, .val (.long b), .second, .val (.int ln), .val (.int nn), .val (.ref ba), .unset, .unset, .unset, .unset, .unset, .unset, .unset, .unset, .unset, .unset] [(.int (3 : Int32)), (.int nn)])) _
    refine XS.icmpYes X0.here hx rfl (pc0 := 63) (pc' := 75) rfl (hb hby at_63) rfl (flt c0).2.2.2 (by decide) (by decide) ?_
    show Steps p.tables e below (T0.setTop (mkF m 75 #[.val (.long a), .second, .val (.long b), .second, .val (.int ln), .val (.int nn), .val (.ref ba), .unset, .unset, .unset, .unset, .unset, .unset, .unset, .unset, .unset, .unset] [])) _
    exact kt

set_option maxRecDepth 65536 in
set_option maxHeartbeats 40000000 in
theorem own_put4 {p : Program} {l : Launch} {e : Env} {s : State} {m : MethodId} {args : Array Value} {below : List Frame} {meth : Method} {c : Code} {T0 : State} {locs : List Loc} {Z : State} {a0 : Array Value} {h0 : Heap} {n0 : Nat} (X0 : Stand p l e room_1 s m args below meth c T0 locs 1 10) (hx : p.tables.exec = Jvm.exec) (hZ : Z.Warmed39 s.vm) (hw : ∀ d ∈ tables_1, d.before a0 Z = true) (hby : c.code = code) (hml : c.maxLocals = 17) (hown : s.vm.findClass "com/example/harrier/harrier/warc/Base32EncodePinLaw" = some m.cls) (e0 : T0.heap = h0) (N0 : Fr n0 locs) (Z0 : n0 ≤ h0.size) {ba : Addr} {kB : ClassId} (a b : Int64) (ln nn : Int32) (N : Nat) (hN : nn = Int32.ofNat N) (hN10 : N ≤ 10) (gb : n0 ≤ ba) (V : Arv Z h0 ba kB .byte nn ((own_bytes a b (min N 4)).map Value.int) (.int (0 : Int32))) :
    ∃ (T' : State) (h' : Heap) (locs' : List Loc), Stand p l e room_1 s m args below meth c T' locs' 1 10 ∧ T'.heap = h' ∧ Fr n0 locs' ∧ Keep h0 h' [ba] ∧ own_St Z h0 h' ∧ Arv Z h' ba kB .byte nn ((own_bytes a b (min N (4 + 1))).map Value.int) (.int (0 : Int32)) ∧
      ∀ target, Steps p.tables e below (T'.setTop (mkF m 90 #[.val (.long a), .second, .val (.long b), .second, .val (.int ln), .val (.int nn), .val (.ref ba), .unset, .unset, .unset, .unset, .unset, .unset, .unset, .unset, .unset, .unset] [])) target → Steps p.tables e below (T0.setTop (mkF m 75 #[.val (.long a), .second, .val (.long b), .second, .val (.int ln), .val (.int nn), .val (.ref ba), .unset, .unset, .unset, .unset, .unset, .unset, .unset, .unset, .unset, .unset] [])) target := by
  rcases Classical.em ((4 : Int32) < nn) with c0 | c0
  · have kj : (4 : Int32).toInt = 4 := by decide
    have hjN : 4 < N := by rw [hN, Int32.lt_iff_toInt_lt, own_ofNat (by omega), kj] at c0; omega
    have em : min N 4 = 4 := by omega
    have em2 : min N (4 + 1) = 4 + 1 := by omega
    rw [em] at V
    have V0 := V
    obtain ⟨ca, Av, qv, Sv, Nv, Hv, Gv⟩ := V
    have hin := inb_of (j := (4 : Int32)) Sv ⟨by decide, c0⟩
    obtain ⟨_, _, ⟨T1, L1, k1, n1⟩, -, X1, ⟨Lc1, hQ1, l1, y1, z1⟩, st1⟩ := Jvm.LawKit.callS X0 hx (y := (⟨"com/example/harrier/harrier/warc/Base32EncodePinLaw", "byteOf", "(JI)B"⟩ : MethodName)) hown (mvT hZ (hw _ (List.mem_of_getElem? (i := 109) rfl))) (mvT hZ (hw _ (List.mem_of_getElem? (i := 110) rfl))) (mvT hZ (hw _ (List.mem_of_getElem? (i := 103) rfl))) (mvT hZ (hw _ (List.mem_of_getElem? (i := 111) rfl))) (by decide) (backOf (W := 2) (rmBy l Z a0 hw [] a (4 : Int32) h0 n0 Z0) hZ (hw _ (List.mem_of_getElem? (i := 111) rfl)) (hw _ (List.mem_of_getElem? (i := 103) rfl)) (by decide) (by decide)) (g := (mkF m 86 #[.val (.long a), .second, .val (.long b), .second, .val (.int ln), .val (.int nn), .val (.ref ba), .unset, .unset, .unset, .unset, .unset, .unset, .unset, .unset, .unset, .unset] [(.int (4 : Int32)), (.long a), (.int (4 : Int32)), (.ref ba)])) rfl (by rw [hml]; rfl) (argsL := [(.long a), (.int (4 : Int32))]) (rest := [(.int (4 : Int32)), (.ref ba)]) (lenOf pd_at__JI_B rfl) rfl (by show 2 * 0 + _ ≤ _; exact Nat.le_of_eq rfl) (hb hby at_86) (fun _ _ => ⟨rfl, e0, (by decide : 1 + 0 ≤ _), (by decide : 10 + 0 ≤ _)⟩)
    dsimp only [Pt.U, Pt.locs, Pt.cells, Pt.slots] at X1 l1 y1 z1 st1 hQ1
    subst l1 y1 z1
    obtain ⟨rfl, N1q, e1⟩ := hQ1
    have N1 := Fr.app N0 N1q
    obtain ⟨T2, h2, X2, e2, W2, st2⟩ := stB X1 hx hZ e1 Av (j := (4 : Int32)) hin (g := (mkF m 89 #[.val (.long a), .second, .val (.long b), .second, .val (.int ln), .val (.int nn), .val (.ref ba), .unset, .unset, .unset, .unset, .unset, .unset, .unset, .unset, .unset, .unset] [(.int (own_byteOf a (4 : Int32))), (.int (4 : Int32)), (.ref ba)])) rfl rfl (hb hby at_89)
    have V1 := own_snoc2 (xs := own_bytes a b 4) (x := own_byteOf a (4 : Int32)) (jx := (4 : Int32)) V0 (by rw [own_blen]; decide) (own_nb _) W2
    have M1 := Fr.snoc X2 N1 gb
    refine ⟨T2, h2, _, X2, e2, M1, (Keep.refl h0 [ba]).wr W2 (Or.inl (List.mem_of_getElem? (i := 0) rfl)), own_st_wr W2, by rw [em2]; exact V1, fun target kt => ?_⟩
    show Steps p.tables e below (T0.setTop (mkF m 75 #[.val (.long a), .second, .val (.long b), .second, .val (.int ln), .val (.int nn), .val (.ref ba), .unset, .unset, .unset, .unset, .unset, .unset, .unset, .unset, .unset, .unset] [])) _
    refine XS.iload X0.here hx rfl (hb hby at_75) rfl ?_
    show Steps p.tables e below (T0.setTop (mkF m 77 #[.val (.long a), .second, .val (.long b), .second, .val (.int ln), .val (.int nn), .val (.ref ba), .unset, .unset, .unset, .unset, .unset, .unset, .unset, .unset, .unset, .unset] [(.int nn)])) _
    refine XS.iconst X0.here hx rfl (hb hby at_77) ?_
    show Steps p.tables e below (T0.setTop (mkF m 78 #[.val (.long a), .second, .val (.long b), .second, .val (.int ln), .val (.int nn), .val (.ref ba), .unset, .unset, .unset, .unset, .unset, .unset, .unset, .unset, .unset, .unset] [(.int (4 : Int32)), (.int nn)])) _
    refine XS.icmpNo X0.here hx rfl (hb hby at_78) rfl (tlt c0).2.2.2 ?_
    show Steps p.tables e below (T0.setTop (mkF m 81 #[.val (.long a), .second, .val (.long b), .second, .val (.int ln), .val (.int nn), .val (.ref ba), .unset, .unset, .unset, .unset, .unset, .unset, .unset, .unset, .unset, .unset] [])) _
    refine XS.aload X0.here hx rfl (hb hby at_81) rfl rfl ?_
    show Steps p.tables e below (T0.setTop (mkF m 83 #[.val (.long a), .second, .val (.long b), .second, .val (.int ln), .val (.int nn), .val (.ref ba), .unset, .unset, .unset, .unset, .unset, .unset, .unset, .unset, .unset, .unset] [(.ref ba)])) _
    refine XS.iconst X0.here hx rfl (hb hby at_83) ?_
    show Steps p.tables e below (T0.setTop (mkF m 84 #[.val (.long a), .second, .val (.long b), .second, .val (.int ln), .val (.int nn), .val (.ref ba), .unset, .unset, .unset, .unset, .unset, .unset, .unset, .unset, .unset, .unset] [(.int (4 : Int32)), (.ref ba)])) _
    refine XS.lloadN X0.here hx rfl (hb hby at_84) rfl ?_
    show Steps p.tables e below (T0.setTop (mkF m 85 #[.val (.long a), .second, .val (.long b), .second, .val (.int ln), .val (.int nn), .val (.ref ba), .unset, .unset, .unset, .unset, .unset, .unset, .unset, .unset, .unset, .unset] [(.long a), (.int (4 : Int32)), (.ref ba)])) _
    refine XS.iconst X0.here hx rfl (hb hby at_85) ?_
    show Steps p.tables e below (T0.setTop (mkF m 86 #[.val (.long a), .second, .val (.long b), .second, .val (.int ln), .val (.int nn), .val (.ref ba), .unset, .unset, .unset, .unset, .unset, .unset, .unset, .unset, .unset, .unset] [(.int (4 : Int32)), (.long a), (.int (4 : Int32)), (.ref ba)])) _
    refine st1 _ ?_
    show Steps p.tables e below (T1.setTop (mkF m 89 #[.val (.long a), .second, .val (.long b), .second, .val (.int ln), .val (.int nn), .val (.ref ba), .unset, .unset, .unset, .unset, .unset, .unset, .unset, .unset, .unset, .unset] [(.int (own_byteOf a (4 : Int32))), (.int (4 : Int32)), (.ref ba)])) _
    refine st2 _ ?_
    show Steps p.tables e below (T2.setTop (mkF m 90 #[.val (.long a), .second, .val (.long b), .second, .val (.int ln), .val (.int nn), .val (.ref ba), .unset, .unset, .unset, .unset, .unset, .unset, .unset, .unset, .unset, .unset] [])) _
    exact kt
  · have kj : (4 : Int32).toInt = 4 := by decide
    have hjN : ¬ 4 < N := by rw [hN, Int32.lt_iff_toInt_lt, own_ofNat (by omega), kj] at c0; omega
    have em : min N (4 + 1) = min N 4 := by omega
    refine ⟨T0, h0, locs, X0, e0, N0, Keep.refl h0 [ba], own_St.refl, by rw [em]; exact V, fun target kt => ?_⟩
    show Steps p.tables e below (T0.setTop (mkF m 75 #[.val (.long a), .second, .val (.long b), .second, .val (.int ln), .val (.int nn), .val (.ref ba), .unset, .unset, .unset, .unset, .unset, .unset, .unset, .unset, .unset, .unset] [])) _
    refine XS.iload X0.here hx rfl (hb hby at_75) rfl ?_
    show Steps p.tables e below (T0.setTop (mkF m 77 #[.val (.long a), .second, .val (.long b), .second, .val (.int ln), .val (.int nn), .val (.ref ba), .unset, .unset, .unset, .unset, .unset, .unset, .unset, .unset, .unset, .unset] [(.int nn)])) _
    refine XS.iconst X0.here hx rfl (hb hby at_77) ?_
    show Steps p.tables e below (T0.setTop (mkF m 78 #[.val (.long a), .second, .val (.long b), .second, .val (.int ln), .val (.int nn), .val (.ref ba), .unset, .unset, .unset, .unset, .unset, .unset, .unset, .unset, .unset, .unset] [(.int (4 : Int32)), (.int nn)])) _
    refine XS.icmpYes X0.here hx rfl (pc0 := 78) (pc' := 90) rfl (hb hby at_78) rfl (flt c0).2.2.2 (by decide) (by decide) ?_
    show Steps p.tables e below (T0.setTop (mkF m 90 #[.val (.long a), .second, .val (.long b), .second, .val (.int ln), .val (.int nn), .val (.ref ba), .unset, .unset, .unset, .unset, .unset, .unset, .unset, .unset, .unset, .unset] [])) _
    exact kt

set_option maxRecDepth 65536 in
set_option maxHeartbeats 40000000 in
theorem own_put5 {p : Program} {l : Launch} {e : Env} {s : State} {m : MethodId} {args : Array Value} {below : List Frame} {meth : Method} {c : Code} {T0 : State} {locs : List Loc} {Z : State} {a0 : Array Value} {h0 : Heap} {n0 : Nat} (X0 : Stand p l e room_1 s m args below meth c T0 locs 1 10) (hx : p.tables.exec = Jvm.exec) (hZ : Z.Warmed39 s.vm) (hw : ∀ d ∈ tables_1, d.before a0 Z = true) (hby : c.code = code) (hml : c.maxLocals = 17) (hown : s.vm.findClass "com/example/harrier/harrier/warc/Base32EncodePinLaw" = some m.cls) (e0 : T0.heap = h0) (N0 : Fr n0 locs) (Z0 : n0 ≤ h0.size) {ba : Addr} {kB : ClassId} (a b : Int64) (ln nn : Int32) (N : Nat) (hN : nn = Int32.ofNat N) (hN10 : N ≤ 10) (gb : n0 ≤ ba) (V : Arv Z h0 ba kB .byte nn ((own_bytes a b (min N 5)).map Value.int) (.int (0 : Int32))) :
    ∃ (T' : State) (h' : Heap) (locs' : List Loc), Stand p l e room_1 s m args below meth c T' locs' 1 10 ∧ T'.heap = h' ∧ Fr n0 locs' ∧ Keep h0 h' [ba] ∧ own_St Z h0 h' ∧ Arv Z h' ba kB .byte nn ((own_bytes a b (min N (5 + 1))).map Value.int) (.int (0 : Int32)) ∧
      ∀ target, Steps p.tables e below (T'.setTop (mkF m 105 #[.val (.long a), .second, .val (.long b), .second, .val (.int ln), .val (.int nn), .val (.ref ba), .unset, .unset, .unset, .unset, .unset, .unset, .unset, .unset, .unset, .unset] [])) target → Steps p.tables e below (T0.setTop (mkF m 90 #[.val (.long a), .second, .val (.long b), .second, .val (.int ln), .val (.int nn), .val (.ref ba), .unset, .unset, .unset, .unset, .unset, .unset, .unset, .unset, .unset, .unset] [])) target := by
  rcases Classical.em ((5 : Int32) < nn) with c0 | c0
  · have kj : (5 : Int32).toInt = 5 := by decide
    have hjN : 5 < N := by rw [hN, Int32.lt_iff_toInt_lt, own_ofNat (by omega), kj] at c0; omega
    have em : min N 5 = 5 := by omega
    have em2 : min N (5 + 1) = 5 + 1 := by omega
    rw [em] at V
    have V0 := V
    obtain ⟨ca, Av, qv, Sv, Nv, Hv, Gv⟩ := V
    have hin := inb_of (j := (5 : Int32)) Sv ⟨by decide, c0⟩
    obtain ⟨_, _, ⟨T1, L1, k1, n1⟩, -, X1, ⟨Lc1, hQ1, l1, y1, z1⟩, st1⟩ := Jvm.LawKit.callS X0 hx (y := (⟨"com/example/harrier/harrier/warc/Base32EncodePinLaw", "byteOf", "(JI)B"⟩ : MethodName)) hown (mvT hZ (hw _ (List.mem_of_getElem? (i := 109) rfl))) (mvT hZ (hw _ (List.mem_of_getElem? (i := 110) rfl))) (mvT hZ (hw _ (List.mem_of_getElem? (i := 103) rfl))) (mvT hZ (hw _ (List.mem_of_getElem? (i := 111) rfl))) (by decide) (backOf (W := 2) (rmBy l Z a0 hw [] b (0 : Int32) h0 n0 Z0) hZ (hw _ (List.mem_of_getElem? (i := 111) rfl)) (hw _ (List.mem_of_getElem? (i := 103) rfl)) (by decide) (by decide)) (g := (mkF m 101 #[.val (.long a), .second, .val (.long b), .second, .val (.int ln), .val (.int nn), .val (.ref ba), .unset, .unset, .unset, .unset, .unset, .unset, .unset, .unset, .unset, .unset] [(.int (0 : Int32)), (.long b), (.int (5 : Int32)), (.ref ba)])) rfl (by rw [hml]; rfl) (argsL := [(.long b), (.int (0 : Int32))]) (rest := [(.int (5 : Int32)), (.ref ba)]) (lenOf pd_at__JI_B rfl) rfl (by show 2 * 0 + _ ≤ _; exact Nat.le_of_eq rfl) (hb hby at_101) (fun _ _ => ⟨rfl, e0, (by decide : 1 + 0 ≤ _), (by decide : 10 + 0 ≤ _)⟩)
    dsimp only [Pt.U, Pt.locs, Pt.cells, Pt.slots] at X1 l1 y1 z1 st1 hQ1
    subst l1 y1 z1
    obtain ⟨rfl, N1q, e1⟩ := hQ1
    have N1 := Fr.app N0 N1q
    obtain ⟨T2, h2, X2, e2, W2, st2⟩ := stB X1 hx hZ e1 Av (j := (5 : Int32)) hin (g := (mkF m 104 #[.val (.long a), .second, .val (.long b), .second, .val (.int ln), .val (.int nn), .val (.ref ba), .unset, .unset, .unset, .unset, .unset, .unset, .unset, .unset, .unset, .unset] [(.int (own_byteOf b (0 : Int32))), (.int (5 : Int32)), (.ref ba)])) rfl rfl (hb hby at_104)
    have V1 := own_snoc2 (xs := own_bytes a b 5) (x := own_byteOf b (0 : Int32)) (jx := (5 : Int32)) V0 (by rw [own_blen]; decide) (own_nb _) W2
    have M1 := Fr.snoc X2 N1 gb
    refine ⟨T2, h2, _, X2, e2, M1, (Keep.refl h0 [ba]).wr W2 (Or.inl (List.mem_of_getElem? (i := 0) rfl)), own_st_wr W2, by rw [em2]; exact V1, fun target kt => ?_⟩
    show Steps p.tables e below (T0.setTop (mkF m 90 #[.val (.long a), .second, .val (.long b), .second, .val (.int ln), .val (.int nn), .val (.ref ba), .unset, .unset, .unset, .unset, .unset, .unset, .unset, .unset, .unset, .unset] [])) _
    refine XS.iload X0.here hx rfl (hb hby at_90) rfl ?_
    show Steps p.tables e below (T0.setTop (mkF m 92 #[.val (.long a), .second, .val (.long b), .second, .val (.int ln), .val (.int nn), .val (.ref ba), .unset, .unset, .unset, .unset, .unset, .unset, .unset, .unset, .unset, .unset] [(.int nn)])) _
    refine XS.iconst X0.here hx rfl (hb hby at_92) ?_
    show Steps p.tables e below (T0.setTop (mkF m 93 #[.val (.long a), .second, .val (.long b), .second, .val (.int ln), .val (.int nn), .val (.ref ba), .unset, .unset, .unset, .unset, .unset, .unset, .unset, .unset, .unset, .unset] [(.int (5 : Int32)), (.int nn)])) _
    refine XS.icmpNo X0.here hx rfl (hb hby at_93) rfl (tlt c0).2.2.2 ?_
    show Steps p.tables e below (T0.setTop (mkF m 96 #[.val (.long a), .second, .val (.long b), .second, .val (.int ln), .val (.int nn), .val (.ref ba), .unset, .unset, .unset, .unset, .unset, .unset, .unset, .unset, .unset, .unset] [])) _
    refine XS.aload X0.here hx rfl (hb hby at_96) rfl rfl ?_
    show Steps p.tables e below (T0.setTop (mkF m 98 #[.val (.long a), .second, .val (.long b), .second, .val (.int ln), .val (.int nn), .val (.ref ba), .unset, .unset, .unset, .unset, .unset, .unset, .unset, .unset, .unset, .unset] [(.ref ba)])) _
    refine XS.iconst X0.here hx rfl (hb hby at_98) ?_
    show Steps p.tables e below (T0.setTop (mkF m 99 #[.val (.long a), .second, .val (.long b), .second, .val (.int ln), .val (.int nn), .val (.ref ba), .unset, .unset, .unset, .unset, .unset, .unset, .unset, .unset, .unset, .unset] [(.int (5 : Int32)), (.ref ba)])) _
    refine XS.lloadN X0.here hx rfl (hb hby at_99) rfl ?_
    show Steps p.tables e below (T0.setTop (mkF m 100 #[.val (.long a), .second, .val (.long b), .second, .val (.int ln), .val (.int nn), .val (.ref ba), .unset, .unset, .unset, .unset, .unset, .unset, .unset, .unset, .unset, .unset] [(.long b), (.int (5 : Int32)), (.ref ba)])) _
    refine XS.iconst X0.here hx rfl (hb hby at_100) ?_
    show Steps p.tables e below (T0.setTop (mkF m 101 #[.val (.long a), .second, .val (.long b), .second, .val (.int ln), .val (.int nn), .val (.ref ba), .unset, .unset, .unset, .unset, .unset, .unset, .unset, .unset, .unset, .unset] [(.int (0 : Int32)), (.long b), (.int (5 : Int32)), (.ref ba)])) _
    refine st1 _ ?_
    show Steps p.tables e below (T1.setTop (mkF m 104 #[.val (.long a), .second, .val (.long b), .second, .val (.int ln), .val (.int nn), .val (.ref ba), .unset, .unset, .unset, .unset, .unset, .unset, .unset, .unset, .unset, .unset] [(.int (own_byteOf b (0 : Int32))), (.int (5 : Int32)), (.ref ba)])) _
    refine st2 _ ?_
    show Steps p.tables e below (T2.setTop (mkF m 105 #[.val (.long a), .second, .val (.long b), .second, .val (.int ln), .val (.int nn), .val (.ref ba), .unset, .unset, .unset, .unset, .unset, .unset, .unset, .unset, .unset, .unset] [])) _
    exact kt
  · have kj : (5 : Int32).toInt = 5 := by decide
    have hjN : ¬ 5 < N := by rw [hN, Int32.lt_iff_toInt_lt, own_ofNat (by omega), kj] at c0; omega
    have em : min N (5 + 1) = min N 5 := by omega
    refine ⟨T0, h0, locs, X0, e0, N0, Keep.refl h0 [ba], own_St.refl, by rw [em]; exact V, fun target kt => ?_⟩
    show Steps p.tables e below (T0.setTop (mkF m 90 #[.val (.long a), .second, .val (.long b), .second, .val (.int ln), .val (.int nn), .val (.ref ba), .unset, .unset, .unset, .unset, .unset, .unset, .unset, .unset, .unset, .unset] [])) _
    refine XS.iload X0.here hx rfl (hb hby at_90) rfl ?_
    show Steps p.tables e below (T0.setTop (mkF m 92 #[.val (.long a), .second, .val (.long b), .second, .val (.int ln), .val (.int nn), .val (.ref ba), .unset, .unset, .unset, .unset, .unset, .unset, .unset, .unset, .unset, .unset] [(.int nn)])) _
    refine XS.iconst X0.here hx rfl (hb hby at_92) ?_
    show Steps p.tables e below (T0.setTop (mkF m 93 #[.val (.long a), .second, .val (.long b), .second, .val (.int ln), .val (.int nn), .val (.ref ba), .unset, .unset, .unset, .unset, .unset, .unset, .unset, .unset, .unset, .unset] [(.int (5 : Int32)), (.int nn)])) _
    refine XS.icmpYes X0.here hx rfl (pc0 := 93) (pc' := 105) rfl (hb hby at_93) rfl (flt c0).2.2.2 (by decide) (by decide) ?_
    show Steps p.tables e below (T0.setTop (mkF m 105 #[.val (.long a), .second, .val (.long b), .second, .val (.int ln), .val (.int nn), .val (.ref ba), .unset, .unset, .unset, .unset, .unset, .unset, .unset, .unset, .unset, .unset] [])) _
    exact kt

set_option maxRecDepth 65536 in
set_option maxHeartbeats 40000000 in
theorem own_put6 {p : Program} {l : Launch} {e : Env} {s : State} {m : MethodId} {args : Array Value} {below : List Frame} {meth : Method} {c : Code} {T0 : State} {locs : List Loc} {Z : State} {a0 : Array Value} {h0 : Heap} {n0 : Nat} (X0 : Stand p l e room_1 s m args below meth c T0 locs 1 10) (hx : p.tables.exec = Jvm.exec) (hZ : Z.Warmed39 s.vm) (hw : ∀ d ∈ tables_1, d.before a0 Z = true) (hby : c.code = code) (hml : c.maxLocals = 17) (hown : s.vm.findClass "com/example/harrier/harrier/warc/Base32EncodePinLaw" = some m.cls) (e0 : T0.heap = h0) (N0 : Fr n0 locs) (Z0 : n0 ≤ h0.size) {ba : Addr} {kB : ClassId} (a b : Int64) (ln nn : Int32) (N : Nat) (hN : nn = Int32.ofNat N) (hN10 : N ≤ 10) (gb : n0 ≤ ba) (V : Arv Z h0 ba kB .byte nn ((own_bytes a b (min N 6)).map Value.int) (.int (0 : Int32))) :
    ∃ (T' : State) (h' : Heap) (locs' : List Loc), Stand p l e room_1 s m args below meth c T' locs' 1 10 ∧ T'.heap = h' ∧ Fr n0 locs' ∧ Keep h0 h' [ba] ∧ own_St Z h0 h' ∧ Arv Z h' ba kB .byte nn ((own_bytes a b (min N (6 + 1))).map Value.int) (.int (0 : Int32)) ∧
      ∀ target, Steps p.tables e below (T'.setTop (mkF m 122 #[.val (.long a), .second, .val (.long b), .second, .val (.int ln), .val (.int nn), .val (.ref ba), .unset, .unset, .unset, .unset, .unset, .unset, .unset, .unset, .unset, .unset] [])) target → Steps p.tables e below (T0.setTop (mkF m 105 #[.val (.long a), .second, .val (.long b), .second, .val (.int ln), .val (.int nn), .val (.ref ba), .unset, .unset, .unset, .unset, .unset, .unset, .unset, .unset, .unset, .unset] [])) target := by
  rcases Classical.em ((6 : Int32) < nn) with c0 | c0
  · have kj : (6 : Int32).toInt = 6 := by decide
    have hjN : 6 < N := by rw [hN, Int32.lt_iff_toInt_lt, own_ofNat (by omega), kj] at c0; omega
    have em : min N 6 = 6 := by omega
    have em2 : min N (6 + 1) = 6 + 1 := by omega
    rw [em] at V
    have V0 := V
    obtain ⟨ca, Av, qv, Sv, Nv, Hv, Gv⟩ := V
    have hin := inb_of (j := (6 : Int32)) Sv ⟨by decide, c0⟩
    obtain ⟨_, _, ⟨T1, L1, k1, n1⟩, -, X1, ⟨Lc1, hQ1, l1, y1, z1⟩, st1⟩ := Jvm.LawKit.callS X0 hx (y := (⟨"com/example/harrier/harrier/warc/Base32EncodePinLaw", "byteOf", "(JI)B"⟩ : MethodName)) hown (mvT hZ (hw _ (List.mem_of_getElem? (i := 109) rfl))) (mvT hZ (hw _ (List.mem_of_getElem? (i := 110) rfl))) (mvT hZ (hw _ (List.mem_of_getElem? (i := 103) rfl))) (mvT hZ (hw _ (List.mem_of_getElem? (i := 111) rfl))) (by decide) (backOf (W := 2) (rmBy l Z a0 hw [] b (1 : Int32) h0 n0 Z0) hZ (hw _ (List.mem_of_getElem? (i := 111) rfl)) (hw _ (List.mem_of_getElem? (i := 103) rfl)) (by decide) (by decide)) (g := (mkF m 118 #[.val (.long a), .second, .val (.long b), .second, .val (.int ln), .val (.int nn), .val (.ref ba), .unset, .unset, .unset, .unset, .unset, .unset, .unset, .unset, .unset, .unset] [(.int (1 : Int32)), (.long b), (.int (6 : Int32)), (.ref ba)])) rfl (by rw [hml]; rfl) (argsL := [(.long b), (.int (1 : Int32))]) (rest := [(.int (6 : Int32)), (.ref ba)]) (lenOf pd_at__JI_B rfl) rfl (by show 2 * 0 + _ ≤ _; exact Nat.le_of_eq rfl) (hb hby at_118) (fun _ _ => ⟨rfl, e0, (by decide : 1 + 0 ≤ _), (by decide : 10 + 0 ≤ _)⟩)
    dsimp only [Pt.U, Pt.locs, Pt.cells, Pt.slots] at X1 l1 y1 z1 st1 hQ1
    subst l1 y1 z1
    obtain ⟨rfl, N1q, e1⟩ := hQ1
    have N1 := Fr.app N0 N1q
    obtain ⟨T2, h2, X2, e2, W2, st2⟩ := stB X1 hx hZ e1 Av (j := (6 : Int32)) hin (g := (mkF m 121 #[.val (.long a), .second, .val (.long b), .second, .val (.int ln), .val (.int nn), .val (.ref ba), .unset, .unset, .unset, .unset, .unset, .unset, .unset, .unset, .unset, .unset] [(.int (own_byteOf b (1 : Int32))), (.int (6 : Int32)), (.ref ba)])) rfl rfl (hb hby at_121)
    have V1 := own_snoc2 (xs := own_bytes a b 6) (x := own_byteOf b (1 : Int32)) (jx := (6 : Int32)) V0 (by rw [own_blen]; decide) (own_nb _) W2
    have M1 := Fr.snoc X2 N1 gb
    refine ⟨T2, h2, _, X2, e2, M1, (Keep.refl h0 [ba]).wr W2 (Or.inl (List.mem_of_getElem? (i := 0) rfl)), own_st_wr W2, by rw [em2]; exact V1, fun target kt => ?_⟩
    show Steps p.tables e below (T0.setTop (mkF m 105 #[.val (.long a), .second, .val (.long b), .second, .val (.int ln), .val (.int nn), .val (.ref ba), .unset, .unset, .unset, .unset, .unset, .unset, .unset, .unset, .unset, .unset] [])) _
    refine XS.iload X0.here hx rfl (hb hby at_105) rfl ?_
    show Steps p.tables e below (T0.setTop (mkF m 107 #[.val (.long a), .second, .val (.long b), .second, .val (.int ln), .val (.int nn), .val (.ref ba), .unset, .unset, .unset, .unset, .unset, .unset, .unset, .unset, .unset, .unset] [(.int nn)])) _
    refine XS.bipush X0.here hx rfl (hb hby at_107) ?_
    show Steps p.tables e below (T0.setTop (mkF m 109 #[.val (.long a), .second, .val (.long b), .second, .val (.int ln), .val (.int nn), .val (.ref ba), .unset, .unset, .unset, .unset, .unset, .unset, .unset, .unset, .unset, .unset] [(.int (6 : Int32)), (.int nn)])) _
    refine XS.icmpNo X0.here hx rfl (hb hby at_109) rfl (tlt c0).2.2.2 ?_
    show Steps p.tables e below (T0.setTop (mkF m 112 #[.val (.long a), .second, .val (.long b), .second, .val (.int ln), .val (.int nn), .val (.ref ba), .unset, .unset, .unset, .unset, .unset, .unset, .unset, .unset, .unset, .unset] [])) _
    refine XS.aload X0.here hx rfl (hb hby at_112) rfl rfl ?_
    show Steps p.tables e below (T0.setTop (mkF m 114 #[.val (.long a), .second, .val (.long b), .second, .val (.int ln), .val (.int nn), .val (.ref ba), .unset, .unset, .unset, .unset, .unset, .unset, .unset, .unset, .unset, .unset] [(.ref ba)])) _
    refine XS.bipush X0.here hx rfl (hb hby at_114) ?_
    show Steps p.tables e below (T0.setTop (mkF m 116 #[.val (.long a), .second, .val (.long b), .second, .val (.int ln), .val (.int nn), .val (.ref ba), .unset, .unset, .unset, .unset, .unset, .unset, .unset, .unset, .unset, .unset] [(.int (6 : Int32)), (.ref ba)])) _
    refine XS.lloadN X0.here hx rfl (hb hby at_116) rfl ?_
    show Steps p.tables e below (T0.setTop (mkF m 117 #[.val (.long a), .second, .val (.long b), .second, .val (.int ln), .val (.int nn), .val (.ref ba), .unset, .unset, .unset, .unset, .unset, .unset, .unset, .unset, .unset, .unset] [(.long b), (.int (6 : Int32)), (.ref ba)])) _
    refine XS.iconst X0.here hx rfl (hb hby at_117) ?_
    show Steps p.tables e below (T0.setTop (mkF m 118 #[.val (.long a), .second, .val (.long b), .second, .val (.int ln), .val (.int nn), .val (.ref ba), .unset, .unset, .unset, .unset, .unset, .unset, .unset, .unset, .unset, .unset] [(.int (1 : Int32)), (.long b), (.int (6 : Int32)), (.ref ba)])) _
    refine st1 _ ?_
    show Steps p.tables e below (T1.setTop (mkF m 121 #[.val (.long a), .second, .val (.long b), .second, .val (.int ln), .val (.int nn), .val (.ref ba), .unset, .unset, .unset, .unset, .unset, .unset, .unset, .unset, .unset, .unset] [(.int (own_byteOf b (1 : Int32))), (.int (6 : Int32)), (.ref ba)])) _
    refine st2 _ ?_
    show Steps p.tables e below (T2.setTop (mkF m 122 #[.val (.long a), .second, .val (.long b), .second, .val (.int ln), .val (.int nn), .val (.ref ba), .unset, .unset, .unset, .unset, .unset, .unset, .unset, .unset, .unset, .unset] [])) _
    exact kt
  · have kj : (6 : Int32).toInt = 6 := by decide
    have hjN : ¬ 6 < N := by rw [hN, Int32.lt_iff_toInt_lt, own_ofNat (by omega), kj] at c0; omega
    have em : min N (6 + 1) = min N 6 := by omega
    refine ⟨T0, h0, locs, X0, e0, N0, Keep.refl h0 [ba], own_St.refl, by rw [em]; exact V, fun target kt => ?_⟩
    show Steps p.tables e below (T0.setTop (mkF m 105 #[.val (.long a), .second, .val (.long b), .second, .val (.int ln), .val (.int nn), .val (.ref ba), .unset, .unset, .unset, .unset, .unset, .unset, .unset, .unset, .unset, .unset] [])) _
    refine XS.iload X0.here hx rfl (hb hby at_105) rfl ?_
    show Steps p.tables e below (T0.setTop (mkF m 107 #[.val (.long a), .second, .val (.long b), .second, .val (.int ln), .val (.int nn), .val (.ref ba), .unset, .unset, .unset, .unset, .unset, .unset, .unset, .unset, .unset, .unset] [(.int nn)])) _
    refine XS.bipush X0.here hx rfl (hb hby at_107) ?_
    show Steps p.tables e below (T0.setTop (mkF m 109 #[.val (.long a), .second, .val (.long b), .second, .val (.int ln), .val (.int nn), .val (.ref ba), .unset, .unset, .unset, .unset, .unset, .unset, .unset, .unset, .unset, .unset] [(.int (6 : Int32)), (.int nn)])) _
    refine XS.icmpYes X0.here hx rfl (pc0 := 109) (pc' := 122) rfl (hb hby at_109) rfl (flt c0).2.2.2 (by decide) (by decide) ?_
    show Steps p.tables e below (T0.setTop (mkF m 122 #[.val (.long a), .second, .val (.long b), .second, .val (.int ln), .val (.int nn), .val (.ref ba), .unset, .unset, .unset, .unset, .unset, .unset, .unset, .unset, .unset, .unset] [])) _
    exact kt

set_option maxRecDepth 65536 in
set_option maxHeartbeats 40000000 in
theorem own_put7 {p : Program} {l : Launch} {e : Env} {s : State} {m : MethodId} {args : Array Value} {below : List Frame} {meth : Method} {c : Code} {T0 : State} {locs : List Loc} {Z : State} {a0 : Array Value} {h0 : Heap} {n0 : Nat} (X0 : Stand p l e room_1 s m args below meth c T0 locs 1 10) (hx : p.tables.exec = Jvm.exec) (hZ : Z.Warmed39 s.vm) (hw : ∀ d ∈ tables_1, d.before a0 Z = true) (hby : c.code = code) (hml : c.maxLocals = 17) (hown : s.vm.findClass "com/example/harrier/harrier/warc/Base32EncodePinLaw" = some m.cls) (e0 : T0.heap = h0) (N0 : Fr n0 locs) (Z0 : n0 ≤ h0.size) {ba : Addr} {kB : ClassId} (a b : Int64) (ln nn : Int32) (N : Nat) (hN : nn = Int32.ofNat N) (hN10 : N ≤ 10) (gb : n0 ≤ ba) (V : Arv Z h0 ba kB .byte nn ((own_bytes a b (min N 7)).map Value.int) (.int (0 : Int32))) :
    ∃ (T' : State) (h' : Heap) (locs' : List Loc), Stand p l e room_1 s m args below meth c T' locs' 1 10 ∧ T'.heap = h' ∧ Fr n0 locs' ∧ Keep h0 h' [ba] ∧ own_St Z h0 h' ∧ Arv Z h' ba kB .byte nn ((own_bytes a b (min N (7 + 1))).map Value.int) (.int (0 : Int32)) ∧
      ∀ target, Steps p.tables e below (T'.setTop (mkF m 139 #[.val (.long a), .second, .val (.long b), .second, .val (.int ln), .val (.int nn), .val (.ref ba), .unset, .unset, .unset, .unset, .unset, .unset, .unset, .unset, .unset, .unset] [])) target → Steps p.tables e below (T0.setTop (mkF m 122 #[.val (.long a), .second, .val (.long b), .second, .val (.int ln), .val (.int nn), .val (.ref ba), .unset, .unset, .unset, .unset, .unset, .unset, .unset, .unset, .unset, .unset] [])) target := by
  rcases Classical.em ((7 : Int32) < nn) with c0 | c0
  · have kj : (7 : Int32).toInt = 7 := by decide
    have hjN : 7 < N := by rw [hN, Int32.lt_iff_toInt_lt, own_ofNat (by omega), kj] at c0; omega
    have em : min N 7 = 7 := by omega
    have em2 : min N (7 + 1) = 7 + 1 := by omega
    rw [em] at V
    have V0 := V
    obtain ⟨ca, Av, qv, Sv, Nv, Hv, Gv⟩ := V
    have hin := inb_of (j := (7 : Int32)) Sv ⟨by decide, c0⟩
    obtain ⟨_, _, ⟨T1, L1, k1, n1⟩, -, X1, ⟨Lc1, hQ1, l1, y1, z1⟩, st1⟩ := Jvm.LawKit.callS X0 hx (y := (⟨"com/example/harrier/harrier/warc/Base32EncodePinLaw", "byteOf", "(JI)B"⟩ : MethodName)) hown (mvT hZ (hw _ (List.mem_of_getElem? (i := 109) rfl))) (mvT hZ (hw _ (List.mem_of_getElem? (i := 110) rfl))) (mvT hZ (hw _ (List.mem_of_getElem? (i := 103) rfl))) (mvT hZ (hw _ (List.mem_of_getElem? (i := 111) rfl))) (by decide) (backOf (W := 2) (rmBy l Z a0 hw [] b (2 : Int32) h0 n0 Z0) hZ (hw _ (List.mem_of_getElem? (i := 111) rfl)) (hw _ (List.mem_of_getElem? (i := 103) rfl)) (by decide) (by decide)) (g := (mkF m 135 #[.val (.long a), .second, .val (.long b), .second, .val (.int ln), .val (.int nn), .val (.ref ba), .unset, .unset, .unset, .unset, .unset, .unset, .unset, .unset, .unset, .unset] [(.int (2 : Int32)), (.long b), (.int (7 : Int32)), (.ref ba)])) rfl (by rw [hml]; rfl) (argsL := [(.long b), (.int (2 : Int32))]) (rest := [(.int (7 : Int32)), (.ref ba)]) (lenOf pd_at__JI_B rfl) rfl (by show 2 * 0 + _ ≤ _; exact Nat.le_of_eq rfl) (hb hby at_135) (fun _ _ => ⟨rfl, e0, (by decide : 1 + 0 ≤ _), (by decide : 10 + 0 ≤ _)⟩)
    dsimp only [Pt.U, Pt.locs, Pt.cells, Pt.slots] at X1 l1 y1 z1 st1 hQ1
    subst l1 y1 z1
    obtain ⟨rfl, N1q, e1⟩ := hQ1
    have N1 := Fr.app N0 N1q
    obtain ⟨T2, h2, X2, e2, W2, st2⟩ := stB X1 hx hZ e1 Av (j := (7 : Int32)) hin (g := (mkF m 138 #[.val (.long a), .second, .val (.long b), .second, .val (.int ln), .val (.int nn), .val (.ref ba), .unset, .unset, .unset, .unset, .unset, .unset, .unset, .unset, .unset, .unset] [(.int (own_byteOf b (2 : Int32))), (.int (7 : Int32)), (.ref ba)])) rfl rfl (hb hby at_138)
    have V1 := own_snoc2 (xs := own_bytes a b 7) (x := own_byteOf b (2 : Int32)) (jx := (7 : Int32)) V0 (by rw [own_blen]; decide) (own_nb _) W2
    have M1 := Fr.snoc X2 N1 gb
    refine ⟨T2, h2, _, X2, e2, M1, (Keep.refl h0 [ba]).wr W2 (Or.inl (List.mem_of_getElem? (i := 0) rfl)), own_st_wr W2, by rw [em2]; exact V1, fun target kt => ?_⟩
    show Steps p.tables e below (T0.setTop (mkF m 122 #[.val (.long a), .second, .val (.long b), .second, .val (.int ln), .val (.int nn), .val (.ref ba), .unset, .unset, .unset, .unset, .unset, .unset, .unset, .unset, .unset, .unset] [])) _
    refine XS.iload X0.here hx rfl (hb hby at_122) rfl ?_
    show Steps p.tables e below (T0.setTop (mkF m 124 #[.val (.long a), .second, .val (.long b), .second, .val (.int ln), .val (.int nn), .val (.ref ba), .unset, .unset, .unset, .unset, .unset, .unset, .unset, .unset, .unset, .unset] [(.int nn)])) _
    refine XS.bipush X0.here hx rfl (hb hby at_124) ?_
    show Steps p.tables e below (T0.setTop (mkF m 126 #[.val (.long a), .second, .val (.long b), .second, .val (.int ln), .val (.int nn), .val (.ref ba), .unset, .unset, .unset, .unset, .unset, .unset, .unset, .unset, .unset, .unset] [(.int (7 : Int32)), (.int nn)])) _
    refine XS.icmpNo X0.here hx rfl (hb hby at_126) rfl (tlt c0).2.2.2 ?_
    show Steps p.tables e below (T0.setTop (mkF m 129 #[.val (.long a), .second, .val (.long b), .second, .val (.int ln), .val (.int nn), .val (.ref ba), .unset, .unset, .unset, .unset, .unset, .unset, .unset, .unset, .unset, .unset] [])) _
    refine XS.aload X0.here hx rfl (hb hby at_129) rfl rfl ?_
    show Steps p.tables e below (T0.setTop (mkF m 131 #[.val (.long a), .second, .val (.long b), .second, .val (.int ln), .val (.int nn), .val (.ref ba), .unset, .unset, .unset, .unset, .unset, .unset, .unset, .unset, .unset, .unset] [(.ref ba)])) _
    refine XS.bipush X0.here hx rfl (hb hby at_131) ?_
    show Steps p.tables e below (T0.setTop (mkF m 133 #[.val (.long a), .second, .val (.long b), .second, .val (.int ln), .val (.int nn), .val (.ref ba), .unset, .unset, .unset, .unset, .unset, .unset, .unset, .unset, .unset, .unset] [(.int (7 : Int32)), (.ref ba)])) _
    refine XS.lloadN X0.here hx rfl (hb hby at_133) rfl ?_
    show Steps p.tables e below (T0.setTop (mkF m 134 #[.val (.long a), .second, .val (.long b), .second, .val (.int ln), .val (.int nn), .val (.ref ba), .unset, .unset, .unset, .unset, .unset, .unset, .unset, .unset, .unset, .unset] [(.long b), (.int (7 : Int32)), (.ref ba)])) _
    refine XS.iconst X0.here hx rfl (hb hby at_134) ?_
    show Steps p.tables e below (T0.setTop (mkF m 135 #[.val (.long a), .second, .val (.long b), .second, .val (.int ln), .val (.int nn), .val (.ref ba), .unset, .unset, .unset, .unset, .unset, .unset, .unset, .unset, .unset, .unset] [(.int (2 : Int32)), (.long b), (.int (7 : Int32)), (.ref ba)])) _
    refine st1 _ ?_
    show Steps p.tables e below (T1.setTop (mkF m 138 #[.val (.long a), .second, .val (.long b), .second, .val (.int ln), .val (.int nn), .val (.ref ba), .unset, .unset, .unset, .unset, .unset, .unset, .unset, .unset, .unset, .unset] [(.int (own_byteOf b (2 : Int32))), (.int (7 : Int32)), (.ref ba)])) _
    refine st2 _ ?_
    show Steps p.tables e below (T2.setTop (mkF m 139 #[.val (.long a), .second, .val (.long b), .second, .val (.int ln), .val (.int nn), .val (.ref ba), .unset, .unset, .unset, .unset, .unset, .unset, .unset, .unset, .unset, .unset] [])) _
    exact kt
  · have kj : (7 : Int32).toInt = 7 := by decide
    have hjN : ¬ 7 < N := by rw [hN, Int32.lt_iff_toInt_lt, own_ofNat (by omega), kj] at c0; omega
    have em : min N (7 + 1) = min N 7 := by omega
    refine ⟨T0, h0, locs, X0, e0, N0, Keep.refl h0 [ba], own_St.refl, by rw [em]; exact V, fun target kt => ?_⟩
    show Steps p.tables e below (T0.setTop (mkF m 122 #[.val (.long a), .second, .val (.long b), .second, .val (.int ln), .val (.int nn), .val (.ref ba), .unset, .unset, .unset, .unset, .unset, .unset, .unset, .unset, .unset, .unset] [])) _
    refine XS.iload X0.here hx rfl (hb hby at_122) rfl ?_
    show Steps p.tables e below (T0.setTop (mkF m 124 #[.val (.long a), .second, .val (.long b), .second, .val (.int ln), .val (.int nn), .val (.ref ba), .unset, .unset, .unset, .unset, .unset, .unset, .unset, .unset, .unset, .unset] [(.int nn)])) _
    refine XS.bipush X0.here hx rfl (hb hby at_124) ?_
    show Steps p.tables e below (T0.setTop (mkF m 126 #[.val (.long a), .second, .val (.long b), .second, .val (.int ln), .val (.int nn), .val (.ref ba), .unset, .unset, .unset, .unset, .unset, .unset, .unset, .unset, .unset, .unset] [(.int (7 : Int32)), (.int nn)])) _
    refine XS.icmpYes X0.here hx rfl (pc0 := 126) (pc' := 139) rfl (hb hby at_126) rfl (flt c0).2.2.2 (by decide) (by decide) ?_
    show Steps p.tables e below (T0.setTop (mkF m 139 #[.val (.long a), .second, .val (.long b), .second, .val (.int ln), .val (.int nn), .val (.ref ba), .unset, .unset, .unset, .unset, .unset, .unset, .unset, .unset, .unset, .unset] [])) _
    exact kt

set_option maxRecDepth 65536 in
set_option maxHeartbeats 40000000 in
theorem own_put8 {p : Program} {l : Launch} {e : Env} {s : State} {m : MethodId} {args : Array Value} {below : List Frame} {meth : Method} {c : Code} {T0 : State} {locs : List Loc} {Z : State} {a0 : Array Value} {h0 : Heap} {n0 : Nat} (X0 : Stand p l e room_1 s m args below meth c T0 locs 1 10) (hx : p.tables.exec = Jvm.exec) (hZ : Z.Warmed39 s.vm) (hw : ∀ d ∈ tables_1, d.before a0 Z = true) (hby : c.code = code) (hml : c.maxLocals = 17) (hown : s.vm.findClass "com/example/harrier/harrier/warc/Base32EncodePinLaw" = some m.cls) (e0 : T0.heap = h0) (N0 : Fr n0 locs) (Z0 : n0 ≤ h0.size) {ba : Addr} {kB : ClassId} (a b : Int64) (ln nn : Int32) (N : Nat) (hN : nn = Int32.ofNat N) (hN10 : N ≤ 10) (gb : n0 ≤ ba) (V : Arv Z h0 ba kB .byte nn ((own_bytes a b (min N 8)).map Value.int) (.int (0 : Int32))) :
    ∃ (T' : State) (h' : Heap) (locs' : List Loc), Stand p l e room_1 s m args below meth c T' locs' 1 10 ∧ T'.heap = h' ∧ Fr n0 locs' ∧ Keep h0 h' [ba] ∧ own_St Z h0 h' ∧ Arv Z h' ba kB .byte nn ((own_bytes a b (min N (8 + 1))).map Value.int) (.int (0 : Int32)) ∧
      ∀ target, Steps p.tables e below (T'.setTop (mkF m 156 #[.val (.long a), .second, .val (.long b), .second, .val (.int ln), .val (.int nn), .val (.ref ba), .unset, .unset, .unset, .unset, .unset, .unset, .unset, .unset, .unset, .unset] [])) target → Steps p.tables e below (T0.setTop (mkF m 139 #[.val (.long a), .second, .val (.long b), .second, .val (.int ln), .val (.int nn), .val (.ref ba), .unset, .unset, .unset, .unset, .unset, .unset, .unset, .unset, .unset, .unset] [])) target := by
  rcases Classical.em ((8 : Int32) < nn) with c0 | c0
  · have kj : (8 : Int32).toInt = 8 := by decide
    have hjN : 8 < N := by rw [hN, Int32.lt_iff_toInt_lt, own_ofNat (by omega), kj] at c0; omega
    have em : min N 8 = 8 := by omega
    have em2 : min N (8 + 1) = 8 + 1 := by omega
    rw [em] at V
    have V0 := V
    obtain ⟨ca, Av, qv, Sv, Nv, Hv, Gv⟩ := V
    have hin := inb_of (j := (8 : Int32)) Sv ⟨by decide, c0⟩
    obtain ⟨_, _, ⟨T1, L1, k1, n1⟩, -, X1, ⟨Lc1, hQ1, l1, y1, z1⟩, st1⟩ := Jvm.LawKit.callS X0 hx (y := (⟨"com/example/harrier/harrier/warc/Base32EncodePinLaw", "byteOf", "(JI)B"⟩ : MethodName)) hown (mvT hZ (hw _ (List.mem_of_getElem? (i := 109) rfl))) (mvT hZ (hw _ (List.mem_of_getElem? (i := 110) rfl))) (mvT hZ (hw _ (List.mem_of_getElem? (i := 103) rfl))) (mvT hZ (hw _ (List.mem_of_getElem? (i := 111) rfl))) (by decide) (backOf (W := 2) (rmBy l Z a0 hw [] b (3 : Int32) h0 n0 Z0) hZ (hw _ (List.mem_of_getElem? (i := 111) rfl)) (hw _ (List.mem_of_getElem? (i := 103) rfl)) (by decide) (by decide)) (g := (mkF m 152 #[.val (.long a), .second, .val (.long b), .second, .val (.int ln), .val (.int nn), .val (.ref ba), .unset, .unset, .unset, .unset, .unset, .unset, .unset, .unset, .unset, .unset] [(.int (3 : Int32)), (.long b), (.int (8 : Int32)), (.ref ba)])) rfl (by rw [hml]; rfl) (argsL := [(.long b), (.int (3 : Int32))]) (rest := [(.int (8 : Int32)), (.ref ba)]) (lenOf pd_at__JI_B rfl) rfl (by show 2 * 0 + _ ≤ _; exact Nat.le_of_eq rfl) (hb hby at_152) (fun _ _ => ⟨rfl, e0, (by decide : 1 + 0 ≤ _), (by decide : 10 + 0 ≤ _)⟩)
    dsimp only [Pt.U, Pt.locs, Pt.cells, Pt.slots] at X1 l1 y1 z1 st1 hQ1
    subst l1 y1 z1
    obtain ⟨rfl, N1q, e1⟩ := hQ1
    have N1 := Fr.app N0 N1q
    obtain ⟨T2, h2, X2, e2, W2, st2⟩ := stB X1 hx hZ e1 Av (j := (8 : Int32)) hin (g := (mkF m 155 #[.val (.long a), .second, .val (.long b), .second, .val (.int ln), .val (.int nn), .val (.ref ba), .unset, .unset, .unset, .unset, .unset, .unset, .unset, .unset, .unset, .unset] [(.int (own_byteOf b (3 : Int32))), (.int (8 : Int32)), (.ref ba)])) rfl rfl (hb hby at_155)
    have V1 := own_snoc2 (xs := own_bytes a b 8) (x := own_byteOf b (3 : Int32)) (jx := (8 : Int32)) V0 (by rw [own_blen]; decide) (own_nb _) W2
    have M1 := Fr.snoc X2 N1 gb
    refine ⟨T2, h2, _, X2, e2, M1, (Keep.refl h0 [ba]).wr W2 (Or.inl (List.mem_of_getElem? (i := 0) rfl)), own_st_wr W2, by rw [em2]; exact V1, fun target kt => ?_⟩
    show Steps p.tables e below (T0.setTop (mkF m 139 #[.val (.long a), .second, .val (.long b), .second, .val (.int ln), .val (.int nn), .val (.ref ba), .unset, .unset, .unset, .unset, .unset, .unset, .unset, .unset, .unset, .unset] [])) _
    refine XS.iload X0.here hx rfl (hb hby at_139) rfl ?_
    show Steps p.tables e below (T0.setTop (mkF m 141 #[.val (.long a), .second, .val (.long b), .second, .val (.int ln), .val (.int nn), .val (.ref ba), .unset, .unset, .unset, .unset, .unset, .unset, .unset, .unset, .unset, .unset] [(.int nn)])) _
    refine XS.bipush X0.here hx rfl (hb hby at_141) ?_
    show Steps p.tables e below (T0.setTop (mkF m 143 #[.val (.long a), .second, .val (.long b), .second, .val (.int ln), .val (.int nn), .val (.ref ba), .unset, .unset, .unset, .unset, .unset, .unset, .unset, .unset, .unset, .unset] [(.int (8 : Int32)), (.int nn)])) _
    refine XS.icmpNo X0.here hx rfl (hb hby at_143) rfl (tlt c0).2.2.2 ?_
    show Steps p.tables e below (T0.setTop (mkF m 146 #[.val (.long a), .second, .val (.long b), .second, .val (.int ln), .val (.int nn), .val (.ref ba), .unset, .unset, .unset, .unset, .unset, .unset, .unset, .unset, .unset, .unset] [])) _
    refine XS.aload X0.here hx rfl (hb hby at_146) rfl rfl ?_
    show Steps p.tables e below (T0.setTop (mkF m 148 #[.val (.long a), .second, .val (.long b), .second, .val (.int ln), .val (.int nn), .val (.ref ba), .unset, .unset, .unset, .unset, .unset, .unset, .unset, .unset, .unset, .unset] [(.ref ba)])) _
    refine XS.bipush X0.here hx rfl (hb hby at_148) ?_
    show Steps p.tables e below (T0.setTop (mkF m 150 #[.val (.long a), .second, .val (.long b), .second, .val (.int ln), .val (.int nn), .val (.ref ba), .unset, .unset, .unset, .unset, .unset, .unset, .unset, .unset, .unset, .unset] [(.int (8 : Int32)), (.ref ba)])) _
    refine XS.lloadN X0.here hx rfl (hb hby at_150) rfl ?_
    show Steps p.tables e below (T0.setTop (mkF m 151 #[.val (.long a), .second, .val (.long b), .second, .val (.int ln), .val (.int nn), .val (.ref ba), .unset, .unset, .unset, .unset, .unset, .unset, .unset, .unset, .unset, .unset] [(.long b), (.int (8 : Int32)), (.ref ba)])) _
    refine XS.iconst X0.here hx rfl (hb hby at_151) ?_
    show Steps p.tables e below (T0.setTop (mkF m 152 #[.val (.long a), .second, .val (.long b), .second, .val (.int ln), .val (.int nn), .val (.ref ba), .unset, .unset, .unset, .unset, .unset, .unset, .unset, .unset, .unset, .unset] [(.int (3 : Int32)), (.long b), (.int (8 : Int32)), (.ref ba)])) _
    refine st1 _ ?_
    show Steps p.tables e below (T1.setTop (mkF m 155 #[.val (.long a), .second, .val (.long b), .second, .val (.int ln), .val (.int nn), .val (.ref ba), .unset, .unset, .unset, .unset, .unset, .unset, .unset, .unset, .unset, .unset] [(.int (own_byteOf b (3 : Int32))), (.int (8 : Int32)), (.ref ba)])) _
    refine st2 _ ?_
    show Steps p.tables e below (T2.setTop (mkF m 156 #[.val (.long a), .second, .val (.long b), .second, .val (.int ln), .val (.int nn), .val (.ref ba), .unset, .unset, .unset, .unset, .unset, .unset, .unset, .unset, .unset, .unset] [])) _
    exact kt
  · have kj : (8 : Int32).toInt = 8 := by decide
    have hjN : ¬ 8 < N := by rw [hN, Int32.lt_iff_toInt_lt, own_ofNat (by omega), kj] at c0; omega
    have em : min N (8 + 1) = min N 8 := by omega
    refine ⟨T0, h0, locs, X0, e0, N0, Keep.refl h0 [ba], own_St.refl, by rw [em]; exact V, fun target kt => ?_⟩
    show Steps p.tables e below (T0.setTop (mkF m 139 #[.val (.long a), .second, .val (.long b), .second, .val (.int ln), .val (.int nn), .val (.ref ba), .unset, .unset, .unset, .unset, .unset, .unset, .unset, .unset, .unset, .unset] [])) _
    refine XS.iload X0.here hx rfl (hb hby at_139) rfl ?_
    show Steps p.tables e below (T0.setTop (mkF m 141 #[.val (.long a), .second, .val (.long b), .second, .val (.int ln), .val (.int nn), .val (.ref ba), .unset, .unset, .unset, .unset, .unset, .unset, .unset, .unset, .unset, .unset] [(.int nn)])) _
    refine XS.bipush X0.here hx rfl (hb hby at_141) ?_
    show Steps p.tables e below (T0.setTop (mkF m 143 #[.val (.long a), .second, .val (.long b), .second, .val (.int ln), .val (.int nn), .val (.ref ba), .unset, .unset, .unset, .unset, .unset, .unset, .unset, .unset, .unset, .unset] [(.int (8 : Int32)), (.int nn)])) _
    refine XS.icmpYes X0.here hx rfl (pc0 := 143) (pc' := 156) rfl (hb hby at_143) rfl (flt c0).2.2.2 (by decide) (by decide) ?_
    show Steps p.tables e below (T0.setTop (mkF m 156 #[.val (.long a), .second, .val (.long b), .second, .val (.int ln), .val (.int nn), .val (.ref ba), .unset, .unset, .unset, .unset, .unset, .unset, .unset, .unset, .unset, .unset] [])) _
    exact kt

set_option maxRecDepth 65536 in
set_option maxHeartbeats 40000000 in
theorem own_put9 {p : Program} {l : Launch} {e : Env} {s : State} {m : MethodId} {args : Array Value} {below : List Frame} {meth : Method} {c : Code} {T0 : State} {locs : List Loc} {Z : State} {a0 : Array Value} {h0 : Heap} {n0 : Nat} (X0 : Stand p l e room_1 s m args below meth c T0 locs 1 10) (hx : p.tables.exec = Jvm.exec) (hZ : Z.Warmed39 s.vm) (hw : ∀ d ∈ tables_1, d.before a0 Z = true) (hby : c.code = code) (hml : c.maxLocals = 17) (hown : s.vm.findClass "com/example/harrier/harrier/warc/Base32EncodePinLaw" = some m.cls) (e0 : T0.heap = h0) (N0 : Fr n0 locs) (Z0 : n0 ≤ h0.size) {ba : Addr} {kB : ClassId} (a b : Int64) (ln nn : Int32) (N : Nat) (hN : nn = Int32.ofNat N) (hN10 : N ≤ 10) (gb : n0 ≤ ba) (V : Arv Z h0 ba kB .byte nn ((own_bytes a b (min N 9)).map Value.int) (.int (0 : Int32))) :
    ∃ (T' : State) (h' : Heap) (locs' : List Loc), Stand p l e room_1 s m args below meth c T' locs' 1 10 ∧ T'.heap = h' ∧ Fr n0 locs' ∧ Keep h0 h' [ba] ∧ own_St Z h0 h' ∧ Arv Z h' ba kB .byte nn ((own_bytes a b (min N (9 + 1))).map Value.int) (.int (0 : Int32)) ∧
      ∀ target, Steps p.tables e below (T'.setTop (mkF m 173 #[.val (.long a), .second, .val (.long b), .second, .val (.int ln), .val (.int nn), .val (.ref ba), .unset, .unset, .unset, .unset, .unset, .unset, .unset, .unset, .unset, .unset] [])) target → Steps p.tables e below (T0.setTop (mkF m 156 #[.val (.long a), .second, .val (.long b), .second, .val (.int ln), .val (.int nn), .val (.ref ba), .unset, .unset, .unset, .unset, .unset, .unset, .unset, .unset, .unset, .unset] [])) target := by
  rcases Classical.em ((9 : Int32) < nn) with c0 | c0
  · have kj : (9 : Int32).toInt = 9 := by decide
    have hjN : 9 < N := by rw [hN, Int32.lt_iff_toInt_lt, own_ofNat (by omega), kj] at c0; omega
    have em : min N 9 = 9 := by omega
    have em2 : min N (9 + 1) = 9 + 1 := by omega
    rw [em] at V
    have V0 := V
    obtain ⟨ca, Av, qv, Sv, Nv, Hv, Gv⟩ := V
    have hin := inb_of (j := (9 : Int32)) Sv ⟨by decide, c0⟩
    obtain ⟨_, _, ⟨T1, L1, k1, n1⟩, -, X1, ⟨Lc1, hQ1, l1, y1, z1⟩, st1⟩ := Jvm.LawKit.callS X0 hx (y := (⟨"com/example/harrier/harrier/warc/Base32EncodePinLaw", "byteOf", "(JI)B"⟩ : MethodName)) hown (mvT hZ (hw _ (List.mem_of_getElem? (i := 109) rfl))) (mvT hZ (hw _ (List.mem_of_getElem? (i := 110) rfl))) (mvT hZ (hw _ (List.mem_of_getElem? (i := 103) rfl))) (mvT hZ (hw _ (List.mem_of_getElem? (i := 111) rfl))) (by decide) (backOf (W := 2) (rmBy l Z a0 hw [] b (4 : Int32) h0 n0 Z0) hZ (hw _ (List.mem_of_getElem? (i := 111) rfl)) (hw _ (List.mem_of_getElem? (i := 103) rfl)) (by decide) (by decide)) (g := (mkF m 169 #[.val (.long a), .second, .val (.long b), .second, .val (.int ln), .val (.int nn), .val (.ref ba), .unset, .unset, .unset, .unset, .unset, .unset, .unset, .unset, .unset, .unset] [(.int (4 : Int32)), (.long b), (.int (9 : Int32)), (.ref ba)])) rfl (by rw [hml]; rfl) (argsL := [(.long b), (.int (4 : Int32))]) (rest := [(.int (9 : Int32)), (.ref ba)]) (lenOf pd_at__JI_B rfl) rfl (by show 2 * 0 + _ ≤ _; exact Nat.le_of_eq rfl) (hb hby at_169) (fun _ _ => ⟨rfl, e0, (by decide : 1 + 0 ≤ _), (by decide : 10 + 0 ≤ _)⟩)
    dsimp only [Pt.U, Pt.locs, Pt.cells, Pt.slots] at X1 l1 y1 z1 st1 hQ1
    subst l1 y1 z1
    obtain ⟨rfl, N1q, e1⟩ := hQ1
    have N1 := Fr.app N0 N1q
    obtain ⟨T2, h2, X2, e2, W2, st2⟩ := stB X1 hx hZ e1 Av (j := (9 : Int32)) hin (g := (mkF m 172 #[.val (.long a), .second, .val (.long b), .second, .val (.int ln), .val (.int nn), .val (.ref ba), .unset, .unset, .unset, .unset, .unset, .unset, .unset, .unset, .unset, .unset] [(.int (own_byteOf b (4 : Int32))), (.int (9 : Int32)), (.ref ba)])) rfl rfl (hb hby at_172)
    have V1 := own_snoc2 (xs := own_bytes a b 9) (x := own_byteOf b (4 : Int32)) (jx := (9 : Int32)) V0 (by rw [own_blen]; decide) (own_nb _) W2
    have M1 := Fr.snoc X2 N1 gb
    refine ⟨T2, h2, _, X2, e2, M1, (Keep.refl h0 [ba]).wr W2 (Or.inl (List.mem_of_getElem? (i := 0) rfl)), own_st_wr W2, by rw [em2]; exact V1, fun target kt => ?_⟩
    show Steps p.tables e below (T0.setTop (mkF m 156 #[.val (.long a), .second, .val (.long b), .second, .val (.int ln), .val (.int nn), .val (.ref ba), .unset, .unset, .unset, .unset, .unset, .unset, .unset, .unset, .unset, .unset] [])) _
    refine XS.iload X0.here hx rfl (hb hby at_156) rfl ?_
    show Steps p.tables e below (T0.setTop (mkF m 158 #[.val (.long a), .second, .val (.long b), .second, .val (.int ln), .val (.int nn), .val (.ref ba), .unset, .unset, .unset, .unset, .unset, .unset, .unset, .unset, .unset, .unset] [(.int nn)])) _
    refine XS.bipush X0.here hx rfl (hb hby at_158) ?_
    show Steps p.tables e below (T0.setTop (mkF m 160 #[.val (.long a), .second, .val (.long b), .second, .val (.int ln), .val (.int nn), .val (.ref ba), .unset, .unset, .unset, .unset, .unset, .unset, .unset, .unset, .unset, .unset] [(.int (9 : Int32)), (.int nn)])) _
    refine XS.icmpNo X0.here hx rfl (hb hby at_160) rfl (tlt c0).2.2.2 ?_
    show Steps p.tables e below (T0.setTop (mkF m 163 #[.val (.long a), .second, .val (.long b), .second, .val (.int ln), .val (.int nn), .val (.ref ba), .unset, .unset, .unset, .unset, .unset, .unset, .unset, .unset, .unset, .unset] [])) _
    refine XS.aload X0.here hx rfl (hb hby at_163) rfl rfl ?_
    show Steps p.tables e below (T0.setTop (mkF m 165 #[.val (.long a), .second, .val (.long b), .second, .val (.int ln), .val (.int nn), .val (.ref ba), .unset, .unset, .unset, .unset, .unset, .unset, .unset, .unset, .unset, .unset] [(.ref ba)])) _
    refine XS.bipush X0.here hx rfl (hb hby at_165) ?_
    show Steps p.tables e below (T0.setTop (mkF m 167 #[.val (.long a), .second, .val (.long b), .second, .val (.int ln), .val (.int nn), .val (.ref ba), .unset, .unset, .unset, .unset, .unset, .unset, .unset, .unset, .unset, .unset] [(.int (9 : Int32)), (.ref ba)])) _
    refine XS.lloadN X0.here hx rfl (hb hby at_167) rfl ?_
    show Steps p.tables e below (T0.setTop (mkF m 168 #[.val (.long a), .second, .val (.long b), .second, .val (.int ln), .val (.int nn), .val (.ref ba), .unset, .unset, .unset, .unset, .unset, .unset, .unset, .unset, .unset, .unset] [(.long b), (.int (9 : Int32)), (.ref ba)])) _
    refine XS.iconst X0.here hx rfl (hb hby at_168) ?_
    show Steps p.tables e below (T0.setTop (mkF m 169 #[.val (.long a), .second, .val (.long b), .second, .val (.int ln), .val (.int nn), .val (.ref ba), .unset, .unset, .unset, .unset, .unset, .unset, .unset, .unset, .unset, .unset] [(.int (4 : Int32)), (.long b), (.int (9 : Int32)), (.ref ba)])) _
    refine st1 _ ?_
    show Steps p.tables e below (T1.setTop (mkF m 172 #[.val (.long a), .second, .val (.long b), .second, .val (.int ln), .val (.int nn), .val (.ref ba), .unset, .unset, .unset, .unset, .unset, .unset, .unset, .unset, .unset, .unset] [(.int (own_byteOf b (4 : Int32))), (.int (9 : Int32)), (.ref ba)])) _
    refine st2 _ ?_
    show Steps p.tables e below (T2.setTop (mkF m 173 #[.val (.long a), .second, .val (.long b), .second, .val (.int ln), .val (.int nn), .val (.ref ba), .unset, .unset, .unset, .unset, .unset, .unset, .unset, .unset, .unset, .unset] [])) _
    exact kt
  · have kj : (9 : Int32).toInt = 9 := by decide
    have hjN : ¬ 9 < N := by rw [hN, Int32.lt_iff_toInt_lt, own_ofNat (by omega), kj] at c0; omega
    have em : min N (9 + 1) = min N 9 := by omega
    refine ⟨T0, h0, locs, X0, e0, N0, Keep.refl h0 [ba], own_St.refl, by rw [em]; exact V, fun target kt => ?_⟩
    show Steps p.tables e below (T0.setTop (mkF m 156 #[.val (.long a), .second, .val (.long b), .second, .val (.int ln), .val (.int nn), .val (.ref ba), .unset, .unset, .unset, .unset, .unset, .unset, .unset, .unset, .unset, .unset] [])) _
    refine XS.iload X0.here hx rfl (hb hby at_156) rfl ?_
    show Steps p.tables e below (T0.setTop (mkF m 158 #[.val (.long a), .second, .val (.long b), .second, .val (.int ln), .val (.int nn), .val (.ref ba), .unset, .unset, .unset, .unset, .unset, .unset, .unset, .unset, .unset, .unset] [(.int nn)])) _
    refine XS.bipush X0.here hx rfl (hb hby at_158) ?_
    show Steps p.tables e below (T0.setTop (mkF m 160 #[.val (.long a), .second, .val (.long b), .second, .val (.int ln), .val (.int nn), .val (.ref ba), .unset, .unset, .unset, .unset, .unset, .unset, .unset, .unset, .unset, .unset] [(.int (9 : Int32)), (.int nn)])) _
    refine XS.icmpYes X0.here hx rfl (pc0 := 160) (pc' := 173) rfl (hb hby at_160) rfl (flt c0).2.2.2 (by decide) (by decide) ?_
    show Steps p.tables e below (T0.setTop (mkF m 173 #[.val (.long a), .second, .val (.long b), .second, .val (.int ln), .val (.int nn), .val (.ref ba), .unset, .unset, .unset, .unset, .unset, .unset, .unset, .unset, .unset, .unset] [])) _
    exact kt

theorem ef_at_ (m : MethodId) (a : Int64) (b : Int64) (ln : Int32) : entryFrame m #[(.long a), (.long b), (.int ln)] maxLocals = mkF m 0 #[.val (.long a), .second, .val (.long b), .second, .val (.int ln), .unset, .unset, .unset, .unset, .unset, .unset, .unset, .unset, .unset, .unset, .unset, .unset] [] := by first | (simp [entryFrame, mkF, argsToLocals, Value.category, maxLocals]; done) | rfl
def Q_rm0 (Z : State) (a : Int64) (b : Int64) (ln : Int32) (cs0 : Int32) (fm : Value) (al : Addr) (kA : ClassId) (h0 : Heap) (n0 : Nat) (v : Option Value) (h : Heap) (L : List Loc) : Prop := v = some (.int (1 : Int32)) ∧ Fr n0 L
theorem pn_rm0 : plainName "com/example/harrier/harrier/warc/Base32EncodePinLaw" = true := by first | (simp [plainName, overriddenIn]; done) | decide +kernel
set_option maxRecDepth 65536 in
set_option maxHeartbeats 40000000 in
theorem rm0 (l : Launch) (Z : State) (a0 : Array Value) (hw : ∀ d ∈ tables_1, d.before a0 Z = true) (ws : List Jvm.Cond) (a : Int64) (b : Int64) (ln : Int32) (cs0 : Int32) (fm : Value) (al : Addr) (kA : ClassId) (h0 : Heap) (n0 : Nat) (Z0 : n0 ≤ h0.size) (S : Sta Z h0 "java/lang/String" "COMPACT_STRINGS" "Z" (.int cs0)) (hcs : ¬ cs0 = 0) (Sf : Sta Z h0 "jdk/internal/util/Preconditions" "SIOOBE_FORMATTER" "Ljava/util/function/BiFunction;" fm) (hfm : fm.isRef = true) (Sa : Sta Z h0 "com/example/harrier/harrier/warc/Base32" "ALPHABET" "[C" (.ref al)) (Va : Arv Z h0 al kA .char (32 : Int32) own_alv (.int (0 : Int32))) :
    MetFree l x (head1 (Jvm.Cond.code x code maxLocals ret :: ws) room_1) (fun aZ U => aZ = #[(.long a), (.long b), (.int ln)] ∧ Z.Warmed39 U.vm ∧ U.heap = h0) (fun _ _ _ _ _ => True) (fun _ U o U' => ∃ v L, o = .returned v ∧ Q_rm0 Z a b ln cs0  fm  al  kA  h0 n0 v U'.heap L ∧ FrameEnd U o U' L room_1.cells room_1.slots) := by
  refine MetFree.of_bodySF (plainFor_of_name pn_rm0) hisR ?_
  intro p e s m args below meth c s₁ Bd hml0 hP hK
  obtain ⟨rfl, hZ, hh⟩ := hP
  have hx := Bd.exec
  have hby := Bd.bytes
  have hml : c.maxLocals = 17 := hml0
  have hown : s.vm.findClass "com/example/harrier/harrier/warc/Base32EncodePinLaw" = some m.cls := findClass_of_methodNamed Bd.named
  have hnm := (name_of_methodNamed Bd.named Bd.method).1
  have X0 : Stand p l e room_1 s m #[(.long a), (.long b), (.int ln)] below meth c s₁ [] 0 0 := Stand.of_body Bd
  have e0 : s₁.heap = h0 := by rw [← hh, Bd.state]; rfl
  have N0 := Fr.nil n0
  have pre0 : ∀ tZ, Steps p.tables e below (s₁.setTop (mkF m 0 #[.val (.long a), .second, .val (.long b), .second, .val (.int ln), .unset, .unset, .unset, .unset, .unset, .unset, .unset, .unset, .unset, .unset, .unset, .unset] [])) tZ → Steps p.tables e below (s₁.setTop (entryFrame m #[(.long a), (.long b), (.int ln)] maxLocals)) tZ := fun tZ kZ => castTop (ef_at_ m a b ln) kZ
  obtain ⟨nn, h_nn⟩ : ∃ z : Int32, z = ((ln &&& (2147483647 : Int32)) % (11 : Int32)) := ⟨_, rfl⟩
  have hr11 : 0 ≤ nn.toInt ∧ nn.toInt ≤ 10 := by rw [h_nn]; exact own_n11 ln
  have k0 : (0 : Int32).toInt = 0 := by decide
  have hnneg : ¬ nn < 0 := by rw [Int32.lt_iff_toInt_lt, k0]; omega
  obtain ⟨N, hNd⟩ : ∃ q, q = nn.toNatClampNeg := ⟨_, rfl⟩
  have hNi : nn.toInt = (N : Int) := by rw [hNd]; exact nat_of hnneg
  have hN10 : N ≤ 10 := by omega
  have hN : nn = Int32.ofNat N := by
    apply Int32.toInt_inj.mp
    rw [own_ofNat (by omega)]; exact hNi
  obtain ⟨T1, h1, k1, X1, e1, E1, A1, st1⟩ := newP X0 hx hZ (hw _ (List.mem_of_getElem? (i := 1) rfl)) e0 (g := (mkF m 12 #[.val (.long a), .second, .val (.long b), .second, .val (.int ln), .val (.int nn), .unset, .unset, .unset, .unset, .unset, .unset, .unset, .unset, .unset, .unset, .unset] [(.int nn)])) rfl (hb hby at_12) rfl hnneg (cap := 10) (by rw [← hNd]; exact hN10) (by decide) (by decide) (by decide)
  obtain ⟨b1, g1⟩ : ∃ z, z = h0.size := ⟨_, rfl⟩
  rw [← g1] at A1 st1
  have V1 := Arv.new A1 hnneg
  have gb : n0 ≤ b1 := Nat.le_trans Z0 (Nat.le_of_eq g1.symm)
  have V0 : Arv Z h1 b1 k1 .byte nn ((own_bytes a b (min N 0)).map Value.int) (.int (0 : Int32)) := by rw [Nat.min_zero]; exact V1
  have Zp0 : n0 ≤ h1.size := Nat.le_trans Z0 E1.1
  have Kp0 := Keep.refl h1 [b1]
  have Sp0 : own_St Z h1 h1 := own_St.refl
  obtain ⟨Tp0, hp0, lp0, Xp0, ep0, Np0, Kq0, Sq0, Vp0, sp0⟩ := own_put0 (show Stand p l e room_1 s m #[(.long a), (.long b), (.int ln)] below meth c T1 _ 1 10 from X1) hx hZ hw hby hml hown e1 N0 Zp0 a b ln nn N hN hN10 gb V0
  have Kp1 := Kp0.trans Kq0 (fun _ q => Or.inl q)
  have Sp1 := own_St.trans Sp0 Sq0
  have Zp1 : n0 ≤ hp0.size := Nat.le_trans Zp0 Kq0.1
  obtain ⟨Tp1, hp1, lp1, Xp1, ep1, Np1, Kq1, Sq1, Vp1, sp1⟩ := own_put1 Xp0 hx hZ hw hby hml hown ep0 Np0 Zp1 a b ln nn N hN hN10 gb Vp0
  have Kp2 := Kp1.trans Kq1 (fun _ q => Or.inl q)
  have Sp2 := own_St.trans Sp1 Sq1
  have Zp2 : n0 ≤ hp1.size := Nat.le_trans Zp1 Kq1.1
  obtain ⟨Tp2, hp2, lp2, Xp2, ep2, Np2, Kq2, Sq2, Vp2, sp2⟩ := own_put2 Xp1 hx hZ hw hby hml hown ep1 Np1 Zp2 a b ln nn N hN hN10 gb Vp1
  have Kp3 := Kp2.trans Kq2 (fun _ q => Or.inl q)
  have Sp3 := own_St.trans Sp2 Sq2
  have Zp3 : n0 ≤ hp2.size := Nat.le_trans Zp2 Kq2.1
  obtain ⟨Tp3, hp3, lp3, Xp3, ep3, Np3, Kq3, Sq3, Vp3, sp3⟩ := own_put3 Xp2 hx hZ hw hby hml hown ep2 Np2 Zp3 a b ln nn N hN hN10 gb Vp2
  have Kp4 := Kp3.trans Kq3 (fun _ q => Or.inl q)
  have Sp4 := own_St.trans Sp3 Sq3
  have Zp4 : n0 ≤ hp3.size := Nat.le_trans Zp3 Kq3.1
  obtain ⟨Tp4, hp4, lp4, Xp4, ep4, Np4, Kq4, Sq4, Vp4, sp4⟩ := own_put4 Xp3 hx hZ hw hby hml hown ep3 Np3 Zp4 a b ln nn N hN hN10 gb Vp3
  have Kp5 := Kp4.trans Kq4 (fun _ q => Or.inl q)
  have Sp5 := own_St.trans Sp4 Sq4
  have Zp5 : n0 ≤ hp4.size := Nat.le_trans Zp4 Kq4.1
  obtain ⟨Tp5, hp5, lp5, Xp5, ep5, Np5, Kq5, Sq5, Vp5, sp5⟩ := own_put5 Xp4 hx hZ hw hby hml hown ep4 Np4 Zp5 a b ln nn N hN hN10 gb Vp4
  have Kp6 := Kp5.trans Kq5 (fun _ q => Or.inl q)
  have Sp6 := own_St.trans Sp5 Sq5
  have Zp6 : n0 ≤ hp5.size := Nat.le_trans Zp5 Kq5.1
  obtain ⟨Tp6, hp6, lp6, Xp6, ep6, Np6, Kq6, Sq6, Vp6, sp6⟩ := own_put6 Xp5 hx hZ hw hby hml hown ep5 Np5 Zp6 a b ln nn N hN hN10 gb Vp5
  have Kp7 := Kp6.trans Kq6 (fun _ q => Or.inl q)
  have Sp7 := own_St.trans Sp6 Sq6
  have Zp7 : n0 ≤ hp6.size := Nat.le_trans Zp6 Kq6.1
  obtain ⟨Tp7, hp7, lp7, Xp7, ep7, Np7, Kq7, Sq7, Vp7, sp7⟩ := own_put7 Xp6 hx hZ hw hby hml hown ep6 Np6 Zp7 a b ln nn N hN hN10 gb Vp6
  have Kp8 := Kp7.trans Kq7 (fun _ q => Or.inl q)
  have Sp8 := own_St.trans Sp7 Sq7
  have Zp8 : n0 ≤ hp7.size := Nat.le_trans Zp7 Kq7.1
  obtain ⟨Tp8, hp8, lp8, Xp8, ep8, Np8, Kq8, Sq8, Vp8, sp8⟩ := own_put8 Xp7 hx hZ hw hby hml hown ep7 Np7 Zp8 a b ln nn N hN hN10 gb Vp7
  have Kp9 := Kp8.trans Kq8 (fun _ q => Or.inl q)
  have Sp9 := own_St.trans Sp8 Sq8
  have Zp9 : n0 ≤ hp8.size := Nat.le_trans Zp8 Kq8.1
  obtain ⟨Tp9, hp9, lp9, Xp9, ep9, Np9, Kq9, Sq9, Vp9, sp9⟩ := own_put9 Xp8 hx hZ hw hby hml hown ep8 Np8 Zp9 a b ln nn N hN hN10 gb Vp8
  have Kp10 := Kp9.trans Kq9 (fun _ q => Or.inl q)
  have Sp10 := own_St.trans Sp9 Sq9
  have Zp10 : n0 ≤ hp9.size := Nat.le_trans Zp9 Kq9.1
  have emN : min N (9 + 1) = N := by omega
  rw [emN] at Vp9
  have nal : al ≠ b1 := Nat.ne_of_lt (Nat.lt_of_lt_of_le Va.lt (Nat.le_of_eq g1.symm))
  have Cx : own_C Z hp9 cs0 al kA b1 k1 nn (own_bytes a b N) := ⟨Sp10 _ _ _ _ (S.ext E1), Sp10 _ _ _ _ (Sa.ext E1), (Va.ext E1).keep Kp10 (ninS nal nin0), Vp9⟩
  have hbl := own_blen a b N
  obtain ⟨_, _, ⟨T101, L101, k101, n101⟩, -, X101, ⟨Lc101, hQ101, l101, y101, z101⟩, st101⟩ := Jvm.LawKit.callS Xp9 hx (y := (⟨"com/example/harrier/harrier/warc/Base32", "encode", "([B)Ljava/lang/String;"⟩ : MethodName)) hown (mvT hZ (hw _ (List.mem_of_getElem? (i := 2) rfl))) (mvT hZ (hw _ (List.mem_of_getElem? (i := 3) rfl))) (mvT hZ (hw _ (List.mem_of_getElem? (i := 4) rfl))) (mvT hZ (hw _ (List.mem_of_getElem? (i := 5) rfl))) (by decide) (backOf (W := 0) (rmEnc l Z a0 hw [] b1 cs0 al kA k1 nn (own_bytes a b N) hp9 n0 Zp10 hcs Cx (by rw [hbl]; exact hN) (by rw [hbl]; exact hN10)) hZ (hw _ (List.mem_of_getElem? (i := 5) rfl)) (hw _ (List.mem_of_getElem? (i := 4) rfl)) (by decide) (by decide)) (g := (mkF m 175 #[.val (.long a), .second, .val (.long b), .second, .val (.int ln), .val (.int nn), .val (.ref b1), .unset, .unset, .unset, .unset, .unset, .unset, .unset, .unset, .unset, .unset] [(.ref b1)])) rfl (by rw [hml]; rfl) (argsL := [(.ref b1)]) (rest := []) (lenOf pd_at___B_Ljava_lang_String_ rfl) rfl (by show 2 * 0 + _ ≤ _; exact Nat.le_of_eq rfl) (hb hby at_175) (fun _ _ => ⟨rfl, ep9, (by decide : 1 + 4 ≤ _), (by decide : 10 + 40 ≤ _)⟩)
  dsimp only [Pt.U, Pt.locs, Pt.cells, Pt.slots] at X101 l101 y101 z101 st101 hQ101
  subst l101 y101 z101
  obtain ⟨sq, rfl, N101q, K101, St101, arS, kbS, Qs⟩ := hQ101
  have N101 := Fr.app Np9 N101q
  rw [hbl] at Qs
  have Sx : Sta Z T101.heap "java/lang/String" "COMPACT_STRINGS" "Z" (.int cs0) := St101 _ _ _ _ Cx.1
  have Sfx : Sta Z T101.heap "jdk/internal/util/Preconditions" "SIOOBE_FORMATTER" "Ljava/util/function/BiFunction;" fm := St101 _ _ _ _ (Sp10 _ _ _ _ (Sf.ext E1))
  have Zk : n0 ≤ T101.heap.size := Nat.le_trans Zp10 K101.1
  have hz8 : (Int32.ofNat (own_cap N)) = (8 : Int32) * ((nn + (4 : Int32)) / (5 : Int32)) := by rw [hN]; exact own_cap8 ⟨N, by omega⟩
  obtain ⟨hq0, ehq0⟩ : ∃ q, q = T101.heap := ⟨_, rfl⟩
  rw [← ehq0] at Qs Sx Sfx Zk
  obtain ⟨cq102, kq102, q102a, q102b, q102c⟩ := isOf hZ ehq0.symm Qs.1
  obtain ⟨_, _, ⟨T102, L102, k102, n102⟩, -, X102, ⟨Lc102, hQ102, l102, y102, z102⟩, st102⟩ := X101.virtualBack hx (y := (⟨"java/lang/String", "length", "()I"⟩ : MethodName)) (z := (⟨"java/lang/String", "length", "()I"⟩ : MethodName)) hown (mvT hZ (hw _ (List.mem_of_getElem? (i := 83) rfl))) (mvT hZ (hw _ (List.mem_of_getElem? (i := 84) rfl))) (notFace_of_selects (args := #[]) (mvT hZ (hw _ (List.mem_of_getElem? (i := 86) rfl)))) (mvT hZ (hw _ (List.mem_of_getElem? (i := 86) rfl))) (mvT hZ (hw _ (List.mem_of_getElem? (i := 85) rfl))) (by decide) (backOf (W := 0) (rmLe l Z a0 hw [] sq cs0 arS kbS (Int32.ofNat (own_cap N)) (own_enc (own_bytes a b N)) hq0 n0 Zk Sx hcs Qs) hZ (hw _ (List.mem_of_getElem? (i := 87) rfl)) (hw _ (List.mem_of_getElem? (i := 22) rfl)) (by decide) (by decide)) q102a q102c (g := (mkF m 190 #[.val (.long a), .second, .val (.long b), .second, .val (.int ln), .val (.int nn), .val (.ref b1), .val (.ref sq), .val (.int ((nn + (4 : Int32)) / (5 : Int32))), .unset, .unset, .unset, .unset, .unset, .unset, .unset, .unset] [(.ref sq)])) rfl (by rw [hml]; rfl) (Steps.refl _) (argsL := []) (rest := []) (lenOf pd_at___I rfl) rfl (by show 2 * 0 + _ ≤ _; exact Nat.le_of_eq rfl) (hb hby at_190) (fun _ _ => ⟨rfl, ehq0.symm, (by decide : 5 + 0 ≤ _), (by decide : 50 + 0 ≤ _)⟩)
  dsimp only [Pt.U, Pt.locs, Pt.cells, Pt.slots] at X102 l102 y102 z102 st102 hQ102
  subst l102 y102 z102
  obtain ⟨rfl, N102q, e102⟩ := hQ102
  have N102 := Fr.app N101 N102q
  obtain ⟨_, _, ⟨T103, L103, k103, n103⟩, -, X103, ⟨Lc103, hQ103, l103, y103, z103⟩, st103⟩ := Jvm.LawKit.callS X102 hx (y := (⟨"java/lang/Math", "min", "(II)I"⟩ : MethodName)) hown (mvT hZ (hw _ (List.mem_of_getElem? (i := 94) rfl))) (mvT hZ (hw _ (List.mem_of_getElem? (i := 95) rfl))) (mvT hZ (hw _ (List.mem_of_getElem? (i := 96) rfl))) (mvT hZ (hw _ (List.mem_of_getElem? (i := 97) rfl))) (by decide) (backOf (W := 0) (rm_min l Z a0 hw [] (5 : Int32) nn hq0 n0 Zk) hZ (hw _ (List.mem_of_getElem? (i := 97) rfl)) (hw _ (List.mem_of_getElem? (i := 96) rfl)) (by decide) (by decide)) (g := (mkF m 206 #[.val (.long a), .second, .val (.long b), .second, .val (.int ln), .val (.int nn), .val (.ref b1), .val (.ref sq), .val (.int ((nn + (4 : Int32)) / (5 : Int32))), .unset, .unset, .unset, .unset, .unset, .unset, .unset, .unset] [(.int nn), (.int (5 : Int32))])) rfl (by rw [hml]; rfl) (argsL := [(.int (5 : Int32)), (.int nn)]) (rest := []) (lenOf pd_at__II_I rfl) rfl (by show 2 * 0 + _ ≤ _; exact Nat.le_of_eq rfl) (hb hby at_206) (fun _ _ => ⟨rfl, e102, (by decide : 5 + 0 ≤ _), (by decide : 50 + 0 ≤ _)⟩)
  dsimp only [Pt.U, Pt.locs, Pt.cells, Pt.slots] at X103 l103 y103 z103 st103 hQ103
  subst l103 y103 z103
  obtain ⟨rfl, N103q, e103⟩ := hQ103
  have N103 := Fr.app N102 N103q
  obtain ⟨ka, h_ka⟩ : ∃ z : Int32, z = (if nn < (5 : Int32) then nn else (5 : Int32)) := ⟨_, rfl⟩
  obtain ⟨_, _, ⟨T104, L104, k104, n104⟩, -, X104, ⟨Lc104, hQ104, l104, y104, z104⟩, st104⟩ := Jvm.LawKit.callS X103 hx (y := (⟨"java/lang/Math", "max", "(II)I"⟩ : MethodName)) hown (mvT hZ (hw _ (List.mem_of_getElem? (i := 98) rfl))) (mvT hZ (hw _ (List.mem_of_getElem? (i := 99) rfl))) (mvT hZ (hw _ (List.mem_of_getElem? (i := 96) rfl))) (mvT hZ (hw _ (List.mem_of_getElem? (i := 100) rfl))) (by decide) (backOf (W := 0) (rm_max l Z a0 hw [] (0 : Int32) (nn - (5 : Int32)) hq0 n0 Zk) hZ (hw _ (List.mem_of_getElem? (i := 100) rfl)) (hw _ (List.mem_of_getElem? (i := 96) rfl)) (by decide) (by decide)) (g := (mkF m 216 #[.val (.long a), .second, .val (.long b), .second, .val (.int ln), .val (.int nn), .val (.ref b1), .val (.ref sq), .val (.int ((nn + (4 : Int32)) / (5 : Int32))), .val (.int ka), .unset, .unset, .unset, .unset, .unset, .unset, .unset] [(.int (nn - (5 : Int32))), (.int (0 : Int32))])) rfl (by rw [hml]; rfl) (argsL := [(.int (0 : Int32)), (.int (nn - (5 : Int32)))]) (rest := []) (lenOf pd_at__II_I rfl) rfl (by show 2 * 0 + _ ≤ _; exact Nat.le_of_eq rfl) (hb hby at_216) (fun _ _ => ⟨rfl, e103, (by decide : 5 + 0 ≤ _), (by decide : 50 + 0 ≤ _)⟩)
  dsimp only [Pt.U, Pt.locs, Pt.cells, Pt.slots] at X104 l104 y104 z104 st104 hQ104
  subst l104 y104 z104
  obtain ⟨rfl, N104q, e104⟩ := hQ104
  have N104 := Fr.app N103 N104q
  obtain ⟨kc, h_kc⟩ : ∃ z : Int32, z = (if (0 : Int32) < (nn - (5 : Int32)) then (nn - (5 : Int32)) else (0 : Int32)) := ⟨_, rfl⟩
  have hka : ka = own_k0 N := by rw [h_ka, hN]; rfl
  have hkc : kc = own_k1 N := by rw [h_kc, hN]; rfl
  obtain ⟨_, _, ⟨T105, L105, k105, n105⟩, -, X105, ⟨Lc105, hQ105, l105, y105, z105⟩, st105⟩ := Jvm.LawKit.callS X104 hx (y := (⟨"com/example/harrier/harrier/warc/Base32EncodePinLaw", "keep", "(JI)J"⟩ : MethodName)) hown (mvT hZ (hw _ (List.mem_of_getElem? (i := 101) rfl))) (mvT hZ (hw _ (List.mem_of_getElem? (i := 102) rfl))) (mvT hZ (hw _ (List.mem_of_getElem? (i := 103) rfl))) (mvT hZ (hw _ (List.mem_of_getElem? (i := 104) rfl))) (by decide) (backOf (W := 0) (rmKe l Z a0 hw [] a ka hq0 n0 Zk) hZ (hw _ (List.mem_of_getElem? (i := 104) rfl)) (hw _ (List.mem_of_getElem? (i := 103) rfl)) (by decide) (by decide)) (g := (mkF m 224 #[.val (.long a), .second, .val (.long b), .second, .val (.int ln), .val (.int nn), .val (.ref b1), .val (.ref sq), .val (.int ((nn + (4 : Int32)) / (5 : Int32))), .val (.int ka), .val (.int kc), .unset, .unset, .unset, .unset, .unset, .unset] [(.int ka), (.long a)])) rfl (by rw [hml]; rfl) (argsL := [(.long a), (.int ka)]) (rest := []) (lenOf pd_at__JI_J rfl) rfl (by show 2 * 0 + _ ≤ _; exact Nat.le_of_eq rfl) (hb hby at_224) (fun _ _ => ⟨rfl, e104, (by decide : 5 + 0 ≤ _), (by decide : 50 + 0 ≤ _)⟩)
  dsimp only [Pt.U, Pt.locs, Pt.cells, Pt.slots] at X105 l105 y105 z105 st105 hQ105
  subst l105 y105 z105
  obtain ⟨rfl, N105q, e105⟩ := hQ105
  have N105 := Fr.app N104 N105q
  obtain ⟨va, h_va⟩ : ∃ z : Int64, z = (own_keep a ka) := ⟨_, rfl⟩
  obtain ⟨_, _, ⟨T106, L106, k106, n106⟩, -, X106, ⟨Lc106, hQ106, l106, y106, z106⟩, st106⟩ := Jvm.LawKit.callS X105 hx (y := (⟨"com/example/harrier/harrier/warc/Base32EncodePinLaw", "keep", "(JI)J"⟩ : MethodName)) hown (mvT hZ (hw _ (List.mem_of_getElem? (i := 101) rfl))) (mvT hZ (hw _ (List.mem_of_getElem? (i := 102) rfl))) (mvT hZ (hw _ (List.mem_of_getElem? (i := 103) rfl))) (mvT hZ (hw _ (List.mem_of_getElem? (i := 104) rfl))) (by decide) (backOf (W := 0) (rmKe l Z a0 hw [] b kc hq0 n0 Zk) hZ (hw _ (List.mem_of_getElem? (i := 104) rfl)) (hw _ (List.mem_of_getElem? (i := 103) rfl)) (by decide) (by decide)) (g := (mkF m 232 #[.val (.long a), .second, .val (.long b), .second, .val (.int ln), .val (.int nn), .val (.ref b1), .val (.ref sq), .val (.int ((nn + (4 : Int32)) / (5 : Int32))), .val (.int ka), .val (.int kc), .val (.long va), .second, .unset, .unset, .unset, .unset] [(.int kc), (.long b)])) rfl (by rw [hml]; rfl) (argsL := [(.long b), (.int kc)]) (rest := []) (lenOf pd_at__JI_J rfl) rfl (by show 2 * 0 + _ ≤ _; exact Nat.le_of_eq rfl) (hb hby at_232) (fun _ _ => ⟨rfl, e105, (by decide : 5 + 0 ≤ _), (by decide : 50 + 0 ≤ _)⟩)
  dsimp only [Pt.U, Pt.locs, Pt.cells, Pt.slots] at X106 l106 y106 z106 st106 hQ106
  subst l106 y106 z106
  obtain ⟨rfl, N106q, e106⟩ := hQ106
  have N106 := Fr.app N105 N106q
  obtain ⟨vc, h_vc⟩ : ∃ z : Int64, z = (own_keep b kc) := ⟨_, rfl⟩
  have hg0 : (0 : Int32) < (Int32.ofNat (own_cap N)) → (¬ (0 : Int32) < 0 ∧ (0 : Int32) < (Int32.ofNat (own_cap N))) ∧ ((own_enc (own_bytes a b N)).map Value.int).getD ((0 : Int32)).toNatClampNeg (.int (0 : Int32)) = .int (own_ex (0 : Int32) va ka) := fun h => by rw [h_va, hka]; exact own_h_0 a b N hN10 h
  obtain ⟨_, _, ⟨T107, L107, k107, n107⟩, -, X107, ⟨Lc107, hQ107, l107, y107, z107⟩, st107⟩ := Jvm.LawKit.callS X106 hx (y := (⟨"com/example/harrier/harrier/warc/Base32EncodePinLaw", "at", "(Ljava/lang/String;IJI)Z"⟩ : MethodName)) hown (mvT hZ (hw _ (List.mem_of_getElem? (i := 106) rfl))) (mvT hZ (hw _ (List.mem_of_getElem? (i := 107) rfl))) (mvT hZ (hw _ (List.mem_of_getElem? (i := 103) rfl))) (mvT hZ (hw _ (List.mem_of_getElem? (i := 108) rfl))) (by decide) (backOf (W := 0) (rmAt l Z a0 hw [] sq (0 : Int32) va ka fm cs0 arS kbS (Int32.ofNat (own_cap N)) (own_enc (own_bytes a b N)) hq0 n0 Zk Sx hcs Sfx hfm Qs hg0) hZ (hw _ (List.mem_of_getElem? (i := 108) rfl)) (hw _ (List.mem_of_getElem? (i := 103) rfl)) (by decide) (by decide)) (g := (mkF m 244 #[.val (.long a), .second, .val (.long b), .second, .val (.int ln), .val (.int nn), .val (.ref b1), .val (.ref sq), .val (.int ((nn + (4 : Int32)) / (5 : Int32))), .val (.int ka), .val (.int kc), .val (.long va), .second, .val (.long vc), .second, .unset, .unset] [(.int ka), (.long va), (.int (0 : Int32)), (.ref sq)])) rfl (by rw [hml]; rfl) (argsL := [(.ref sq), (.int (0 : Int32)), (.long va), (.int ka)]) (rest := []) (lenOf pd_at__Ljava_lang_String_IJI_Z rfl) rfl (by show 2 * 0 + _ ≤ _; exact Nat.le_of_eq rfl) (hb hby at_244) (fun _ _ => ⟨rfl, e106, (by decide : 5 + 0 ≤ _), (by decide : 50 + 0 ≤ _)⟩)
  dsimp only [Pt.U, Pt.locs, Pt.cells, Pt.slots] at X107 l107 y107 z107 st107 hQ107
  subst l107 y107 z107
  obtain ⟨rfl, N107q, e107⟩ := hQ107
  have N107 := Fr.app N106 N107q
  have hg1 : (1 : Int32) < (Int32.ofNat (own_cap N)) → (¬ (1 : Int32) < 0 ∧ (1 : Int32) < (Int32.ofNat (own_cap N))) ∧ ((own_enc (own_bytes a b N)).map Value.int).getD ((1 : Int32)).toNatClampNeg (.int (0 : Int32)) = .int (own_ex (1 : Int32) va ka) := fun h => by rw [h_va, hka]; exact own_h_1 a b N hN10 h
  obtain ⟨_, _, ⟨T108, L108, k108, n108⟩, -, X108, ⟨Lc108, hQ108, l108, y108, z108⟩, st108⟩ := Jvm.LawKit.callS X107 hx (y := (⟨"com/example/harrier/harrier/warc/Base32EncodePinLaw", "at", "(Ljava/lang/String;IJI)Z"⟩ : MethodName)) hown (mvT hZ (hw _ (List.mem_of_getElem? (i := 106) rfl))) (mvT hZ (hw _ (List.mem_of_getElem? (i := 107) rfl))) (mvT hZ (hw _ (List.mem_of_getElem? (i := 103) rfl))) (mvT hZ (hw _ (List.mem_of_getElem? (i := 108) rfl))) (by decide) (backOf (W := 0) (rmAt l Z a0 hw [] sq (1 : Int32) va ka fm cs0 arS kbS (Int32.ofNat (own_cap N)) (own_enc (own_bytes a b N)) hq0 n0 Zk Sx hcs Sfx hfm Qs hg1) hZ (hw _ (List.mem_of_getElem? (i := 108) rfl)) (hw _ (List.mem_of_getElem? (i := 103) rfl)) (by decide) (by decide)) (g := (mkF m 257 #[.val (.long a), .second, .val (.long b), .second, .val (.int ln), .val (.int nn), .val (.ref b1), .val (.ref sq), .val (.int ((nn + (4 : Int32)) / (5 : Int32))), .val (.int ka), .val (.int kc), .val (.long va), .second, .val (.long vc), .second, .unset, .unset] [(.int ka), (.long va), (.int (1 : Int32)), (.ref sq)])) rfl (by rw [hml]; rfl) (argsL := [(.ref sq), (.int (1 : Int32)), (.long va), (.int ka)]) (rest := []) (lenOf pd_at__Ljava_lang_String_IJI_Z rfl) rfl (by show 2 * 0 + _ ≤ _; exact Nat.le_of_eq rfl) (hb hby at_257) (fun _ _ => ⟨rfl, e107, (by decide : 5 + 0 ≤ _), (by decide : 50 + 0 ≤ _)⟩)
  dsimp only [Pt.U, Pt.locs, Pt.cells, Pt.slots] at X108 l108 y108 z108 st108 hQ108
  subst l108 y108 z108
  obtain ⟨rfl, N108q, e108⟩ := hQ108
  have N108 := Fr.app N107 N108q
  have hg2 : (2 : Int32) < (Int32.ofNat (own_cap N)) → (¬ (2 : Int32) < 0 ∧ (2 : Int32) < (Int32.ofNat (own_cap N))) ∧ ((own_enc (own_bytes a b N)).map Value.int).getD ((2 : Int32)).toNatClampNeg (.int (0 : Int32)) = .int (own_ex (2 : Int32) va ka) := fun h => by rw [h_va, hka]; exact own_h_2 a b N hN10 h
  obtain ⟨_, _, ⟨T109, L109, k109, n109⟩, -, X109, ⟨Lc109, hQ109, l109, y109, z109⟩, st109⟩ := Jvm.LawKit.callS X108 hx (y := (⟨"com/example/harrier/harrier/warc/Base32EncodePinLaw", "at", "(Ljava/lang/String;IJI)Z"⟩ : MethodName)) hown (mvT hZ (hw _ (List.mem_of_getElem? (i := 106) rfl))) (mvT hZ (hw _ (List.mem_of_getElem? (i := 107) rfl))) (mvT hZ (hw _ (List.mem_of_getElem? (i := 103) rfl))) (mvT hZ (hw _ (List.mem_of_getElem? (i := 108) rfl))) (by decide) (backOf (W := 0) (rmAt l Z a0 hw [] sq (2 : Int32) va ka fm cs0 arS kbS (Int32.ofNat (own_cap N)) (own_enc (own_bytes a b N)) hq0 n0 Zk Sx hcs Sfx hfm Qs hg2) hZ (hw _ (List.mem_of_getElem? (i := 108) rfl)) (hw _ (List.mem_of_getElem? (i := 103) rfl)) (by decide) (by decide)) (g := (mkF m 270 #[.val (.long a), .second, .val (.long b), .second, .val (.int ln), .val (.int nn), .val (.ref b1), .val (.ref sq), .val (.int ((nn + (4 : Int32)) / (5 : Int32))), .val (.int ka), .val (.int kc), .val (.long va), .second, .val (.long vc), .second, .unset, .unset] [(.int ka), (.long va), (.int (2 : Int32)), (.ref sq)])) rfl (by rw [hml]; rfl) (argsL := [(.ref sq), (.int (2 : Int32)), (.long va), (.int ka)]) (rest := []) (lenOf pd_at__Ljava_lang_String_IJI_Z rfl) rfl (by show 2 * 0 + _ ≤ _; exact Nat.le_of_eq rfl) (hb hby at_270) (fun _ _ => ⟨rfl, e108, (by decide : 5 + 0 ≤ _), (by decide : 50 + 0 ≤ _)⟩)
  dsimp only [Pt.U, Pt.locs, Pt.cells, Pt.slots] at X109 l109 y109 z109 st109 hQ109
  subst l109 y109 z109
  obtain ⟨rfl, N109q, e109⟩ := hQ109
  have N109 := Fr.app N108 N109q
  have hg3 : (3 : Int32) < (Int32.ofNat (own_cap N)) → (¬ (3 : Int32) < 0 ∧ (3 : Int32) < (Int32.ofNat (own_cap N))) ∧ ((own_enc (own_bytes a b N)).map Value.int).getD ((3 : Int32)).toNatClampNeg (.int (0 : Int32)) = .int (own_ex (3 : Int32) va ka) := fun h => by rw [h_va, hka]; exact own_h_3 a b N hN10 h
  obtain ⟨_, _, ⟨T110, L110, k110, n110⟩, -, X110, ⟨Lc110, hQ110, l110, y110, z110⟩, st110⟩ := Jvm.LawKit.callS X109 hx (y := (⟨"com/example/harrier/harrier/warc/Base32EncodePinLaw", "at", "(Ljava/lang/String;IJI)Z"⟩ : MethodName)) hown (mvT hZ (hw _ (List.mem_of_getElem? (i := 106) rfl))) (mvT hZ (hw _ (List.mem_of_getElem? (i := 107) rfl))) (mvT hZ (hw _ (List.mem_of_getElem? (i := 103) rfl))) (mvT hZ (hw _ (List.mem_of_getElem? (i := 108) rfl))) (by decide) (backOf (W := 0) (rmAt l Z a0 hw [] sq (3 : Int32) va ka fm cs0 arS kbS (Int32.ofNat (own_cap N)) (own_enc (own_bytes a b N)) hq0 n0 Zk Sx hcs Sfx hfm Qs hg3) hZ (hw _ (List.mem_of_getElem? (i := 108) rfl)) (hw _ (List.mem_of_getElem? (i := 103) rfl)) (by decide) (by decide)) (g := (mkF m 283 #[.val (.long a), .second, .val (.long b), .second, .val (.int ln), .val (.int nn), .val (.ref b1), .val (.ref sq), .val (.int ((nn + (4 : Int32)) / (5 : Int32))), .val (.int ka), .val (.int kc), .val (.long va), .second, .val (.long vc), .second, .unset, .unset] [(.int ka), (.long va), (.int (3 : Int32)), (.ref sq)])) rfl (by rw [hml]; rfl) (argsL := [(.ref sq), (.int (3 : Int32)), (.long va), (.int ka)]) (rest := []) (lenOf pd_at__Ljava_lang_String_IJI_Z rfl) rfl (by show 2 * 0 + _ ≤ _; exact Nat.le_of_eq rfl) (hb hby at_283) (fun _ _ => ⟨rfl, e109, (by decide : 5 + 0 ≤ _), (by decide : 50 + 0 ≤ _)⟩)
  dsimp only [Pt.U, Pt.locs, Pt.cells, Pt.slots] at X110 l110 y110 z110 st110 hQ110
  subst l110 y110 z110
  obtain ⟨rfl, N110q, e110⟩ := hQ110
  have N110 := Fr.app N109 N110q
  have hg4 : (4 : Int32) < (Int32.ofNat (own_cap N)) → (¬ (4 : Int32) < 0 ∧ (4 : Int32) < (Int32.ofNat (own_cap N))) ∧ ((own_enc (own_bytes a b N)).map Value.int).getD ((4 : Int32)).toNatClampNeg (.int (0 : Int32)) = .int (own_ex (4 : Int32) va ka) := fun h => by rw [h_va, hka]; exact own_h_4 a b N hN10 h
  obtain ⟨_, _, ⟨T111, L111, k111, n111⟩, -, X111, ⟨Lc111, hQ111, l111, y111, z111⟩, st111⟩ := Jvm.LawKit.callS X110 hx (y := (⟨"com/example/harrier/harrier/warc/Base32EncodePinLaw", "at", "(Ljava/lang/String;IJI)Z"⟩ : MethodName)) hown (mvT hZ (hw _ (List.mem_of_getElem? (i := 106) rfl))) (mvT hZ (hw _ (List.mem_of_getElem? (i := 107) rfl))) (mvT hZ (hw _ (List.mem_of_getElem? (i := 103) rfl))) (mvT hZ (hw _ (List.mem_of_getElem? (i := 108) rfl))) (by decide) (backOf (W := 0) (rmAt l Z a0 hw [] sq (4 : Int32) va ka fm cs0 arS kbS (Int32.ofNat (own_cap N)) (own_enc (own_bytes a b N)) hq0 n0 Zk Sx hcs Sfx hfm Qs hg4) hZ (hw _ (List.mem_of_getElem? (i := 108) rfl)) (hw _ (List.mem_of_getElem? (i := 103) rfl)) (by decide) (by decide)) (g := (mkF m 296 #[.val (.long a), .second, .val (.long b), .second, .val (.int ln), .val (.int nn), .val (.ref b1), .val (.ref sq), .val (.int ((nn + (4 : Int32)) / (5 : Int32))), .val (.int ka), .val (.int kc), .val (.long va), .second, .val (.long vc), .second, .unset, .unset] [(.int ka), (.long va), (.int (4 : Int32)), (.ref sq)])) rfl (by rw [hml]; rfl) (argsL := [(.ref sq), (.int (4 : Int32)), (.long va), (.int ka)]) (rest := []) (lenOf pd_at__Ljava_lang_String_IJI_Z rfl) rfl (by show 2 * 0 + _ ≤ _; exact Nat.le_of_eq rfl) (hb hby at_296) (fun _ _ => ⟨rfl, e110, (by decide : 5 + 0 ≤ _), (by decide : 50 + 0 ≤ _)⟩)
  dsimp only [Pt.U, Pt.locs, Pt.cells, Pt.slots] at X111 l111 y111 z111 st111 hQ111
  subst l111 y111 z111
  obtain ⟨rfl, N111q, e111⟩ := hQ111
  have N111 := Fr.app N110 N111q
  have hg5 : (5 : Int32) < (Int32.ofNat (own_cap N)) → (¬ (5 : Int32) < 0 ∧ (5 : Int32) < (Int32.ofNat (own_cap N))) ∧ ((own_enc (own_bytes a b N)).map Value.int).getD ((5 : Int32)).toNatClampNeg (.int (0 : Int32)) = .int (own_ex (5 : Int32) va ka) := fun h => by rw [h_va, hka]; exact own_h_5 a b N hN10 h
  obtain ⟨_, _, ⟨T112, L112, k112, n112⟩, -, X112, ⟨Lc112, hQ112, l112, y112, z112⟩, st112⟩ := Jvm.LawKit.callS X111 hx (y := (⟨"com/example/harrier/harrier/warc/Base32EncodePinLaw", "at", "(Ljava/lang/String;IJI)Z"⟩ : MethodName)) hown (mvT hZ (hw _ (List.mem_of_getElem? (i := 106) rfl))) (mvT hZ (hw _ (List.mem_of_getElem? (i := 107) rfl))) (mvT hZ (hw _ (List.mem_of_getElem? (i := 103) rfl))) (mvT hZ (hw _ (List.mem_of_getElem? (i := 108) rfl))) (by decide) (backOf (W := 0) (rmAt l Z a0 hw [] sq (5 : Int32) va ka fm cs0 arS kbS (Int32.ofNat (own_cap N)) (own_enc (own_bytes a b N)) hq0 n0 Zk Sx hcs Sfx hfm Qs hg5) hZ (hw _ (List.mem_of_getElem? (i := 108) rfl)) (hw _ (List.mem_of_getElem? (i := 103) rfl)) (by decide) (by decide)) (g := (mkF m 309 #[.val (.long a), .second, .val (.long b), .second, .val (.int ln), .val (.int nn), .val (.ref b1), .val (.ref sq), .val (.int ((nn + (4 : Int32)) / (5 : Int32))), .val (.int ka), .val (.int kc), .val (.long va), .second, .val (.long vc), .second, .unset, .unset] [(.int ka), (.long va), (.int (5 : Int32)), (.ref sq)])) rfl (by rw [hml]; rfl) (argsL := [(.ref sq), (.int (5 : Int32)), (.long va), (.int ka)]) (rest := []) (lenOf pd_at__Ljava_lang_String_IJI_Z rfl) rfl (by show 2 * 0 + _ ≤ _; exact Nat.le_of_eq rfl) (hb hby at_309) (fun _ _ => ⟨rfl, e111, (by decide : 5 + 0 ≤ _), (by decide : 50 + 0 ≤ _)⟩)
  dsimp only [Pt.U, Pt.locs, Pt.cells, Pt.slots] at X112 l112 y112 z112 st112 hQ112
  subst l112 y112 z112
  obtain ⟨rfl, N112q, e112⟩ := hQ112
  have N112 := Fr.app N111 N112q
  have hg6 : (6 : Int32) < (Int32.ofNat (own_cap N)) → (¬ (6 : Int32) < 0 ∧ (6 : Int32) < (Int32.ofNat (own_cap N))) ∧ ((own_enc (own_bytes a b N)).map Value.int).getD ((6 : Int32)).toNatClampNeg (.int (0 : Int32)) = .int (own_ex (6 : Int32) va ka) := fun h => by rw [h_va, hka]; exact own_h_6 a b N hN10 h
  obtain ⟨_, _, ⟨T113, L113, k113, n113⟩, -, X113, ⟨Lc113, hQ113, l113, y113, z113⟩, st113⟩ := Jvm.LawKit.callS X112 hx (y := (⟨"com/example/harrier/harrier/warc/Base32EncodePinLaw", "at", "(Ljava/lang/String;IJI)Z"⟩ : MethodName)) hown (mvT hZ (hw _ (List.mem_of_getElem? (i := 106) rfl))) (mvT hZ (hw _ (List.mem_of_getElem? (i := 107) rfl))) (mvT hZ (hw _ (List.mem_of_getElem? (i := 103) rfl))) (mvT hZ (hw _ (List.mem_of_getElem? (i := 108) rfl))) (by decide) (backOf (W := 0) (rmAt l Z a0 hw [] sq (6 : Int32) va ka fm cs0 arS kbS (Int32.ofNat (own_cap N)) (own_enc (own_bytes a b N)) hq0 n0 Zk Sx hcs Sfx hfm Qs hg6) hZ (hw _ (List.mem_of_getElem? (i := 108) rfl)) (hw _ (List.mem_of_getElem? (i := 103) rfl)) (by decide) (by decide)) (g := (mkF m 323 #[.val (.long a), .second, .val (.long b), .second, .val (.int ln), .val (.int nn), .val (.ref b1), .val (.ref sq), .val (.int ((nn + (4 : Int32)) / (5 : Int32))), .val (.int ka), .val (.int kc), .val (.long va), .second, .val (.long vc), .second, .unset, .unset] [(.int ka), (.long va), (.int (6 : Int32)), (.ref sq)])) rfl (by rw [hml]; rfl) (argsL := [(.ref sq), (.int (6 : Int32)), (.long va), (.int ka)]) (rest := []) (lenOf pd_at__Ljava_lang_String_IJI_Z rfl) rfl (by show 2 * 0 + _ ≤ _; exact Nat.le_of_eq rfl) (hb hby at_323) (fun _ _ => ⟨rfl, e112, (by decide : 5 + 0 ≤ _), (by decide : 50 + 0 ≤ _)⟩)
  dsimp only [Pt.U, Pt.locs, Pt.cells, Pt.slots] at X113 l113 y113 z113 st113 hQ113
  subst l113 y113 z113
  obtain ⟨rfl, N113q, e113⟩ := hQ113
  have N113 := Fr.app N112 N113q
  have hg7 : (7 : Int32) < (Int32.ofNat (own_cap N)) → (¬ (7 : Int32) < 0 ∧ (7 : Int32) < (Int32.ofNat (own_cap N))) ∧ ((own_enc (own_bytes a b N)).map Value.int).getD ((7 : Int32)).toNatClampNeg (.int (0 : Int32)) = .int (own_ex (7 : Int32) va ka) := fun h => by rw [h_va, hka]; exact own_h_7 a b N hN10 h
  obtain ⟨_, _, ⟨T114, L114, k114, n114⟩, -, X114, ⟨Lc114, hQ114, l114, y114, z114⟩, st114⟩ := Jvm.LawKit.callS X113 hx (y := (⟨"com/example/harrier/harrier/warc/Base32EncodePinLaw", "at", "(Ljava/lang/String;IJI)Z"⟩ : MethodName)) hown (mvT hZ (hw _ (List.mem_of_getElem? (i := 106) rfl))) (mvT hZ (hw _ (List.mem_of_getElem? (i := 107) rfl))) (mvT hZ (hw _ (List.mem_of_getElem? (i := 103) rfl))) (mvT hZ (hw _ (List.mem_of_getElem? (i := 108) rfl))) (by decide) (backOf (W := 0) (rmAt l Z a0 hw [] sq (7 : Int32) va ka fm cs0 arS kbS (Int32.ofNat (own_cap N)) (own_enc (own_bytes a b N)) hq0 n0 Zk Sx hcs Sfx hfm Qs hg7) hZ (hw _ (List.mem_of_getElem? (i := 108) rfl)) (hw _ (List.mem_of_getElem? (i := 103) rfl)) (by decide) (by decide)) (g := (mkF m 337 #[.val (.long a), .second, .val (.long b), .second, .val (.int ln), .val (.int nn), .val (.ref b1), .val (.ref sq), .val (.int ((nn + (4 : Int32)) / (5 : Int32))), .val (.int ka), .val (.int kc), .val (.long va), .second, .val (.long vc), .second, .unset, .unset] [(.int ka), (.long va), (.int (7 : Int32)), (.ref sq)])) rfl (by rw [hml]; rfl) (argsL := [(.ref sq), (.int (7 : Int32)), (.long va), (.int ka)]) (rest := []) (lenOf pd_at__Ljava_lang_String_IJI_Z rfl) rfl (by show 2 * 0 + _ ≤ _; exact Nat.le_of_eq rfl) (hb hby at_337) (fun _ _ => ⟨rfl, e113, (by decide : 5 + 0 ≤ _), (by decide : 50 + 0 ≤ _)⟩)
  dsimp only [Pt.U, Pt.locs, Pt.cells, Pt.slots] at X114 l114 y114 z114 st114 hQ114
  subst l114 y114 z114
  obtain ⟨rfl, N114q, e114⟩ := hQ114
  have N114 := Fr.app N113 N114q
  have hg8 : (8 : Int32) < (Int32.ofNat (own_cap N)) → (¬ (8 : Int32) < 0 ∧ (8 : Int32) < (Int32.ofNat (own_cap N))) ∧ ((own_enc (own_bytes a b N)).map Value.int).getD ((8 : Int32)).toNatClampNeg (.int (0 : Int32)) = .int (own_ex (8 : Int32) vc kc) := fun h => by rw [h_vc, hkc]; exact own_h_8 a b N hN10 h
  obtain ⟨_, _, ⟨T115, L115, k115, n115⟩, -, X115, ⟨Lc115, hQ115, l115, y115, z115⟩, st115⟩ := Jvm.LawKit.callS X114 hx (y := (⟨"com/example/harrier/harrier/warc/Base32EncodePinLaw", "at", "(Ljava/lang/String;IJI)Z"⟩ : MethodName)) hown (mvT hZ (hw _ (List.mem_of_getElem? (i := 106) rfl))) (mvT hZ (hw _ (List.mem_of_getElem? (i := 107) rfl))) (mvT hZ (hw _ (List.mem_of_getElem? (i := 103) rfl))) (mvT hZ (hw _ (List.mem_of_getElem? (i := 108) rfl))) (by decide) (backOf (W := 0) (rmAt l Z a0 hw [] sq (8 : Int32) vc kc fm cs0 arS kbS (Int32.ofNat (own_cap N)) (own_enc (own_bytes a b N)) hq0 n0 Zk Sx hcs Sfx hfm Qs hg8) hZ (hw _ (List.mem_of_getElem? (i := 108) rfl)) (hw _ (List.mem_of_getElem? (i := 103) rfl)) (by decide) (by decide)) (g := (mkF m 358 #[.val (.long a), .second, .val (.long b), .second, .val (.int ln), .val (.int nn), .val (.ref b1), .val (.ref sq), .val (.int ((nn + (4 : Int32)) / (5 : Int32))), .val (.int ka), .val (.int kc), .val (.long va), .second, .val (.long vc), .second, .val (.int (1 : Int32)), .unset] [(.int kc), (.long vc), (.int (8 : Int32)), (.ref sq)])) rfl (by rw [hml]; rfl) (argsL := [(.ref sq), (.int (8 : Int32)), (.long vc), (.int kc)]) (rest := []) (lenOf pd_at__Ljava_lang_String_IJI_Z rfl) rfl (by show 2 * 0 + _ ≤ _; exact Nat.le_of_eq rfl) (hb hby at_358) (fun _ _ => ⟨rfl, e114, (by decide : 5 + 0 ≤ _), (by decide : 50 + 0 ≤ _)⟩)
  dsimp only [Pt.U, Pt.locs, Pt.cells, Pt.slots] at X115 l115 y115 z115 st115 hQ115
  subst l115 y115 z115
  obtain ⟨rfl, N115q, e115⟩ := hQ115
  have N115 := Fr.app N114 N115q
  have hg9 : (9 : Int32) < (Int32.ofNat (own_cap N)) → (¬ (9 : Int32) < 0 ∧ (9 : Int32) < (Int32.ofNat (own_cap N))) ∧ ((own_enc (own_bytes a b N)).map Value.int).getD ((9 : Int32)).toNatClampNeg (.int (0 : Int32)) = .int (own_ex (9 : Int32) vc kc) := fun h => by rw [h_vc, hkc]; exact own_h_9 a b N hN10 h
  obtain ⟨_, _, ⟨T116, L116, k116, n116⟩, -, X116, ⟨Lc116, hQ116, l116, y116, z116⟩, st116⟩ := Jvm.LawKit.callS X115 hx (y := (⟨"com/example/harrier/harrier/warc/Base32EncodePinLaw", "at", "(Ljava/lang/String;IJI)Z"⟩ : MethodName)) hown (mvT hZ (hw _ (List.mem_of_getElem? (i := 106) rfl))) (mvT hZ (hw _ (List.mem_of_getElem? (i := 107) rfl))) (mvT hZ (hw _ (List.mem_of_getElem? (i := 103) rfl))) (mvT hZ (hw _ (List.mem_of_getElem? (i := 108) rfl))) (by decide) (backOf (W := 0) (rmAt l Z a0 hw [] sq (9 : Int32) vc kc fm cs0 arS kbS (Int32.ofNat (own_cap N)) (own_enc (own_bytes a b N)) hq0 n0 Zk Sx hcs Sfx hfm Qs hg9) hZ (hw _ (List.mem_of_getElem? (i := 108) rfl)) (hw _ (List.mem_of_getElem? (i := 103) rfl)) (by decide) (by decide)) (g := (mkF m 372 #[.val (.long a), .second, .val (.long b), .second, .val (.int ln), .val (.int nn), .val (.ref b1), .val (.ref sq), .val (.int ((nn + (4 : Int32)) / (5 : Int32))), .val (.int ka), .val (.int kc), .val (.long va), .second, .val (.long vc), .second, .val (.int (1 : Int32)), .unset] [(.int kc), (.long vc), (.int (9 : Int32)), (.ref sq)])) rfl (by rw [hml]; rfl) (argsL := [(.ref sq), (.int (9 : Int32)), (.long vc), (.int kc)]) (rest := []) (lenOf pd_at__Ljava_lang_String_IJI_Z rfl) rfl (by show 2 * 0 + _ ≤ _; exact Nat.le_of_eq rfl) (hb hby at_372) (fun _ _ => ⟨rfl, e115, (by decide : 5 + 0 ≤ _), (by decide : 50 + 0 ≤ _)⟩)
  dsimp only [Pt.U, Pt.locs, Pt.cells, Pt.slots] at X116 l116 y116 z116 st116 hQ116
  subst l116 y116 z116
  obtain ⟨rfl, N116q, e116⟩ := hQ116
  have N116 := Fr.app N115 N116q
  have hg10 : (10 : Int32) < (Int32.ofNat (own_cap N)) → (¬ (10 : Int32) < 0 ∧ (10 : Int32) < (Int32.ofNat (own_cap N))) ∧ ((own_enc (own_bytes a b N)).map Value.int).getD ((10 : Int32)).toNatClampNeg (.int (0 : Int32)) = .int (own_ex (10 : Int32) vc kc) := fun h => by rw [h_vc, hkc]; exact own_h_10 a b N hN10 h
  obtain ⟨_, _, ⟨T117, L117, k117, n117⟩, -, X117, ⟨Lc117, hQ117, l117, y117, z117⟩, st117⟩ := Jvm.LawKit.callS X116 hx (y := (⟨"com/example/harrier/harrier/warc/Base32EncodePinLaw", "at", "(Ljava/lang/String;IJI)Z"⟩ : MethodName)) hown (mvT hZ (hw _ (List.mem_of_getElem? (i := 106) rfl))) (mvT hZ (hw _ (List.mem_of_getElem? (i := 107) rfl))) (mvT hZ (hw _ (List.mem_of_getElem? (i := 103) rfl))) (mvT hZ (hw _ (List.mem_of_getElem? (i := 108) rfl))) (by decide) (backOf (W := 0) (rmAt l Z a0 hw [] sq (10 : Int32) vc kc fm cs0 arS kbS (Int32.ofNat (own_cap N)) (own_enc (own_bytes a b N)) hq0 n0 Zk Sx hcs Sfx hfm Qs hg10) hZ (hw _ (List.mem_of_getElem? (i := 108) rfl)) (hw _ (List.mem_of_getElem? (i := 103) rfl)) (by decide) (by decide)) (g := (mkF m 386 #[.val (.long a), .second, .val (.long b), .second, .val (.int ln), .val (.int nn), .val (.ref b1), .val (.ref sq), .val (.int ((nn + (4 : Int32)) / (5 : Int32))), .val (.int ka), .val (.int kc), .val (.long va), .second, .val (.long vc), .second, .val (.int (1 : Int32)), .unset] [(.int kc), (.long vc), (.int (10 : Int32)), (.ref sq)])) rfl (by rw [hml]; rfl) (argsL := [(.ref sq), (.int (10 : Int32)), (.long vc), (.int kc)]) (rest := []) (lenOf pd_at__Ljava_lang_String_IJI_Z rfl) rfl (by show 2 * 0 + _ ≤ _; exact Nat.le_of_eq rfl) (hb hby at_386) (fun _ _ => ⟨rfl, e116, (by decide : 5 + 0 ≤ _), (by decide : 50 + 0 ≤ _)⟩)
  dsimp only [Pt.U, Pt.locs, Pt.cells, Pt.slots] at X117 l117 y117 z117 st117 hQ117
  subst l117 y117 z117
  obtain ⟨rfl, N117q, e117⟩ := hQ117
  have N117 := Fr.app N116 N117q
  have hg11 : (11 : Int32) < (Int32.ofNat (own_cap N)) → (¬ (11 : Int32) < 0 ∧ (11 : Int32) < (Int32.ofNat (own_cap N))) ∧ ((own_enc (own_bytes a b N)).map Value.int).getD ((11 : Int32)).toNatClampNeg (.int (0 : Int32)) = .int (own_ex (11 : Int32) vc kc) := fun h => by rw [h_vc, hkc]; exact own_h_11 a b N hN10 h
  obtain ⟨_, _, ⟨T118, L118, k118, n118⟩, -, X118, ⟨Lc118, hQ118, l118, y118, z118⟩, st118⟩ := Jvm.LawKit.callS X117 hx (y := (⟨"com/example/harrier/harrier/warc/Base32EncodePinLaw", "at", "(Ljava/lang/String;IJI)Z"⟩ : MethodName)) hown (mvT hZ (hw _ (List.mem_of_getElem? (i := 106) rfl))) (mvT hZ (hw _ (List.mem_of_getElem? (i := 107) rfl))) (mvT hZ (hw _ (List.mem_of_getElem? (i := 103) rfl))) (mvT hZ (hw _ (List.mem_of_getElem? (i := 108) rfl))) (by decide) (backOf (W := 0) (rmAt l Z a0 hw [] sq (11 : Int32) vc kc fm cs0 arS kbS (Int32.ofNat (own_cap N)) (own_enc (own_bytes a b N)) hq0 n0 Zk Sx hcs Sfx hfm Qs hg11) hZ (hw _ (List.mem_of_getElem? (i := 108) rfl)) (hw _ (List.mem_of_getElem? (i := 103) rfl)) (by decide) (by decide)) (g := (mkF m 400 #[.val (.long a), .second, .val (.long b), .second, .val (.int ln), .val (.int nn), .val (.ref b1), .val (.ref sq), .val (.int ((nn + (4 : Int32)) / (5 : Int32))), .val (.int ka), .val (.int kc), .val (.long va), .second, .val (.long vc), .second, .val (.int (1 : Int32)), .unset] [(.int kc), (.long vc), (.int (11 : Int32)), (.ref sq)])) rfl (by rw [hml]; rfl) (argsL := [(.ref sq), (.int (11 : Int32)), (.long vc), (.int kc)]) (rest := []) (lenOf pd_at__Ljava_lang_String_IJI_Z rfl) rfl (by show 2 * 0 + _ ≤ _; exact Nat.le_of_eq rfl) (hb hby at_400) (fun _ _ => ⟨rfl, e117, (by decide : 5 + 0 ≤ _), (by decide : 50 + 0 ≤ _)⟩)
  dsimp only [Pt.U, Pt.locs, Pt.cells, Pt.slots] at X118 l118 y118 z118 st118 hQ118
  subst l118 y118 z118
  obtain ⟨rfl, N118q, e118⟩ := hQ118
  have N118 := Fr.app N117 N118q
  have hg12 : (12 : Int32) < (Int32.ofNat (own_cap N)) → (¬ (12 : Int32) < 0 ∧ (12 : Int32) < (Int32.ofNat (own_cap N))) ∧ ((own_enc (own_bytes a b N)).map Value.int).getD ((12 : Int32)).toNatClampNeg (.int (0 : Int32)) = .int (own_ex (12 : Int32) vc kc) := fun h => by rw [h_vc, hkc]; exact own_h_12 a b N hN10 h
  obtain ⟨_, _, ⟨T119, L119, k119, n119⟩, -, X119, ⟨Lc119, hQ119, l119, y119, z119⟩, st119⟩ := Jvm.LawKit.callS X118 hx (y := (⟨"com/example/harrier/harrier/warc/Base32EncodePinLaw", "at", "(Ljava/lang/String;IJI)Z"⟩ : MethodName)) hown (mvT hZ (hw _ (List.mem_of_getElem? (i := 106) rfl))) (mvT hZ (hw _ (List.mem_of_getElem? (i := 107) rfl))) (mvT hZ (hw _ (List.mem_of_getElem? (i := 103) rfl))) (mvT hZ (hw _ (List.mem_of_getElem? (i := 108) rfl))) (by decide) (backOf (W := 0) (rmAt l Z a0 hw [] sq (12 : Int32) vc kc fm cs0 arS kbS (Int32.ofNat (own_cap N)) (own_enc (own_bytes a b N)) hq0 n0 Zk Sx hcs Sfx hfm Qs hg12) hZ (hw _ (List.mem_of_getElem? (i := 108) rfl)) (hw _ (List.mem_of_getElem? (i := 103) rfl)) (by decide) (by decide)) (g := (mkF m 414 #[.val (.long a), .second, .val (.long b), .second, .val (.int ln), .val (.int nn), .val (.ref b1), .val (.ref sq), .val (.int ((nn + (4 : Int32)) / (5 : Int32))), .val (.int ka), .val (.int kc), .val (.long va), .second, .val (.long vc), .second, .val (.int (1 : Int32)), .unset] [(.int kc), (.long vc), (.int (12 : Int32)), (.ref sq)])) rfl (by rw [hml]; rfl) (argsL := [(.ref sq), (.int (12 : Int32)), (.long vc), (.int kc)]) (rest := []) (lenOf pd_at__Ljava_lang_String_IJI_Z rfl) rfl (by show 2 * 0 + _ ≤ _; exact Nat.le_of_eq rfl) (hb hby at_414) (fun _ _ => ⟨rfl, e118, (by decide : 5 + 0 ≤ _), (by decide : 50 + 0 ≤ _)⟩)
  dsimp only [Pt.U, Pt.locs, Pt.cells, Pt.slots] at X119 l119 y119 z119 st119 hQ119
  subst l119 y119 z119
  obtain ⟨rfl, N119q, e119⟩ := hQ119
  have N119 := Fr.app N118 N119q
  have hg13 : (13 : Int32) < (Int32.ofNat (own_cap N)) → (¬ (13 : Int32) < 0 ∧ (13 : Int32) < (Int32.ofNat (own_cap N))) ∧ ((own_enc (own_bytes a b N)).map Value.int).getD ((13 : Int32)).toNatClampNeg (.int (0 : Int32)) = .int (own_ex (13 : Int32) vc kc) := fun h => by rw [h_vc, hkc]; exact own_h_13 a b N hN10 h
  obtain ⟨_, _, ⟨T120, L120, k120, n120⟩, -, X120, ⟨Lc120, hQ120, l120, y120, z120⟩, st120⟩ := Jvm.LawKit.callS X119 hx (y := (⟨"com/example/harrier/harrier/warc/Base32EncodePinLaw", "at", "(Ljava/lang/String;IJI)Z"⟩ : MethodName)) hown (mvT hZ (hw _ (List.mem_of_getElem? (i := 106) rfl))) (mvT hZ (hw _ (List.mem_of_getElem? (i := 107) rfl))) (mvT hZ (hw _ (List.mem_of_getElem? (i := 103) rfl))) (mvT hZ (hw _ (List.mem_of_getElem? (i := 108) rfl))) (by decide) (backOf (W := 0) (rmAt l Z a0 hw [] sq (13 : Int32) vc kc fm cs0 arS kbS (Int32.ofNat (own_cap N)) (own_enc (own_bytes a b N)) hq0 n0 Zk Sx hcs Sfx hfm Qs hg13) hZ (hw _ (List.mem_of_getElem? (i := 108) rfl)) (hw _ (List.mem_of_getElem? (i := 103) rfl)) (by decide) (by decide)) (g := (mkF m 428 #[.val (.long a), .second, .val (.long b), .second, .val (.int ln), .val (.int nn), .val (.ref b1), .val (.ref sq), .val (.int ((nn + (4 : Int32)) / (5 : Int32))), .val (.int ka), .val (.int kc), .val (.long va), .second, .val (.long vc), .second, .val (.int (1 : Int32)), .unset] [(.int kc), (.long vc), (.int (13 : Int32)), (.ref sq)])) rfl (by rw [hml]; rfl) (argsL := [(.ref sq), (.int (13 : Int32)), (.long vc), (.int kc)]) (rest := []) (lenOf pd_at__Ljava_lang_String_IJI_Z rfl) rfl (by show 2 * 0 + _ ≤ _; exact Nat.le_of_eq rfl) (hb hby at_428) (fun _ _ => ⟨rfl, e119, (by decide : 5 + 0 ≤ _), (by decide : 50 + 0 ≤ _)⟩)
  dsimp only [Pt.U, Pt.locs, Pt.cells, Pt.slots] at X120 l120 y120 z120 st120 hQ120
  subst l120 y120 z120
  obtain ⟨rfl, N120q, e120⟩ := hQ120
  have N120 := Fr.app N119 N120q
  have hg14 : (14 : Int32) < (Int32.ofNat (own_cap N)) → (¬ (14 : Int32) < 0 ∧ (14 : Int32) < (Int32.ofNat (own_cap N))) ∧ ((own_enc (own_bytes a b N)).map Value.int).getD ((14 : Int32)).toNatClampNeg (.int (0 : Int32)) = .int (own_ex (14 : Int32) vc kc) := fun h => by rw [h_vc, hkc]; exact own_h_14 a b N hN10 h
  obtain ⟨_, _, ⟨T121, L121, k121, n121⟩, -, X121, ⟨Lc121, hQ121, l121, y121, z121⟩, st121⟩ := Jvm.LawKit.callS X120 hx (y := (⟨"com/example/harrier/harrier/warc/Base32EncodePinLaw", "at", "(Ljava/lang/String;IJI)Z"⟩ : MethodName)) hown (mvT hZ (hw _ (List.mem_of_getElem? (i := 106) rfl))) (mvT hZ (hw _ (List.mem_of_getElem? (i := 107) rfl))) (mvT hZ (hw _ (List.mem_of_getElem? (i := 103) rfl))) (mvT hZ (hw _ (List.mem_of_getElem? (i := 108) rfl))) (by decide) (backOf (W := 0) (rmAt l Z a0 hw [] sq (14 : Int32) vc kc fm cs0 arS kbS (Int32.ofNat (own_cap N)) (own_enc (own_bytes a b N)) hq0 n0 Zk Sx hcs Sfx hfm Qs hg14) hZ (hw _ (List.mem_of_getElem? (i := 108) rfl)) (hw _ (List.mem_of_getElem? (i := 103) rfl)) (by decide) (by decide)) (g := (mkF m 442 #[.val (.long a), .second, .val (.long b), .second, .val (.int ln), .val (.int nn), .val (.ref b1), .val (.ref sq), .val (.int ((nn + (4 : Int32)) / (5 : Int32))), .val (.int ka), .val (.int kc), .val (.long va), .second, .val (.long vc), .second, .val (.int (1 : Int32)), .unset] [(.int kc), (.long vc), (.int (14 : Int32)), (.ref sq)])) rfl (by rw [hml]; rfl) (argsL := [(.ref sq), (.int (14 : Int32)), (.long vc), (.int kc)]) (rest := []) (lenOf pd_at__Ljava_lang_String_IJI_Z rfl) rfl (by show 2 * 0 + _ ≤ _; exact Nat.le_of_eq rfl) (hb hby at_442) (fun _ _ => ⟨rfl, e120, (by decide : 5 + 0 ≤ _), (by decide : 50 + 0 ≤ _)⟩)
  dsimp only [Pt.U, Pt.locs, Pt.cells, Pt.slots] at X121 l121 y121 z121 st121 hQ121
  subst l121 y121 z121
  obtain ⟨rfl, N121q, e121⟩ := hQ121
  have N121 := Fr.app N120 N121q
  have hg15 : (15 : Int32) < (Int32.ofNat (own_cap N)) → (¬ (15 : Int32) < 0 ∧ (15 : Int32) < (Int32.ofNat (own_cap N))) ∧ ((own_enc (own_bytes a b N)).map Value.int).getD ((15 : Int32)).toNatClampNeg (.int (0 : Int32)) = .int (own_ex (15 : Int32) vc kc) := fun h => by rw [h_vc, hkc]; exact own_h_15 a b N hN10 h
  obtain ⟨_, _, ⟨T122, L122, k122, n122⟩, -, X122, ⟨Lc122, hQ122, l122, y122, z122⟩, st122⟩ := Jvm.LawKit.callS X121 hx (y := (⟨"com/example/harrier/harrier/warc/Base32EncodePinLaw", "at", "(Ljava/lang/String;IJI)Z"⟩ : MethodName)) hown (mvT hZ (hw _ (List.mem_of_getElem? (i := 106) rfl))) (mvT hZ (hw _ (List.mem_of_getElem? (i := 107) rfl))) (mvT hZ (hw _ (List.mem_of_getElem? (i := 103) rfl))) (mvT hZ (hw _ (List.mem_of_getElem? (i := 108) rfl))) (by decide) (backOf (W := 0) (rmAt l Z a0 hw [] sq (15 : Int32) vc kc fm cs0 arS kbS (Int32.ofNat (own_cap N)) (own_enc (own_bytes a b N)) hq0 n0 Zk Sx hcs Sfx hfm Qs hg15) hZ (hw _ (List.mem_of_getElem? (i := 108) rfl)) (hw _ (List.mem_of_getElem? (i := 103) rfl)) (by decide) (by decide)) (g := (mkF m 456 #[.val (.long a), .second, .val (.long b), .second, .val (.int ln), .val (.int nn), .val (.ref b1), .val (.ref sq), .val (.int ((nn + (4 : Int32)) / (5 : Int32))), .val (.int ka), .val (.int kc), .val (.long va), .second, .val (.long vc), .second, .val (.int (1 : Int32)), .unset] [(.int kc), (.long vc), (.int (15 : Int32)), (.ref sq)])) rfl (by rw [hml]; rfl) (argsL := [(.ref sq), (.int (15 : Int32)), (.long vc), (.int kc)]) (rest := []) (lenOf pd_at__Ljava_lang_String_IJI_Z rfl) rfl (by show 2 * 0 + _ ≤ _; exact Nat.le_of_eq rfl) (hb hby at_456) (fun _ _ => ⟨rfl, e121, (by decide : 5 + 0 ≤ _), (by decide : 50 + 0 ≤ _)⟩)
  dsimp only [Pt.U, Pt.locs, Pt.cells, Pt.slots] at X122 l122 y122 z122 st122 hQ122
  subst l122 y122 z122
  obtain ⟨rfl, N122q, e122⟩ := hQ122
  have N122 := Fr.app N121 N122q
  obtain ⟨fs, hr, hrun, hended, hW, hsame⟩ := X122.leave (v := some (.int (1 : Int32))) (fun h => by rw [Bd.returns] at h; cases h)
  refine ⟨_, _, pre0 _ ?_, hrun, hended, _, _, rfl, ?_, ⟨_, rfl⟩, hW, hsame.mono (by decide) (by decide)⟩
  · show Steps p.tables e below (s₁.setTop (mkF m 0 #[.val (.long a), .second, .val (.long b), .second, .val (.int ln), .unset, .unset, .unset, .unset, .unset, .unset, .unset, .unset, .unset, .unset, .unset, .unset] [])) _
    refine XS.iload X0.here hx rfl (hb hby at_0) rfl ?_
    show Steps p.tables e below (s₁.setTop (mkF m 2 #[.val (.long a), .second, .val (.long b), .second, .val (.int ln), .unset, .unset, .unset, .unset, .unset, .unset, .unset, .unset, .unset, .unset, .unset, .unset] [(.int ln)])) _
    refine X0.ldcInt hx hown (mvT hZ (hw _ (List.mem_of_getElem? (i := 0) rfl))) (g := (mkF m 2 #[.val (.long a), .second, .val (.long b), .second, .val (.int ln), .unset, .unset, .unset, .unset, .unset, .unset, .unset, .unset, .unset, .unset, .unset, .unset] [(.int ln)])) rfl (hb hby at_2) _ ?_
    show Steps p.tables e below (s₁.setTop (mkF m 4 #[.val (.long a), .second, .val (.long b), .second, .val (.int ln), .unset, .unset, .unset, .unset, .unset, .unset, .unset, .unset, .unset, .unset, .unset, .unset] [(.int (2147483647 : Int32)), (.int ln)])) _
    refine XS.iand X0.here hx rfl (hb hby at_4) rfl ?_
    show Steps p.tables e below (s₁.setTop (mkF m 5 #[.val (.long a), .second, .val (.long b), .second, .val (.int ln), .unset, .unset, .unset, .unset, .unset, .unset, .unset, .unset, .unset, .unset, .unset, .unset] [(.int (ln &&& (2147483647 : Int32)))])) _
    refine XS.bipush X0.here hx rfl (hb hby at_5) ?_
    show Steps p.tables e below (s₁.setTop (mkF m 7 #[.val (.long a), .second, .val (.long b), .second, .val (.int ln), .unset, .unset, .unset, .unset, .unset, .unset, .unset, .unset, .unset, .unset, .unset, .unset] [(.int (11 : Int32)), (.int (ln &&& (2147483647 : Int32)))])) _
    refine iremM X0 hx rfl (hb hby at_7) rfl (by decide) ?_
    show Steps p.tables e below (s₁.setTop (mkF m 8 #[.val (.long a), .second, .val (.long b), .second, .val (.int ln), .unset, .unset, .unset, .unset, .unset, .unset, .unset, .unset, .unset, .unset, .unset, .unset] [(.int ((ln &&& (2147483647 : Int32)) % (11 : Int32)))])) _
    rw [← h_nn]
    show Steps p.tables e below (s₁.setTop (mkF m 8 #[.val (.long a), .second, .val (.long b), .second, .val (.int ln), .unset, .unset, .unset, .unset, .unset, .unset, .unset, .unset, .unset, .unset, .unset, .unset] [(.int nn)])) _
    refine XS.istore X0.here hx rfl (hb hby at_8) rfl (l' := #[.val (.long a), .second, .val (.long b), .second, .val (.int ln), .val (.int nn), .unset, .unset, .unset, .unset, .unset, .unset, .unset, .unset, .unset, .unset, .unset]) rfl ?_
    show Steps p.tables e below (s₁.setTop (mkF m 10 #[.val (.long a), .second, .val (.long b), .second, .val (.int ln), .val (.int nn), .unset, .unset, .unset, .unset, .unset, .unset, .unset, .unset, .unset, .unset, .unset] [])) _
    refine XS.iload X0.here hx rfl (hb hby at_10) rfl ?_
    show Steps p.tables e below (s₁.setTop (mkF m 12 #[.val (.long a), .second, .val (.long b), .second, .val (.int ln), .val (.int nn), .unset, .unset, .unset, .unset, .unset, .unset, .unset, .unset, .unset, .unset, .unset] [(.int nn)])) _
    refine st1 _ ?_
    show Steps p.tables e below (T1.setTop (mkF m 14 #[.val (.long a), .second, .val (.long b), .second, .val (.int ln), .val (.int nn), .unset, .unset, .unset, .unset, .unset, .unset, .unset, .unset, .unset, .unset, .unset] [(.ref b1)])) _
    refine XS.astore X1.here hx rfl (hb hby at_14) rfl rfl (l' := #[.val (.long a), .second, .val (.long b), .second, .val (.int ln), .val (.int nn), .val (.ref b1), .unset, .unset, .unset, .unset, .unset, .unset, .unset, .unset, .unset, .unset]) rfl ?_
    show Steps p.tables e below (T1.setTop (mkF m 16 #[.val (.long a), .second, .val (.long b), .second, .val (.int ln), .val (.int nn), .val (.ref b1), .unset, .unset, .unset, .unset, .unset, .unset, .unset, .unset, .unset, .unset] [])) _
    refine sp0 _ ?_
    refine sp1 _ ?_
    refine sp2 _ ?_
    refine sp3 _ ?_
    refine sp4 _ ?_
    refine sp5 _ ?_
    refine sp6 _ ?_
    refine sp7 _ ?_
    refine sp8 _ ?_
    refine sp9 _ ?_
    show Steps p.tables e below (Tp9.setTop (mkF m 173 #[.val (.long a), .second, .val (.long b), .second, .val (.int ln), .val (.int nn), .val (.ref b1), .unset, .unset, .unset, .unset, .unset, .unset, .unset, .unset, .unset, .unset] [])) _
    refine XS.aload Xp9.here hx rfl (hb hby at_173) rfl rfl ?_
    show Steps p.tables e below (Tp9.setTop (mkF m 175 #[.val (.long a), .second, .val (.long b), .second, .val (.int ln), .val (.int nn), .val (.ref b1), .unset, .unset, .unset, .unset, .unset, .unset, .unset, .unset, .unset, .unset] [(.ref b1)])) _
    refine st101 _ ?_
    show Steps p.tables e below (T101.setTop (mkF m 178 #[.val (.long a), .second, .val (.long b), .second, .val (.int ln), .val (.int nn), .val (.ref b1), .unset, .unset, .unset, .unset, .unset, .unset, .unset, .unset, .unset, .unset] [(.ref sq)])) _
    refine XS.astore X101.here hx rfl (hb hby at_178) rfl rfl (l' := #[.val (.long a), .second, .val (.long b), .second, .val (.int ln), .val (.int nn), .val (.ref b1), .val (.ref sq), .unset, .unset, .unset, .unset, .unset, .unset, .unset, .unset, .unset]) rfl ?_
    show Steps p.tables e below (T101.setTop (mkF m 180 #[.val (.long a), .second, .val (.long b), .second, .val (.int ln), .val (.int nn), .val (.ref b1), .val (.ref sq), .unset, .unset, .unset, .unset, .unset, .unset, .unset, .unset, .unset] [])) _
    refine XS.iload X101.here hx rfl (hb hby at_180) rfl ?_
    show Steps p.tables e below (T101.setTop (mkF m 182 #[.val (.long a), .second, .val (.long b), .second, .val (.int ln), .val (.int nn), .val (.ref b1), .val (.ref sq), .unset, .unset, .unset, .unset, .unset, .unset, .unset, .unset, .unset] [(.int nn)])) _
    refine XS.iconst X101.here hx rfl (hb hby at_182) ?_
    show Steps p.tables e below (T101.setTop (mkF m 183 #[.val (.long a), .second, .val (.long b), .second, .val (.int ln), .val (.int nn), .val (.ref b1), .val (.ref sq), .unset, .unset, .unset, .unset, .unset, .unset, .unset, .unset, .unset] [(.int (4 : Int32)), (.int nn)])) _
    refine XS.iadd X101.here hx rfl (hb hby at_183) rfl ?_
    show Steps p.tables e below (T101.setTop (mkF m 184 #[.val (.long a), .second, .val (.long b), .second, .val (.int ln), .val (.int nn), .val (.ref b1), .val (.ref sq), .unset, .unset, .unset, .unset, .unset, .unset, .unset, .unset, .unset] [(.int (nn + (4 : Int32)))])) _
    refine XS.iconst X101.here hx rfl (hb hby at_184) ?_
    show Steps p.tables e below (T101.setTop (mkF m 185 #[.val (.long a), .second, .val (.long b), .second, .val (.int ln), .val (.int nn), .val (.ref b1), .val (.ref sq), .unset, .unset, .unset, .unset, .unset, .unset, .unset, .unset, .unset] [(.int (5 : Int32)), (.int (nn + (4 : Int32)))])) _
    refine XS.idiv X101.here hx rfl (hb hby at_185) rfl (by decide) ?_
    show Steps p.tables e below (T101.setTop (mkF m 186 #[.val (.long a), .second, .val (.long b), .second, .val (.int ln), .val (.int nn), .val (.ref b1), .val (.ref sq), .unset, .unset, .unset, .unset, .unset, .unset, .unset, .unset, .unset] [(.int ((nn + (4 : Int32)) / (5 : Int32)))])) _
    refine XS.istore X101.here hx rfl (hb hby at_186) rfl (l' := #[.val (.long a), .second, .val (.long b), .second, .val (.int ln), .val (.int nn), .val (.ref b1), .val (.ref sq), .val (.int ((nn + (4 : Int32)) / (5 : Int32))), .unset, .unset, .unset, .unset, .unset, .unset, .unset, .unset]) rfl ?_
    show Steps p.tables e below (T101.setTop (mkF m 188 #[.val (.long a), .second, .val (.long b), .second, .val (.int ln), .val (.int nn), .val (.ref b1), .val (.ref sq), .val (.int ((nn + (4 : Int32)) / (5 : Int32))), .unset, .unset, .unset, .unset, .unset, .unset, .unset, .unset] [])) _
    refine XS.aload X101.here hx rfl (hb hby at_188) rfl rfl ?_
    show Steps p.tables e below (T101.setTop (mkF m 190 #[.val (.long a), .second, .val (.long b), .second, .val (.int ln), .val (.int nn), .val (.ref b1), .val (.ref sq), .val (.int ((nn + (4 : Int32)) / (5 : Int32))), .unset, .unset, .unset, .unset, .unset, .unset, .unset, .unset] [(.ref sq)])) _
    refine st102.trans ?_
    show Steps p.tables e below (T102.setTop (mkF m 193 #[.val (.long a), .second, .val (.long b), .second, .val (.int ln), .val (.int nn), .val (.ref b1), .val (.ref sq), .val (.int ((nn + (4 : Int32)) / (5 : Int32))), .unset, .unset, .unset, .unset, .unset, .unset, .unset, .unset] [(.int (Int32.ofNat (own_cap N)))])) _
    refine XS.bipush X102.here hx rfl (hb hby at_193) ?_
    show Steps p.tables e below (T102.setTop (mkF m 195 #[.val (.long a), .second, .val (.long b), .second, .val (.int ln), .val (.int nn), .val (.ref b1), .val (.ref sq), .val (.int ((nn + (4 : Int32)) / (5 : Int32))), .unset, .unset, .unset, .unset, .unset, .unset, .unset, .unset] [(.int (8 : Int32)), (.int (Int32.ofNat (own_cap N)))])) _
    refine XS.iload X102.here hx rfl (hb hby at_195) rfl ?_
    show Steps p.tables e below (T102.setTop (mkF m 197 #[.val (.long a), .second, .val (.long b), .second, .val (.int ln), .val (.int nn), .val (.ref b1), .val (.ref sq), .val (.int ((nn + (4 : Int32)) / (5 : Int32))), .unset, .unset, .unset, .unset, .unset, .unset, .unset, .unset] [(.int ((nn + (4 : Int32)) / (5 : Int32))), (.int (8 : Int32)), (.int (Int32.ofNat (own_cap N)))])) _
    refine XS.imul X102.here hx rfl (hb hby at_197) rfl ?_
    show Steps p.tables e below (T102.setTop (mkF m 198 #[.val (.long a), .second, .val (.long b), .second, .val (.int ln), .val (.int nn), .val (.ref b1), .val (.ref sq), .val (.int ((nn + (4 : Int32)) / (5 : Int32))), .unset, .unset, .unset, .unset, .unset, .unset, .unset, .unset] [(.int ((8 : Int32) * ((nn + (4 : Int32)) / (5 : Int32)))), (.int (Int32.ofNat (own_cap N)))])) _
    refine XS.icmpYes X102.here hx rfl (pc0 := 198) (pc' := 203) rfl (hb hby at_198) rfl (teq hz8).1 (by decide) (by decide) ?_
    show Steps p.tables e below (T102.setTop (mkF m 203 #[.val (.long a), .second, .val (.long b), .second, .val (.int ln), .val (.int nn), .val (.ref b1), .val (.ref sq), .val (.int ((nn + (4 : Int32)) / (5 : Int32))), .unset, .unset, .unset, .unset, .unset, .unset, .unset, .unset] [])) _
    refine XS.iconst X102.here hx rfl (hb hby at_203) ?_
    show Steps p.tables e below (T102.setTop (mkF m 204 #[.val (.long a), .second, .val (.long b), .second, .val (.int ln), .val (.int nn), .val (.ref b1), .val (.ref sq), .val (.int ((nn + (4 : Int32)) / (5 : Int32))), .unset, .unset, .unset, .unset, .unset, .unset, .unset, .unset] [(.int (5 : Int32))])) _
    refine XS.iload X102.here hx rfl (hb hby at_204) rfl ?_
    show Steps p.tables e below (T102.setTop (mkF m 206 #[.val (.long a), .second, .val (.long b), .second, .val (.int ln), .val (.int nn), .val (.ref b1), .val (.ref sq), .val (.int ((nn + (4 : Int32)) / (5 : Int32))), .unset, .unset, .unset, .unset, .unset, .unset, .unset, .unset] [(.int nn), (.int (5 : Int32))])) _
    refine st103 _ ?_
    show Steps p.tables e below (T103.setTop (mkF m 209 #[.val (.long a), .second, .val (.long b), .second, .val (.int ln), .val (.int nn), .val (.ref b1), .val (.ref sq), .val (.int ((nn + (4 : Int32)) / (5 : Int32))), .unset, .unset, .unset, .unset, .unset, .unset, .unset, .unset] [(.int (if nn < (5 : Int32) then nn else (5 : Int32)))])) _
    rw [← h_ka]
    show Steps p.tables e below (T103.setTop (mkF m 209 #[.val (.long a), .second, .val (.long b), .second, .val (.int ln), .val (.int nn), .val (.ref b1), .val (.ref sq), .val (.int ((nn + (4 : Int32)) / (5 : Int32))), .unset, .unset, .unset, .unset, .unset, .unset, .unset, .unset] [(.int ka)])) _
    refine XS.istore X103.here hx rfl (hb hby at_209) rfl (l' := #[.val (.long a), .second, .val (.long b), .second, .val (.int ln), .val (.int nn), .val (.ref b1), .val (.ref sq), .val (.int ((nn + (4 : Int32)) / (5 : Int32))), .val (.int ka), .unset, .unset, .unset, .unset, .unset, .unset, .unset]) rfl ?_
    show Steps p.tables e below (T103.setTop (mkF m 211 #[.val (.long a), .second, .val (.long b), .second, .val (.int ln), .val (.int nn), .val (.ref b1), .val (.ref sq), .val (.int ((nn + (4 : Int32)) / (5 : Int32))), .val (.int ka), .unset, .unset, .unset, .unset, .unset, .unset, .unset] [])) _
    refine XS.iconst X103.here hx rfl (hb hby at_211) ?_
    show Steps p.tables e below (T103.setTop (mkF m 212 #[.val (.long a), .second, .val (.long b), .second, .val (.int ln), .val (.int nn), .val (.ref b1), .val (.ref sq), .val (.int ((nn + (4 : Int32)) / (5 : Int32))), .val (.int ka), .unset, .unset, .unset, .unset, .unset, .unset, .unset] [(.int (0 : Int32))])) _
    refine XS.iload X103.here hx rfl (hb hby at_212) rfl ?_
    show Steps p.tables e below (T103.setTop (mkF m 214 #[.val (.long a), .second, .val (.long b), .second, .val (.int ln), .val (.int nn), .val (.ref b1), .val (.ref sq), .val (.int ((nn + (4 : Int32)) / (5 : Int32))), .val (.int ka), .unset, .unset, .unset, .unset, .unset, .unset, .unset] [(.int nn), (.int (0 : Int32))])) _
    refine XS.iconst X103.here hx rfl (hb hby at_214) ?_
    show Steps p.tables e below (T103.setTop (mkF m 215 #[.val (.long a), .second, .val (.long b), .second, .val (.int ln), .val (.int nn), .val (.ref b1), .val (.ref sq), .val (.int ((nn + (4 : Int32)) / (5 : Int32))), .val (.int ka), .unset, .unset, .unset, .unset, .unset, .unset, .unset] [(.int (5 : Int32)), (.int nn), (.int (0 : Int32))])) _
    refine XS.isub X103.here hx rfl (hb hby at_215) rfl ?_
    show Steps p.tables e below (T103.setTop (mkF m 216 #[.val (.long a), .second, .val (.long b), .second, .val (.int ln), .val (.int nn), .val (.ref b1), .val (.ref sq), .val (.int ((nn + (4 : Int32)) / (5 : Int32))), .val (.int ka), .unset, .unset, .unset, .unset, .unset, .unset, .unset] [(.int (nn - (5 : Int32))), (.int (0 : Int32))])) _
    refine st104 _ ?_
    show Steps p.tables e below (T104.setTop (mkF m 219 #[.val (.long a), .second, .val (.long b), .second, .val (.int ln), .val (.int nn), .val (.ref b1), .val (.ref sq), .val (.int ((nn + (4 : Int32)) / (5 : Int32))), .val (.int ka), .unset, .unset, .unset, .unset, .unset, .unset, .unset] [(.int (if (0 : Int32) < (nn - (5 : Int32)) then (nn - (5 : Int32)) else (0 : Int32)))])) _
    rw [← h_kc]
    show Steps p.tables e below (T104.setTop (mkF m 219 #[.val (.long a), .second, .val (.long b), .second, .val (.int ln), .val (.int nn), .val (.ref b1), .val (.ref sq), .val (.int ((nn + (4 : Int32)) / (5 : Int32))), .val (.int ka), .unset, .unset, .unset, .unset, .unset, .unset, .unset] [(.int kc)])) _
    refine XS.istore X104.here hx rfl (hb hby at_219) rfl (l' := #[.val (.long a), .second, .val (.long b), .second, .val (.int ln), .val (.int nn), .val (.ref b1), .val (.ref sq), .val (.int ((nn + (4 : Int32)) / (5 : Int32))), .val (.int ka), .val (.int kc), .unset, .unset, .unset, .unset, .unset, .unset]) rfl ?_
    show Steps p.tables e below (T104.setTop (mkF m 221 #[.val (.long a), .second, .val (.long b), .second, .val (.int ln), .val (.int nn), .val (.ref b1), .val (.ref sq), .val (.int ((nn + (4 : Int32)) / (5 : Int32))), .val (.int ka), .val (.int kc), .unset, .unset, .unset, .unset, .unset, .unset] [])) _
    refine XS.lloadN X104.here hx rfl (hb hby at_221) rfl ?_
    show Steps p.tables e below (T104.setTop (mkF m 222 #[.val (.long a), .second, .val (.long b), .second, .val (.int ln), .val (.int nn), .val (.ref b1), .val (.ref sq), .val (.int ((nn + (4 : Int32)) / (5 : Int32))), .val (.int ka), .val (.int kc), .unset, .unset, .unset, .unset, .unset, .unset] [(.long a)])) _
    refine XS.iload X104.here hx rfl (hb hby at_222) rfl ?_
    show Steps p.tables e below (T104.setTop (mkF m 224 #[.val (.long a), .second, .val (.long b), .second, .val (.int ln), .val (.int nn), .val (.ref b1), .val (.ref sq), .val (.int ((nn + (4 : Int32)) / (5 : Int32))), .val (.int ka), .val (.int kc), .unset, .unset, .unset, .unset, .unset, .unset] [(.int ka), (.long a)])) _
    refine st105 _ ?_
    show Steps p.tables e below (T105.setTop (mkF m 227 #[.val (.long a), .second, .val (.long b), .second, .val (.int ln), .val (.int nn), .val (.ref b1), .val (.ref sq), .val (.int ((nn + (4 : Int32)) / (5 : Int32))), .val (.int ka), .val (.int kc), .unset, .unset, .unset, .unset, .unset, .unset] [(.long (own_keep a ka))])) _
    rw [← h_va]
    show Steps p.tables e below (T105.setTop (mkF m 227 #[.val (.long a), .second, .val (.long b), .second, .val (.int ln), .val (.int nn), .val (.ref b1), .val (.ref sq), .val (.int ((nn + (4 : Int32)) / (5 : Int32))), .val (.int ka), .val (.int kc), .unset, .unset, .unset, .unset, .unset, .unset] [(.long va)])) _
    refine XS.lstore X105.here hx rfl (hb hby at_227) rfl (l' := #[.val (.long a), .second, .val (.long b), .second, .val (.int ln), .val (.int nn), .val (.ref b1), .val (.ref sq), .val (.int ((nn + (4 : Int32)) / (5 : Int32))), .val (.int ka), .val (.int kc), .val (.long va), .second, .unset, .unset, .unset, .unset]) rfl ?_
    show Steps p.tables e below (T105.setTop (mkF m 229 #[.val (.long a), .second, .val (.long b), .second, .val (.int ln), .val (.int nn), .val (.ref b1), .val (.ref sq), .val (.int ((nn + (4 : Int32)) / (5 : Int32))), .val (.int ka), .val (.int kc), .val (.long va), .second, .unset, .unset, .unset, .unset] [])) _
    refine XS.lloadN X105.here hx rfl (hb hby at_229) rfl ?_
    show Steps p.tables e below (T105.setTop (mkF m 230 #[.val (.long a), .second, .val (.long b), .second, .val (.int ln), .val (.int nn), .val (.ref b1), .val (.ref sq), .val (.int ((nn + (4 : Int32)) / (5 : Int32))), .val (.int ka), .val (.int kc), .val (.long va), .second, .unset, .unset, .unset, .unset] [(.long b)])) _
    refine XS.iload X105.here hx rfl (hb hby at_230) rfl ?_
    show Steps p.tables e below (T105.setTop (mkF m 232 #[.val (.long a), .second, .val (.long b), .second, .val (.int ln), .val (.int nn), .val (.ref b1), .val (.ref sq), .val (.int ((nn + (4 : Int32)) / (5 : Int32))), .val (.int ka), .val (.int kc), .val (.long va), .second, .unset, .unset, .unset, .unset] [(.int kc), (.long b)])) _
    refine st106 _ ?_
    show Steps p.tables e below (T106.setTop (mkF m 235 #[.val (.long a), .second, .val (.long b), .second, .val (.int ln), .val (.int nn), .val (.ref b1), .val (.ref sq), .val (.int ((nn + (4 : Int32)) / (5 : Int32))), .val (.int ka), .val (.int kc), .val (.long va), .second, .unset, .unset, .unset, .unset] [(.long (own_keep b kc))])) _
    rw [← h_vc]
    show Steps p.tables e below (T106.setTop (mkF m 235 #[.val (.long a), .second, .val (.long b), .second, .val (.int ln), .val (.int nn), .val (.ref b1), .val (.ref sq), .val (.int ((nn + (4 : Int32)) / (5 : Int32))), .val (.int ka), .val (.int kc), .val (.long va), .second, .unset, .unset, .unset, .unset] [(.long vc)])) _
    refine XS.lstore X106.here hx rfl (hb hby at_235) rfl (l' := #[.val (.long a), .second, .val (.long b), .second, .val (.int ln), .val (.int nn), .val (.ref b1), .val (.ref sq), .val (.int ((nn + (4 : Int32)) / (5 : Int32))), .val (.int ka), .val (.int kc), .val (.long va), .second, .val (.long vc), .second, .unset, .unset]) rfl ?_
    show Steps p.tables e below (T106.setTop (mkF m 237 #[.val (.long a), .second, .val (.long b), .second, .val (.int ln), .val (.int nn), .val (.ref b1), .val (.ref sq), .val (.int ((nn + (4 : Int32)) / (5 : Int32))), .val (.int ka), .val (.int kc), .val (.long va), .second, .val (.long vc), .second, .unset, .unset] [])) _
    refine XS.aload X106.here hx rfl (hb hby at_237) rfl rfl ?_
    show Steps p.tables e below (T106.setTop (mkF m 239 #[.val (.long a), .second, .val (.long b), .second, .val (.int ln), .val (.int nn), .val (.ref b1), .val (.ref sq), .val (.int ((nn + (4 : Int32)) / (5 : Int32))), .val (.int ka), .val (.int kc), .val (.long va), .second, .val (.long vc), .second, .unset, .unset] [(.ref sq)])) _
    refine XS.iconst X106.here hx rfl (hb hby at_239) ?_
    show Steps p.tables e below (T106.setTop (mkF m 240 #[.val (.long a), .second, .val (.long b), .second, .val (.int ln), .val (.int nn), .val (.ref b1), .val (.ref sq), .val (.int ((nn + (4 : Int32)) / (5 : Int32))), .val (.int ka), .val (.int kc), .val (.long va), .second, .val (.long vc), .second, .unset, .unset] [(.int (0 : Int32)), (.ref sq)])) _
    refine XS.lload X106.here hx rfl (hb hby at_240) rfl ?_
    show Steps p.tables e below (T106.setTop (mkF m 242 #[.val (.long a), .second, .val (.long b), .second, .val (.int ln), .val (.int nn), .val (.ref b1), .val (.ref sq), .val (.int ((nn + (4 : Int32)) / (5 : Int32))), .val (.int ka), .val (.int kc), .val (.long va), .second, .val (.long vc), .second, .unset, .unset] [(.long va), (.int (0 : Int32)), (.ref sq)])) _
    refine XS.iload X106.here hx rfl (hb hby at_242) rfl ?_
    show Steps p.tables e below (T106.setTop (mkF m 244 #[.val (.long a), .second, .val (.long b), .second, .val (.int ln), .val (.int nn), .val (.ref b1), .val (.ref sq), .val (.int ((nn + (4 : Int32)) / (5 : Int32))), .val (.int ka), .val (.int kc), .val (.long va), .second, .val (.long vc), .second, .unset, .unset] [(.int ka), (.long va), (.int (0 : Int32)), (.ref sq)])) _
    refine st107 _ ?_
    show Steps p.tables e below (T107.setTop (mkF m 247 #[.val (.long a), .second, .val (.long b), .second, .val (.int ln), .val (.int nn), .val (.ref b1), .val (.ref sq), .val (.int ((nn + (4 : Int32)) / (5 : Int32))), .val (.int ka), .val (.int kc), .val (.long va), .second, .val (.long vc), .second, .unset, .unset] [(.int (1 : Int32))])) _
    refine XS.ifNo X107.here hx rfl (hb hby at_247) rfl ((if0 _ _).trans (feq (by decide : ¬ (1 : Int32) = 0)).1) ?_
    show Steps p.tables e below (T107.setTop (mkF m 250 #[.val (.long a), .second, .val (.long b), .second, .val (.int ln), .val (.int nn), .val (.ref b1), .val (.ref sq), .val (.int ((nn + (4 : Int32)) / (5 : Int32))), .val (.int ka), .val (.int kc), .val (.long va), .second, .val (.long vc), .second, .unset, .unset] [])) _
    refine XS.aload X107.here hx rfl (hb hby at_250) rfl rfl ?_
    show Steps p.tables e below (T107.setTop (mkF m 252 #[.val (.long a), .second, .val (.long b), .second, .val (.int ln), .val (.int nn), .val (.ref b1), .val (.ref sq), .val (.int ((nn + (4 : Int32)) / (5 : Int32))), .val (.int ka), .val (.int kc), .val (.long va), .second, .val (.long vc), .second, .unset, .unset] [(.ref sq)])) _
    refine XS.iconst X107.here hx rfl (hb hby at_252) ?_
    show Steps p.tables e below (T107.setTop (mkF m 253 #[.val (.long a), .second, .val (.long b), .second, .val (.int ln), .val (.int nn), .val (.ref b1), .val (.ref sq), .val (.int ((nn + (4 : Int32)) / (5 : Int32))), .val (.int ka), .val (.int kc), .val (.long va), .second, .val (.long vc), .second, .unset, .unset] [(.int (1 : Int32)), (.ref sq)])) _
    refine XS.lload X107.here hx rfl (hb hby at_253) rfl ?_
    show Steps p.tables e below (T107.setTop (mkF m 255 #[.val (.long a), .second, .val (.long b), .second, .val (.int ln), .val (.int nn), .val (.ref b1), .val (.ref sq), .val (.int ((nn + (4 : Int32)) / (5 : Int32))), .val (.int ka), .val (.int kc), .val (.long va), .second, .val (.long vc), .second, .unset, .unset] [(.long va), (.int (1 : Int32)), (.ref sq)])) _
    refine XS.iload X107.here hx rfl (hb hby at_255) rfl ?_
    show Steps p.tables e below (T107.setTop (mkF m 257 #[.val (.long a), .second, .val (.long b), .second, .val (.int ln), .val (.int nn), .val (.ref b1), .val (.ref sq), .val (.int ((nn + (4 : Int32)) / (5 : Int32))), .val (.int ka), .val (.int kc), .val (.long va), .second, .val (.long vc), .second, .unset, .unset] [(.int ka), (.long va), (.int (1 : Int32)), (.ref sq)])) _
    refine st108 _ ?_
    show Steps p.tables e below (T108.setTop (mkF m 260 #[.val (.long a), .second, .val (.long b), .second, .val (.int ln), .val (.int nn), .val (.ref b1), .val (.ref sq), .val (.int ((nn + (4 : Int32)) / (5 : Int32))), .val (.int ka), .val (.int kc), .val (.long va), .second, .val (.long vc), .second, .unset, .unset] [(.int (1 : Int32))])) _
    refine XS.ifNo X108.here hx rfl (hb hby at_260) rfl ((if0 _ _).trans (feq (by decide : ¬ (1 : Int32) = 0)).1) ?_
    show Steps p.tables e below (T108.setTop (mkF m 263 #[.val (.long a), .second, .val (.long b), .second, .val (.int ln), .val (.int nn), .val (.ref b1), .val (.ref sq), .val (.int ((nn + (4 : Int32)) / (5 : Int32))), .val (.int ka), .val (.int kc), .val (.long va), .second, .val (.long vc), .second, .unset, .unset] [])) _
    refine XS.aload X108.here hx rfl (hb hby at_263) rfl rfl ?_
    show Steps p.tables e below (T108.setTop (mkF m 265 #[.val (.long a), .second, .val (.long b), .second, .val (.int ln), .val (.int nn), .val (.ref b1), .val (.ref sq), .val (.int ((nn + (4 : Int32)) / (5 : Int32))), .val (.int ka), .val (.int kc), .val (.long va), .second, .val (.long vc), .second, .unset, .unset] [(.ref sq)])) _
    refine XS.iconst X108.here hx rfl (hb hby at_265) ?_
    show Steps p.tables e below (T108.setTop (mkF m 266 #[.val (.long a), .second, .val (.long b), .second, .val (.int ln), .val (.int nn), .val (.ref b1), .val (.ref sq), .val (.int ((nn + (4 : Int32)) / (5 : Int32))), .val (.int ka), .val (.int kc), .val (.long va), .second, .val (.long vc), .second, .unset, .unset] [(.int (2 : Int32)), (.ref sq)])) _
    refine XS.lload X108.here hx rfl (hb hby at_266) rfl ?_
    show Steps p.tables e below (T108.setTop (mkF m 268 #[.val (.long a), .second, .val (.long b), .second, .val (.int ln), .val (.int nn), .val (.ref b1), .val (.ref sq), .val (.int ((nn + (4 : Int32)) / (5 : Int32))), .val (.int ka), .val (.int kc), .val (.long va), .second, .val (.long vc), .second, .unset, .unset] [(.long va), (.int (2 : Int32)), (.ref sq)])) _
    refine XS.iload X108.here hx rfl (hb hby at_268) rfl ?_
    show Steps p.tables e below (T108.setTop (mkF m 270 #[.val (.long a), .second, .val (.long b), .second, .val (.int ln), .val (.int nn), .val (.ref b1), .val (.ref sq), .val (.int ((nn + (4 : Int32)) / (5 : Int32))), .val (.int ka), .val (.int kc), .val (.long va), .second, .val (.long vc), .second, .unset, .unset] [(.int ka), (.long va), (.int (2 : Int32)), (.ref sq)])) _
    refine st109 _ ?_
    show Steps p.tables e below (T109.setTop (mkF m 273 #[.val (.long a), .second, .val (.long b), .second, .val (.int ln), .val (.int nn), .val (.ref b1), .val (.ref sq), .val (.int ((nn + (4 : Int32)) / (5 : Int32))), .val (.int ka), .val (.int kc), .val (.long va), .second, .val (.long vc), .second, .unset, .unset] [(.int (1 : Int32))])) _
    refine XS.ifNo X109.here hx rfl (hb hby at_273) rfl ((if0 _ _).trans (feq (by decide : ¬ (1 : Int32) = 0)).1) ?_
    show Steps p.tables e below (T109.setTop (mkF m 276 #[.val (.long a), .second, .val (.long b), .second, .val (.int ln), .val (.int nn), .val (.ref b1), .val (.ref sq), .val (.int ((nn + (4 : Int32)) / (5 : Int32))), .val (.int ka), .val (.int kc), .val (.long va), .second, .val (.long vc), .second, .unset, .unset] [])) _
    refine XS.aload X109.here hx rfl (hb hby at_276) rfl rfl ?_
    show Steps p.tables e below (T109.setTop (mkF m 278 #[.val (.long a), .second, .val (.long b), .second, .val (.int ln), .val (.int nn), .val (.ref b1), .val (.ref sq), .val (.int ((nn + (4 : Int32)) / (5 : Int32))), .val (.int ka), .val (.int kc), .val (.long va), .second, .val (.long vc), .second, .unset, .unset] [(.ref sq)])) _
    refine XS.iconst X109.here hx rfl (hb hby at_278) ?_
    show Steps p.tables e below (T109.setTop (mkF m 279 #[.val (.long a), .second, .val (.long b), .second, .val (.int ln), .val (.int nn), .val (.ref b1), .val (.ref sq), .val (.int ((nn + (4 : Int32)) / (5 : Int32))), .val (.int ka), .val (.int kc), .val (.long va), .second, .val (.long vc), .second, .unset, .unset] [(.int (3 : Int32)), (.ref sq)])) _
    refine XS.lload X109.here hx rfl (hb hby at_279) rfl ?_
    show Steps p.tables e below (T109.setTop (mkF m 281 #[.val (.long a), .second, .val (.long b), .second, .val (.int ln), .val (.int nn), .val (.ref b1), .val (.ref sq), .val (.int ((nn + (4 : Int32)) / (5 : Int32))), .val (.int ka), .val (.int kc), .val (.long va), .second, .val (.long vc), .second, .unset, .unset] [(.long va), (.int (3 : Int32)), (.ref sq)])) _
    refine XS.iload X109.here hx rfl (hb hby at_281) rfl ?_
    show Steps p.tables e below (T109.setTop (mkF m 283 #[.val (.long a), .second, .val (.long b), .second, .val (.int ln), .val (.int nn), .val (.ref b1), .val (.ref sq), .val (.int ((nn + (4 : Int32)) / (5 : Int32))), .val (.int ka), .val (.int kc), .val (.long va), .second, .val (.long vc), .second, .unset, .unset] [(.int ka), (.long va), (.int (3 : Int32)), (.ref sq)])) _
    refine st110 _ ?_
    show Steps p.tables e below (T110.setTop (mkF m 286 #[.val (.long a), .second, .val (.long b), .second, .val (.int ln), .val (.int nn), .val (.ref b1), .val (.ref sq), .val (.int ((nn + (4 : Int32)) / (5 : Int32))), .val (.int ka), .val (.int kc), .val (.long va), .second, .val (.long vc), .second, .unset, .unset] [(.int (1 : Int32))])) _
    refine XS.ifNo X110.here hx rfl (hb hby at_286) rfl ((if0 _ _).trans (feq (by decide : ¬ (1 : Int32) = 0)).1) ?_
    show Steps p.tables e below (T110.setTop (mkF m 289 #[.val (.long a), .second, .val (.long b), .second, .val (.int ln), .val (.int nn), .val (.ref b1), .val (.ref sq), .val (.int ((nn + (4 : Int32)) / (5 : Int32))), .val (.int ka), .val (.int kc), .val (.long va), .second, .val (.long vc), .second, .unset, .unset] [])) _
    refine XS.aload X110.here hx rfl (hb hby at_289) rfl rfl ?_
    show Steps p.tables e below (T110.setTop (mkF m 291 #[.val (.long a), .second, .val (.long b), .second, .val (.int ln), .val (.int nn), .val (.ref b1), .val (.ref sq), .val (.int ((nn + (4 : Int32)) / (5 : Int32))), .val (.int ka), .val (.int kc), .val (.long va), .second, .val (.long vc), .second, .unset, .unset] [(.ref sq)])) _
    refine XS.iconst X110.here hx rfl (hb hby at_291) ?_
    show Steps p.tables e below (T110.setTop (mkF m 292 #[.val (.long a), .second, .val (.long b), .second, .val (.int ln), .val (.int nn), .val (.ref b1), .val (.ref sq), .val (.int ((nn + (4 : Int32)) / (5 : Int32))), .val (.int ka), .val (.int kc), .val (.long va), .second, .val (.long vc), .second, .unset, .unset] [(.int (4 : Int32)), (.ref sq)])) _
    refine XS.lload X110.here hx rfl (hb hby at_292) rfl ?_
    show Steps p.tables e below (T110.setTop (mkF m 294 #[.val (.long a), .second, .val (.long b), .second, .val (.int ln), .val (.int nn), .val (.ref b1), .val (.ref sq), .val (.int ((nn + (4 : Int32)) / (5 : Int32))), .val (.int ka), .val (.int kc), .val (.long va), .second, .val (.long vc), .second, .unset, .unset] [(.long va), (.int (4 : Int32)), (.ref sq)])) _
    refine XS.iload X110.here hx rfl (hb hby at_294) rfl ?_
    show Steps p.tables e below (T110.setTop (mkF m 296 #[.val (.long a), .second, .val (.long b), .second, .val (.int ln), .val (.int nn), .val (.ref b1), .val (.ref sq), .val (.int ((nn + (4 : Int32)) / (5 : Int32))), .val (.int ka), .val (.int kc), .val (.long va), .second, .val (.long vc), .second, .unset, .unset] [(.int ka), (.long va), (.int (4 : Int32)), (.ref sq)])) _
    refine st111 _ ?_
    show Steps p.tables e below (T111.setTop (mkF m 299 #[.val (.long a), .second, .val (.long b), .second, .val (.int ln), .val (.int nn), .val (.ref b1), .val (.ref sq), .val (.int ((nn + (4 : Int32)) / (5 : Int32))), .val (.int ka), .val (.int kc), .val (.long va), .second, .val (.long vc), .second, .unset, .unset] [(.int (1 : Int32))])) _
    refine XS.ifNo X111.here hx rfl (hb hby at_299) rfl ((if0 _ _).trans (feq (by decide : ¬ (1 : Int32) = 0)).1) ?_
    show Steps p.tables e below (T111.setTop (mkF m 302 #[.val (.long a), .second, .val (.long b), .second, .val (.int ln), .val (.int nn), .val (.ref b1), .val (.ref sq), .val (.int ((nn + (4 : Int32)) / (5 : Int32))), .val (.int ka), .val (.int kc), .val (.long va), .second, .val (.long vc), .second, .unset, .unset] [])) _
    refine XS.aload X111.here hx rfl (hb hby at_302) rfl rfl ?_
    show Steps p.tables e below (T111.setTop (mkF m 304 #[.val (.long a), .second, .val (.long b), .second, .val (.int ln), .val (.int nn), .val (.ref b1), .val (.ref sq), .val (.int ((nn + (4 : Int32)) / (5 : Int32))), .val (.int ka), .val (.int kc), .val (.long va), .second, .val (.long vc), .second, .unset, .unset] [(.ref sq)])) _
    refine XS.iconst X111.here hx rfl (hb hby at_304) ?_
    show Steps p.tables e below (T111.setTop (mkF m 305 #[.val (.long a), .second, .val (.long b), .second, .val (.int ln), .val (.int nn), .val (.ref b1), .val (.ref sq), .val (.int ((nn + (4 : Int32)) / (5 : Int32))), .val (.int ka), .val (.int kc), .val (.long va), .second, .val (.long vc), .second, .unset, .unset] [(.int (5 : Int32)), (.ref sq)])) _
    refine XS.lload X111.here hx rfl (hb hby at_305) rfl ?_
    show Steps p.tables e below (T111.setTop (mkF m 307 #[.val (.long a), .second, .val (.long b), .second, .val (.int ln), .val (.int nn), .val (.ref b1), .val (.ref sq), .val (.int ((nn + (4 : Int32)) / (5 : Int32))), .val (.int ka), .val (.int kc), .val (.long va), .second, .val (.long vc), .second, .unset, .unset] [(.long va), (.int (5 : Int32)), (.ref sq)])) _
    refine XS.iload X111.here hx rfl (hb hby at_307) rfl ?_
    show Steps p.tables e below (T111.setTop (mkF m 309 #[.val (.long a), .second, .val (.long b), .second, .val (.int ln), .val (.int nn), .val (.ref b1), .val (.ref sq), .val (.int ((nn + (4 : Int32)) / (5 : Int32))), .val (.int ka), .val (.int kc), .val (.long va), .second, .val (.long vc), .second, .unset, .unset] [(.int ka), (.long va), (.int (5 : Int32)), (.ref sq)])) _
    refine st112 _ ?_
    show Steps p.tables e below (T112.setTop (mkF m 312 #[.val (.long a), .second, .val (.long b), .second, .val (.int ln), .val (.int nn), .val (.ref b1), .val (.ref sq), .val (.int ((nn + (4 : Int32)) / (5 : Int32))), .val (.int ka), .val (.int kc), .val (.long va), .second, .val (.long vc), .second, .unset, .unset] [(.int (1 : Int32))])) _
    refine XS.ifNo X112.here hx rfl (hb hby at_312) rfl ((if0 _ _).trans (feq (by decide : ¬ (1 : Int32) = 0)).1) ?_
    show Steps p.tables e below (T112.setTop (mkF m 315 #[.val (.long a), .second, .val (.long b), .second, .val (.int ln), .val (.int nn), .val (.ref b1), .val (.ref sq), .val (.int ((nn + (4 : Int32)) / (5 : Int32))), .val (.int ka), .val (.int kc), .val (.long va), .second, .val (.long vc), .second, .unset, .unset] [])) _
    refine XS.aload X112.here hx rfl (hb hby at_315) rfl rfl ?_
    show Steps p.tables e below (T112.setTop (mkF m 317 #[.val (.long a), .second, .val (.long b), .second, .val (.int ln), .val (.int nn), .val (.ref b1), .val (.ref sq), .val (.int ((nn + (4 : Int32)) / (5 : Int32))), .val (.int ka), .val (.int kc), .val (.long va), .second, .val (.long vc), .second, .unset, .unset] [(.ref sq)])) _
    refine XS.bipush X112.here hx rfl (hb hby at_317) ?_
    show Steps p.tables e below (T112.setTop (mkF m 319 #[.val (.long a), .second, .val (.long b), .second, .val (.int ln), .val (.int nn), .val (.ref b1), .val (.ref sq), .val (.int ((nn + (4 : Int32)) / (5 : Int32))), .val (.int ka), .val (.int kc), .val (.long va), .second, .val (.long vc), .second, .unset, .unset] [(.int (6 : Int32)), (.ref sq)])) _
    refine XS.lload X112.here hx rfl (hb hby at_319) rfl ?_
    show Steps p.tables e below (T112.setTop (mkF m 321 #[.val (.long a), .second, .val (.long b), .second, .val (.int ln), .val (.int nn), .val (.ref b1), .val (.ref sq), .val (.int ((nn + (4 : Int32)) / (5 : Int32))), .val (.int ka), .val (.int kc), .val (.long va), .second, .val (.long vc), .second, .unset, .unset] [(.long va), (.int (6 : Int32)), (.ref sq)])) _
    refine XS.iload X112.here hx rfl (hb hby at_321) rfl ?_
    show Steps p.tables e below (T112.setTop (mkF m 323 #[.val (.long a), .second, .val (.long b), .second, .val (.int ln), .val (.int nn), .val (.ref b1), .val (.ref sq), .val (.int ((nn + (4 : Int32)) / (5 : Int32))), .val (.int ka), .val (.int kc), .val (.long va), .second, .val (.long vc), .second, .unset, .unset] [(.int ka), (.long va), (.int (6 : Int32)), (.ref sq)])) _
    refine st113 _ ?_
    show Steps p.tables e below (T113.setTop (mkF m 326 #[.val (.long a), .second, .val (.long b), .second, .val (.int ln), .val (.int nn), .val (.ref b1), .val (.ref sq), .val (.int ((nn + (4 : Int32)) / (5 : Int32))), .val (.int ka), .val (.int kc), .val (.long va), .second, .val (.long vc), .second, .unset, .unset] [(.int (1 : Int32))])) _
    refine XS.ifNo X113.here hx rfl (hb hby at_326) rfl ((if0 _ _).trans (feq (by decide : ¬ (1 : Int32) = 0)).1) ?_
    show Steps p.tables e below (T113.setTop (mkF m 329 #[.val (.long a), .second, .val (.long b), .second, .val (.int ln), .val (.int nn), .val (.ref b1), .val (.ref sq), .val (.int ((nn + (4 : Int32)) / (5 : Int32))), .val (.int ka), .val (.int kc), .val (.long va), .second, .val (.long vc), .second, .unset, .unset] [])) _
    refine XS.aload X113.here hx rfl (hb hby at_329) rfl rfl ?_
    show Steps p.tables e below (T113.setTop (mkF m 331 #[.val (.long a), .second, .val (.long b), .second, .val (.int ln), .val (.int nn), .val (.ref b1), .val (.ref sq), .val (.int ((nn + (4 : Int32)) / (5 : Int32))), .val (.int ka), .val (.int kc), .val (.long va), .second, .val (.long vc), .second, .unset, .unset] [(.ref sq)])) _
    refine XS.bipush X113.here hx rfl (hb hby at_331) ?_
    show Steps p.tables e below (T113.setTop (mkF m 333 #[.val (.long a), .second, .val (.long b), .second, .val (.int ln), .val (.int nn), .val (.ref b1), .val (.ref sq), .val (.int ((nn + (4 : Int32)) / (5 : Int32))), .val (.int ka), .val (.int kc), .val (.long va), .second, .val (.long vc), .second, .unset, .unset] [(.int (7 : Int32)), (.ref sq)])) _
    refine XS.lload X113.here hx rfl (hb hby at_333) rfl ?_
    show Steps p.tables e below (T113.setTop (mkF m 335 #[.val (.long a), .second, .val (.long b), .second, .val (.int ln), .val (.int nn), .val (.ref b1), .val (.ref sq), .val (.int ((nn + (4 : Int32)) / (5 : Int32))), .val (.int ka), .val (.int kc), .val (.long va), .second, .val (.long vc), .second, .unset, .unset] [(.long va), (.int (7 : Int32)), (.ref sq)])) _
    refine XS.iload X113.here hx rfl (hb hby at_335) rfl ?_
    show Steps p.tables e below (T113.setTop (mkF m 337 #[.val (.long a), .second, .val (.long b), .second, .val (.int ln), .val (.int nn), .val (.ref b1), .val (.ref sq), .val (.int ((nn + (4 : Int32)) / (5 : Int32))), .val (.int ka), .val (.int kc), .val (.long va), .second, .val (.long vc), .second, .unset, .unset] [(.int ka), (.long va), (.int (7 : Int32)), (.ref sq)])) _
    refine st114 _ ?_
    show Steps p.tables e below (T114.setTop (mkF m 340 #[.val (.long a), .second, .val (.long b), .second, .val (.int ln), .val (.int nn), .val (.ref b1), .val (.ref sq), .val (.int ((nn + (4 : Int32)) / (5 : Int32))), .val (.int ka), .val (.int kc), .val (.long va), .second, .val (.long vc), .second, .unset, .unset] [(.int (1 : Int32))])) _
    refine XS.ifNo X114.here hx rfl (hb hby at_340) rfl ((if0 _ _).trans (feq (by decide : ¬ (1 : Int32) = 0)).1) ?_
    show Steps p.tables e below (T114.setTop (mkF m 343 #[.val (.long a), .second, .val (.long b), .second, .val (.int ln), .val (.int nn), .val (.ref b1), .val (.ref sq), .val (.int ((nn + (4 : Int32)) / (5 : Int32))), .val (.int ka), .val (.int kc), .val (.long va), .second, .val (.long vc), .second, .unset, .unset] [])) _
    refine XS.iconst X114.here hx rfl (hb hby at_343) ?_
    show Steps p.tables e below (T114.setTop (mkF m 344 #[.val (.long a), .second, .val (.long b), .second, .val (.int ln), .val (.int nn), .val (.ref b1), .val (.ref sq), .val (.int ((nn + (4 : Int32)) / (5 : Int32))), .val (.int ka), .val (.int kc), .val (.long va), .second, .val (.long vc), .second, .unset, .unset] [(.int (1 : Int32))])) _
    refine XS.goto X114.here hx rfl (pc0 := 344) (pc' := 348) rfl (hb hby at_344) (by decide) (by decide) ?_
    show Steps p.tables e below (T114.setTop (mkF m 348 #[.val (.long a), .second, .val (.long b), .second, .val (.int ln), .val (.int nn), .val (.ref b1), .val (.ref sq), .val (.int ((nn + (4 : Int32)) / (5 : Int32))), .val (.int ka), .val (.int kc), .val (.long va), .second, .val (.long vc), .second, .unset, .unset] [(.int (1 : Int32))])) _
    refine XS.istore X114.here hx rfl (hb hby at_348) rfl (l' := #[.val (.long a), .second, .val (.long b), .second, .val (.int ln), .val (.int nn), .val (.ref b1), .val (.ref sq), .val (.int ((nn + (4 : Int32)) / (5 : Int32))), .val (.int ka), .val (.int kc), .val (.long va), .second, .val (.long vc), .second, .val (.int (1 : Int32)), .unset]) rfl ?_
    show Steps p.tables e below (T114.setTop (mkF m 350 #[.val (.long a), .second, .val (.long b), .second, .val (.int ln), .val (.int nn), .val (.ref b1), .val (.ref sq), .val (.int ((nn + (4 : Int32)) / (5 : Int32))), .val (.int ka), .val (.int kc), .val (.long va), .second, .val (.long vc), .second, .val (.int (1 : Int32)), .unset] [])) _
    refine XS.aload X114.here hx rfl (hb hby at_350) rfl rfl ?_
    show Steps p.tables e below (T114.setTop (mkF m 352 #[.val (.long a), .second, .val (.long b), .second, .val (.int ln), .val (.int nn), .val (.ref b1), .val (.ref sq), .val (.int ((nn + (4 : Int32)) / (5 : Int32))), .val (.int ka), .val (.int kc), .val (.long va), .second, .val (.long vc), .second, .val (.int (1 : Int32)), .unset] [(.ref sq)])) _
    refine XS.bipush X114.here hx rfl (hb hby at_352) ?_
    show Steps p.tables e below (T114.setTop (mkF m 354 #[.val (.long a), .second, .val (.long b), .second, .val (.int ln), .val (.int nn), .val (.ref b1), .val (.ref sq), .val (.int ((nn + (4 : Int32)) / (5 : Int32))), .val (.int ka), .val (.int kc), .val (.long va), .second, .val (.long vc), .second, .val (.int (1 : Int32)), .unset] [(.int (8 : Int32)), (.ref sq)])) _
    refine XS.lload X114.here hx rfl (hb hby at_354) rfl ?_
    show Steps p.tables e below (T114.setTop (mkF m 356 #[.val (.long a), .second, .val (.long b), .second, .val (.int ln), .val (.int nn), .val (.ref b1), .val (.ref sq), .val (.int ((nn + (4 : Int32)) / (5 : Int32))), .val (.int ka), .val (.int kc), .val (.long va), .second, .val (.long vc), .second, .val (.int (1 : Int32)), .unset] [(.long vc), (.int (8 : Int32)), (.ref sq)])) _
    refine XS.iload X114.here hx rfl (hb hby at_356) rfl ?_
    show Steps p.tables e below (T114.setTop (mkF m 358 #[.val (.long a), .second, .val (.long b), .second, .val (.int ln), .val (.int nn), .val (.ref b1), .val (.ref sq), .val (.int ((nn + (4 : Int32)) / (5 : Int32))), .val (.int ka), .val (.int kc), .val (.long va), .second, .val (.long vc), .second, .val (.int (1 : Int32)), .unset] [(.int kc), (.long vc), (.int (8 : Int32)), (.ref sq)])) _
    refine st115 _ ?_
    show Steps p.tables e below (T115.setTop (mkF m 361 #[.val (.long a), .second, .val (.long b), .second, .val (.int ln), .val (.int nn), .val (.ref b1), .val (.ref sq), .val (.int ((nn + (4 : Int32)) / (5 : Int32))), .val (.int ka), .val (.int kc), .val (.long va), .second, .val (.long vc), .second, .val (.int (1 : Int32)), .unset] [(.int (1 : Int32))])) _
    refine XS.ifNo X115.here hx rfl (hb hby at_361) rfl ((if0 _ _).trans (feq (by decide : ¬ (1 : Int32) = 0)).1) ?_
    show Steps p.tables e below (T115.setTop (mkF m 364 #[.val (.long a), .second, .val (.long b), .second, .val (.int ln), .val (.int nn), .val (.ref b1), .val (.ref sq), .val (.int ((nn + (4 : Int32)) / (5 : Int32))), .val (.int ka), .val (.int kc), .val (.long va), .second, .val (.long vc), .second, .val (.int (1 : Int32)), .unset] [])) _
    refine XS.aload X115.here hx rfl (hb hby at_364) rfl rfl ?_
    show Steps p.tables e below (T115.setTop (mkF m 366 #[.val (.long a), .second, .val (.long b), .second, .val (.int ln), .val (.int nn), .val (.ref b1), .val (.ref sq), .val (.int ((nn + (4 : Int32)) / (5 : Int32))), .val (.int ka), .val (.int kc), .val (.long va), .second, .val (.long vc), .second, .val (.int (1 : Int32)), .unset] [(.ref sq)])) _
    refine XS.bipush X115.here hx rfl (hb hby at_366) ?_
    show Steps p.tables e below (T115.setTop (mkF m 368 #[.val (.long a), .second, .val (.long b), .second, .val (.int ln), .val (.int nn), .val (.ref b1), .val (.ref sq), .val (.int ((nn + (4 : Int32)) / (5 : Int32))), .val (.int ka), .val (.int kc), .val (.long va), .second, .val (.long vc), .second, .val (.int (1 : Int32)), .unset] [(.int (9 : Int32)), (.ref sq)])) _
    refine XS.lload X115.here hx rfl (hb hby at_368) rfl ?_
    show Steps p.tables e below (T115.setTop (mkF m 370 #[.val (.long a), .second, .val (.long b), .second, .val (.int ln), .val (.int nn), .val (.ref b1), .val (.ref sq), .val (.int ((nn + (4 : Int32)) / (5 : Int32))), .val (.int ka), .val (.int kc), .val (.long va), .second, .val (.long vc), .second, .val (.int (1 : Int32)), .unset] [(.long vc), (.int (9 : Int32)), (.ref sq)])) _
    refine XS.iload X115.here hx rfl (hb hby at_370) rfl ?_
    show Steps p.tables e below (T115.setTop (mkF m 372 #[.val (.long a), .second, .val (.long b), .second, .val (.int ln), .val (.int nn), .val (.ref b1), .val (.ref sq), .val (.int ((nn + (4 : Int32)) / (5 : Int32))), .val (.int ka), .val (.int kc), .val (.long va), .second, .val (.long vc), .second, .val (.int (1 : Int32)), .unset] [(.int kc), (.long vc), (.int (9 : Int32)), (.ref sq)])) _
    refine st116 _ ?_
    show Steps p.tables e below (T116.setTop (mkF m 375 #[.val (.long a), .second, .val (.long b), .second, .val (.int ln), .val (.int nn), .val (.ref b1), .val (.ref sq), .val (.int ((nn + (4 : Int32)) / (5 : Int32))), .val (.int ka), .val (.int kc), .val (.long va), .second, .val (.long vc), .second, .val (.int (1 : Int32)), .unset] [(.int (1 : Int32))])) _
    refine XS.ifNo X116.here hx rfl (hb hby at_375) rfl ((if0 _ _).trans (feq (by decide : ¬ (1 : Int32) = 0)).1) ?_
    show Steps p.tables e below (T116.setTop (mkF m 378 #[.val (.long a), .second, .val (.long b), .second, .val (.int ln), .val (.int nn), .val (.ref b1), .val (.ref sq), .val (.int ((nn + (4 : Int32)) / (5 : Int32))), .val (.int ka), .val (.int kc), .val (.long va), .second, .val (.long vc), .second, .val (.int (1 : Int32)), .unset] [])) _
    refine XS.aload X116.here hx rfl (hb hby at_378) rfl rfl ?_
    show Steps p.tables e below (T116.setTop (mkF m 380 #[.val (.long a), .second, .val (.long b), .second, .val (.int ln), .val (.int nn), .val (.ref b1), .val (.ref sq), .val (.int ((nn + (4 : Int32)) / (5 : Int32))), .val (.int ka), .val (.int kc), .val (.long va), .second, .val (.long vc), .second, .val (.int (1 : Int32)), .unset] [(.ref sq)])) _
    refine XS.bipush X116.here hx rfl (hb hby at_380) ?_
    show Steps p.tables e below (T116.setTop (mkF m 382 #[.val (.long a), .second, .val (.long b), .second, .val (.int ln), .val (.int nn), .val (.ref b1), .val (.ref sq), .val (.int ((nn + (4 : Int32)) / (5 : Int32))), .val (.int ka), .val (.int kc), .val (.long va), .second, .val (.long vc), .second, .val (.int (1 : Int32)), .unset] [(.int (10 : Int32)), (.ref sq)])) _
    refine XS.lload X116.here hx rfl (hb hby at_382) rfl ?_
    show Steps p.tables e below (T116.setTop (mkF m 384 #[.val (.long a), .second, .val (.long b), .second, .val (.int ln), .val (.int nn), .val (.ref b1), .val (.ref sq), .val (.int ((nn + (4 : Int32)) / (5 : Int32))), .val (.int ka), .val (.int kc), .val (.long va), .second, .val (.long vc), .second, .val (.int (1 : Int32)), .unset] [(.long vc), (.int (10 : Int32)), (.ref sq)])) _
    refine XS.iload X116.here hx rfl (hb hby at_384) rfl ?_
    show Steps p.tables e below (T116.setTop (mkF m 386 #[.val (.long a), .second, .val (.long b), .second, .val (.int ln), .val (.int nn), .val (.ref b1), .val (.ref sq), .val (.int ((nn + (4 : Int32)) / (5 : Int32))), .val (.int ka), .val (.int kc), .val (.long va), .second, .val (.long vc), .second, .val (.int (1 : Int32)), .unset] [(.int kc), (.long vc), (.int (10 : Int32)), (.ref sq)])) _
    refine st117 _ ?_
    show Steps p.tables e below (T117.setTop (mkF m 389 #[.val (.long a), .second, .val (.long b), .second, .val (.int ln), .val (.int nn), .val (.ref b1), .val (.ref sq), .val (.int ((nn + (4 : Int32)) / (5 : Int32))), .val (.int ka), .val (.int kc), .val (.long va), .second, .val (.long vc), .second, .val (.int (1 : Int32)), .unset] [(.int (1 : Int32))])) _
    refine XS.ifNo X117.here hx rfl (hb hby at_389) rfl ((if0 _ _).trans (feq (by decide : ¬ (1 : Int32) = 0)).1) ?_
    show Steps p.tables e below (T117.setTop (mkF m 392 #[.val (.long a), .second, .val (.long b), .second, .val (.int ln), .val (.int nn), .val (.ref b1), .val (.ref sq), .val (.int ((nn + (4 : Int32)) / (5 : Int32))), .val (.int ka), .val (.int kc), .val (.long va), .second, .val (.long vc), .second, .val (.int (1 : Int32)), .unset] [])) _
    refine XS.aload X117.here hx rfl (hb hby at_392) rfl rfl ?_
    show Steps p.tables e below (T117.setTop (mkF m 394 #[.val (.long a), .second, .val (.long b), .second, .val (.int ln), .val (.int nn), .val (.ref b1), .val (.ref sq), .val (.int ((nn + (4 : Int32)) / (5 : Int32))), .val (.int ka), .val (.int kc), .val (.long va), .second, .val (.long vc), .second, .val (.int (1 : Int32)), .unset] [(.ref sq)])) _
    refine XS.bipush X117.here hx rfl (hb hby at_394) ?_
    show Steps p.tables e below (T117.setTop (mkF m 396 #[.val (.long a), .second, .val (.long b), .second, .val (.int ln), .val (.int nn), .val (.ref b1), .val (.ref sq), .val (.int ((nn + (4 : Int32)) / (5 : Int32))), .val (.int ka), .val (.int kc), .val (.long va), .second, .val (.long vc), .second, .val (.int (1 : Int32)), .unset] [(.int (11 : Int32)), (.ref sq)])) _
    refine XS.lload X117.here hx rfl (hb hby at_396) rfl ?_
    show Steps p.tables e below (T117.setTop (mkF m 398 #[.val (.long a), .second, .val (.long b), .second, .val (.int ln), .val (.int nn), .val (.ref b1), .val (.ref sq), .val (.int ((nn + (4 : Int32)) / (5 : Int32))), .val (.int ka), .val (.int kc), .val (.long va), .second, .val (.long vc), .second, .val (.int (1 : Int32)), .unset] [(.long vc), (.int (11 : Int32)), (.ref sq)])) _
    refine XS.iload X117.here hx rfl (hb hby at_398) rfl ?_
    show Steps p.tables e below (T117.setTop (mkF m 400 #[.val (.long a), .second, .val (.long b), .second, .val (.int ln), .val (.int nn), .val (.ref b1), .val (.ref sq), .val (.int ((nn + (4 : Int32)) / (5 : Int32))), .val (.int ka), .val (.int kc), .val (.long va), .second, .val (.long vc), .second, .val (.int (1 : Int32)), .unset] [(.int kc), (.long vc), (.int (11 : Int32)), (.ref sq)])) _
    refine st118 _ ?_
    show Steps p.tables e below (T118.setTop (mkF m 403 #[.val (.long a), .second, .val (.long b), .second, .val (.int ln), .val (.int nn), .val (.ref b1), .val (.ref sq), .val (.int ((nn + (4 : Int32)) / (5 : Int32))), .val (.int ka), .val (.int kc), .val (.long va), .second, .val (.long vc), .second, .val (.int (1 : Int32)), .unset] [(.int (1 : Int32))])) _
    refine XS.ifNo X118.here hx rfl (hb hby at_403) rfl ((if0 _ _).trans (feq (by decide : ¬ (1 : Int32) = 0)).1) ?_
    show Steps p.tables e below (T118.setTop (mkF m 406 #[.val (.long a), .second, .val (.long b), .second, .val (.int ln), .val (.int nn), .val (.ref b1), .val (.ref sq), .val (.int ((nn + (4 : Int32)) / (5 : Int32))), .val (.int ka), .val (.int kc), .val (.long va), .second, .val (.long vc), .second, .val (.int (1 : Int32)), .unset] [])) _
    refine XS.aload X118.here hx rfl (hb hby at_406) rfl rfl ?_
    show Steps p.tables e below (T118.setTop (mkF m 408 #[.val (.long a), .second, .val (.long b), .second, .val (.int ln), .val (.int nn), .val (.ref b1), .val (.ref sq), .val (.int ((nn + (4 : Int32)) / (5 : Int32))), .val (.int ka), .val (.int kc), .val (.long va), .second, .val (.long vc), .second, .val (.int (1 : Int32)), .unset] [(.ref sq)])) _
    refine XS.bipush X118.here hx rfl (hb hby at_408) ?_
    show Steps p.tables e below (T118.setTop (mkF m 410 #[.val (.long a), .second, .val (.long b), .second, .val (.int ln), .val (.int nn), .val (.ref b1), .val (.ref sq), .val (.int ((nn + (4 : Int32)) / (5 : Int32))), .val (.int ka), .val (.int kc), .val (.long va), .second, .val (.long vc), .second, .val (.int (1 : Int32)), .unset] [(.int (12 : Int32)), (.ref sq)])) _
    refine XS.lload X118.here hx rfl (hb hby at_410) rfl ?_
    show Steps p.tables e below (T118.setTop (mkF m 412 #[.val (.long a), .second, .val (.long b), .second, .val (.int ln), .val (.int nn), .val (.ref b1), .val (.ref sq), .val (.int ((nn + (4 : Int32)) / (5 : Int32))), .val (.int ka), .val (.int kc), .val (.long va), .second, .val (.long vc), .second, .val (.int (1 : Int32)), .unset] [(.long vc), (.int (12 : Int32)), (.ref sq)])) _
    refine XS.iload X118.here hx rfl (hb hby at_412) rfl ?_
    show Steps p.tables e below (T118.setTop (mkF m 414 #[.val (.long a), .second, .val (.long b), .second, .val (.int ln), .val (.int nn), .val (.ref b1), .val (.ref sq), .val (.int ((nn + (4 : Int32)) / (5 : Int32))), .val (.int ka), .val (.int kc), .val (.long va), .second, .val (.long vc), .second, .val (.int (1 : Int32)), .unset] [(.int kc), (.long vc), (.int (12 : Int32)), (.ref sq)])) _
    refine st119 _ ?_
    show Steps p.tables e below (T119.setTop (mkF m 417 #[.val (.long a), .second, .val (.long b), .second, .val (.int ln), .val (.int nn), .val (.ref b1), .val (.ref sq), .val (.int ((nn + (4 : Int32)) / (5 : Int32))), .val (.int ka), .val (.int kc), .val (.long va), .second, .val (.long vc), .second, .val (.int (1 : Int32)), .unset] [(.int (1 : Int32))])) _
    refine XS.ifNo X119.here hx rfl (hb hby at_417) rfl ((if0 _ _).trans (feq (by decide : ¬ (1 : Int32) = 0)).1) ?_
    show Steps p.tables e below (T119.setTop (mkF m 420 #[.val (.long a), .second, .val (.long b), .second, .val (.int ln), .val (.int nn), .val (.ref b1), .val (.ref sq), .val (.int ((nn + (4 : Int32)) / (5 : Int32))), .val (.int ka), .val (.int kc), .val (.long va), .second, .val (.long vc), .second, .val (.int (1 : Int32)), .unset] [])) _
    refine XS.aload X119.here hx rfl (hb hby at_420) rfl rfl ?_
    show Steps p.tables e below (T119.setTop (mkF m 422 #[.val (.long a), .second, .val (.long b), .second, .val (.int ln), .val (.int nn), .val (.ref b1), .val (.ref sq), .val (.int ((nn + (4 : Int32)) / (5 : Int32))), .val (.int ka), .val (.int kc), .val (.long va), .second, .val (.long vc), .second, .val (.int (1 : Int32)), .unset] [(.ref sq)])) _
    refine XS.bipush X119.here hx rfl (hb hby at_422) ?_
    show Steps p.tables e below (T119.setTop (mkF m 424 #[.val (.long a), .second, .val (.long b), .second, .val (.int ln), .val (.int nn), .val (.ref b1), .val (.ref sq), .val (.int ((nn + (4 : Int32)) / (5 : Int32))), .val (.int ka), .val (.int kc), .val (.long va), .second, .val (.long vc), .second, .val (.int (1 : Int32)), .unset] [(.int (13 : Int32)), (.ref sq)])) _
    refine XS.lload X119.here hx rfl (hb hby at_424) rfl ?_
    show Steps p.tables e below (T119.setTop (mkF m 426 #[.val (.long a), .second, .val (.long b), .second, .val (.int ln), .val (.int nn), .val (.ref b1), .val (.ref sq), .val (.int ((nn + (4 : Int32)) / (5 : Int32))), .val (.int ka), .val (.int kc), .val (.long va), .second, .val (.long vc), .second, .val (.int (1 : Int32)), .unset] [(.long vc), (.int (13 : Int32)), (.ref sq)])) _
    refine XS.iload X119.here hx rfl (hb hby at_426) rfl ?_
    show Steps p.tables e below (T119.setTop (mkF m 428 #[.val (.long a), .second, .val (.long b), .second, .val (.int ln), .val (.int nn), .val (.ref b1), .val (.ref sq), .val (.int ((nn + (4 : Int32)) / (5 : Int32))), .val (.int ka), .val (.int kc), .val (.long va), .second, .val (.long vc), .second, .val (.int (1 : Int32)), .unset] [(.int kc), (.long vc), (.int (13 : Int32)), (.ref sq)])) _
    refine st120 _ ?_
    show Steps p.tables e below (T120.setTop (mkF m 431 #[.val (.long a), .second, .val (.long b), .second, .val (.int ln), .val (.int nn), .val (.ref b1), .val (.ref sq), .val (.int ((nn + (4 : Int32)) / (5 : Int32))), .val (.int ka), .val (.int kc), .val (.long va), .second, .val (.long vc), .second, .val (.int (1 : Int32)), .unset] [(.int (1 : Int32))])) _
    refine XS.ifNo X120.here hx rfl (hb hby at_431) rfl ((if0 _ _).trans (feq (by decide : ¬ (1 : Int32) = 0)).1) ?_
    show Steps p.tables e below (T120.setTop (mkF m 434 #[.val (.long a), .second, .val (.long b), .second, .val (.int ln), .val (.int nn), .val (.ref b1), .val (.ref sq), .val (.int ((nn + (4 : Int32)) / (5 : Int32))), .val (.int ka), .val (.int kc), .val (.long va), .second, .val (.long vc), .second, .val (.int (1 : Int32)), .unset] [])) _
    refine XS.aload X120.here hx rfl (hb hby at_434) rfl rfl ?_
    show Steps p.tables e below (T120.setTop (mkF m 436 #[.val (.long a), .second, .val (.long b), .second, .val (.int ln), .val (.int nn), .val (.ref b1), .val (.ref sq), .val (.int ((nn + (4 : Int32)) / (5 : Int32))), .val (.int ka), .val (.int kc), .val (.long va), .second, .val (.long vc), .second, .val (.int (1 : Int32)), .unset] [(.ref sq)])) _
    refine XS.bipush X120.here hx rfl (hb hby at_436) ?_
    show Steps p.tables e below (T120.setTop (mkF m 438 #[.val (.long a), .second, .val (.long b), .second, .val (.int ln), .val (.int nn), .val (.ref b1), .val (.ref sq), .val (.int ((nn + (4 : Int32)) / (5 : Int32))), .val (.int ka), .val (.int kc), .val (.long va), .second, .val (.long vc), .second, .val (.int (1 : Int32)), .unset] [(.int (14 : Int32)), (.ref sq)])) _
    refine XS.lload X120.here hx rfl (hb hby at_438) rfl ?_
    show Steps p.tables e below (T120.setTop (mkF m 440 #[.val (.long a), .second, .val (.long b), .second, .val (.int ln), .val (.int nn), .val (.ref b1), .val (.ref sq), .val (.int ((nn + (4 : Int32)) / (5 : Int32))), .val (.int ka), .val (.int kc), .val (.long va), .second, .val (.long vc), .second, .val (.int (1 : Int32)), .unset] [(.long vc), (.int (14 : Int32)), (.ref sq)])) _
    refine XS.iload X120.here hx rfl (hb hby at_440) rfl ?_
    show Steps p.tables e below (T120.setTop (mkF m 442 #[.val (.long a), .second, .val (.long b), .second, .val (.int ln), .val (.int nn), .val (.ref b1), .val (.ref sq), .val (.int ((nn + (4 : Int32)) / (5 : Int32))), .val (.int ka), .val (.int kc), .val (.long va), .second, .val (.long vc), .second, .val (.int (1 : Int32)), .unset] [(.int kc), (.long vc), (.int (14 : Int32)), (.ref sq)])) _
    refine st121 _ ?_
    show Steps p.tables e below (T121.setTop (mkF m 445 #[.val (.long a), .second, .val (.long b), .second, .val (.int ln), .val (.int nn), .val (.ref b1), .val (.ref sq), .val (.int ((nn + (4 : Int32)) / (5 : Int32))), .val (.int ka), .val (.int kc), .val (.long va), .second, .val (.long vc), .second, .val (.int (1 : Int32)), .unset] [(.int (1 : Int32))])) _
    refine XS.ifNo X121.here hx rfl (hb hby at_445) rfl ((if0 _ _).trans (feq (by decide : ¬ (1 : Int32) = 0)).1) ?_
    show Steps p.tables e below (T121.setTop (mkF m 448 #[.val (.long a), .second, .val (.long b), .second, .val (.int ln), .val (.int nn), .val (.ref b1), .val (.ref sq), .val (.int ((nn + (4 : Int32)) / (5 : Int32))), .val (.int ka), .val (.int kc), .val (.long va), .second, .val (.long vc), .second, .val (.int (1 : Int32)), .unset] [])) _
    refine XS.aload X121.here hx rfl (hb hby at_448) rfl rfl ?_
    show Steps p.tables e below (T121.setTop (mkF m 450 #[.val (.long a), .second, .val (.long b), .second, .val (.int ln), .val (.int nn), .val (.ref b1), .val (.ref sq), .val (.int ((nn + (4 : Int32)) / (5 : Int32))), .val (.int ka), .val (.int kc), .val (.long va), .second, .val (.long vc), .second, .val (.int (1 : Int32)), .unset] [(.ref sq)])) _
    refine XS.bipush X121.here hx rfl (hb hby at_450) ?_
    show Steps p.tables e below (T121.setTop (mkF m 452 #[.val (.long a), .second, .val (.long b), .second, .val (.int ln), .val (.int nn), .val (.ref b1), .val (.ref sq), .val (.int ((nn + (4 : Int32)) / (5 : Int32))), .val (.int ka), .val (.int kc), .val (.long va), .second, .val (.long vc), .second, .val (.int (1 : Int32)), .unset] [(.int (15 : Int32)), (.ref sq)])) _
    refine XS.lload X121.here hx rfl (hb hby at_452) rfl ?_
    show Steps p.tables e below (T121.setTop (mkF m 454 #[.val (.long a), .second, .val (.long b), .second, .val (.int ln), .val (.int nn), .val (.ref b1), .val (.ref sq), .val (.int ((nn + (4 : Int32)) / (5 : Int32))), .val (.int ka), .val (.int kc), .val (.long va), .second, .val (.long vc), .second, .val (.int (1 : Int32)), .unset] [(.long vc), (.int (15 : Int32)), (.ref sq)])) _
    refine XS.iload X121.here hx rfl (hb hby at_454) rfl ?_
    show Steps p.tables e below (T121.setTop (mkF m 456 #[.val (.long a), .second, .val (.long b), .second, .val (.int ln), .val (.int nn), .val (.ref b1), .val (.ref sq), .val (.int ((nn + (4 : Int32)) / (5 : Int32))), .val (.int ka), .val (.int kc), .val (.long va), .second, .val (.long vc), .second, .val (.int (1 : Int32)), .unset] [(.int kc), (.long vc), (.int (15 : Int32)), (.ref sq)])) _
    refine st122 _ ?_
    show Steps p.tables e below (T122.setTop (mkF m 459 #[.val (.long a), .second, .val (.long b), .second, .val (.int ln), .val (.int nn), .val (.ref b1), .val (.ref sq), .val (.int ((nn + (4 : Int32)) / (5 : Int32))), .val (.int ka), .val (.int kc), .val (.long va), .second, .val (.long vc), .second, .val (.int (1 : Int32)), .unset] [(.int (1 : Int32))])) _
    refine XS.ifNo X122.here hx rfl (hb hby at_459) rfl ((if0 _ _).trans (feq (by decide : ¬ (1 : Int32) = 0)).1) ?_
    show Steps p.tables e below (T122.setTop (mkF m 462 #[.val (.long a), .second, .val (.long b), .second, .val (.int ln), .val (.int nn), .val (.ref b1), .val (.ref sq), .val (.int ((nn + (4 : Int32)) / (5 : Int32))), .val (.int ka), .val (.int kc), .val (.long va), .second, .val (.long vc), .second, .val (.int (1 : Int32)), .unset] [])) _
    refine XS.iconst X122.here hx rfl (hb hby at_462) ?_
    show Steps p.tables e below (T122.setTop (mkF m 463 #[.val (.long a), .second, .val (.long b), .second, .val (.int ln), .val (.int nn), .val (.ref b1), .val (.ref sq), .val (.int ((nn + (4 : Int32)) / (5 : Int32))), .val (.int ka), .val (.int kc), .val (.long va), .second, .val (.long vc), .second, .val (.int (1 : Int32)), .unset] [(.int (1 : Int32))])) _
    refine XS.goto X122.here hx rfl (pc0 := 463) (pc' := 467) rfl (hb hby at_463) (by decide) (by decide) ?_
    show Steps p.tables e below (T122.setTop (mkF m 467 #[.val (.long a), .second, .val (.long b), .second, .val (.int ln), .val (.int nn), .val (.ref b1), .val (.ref sq), .val (.int ((nn + (4 : Int32)) / (5 : Int32))), .val (.int ka), .val (.int kc), .val (.long va), .second, .val (.long vc), .second, .val (.int (1 : Int32)), .unset] [(.int (1 : Int32))])) _
    refine XS.istore X122.here hx rfl (hb hby at_467) rfl (l' := #[.val (.long a), .second, .val (.long b), .second, .val (.int ln), .val (.int nn), .val (.ref b1), .val (.ref sq), .val (.int ((nn + (4 : Int32)) / (5 : Int32))), .val (.int ka), .val (.int kc), .val (.long va), .second, .val (.long vc), .second, .val (.int (1 : Int32)), .val (.int (1 : Int32))]) rfl ?_
    show Steps p.tables e below (T122.setTop (mkF m 469 #[.val (.long a), .second, .val (.long b), .second, .val (.int ln), .val (.int nn), .val (.ref b1), .val (.ref sq), .val (.int ((nn + (4 : Int32)) / (5 : Int32))), .val (.int ka), .val (.int kc), .val (.long va), .second, .val (.long vc), .second, .val (.int (1 : Int32)), .val (.int (1 : Int32))] [])) _
    refine XS.iload X122.here hx rfl (hb hby at_469) rfl ?_
    show Steps p.tables e below (T122.setTop (mkF m 471 #[.val (.long a), .second, .val (.long b), .second, .val (.int ln), .val (.int nn), .val (.ref b1), .val (.ref sq), .val (.int ((nn + (4 : Int32)) / (5 : Int32))), .val (.int ka), .val (.int kc), .val (.long va), .second, .val (.long vc), .second, .val (.int (1 : Int32)), .val (.int (1 : Int32))] [(.int (1 : Int32))])) _
    refine XS.ifNo X122.here hx rfl (hb hby at_471) rfl ((if0 _ _).trans (feq (by decide : ¬ (1 : Int32) = 0)).1) ?_
    show Steps p.tables e below (T122.setTop (mkF m 474 #[.val (.long a), .second, .val (.long b), .second, .val (.int ln), .val (.int nn), .val (.ref b1), .val (.ref sq), .val (.int ((nn + (4 : Int32)) / (5 : Int32))), .val (.int ka), .val (.int kc), .val (.long va), .second, .val (.long vc), .second, .val (.int (1 : Int32)), .val (.int (1 : Int32))] [])) _
    refine XS.iload X122.here hx rfl (hb hby at_474) rfl ?_
    show Steps p.tables e below (T122.setTop (mkF m 476 #[.val (.long a), .second, .val (.long b), .second, .val (.int ln), .val (.int nn), .val (.ref b1), .val (.ref sq), .val (.int ((nn + (4 : Int32)) / (5 : Int32))), .val (.int ka), .val (.int kc), .val (.long va), .second, .val (.long vc), .second, .val (.int (1 : Int32)), .val (.int (1 : Int32))] [(.int (1 : Int32))])) _
    refine XS.ifNo X122.here hx rfl (hb hby at_476) rfl ((if0 _ _).trans (feq (by decide : ¬ (1 : Int32) = 0)).1) ?_
    show Steps p.tables e below (T122.setTop (mkF m 479 #[.val (.long a), .second, .val (.long b), .second, .val (.int ln), .val (.int nn), .val (.ref b1), .val (.ref sq), .val (.int ((nn + (4 : Int32)) / (5 : Int32))), .val (.int ka), .val (.int kc), .val (.long va), .second, .val (.long vc), .second, .val (.int (1 : Int32)), .val (.int (1 : Int32))] [])) _
    refine XS.iconst X122.here hx rfl (hb hby at_479) ?_
    show Steps p.tables e below (T122.setTop (mkF m 480 #[.val (.long a), .second, .val (.long b), .second, .val (.int ln), .val (.int nn), .val (.ref b1), .val (.ref sq), .val (.int ((nn + (4 : Int32)) / (5 : Int32))), .val (.int ka), .val (.int kc), .val (.long va), .second, .val (.long vc), .second, .val (.int (1 : Int32)), .val (.int (1 : Int32))] [(.int (1 : Int32))])) _
    refine XS.goto X122.here hx rfl (pc0 := 480) (pc' := 484) rfl (hb hby at_480) (by decide) (by decide) ?_
    show Steps p.tables e below (T122.setTop (mkF m 484 #[.val (.long a), .second, .val (.long b), .second, .val (.int ln), .val (.int nn), .val (.ref b1), .val (.ref sq), .val (.int ((nn + (4 : Int32)) / (5 : Int32))), .val (.int ka), .val (.int kc), .val (.long va), .second, .val (.long vc), .second, .val (.int (1 : Int32)), .val (.int (1 : Int32))] [(.int (1 : Int32))])) _
    exact retN X122 hx (t := .boolean) Bd.returns (by simp) (hb hby at_484) hr
  · show Q_rm0 Z a b ln cs0 fm al kA h0 n0 _ T122.heap _
    rw [e122]
    exact ⟨rfl, N122⟩

theorem own_fold1 (g : Nat → Option Bool) : ∀ (L : List Nat) (x : Option Bool), L.foldl (fun acc i => match acc with | some true => g i | y => y) x = some true → x = some true := by
  intro L
  induction L with
  | nil => intro x h; exact h
  | cons i L ih =>
    intro x h
    rw [List.foldl_cons] at h
    have q := ih _ h
    match x, q with
    | some true, _ => rfl
    | some false, q => exact q
    | none, q => exact q
theorem own_fold (g : Nat → Option Bool) : ∀ (L : List Nat), L.foldl (fun acc i => match acc with | some true => g i | y => y) (some true) = some true → ∀ i ∈ L, g i = some true := by
  intro L
  induction L with
  | nil => intro _ i hi; cases hi
  | cons j L ih =>
    intro h i hi
    rw [List.foldl_cons] at h
    have q : g j = some true := own_fold1 g L _ h
    rcases List.mem_cons.mp hi with rfl | hi'
    · exact q
    · refine ih ?_ i hi'
      have h' : L.foldl (fun acc i => match acc with | some true => g i | y => y) (g j) = some true := h
      rw [q] at h'
      exact h'
theorem own_all {args : Array Value} {s : State} {t : Term} {c : Jvm.Cond} {a : Addr} {cell : Cell} (ev : t.eval args s none [] s = some (.ref a)) (ha : s.arrayAt? a = some cell) (h : (Jvm.Cond.all t c).value args s none s [] = some true) : ∀ i, i < cell.slots.size → c.value args s none s [i] = some true := by
  intro i hi
  simp only [Cond.value, ev, ha] at h
  exact own_fold (fun i => c.value args s none s [i]) (List.range cell.slots.size) h i (List.mem_range.mpr hi)
def own_T : Term := Term.static "com/example/harrier/harrier/warc/Base32" "ALPHABET" "[C"
def own_e : Term := Term.op1 Unary.i2l (Term.elem own_T (Term.index 0))
def own_b1 : Jvm.Cond := Jvm.Cond.or (Jvm.Cond.le (Term.int (26 : Int32)) (Term.index 0)) (Jvm.Cond.eq own_e (Term.op2 Binary.ladd (Term.op1 Unary.i2l (Term.index 0)) (Term.long (65 : Int64))))
def own_b2 : Jvm.Cond := Jvm.Cond.or (Jvm.Cond.lt (Term.index 0) (Term.int (26 : Int32))) (Jvm.Cond.eq own_e (Term.op2 Binary.ladd (Term.op1 Unary.i2l (Term.index 0)) (Term.long (24 : Int64))))
theorem own_lenN {s : State} {args : Array Value} {t : Term} {a : Addr} {c : Cell} {ty : FieldType} (ev : t.eval args s none [] s = some (.ref a)) (A : Arr s s.heap a c ty) (h : (Jvm.Cond.eq (Term.length t) (Term.int 32)).value args s none s [] = some true) : c.slots.size = 32 := by
  obtain ⟨u, y, e1, e2, -, -⟩ := cmp_v (Or.inl h)
  have ha := A.fin (U := s) (Vm.Alike.refl _)
  have hlt : c.slots.size < 2 ^ 31 := by
    rcases Nat.lt_or_ge c.slots.size (2 ^ 31) with q | q
    · exact q
    · have : ¬ c.slots.size < 2147483648 := by omega
      simp [Term.eval, ev, ha, this] at e1
  have e3 := len_f ev ha hlt
  have e4 : (Term.int 32).eval args s none [] s = some (.int 32) := Term.int_eval 32
  have q : c.slots.size.toInt32 = 32 := by simpa [Cond.value, e3, e4] using h
  have q2 := len_toInt hlt
  rw [q] at q2
  have k0 : (32 : Int32).toInt = 32 := by decide
  omega
theorem own_slot {s : State} {args : Array Value} {al : Addr} {cA : Cell} (ev : own_T.eval args s none [] s = some (.ref al)) (A : Arr s s.heap al cA .char) (hsz : cA.slots.size = 32)
    (h1 : (Jvm.Cond.all own_T own_b1).value args s none s [] = some true) (h2 : (Jvm.Cond.all own_T own_b2).value args s none s [] = some true) (i : Nat) (hi : i < 32) (x : Int32) (hx : cA.slots[i]? = some (.int x)) : x = own_al (Int32.ofNat i) := by
  have ha := A.fin (U := s) (Vm.Alike.refl _)
  have i31 : i < 2147483648 := by omega
  have g1 := own_all ev ha h1 i (by omega)
  have g2 := own_all ev ha h2 i (by omega)
  have evi : own_T.eval args s none [i] s = some (.ref al) := ev
  have ei : (Term.index 0).eval args s none [i] s = some (.int (Int32.ofNat i)) := rfl
  have ee : (Term.elem own_T (Term.index 0)).eval args s none [i] s = some (.int x) := by
    rw [elem_f evi ei ha (own_nn i31), own_cl i31]; exact hx
  have el : own_e.eval args s none [i] s = some (.long x.toInt64) := by
    unfold own_e; rw [op1_f ee]; rfl
  have er : ∀ k : Int64, (Term.op2 Binary.ladd (Term.op1 Unary.i2l (Term.index 0)) (Term.long k)).eval args s none [i] s = some (.long ((Int32.ofNat i).toInt64 + k)) := fun k => by
    have q1 : (Term.op1 Unary.i2l (Term.index 0)).eval args s none [i] s = some (.long (Int32.ofNat i).toInt64) := by rw [op1_f ei]; rfl
    have q2 : (Term.long k).eval args s none [i] s = some (.long k) := rfl
    rw [op2_f q1 q2]; rfl
  have e26 : (Term.int (26 : Int32)).eval args s none [i] s = some (.int 26) := rfl
  have k26 : (26 : Int32).toInt = 26 := by decide
  have k65 : (65 : Int64).toInt = 65 := by decide
  have k24 : (24 : Int64).toInt = 24 := by decide
  have t65 : (65 : Int32).toInt = 65 := by decide
  have t50 : (50 : Int32).toInt = 50 := by decide
  have oi := own_ofNat i31
  have hle : (Jvm.Cond.le (Term.int (26 : Int32)) (Term.index 0)).value args s none s [i] = some (decide ((26 : Int32) ≤ Int32.ofNat i)) := Cond.le_ints e26 ei
  have hlt : (Jvm.Cond.lt (Term.index 0) (Term.int (26 : Int32))).value args s none s [i] = some (decide (Int32.ofNat i < (26 : Int32))) := Cond.lt_ints ei e26
  apply Int32.toInt_inj.mp
  unfold own_al
  by_cases q : Int32.ofNat i < (26 : Int32)
  · rw [if_pos q]
    have nle : ¬ (26 : Int32) ≤ Int32.ofNat i := Int32.not_le.mpr q
    unfold own_b1 at g1
    rw [Cond.or_of_right (nay hle nle)] at g1
    have g := gotT (eq_L el (er 65)) g1
    have g' := congrArg Int64.toInt g
    have e1 := c_ladd (Int32.ofNat i).toInt64 65
    have r1 := rng64 ((Int32.ofNat i).toInt64 + 65)
    rw [c_i2l] at g' e1
    have e2 := c_iadd (65 : Int32) (Int32.ofNat i)
    have r2 := rng32 ((65 : Int32) + Int32.ofNat i)
    omega
  · rw [if_neg q]
    unfold own_b2 at g2
    rw [Cond.or_of_right (nay hlt q)] at g2
    have g := gotT (eq_L el (er 24)) g2
    have g' := congrArg Int64.toInt g
    have e1 := c_ladd (Int32.ofNat i).toInt64 24
    have r1 := rng64 ((Int32.ofNat i).toInt64 + 24)
    rw [c_i2l] at g' e1
    have e2 := c_isub (Int32.ofNat i) (26 : Int32)
    have e3 := c_iadd (50 : Int32) (Int32.ofNat i - (26 : Int32))
    have r2 := rng32 (Int32.ofNat i - (26 : Int32))
    have r3 := rng32 ((50 : Int32) + (Int32.ofNat i - (26 : Int32)))
    omega
theorem own_alv_fits : ∀ k : Fin 32, fits .char (own_alv.getD k.1 (.int (0 : Int32))) = true := by decide
theorem own_alpha {s : State} {args : Array Value} {al : Addr} {cA : Cell} (hfit : Fit s) (ev : own_T.eval args s none [] s = some (.ref al)) (A : Arr s s.heap al cA .char) (hsz : cA.slots.size = 32)
    (h1 : (Jvm.Cond.all own_T own_b1).value args s none s [] = some true) (h2 : (Jvm.Cond.all own_T own_b2).value args s none s [] = some true) : Arv s s.heap al cA.cls .char (32 : Int32) own_alv (.int (0 : Int32)) := by
  have k32 : (32 : Int32).toNatClampNeg = 32 := by decide
  have tb := Tab.start (z := (32 : Int32)) hfit A (Or.inr (Or.inr (Or.inr (Or.inl rfl)))) (by omega) (by rw [hsz]; decide) (by decide)
  refine ⟨cA, A, rfl, by rw [hsz, k32], by decide, fun k hk => ?_, fun k hk => own_alv_fits ⟨k, by omega⟩⟩
  have k31 : k < 2147483648 := by omega
  have hs := tb.2.2.2 (Int32.ofNat k) (by
    rw [own_cl k31]
    intro q
    rcases q with q | q
    · exact own_nn k31 q
    · omega)
  rw [own_cl k31] at hs
  have hx := own_slot ev A hsz h1 h2 k (by omega) _ hs
  rw [hs, hx]
  exact congrArg some (own_alv_at ⟨k, by omega⟩).symm

set_option maxRecDepth 65536 in
set_option maxHeartbeats 40000000 in
theorem comes_1 {Post : Tables → Env → Array Value → State → Outcome → State → Prop} (hpost : ∀ tb e args s v u, (limb_1_1.after args s (.returned v) u = true ∧ limb_1_2.after args s (.returned v) u = true ∧ True) → FrameEnd s (.returned v) u (Jvm.fieldLocs frame_1_writes args s ++ Jvm.arrayLocs frame_1_arrays args s ++ Jvm.staticLocs frame_1_statics s) 24 192 → Post tb e args s (.returned v) u) :
    ArmFor flags0 classFile x code maxLocals ret World_1 tables_1 room_1 Calls_1 rest_1 Pre_1 Post := by
  intro l hfl _ _ p e ha hc hk s m args below hf hA hF happ hP
  obtain ⟨hcalls, hrest, hpre⟩ := hP
  obtain ⟨-, -, -, hnamed, -, -, -, hat⟩ := (Spec.applies_iff hf).mp happ
  obtain ⟨hg, hn⟩ := and_e (Cond.before_iff.mp (show (Jvm.Cond.and given_1 narrow_1).before args s = true from hpre))
  obtain ⟨gc, g0⟩ := and_e hg
  obtain ⟨ga0, g1⟩ := and_e g0
  obtain ⟨ga1, g2⟩ := and_e g1
  obtain ⟨w0, w1, w2, rfl⟩ : ∃ w0 w1 w2 : Value, args = #[w0, w1, w2] := by
    have hs : args.size = 3 := by simpa [Cond.value, given_1] using gc
    obtain ⟨L⟩ := args
    match L, hs with
    | [w0, w1, w2], _ => exact ⟨w0, w1, w2, rfl⟩
  have hw := fun d (hd : d ∈ tables_1) => atoms_spec (ws := Jvm.Cond.code x code maxLocals ret :: tables_1) hat d (List.mem_cons_of_mem _ hd)
  have hfit : Fit s := fun {y c} hc i hi => by
    obtain ⟨ha, rfl⟩ := Array.getElem?_eq_some_iff.mp hc
    have q := List.all_eq_true.mp ((Array.all_eq_true_iff_forall_mem.mp hF) _ (Array.getElem_mem ha)) i (List.mem_range.mpr hi)
    simpa [Array.getElem?_eq_getElem hi] using q
  obtain ⟨i0, ei0⟩ := isL_v ga0
  obtain rfl : w0 = (.long i0) := Option.some.inj ei0
  obtain ⟨i1, ei1⟩ := isL_v ga1
  obtain rfl : w1 = (.long i1) := Option.some.inj ei1
  obtain ⟨i2, ei2⟩ := is_v g2
  obtain rfl : w2 = (.int i2) := Option.some.inj ei2
  obtain ⟨hsets, hown0⟩ := atoms_of _ (rest_1_c_eq ▸ (show rest_1_c.before _ s = true from hrest))
  have n3 := not_v (Cond.before_iff.mp (hsets _ (List.mem_of_getElem? (i := 2) rfl)))
  obtain ⟨cs0, ecs⟩ := is_v (Cond.before_iff.mp (hsets _ (List.mem_of_getElem? (i := 1) rfl)))
  have S8 : Sta s s.heap "java/lang/String" "COMPACT_STRINGS" "Z" (.int cs0) := Sta.start ecs (Or.inl (hsets _ (List.mem_of_getElem? (i := 0) rfl)))
  have c9 : ¬ (cs0 = (0 : Int32)) := gotF (Cond.eq_ints ecs (Term.int_eval (0))) n3
  obtain ⟨fm, efm, hfm⟩ := isR_v (Cond.before_iff.mp (hsets _ (List.mem_of_getElem? (i := 8) rfl)))
  have Sf : Sta s s.heap "jdk/internal/util/Preconditions" "SIOOBE_FORMATTER" "Ljava/util/function/BiFunction;" fm := Sta.start efm (Or.inl (hsets _ (List.mem_of_getElem? (i := 7) rfl)))
  obtain ⟨na, nb⟩ := and_e hn
  obtain ⟨nl, nc⟩ := and_e nb
  obtain ⟨nd, ne⟩ := and_e nc
  obtain ⟨al, eal⟩ := arr_v na
  obtain ⟨cA, Aa⟩ := Arr.start eal na
  have Sa : Sta s s.heap "com/example/harrier/harrier/warc/Base32" "ALPHABET" "[C" (.ref al) := Sta.start eal (Or.inr ⟨hw _ (List.mem_of_getElem? (i := 4) rfl), hw _ (List.mem_of_getElem? (i := 113) rfl)⟩)
  have Va := own_alpha hfit eal Aa (own_lenN eal Aa nl) nd ne
  obtain ⟨n, o, h1, h2, h3, _, L, rfl, ⟨rfl, N⟩, hq⟩ := rm0 l s _ hw tables_1 i0 i1 i2 cs0 fm al cA.cls s.heap s.heap.size (Nat.le_refl _) S8 c9 Sf hfm Sa Va p e ha hc hk s m _ below hf ((Spec.applies_iff_loose hf).mp happ).1 ⟨rfl, State.Warmed39.refl s, rfl⟩ trivial
  refine ⟨n, _, h1, h2, h3, hpost _ _ _ _ _ _ ⟨Cond.after_iff.mpr rfl, Cond.after_iff.mpr (eq_i res_at (Term.int_eval (1)) rfl), trivial⟩ ⟨hq.1, hq.2.1, (hq.2.2.sift fun y hy => Or.inr (N y hy)).mono (by decide) (by decide)⟩⟩
theorem main_1_1 : Claimed_1_1 := comes_1 fun _ _ _ _ _ _ h hF => ⟨h.1, hF⟩
theorem main_1_2 : Claimed_1_2 := comes_1 fun _ _ _ _ _ _ h hF => ⟨h.2.1, hF⟩

end Jvm.Pilot.@@N@@
namespace Jvm.Pilot.@@N@@
open Jvm Jvm.ClassFile Sem Op Lib Jvm.Free Jvm.Stand Jvm.Pilot.@@N@@.Jvm.D
/-! MADE BY PROGRAM (witnessworld.py) out of the Statement's table words and the real class files: 24 classes; the members and pool entries that the words name. The judged class is class 1, her method 1. -/
namespace start1
open Jvm.ClassFile
def u (s : String) : CpInfo := .utf8 (stringToUtf16 s)
/-- a pool by its gaps: so many unusable entries, then the entry; so many at the end -/
def gap : Nat → List CpInfo → List CpInfo
  | 0, r => r
  | n + 1, r => .unusable :: gap n r
def poolList (es : List (Nat × CpInfo)) (last : Nat) : List CpInfo := es.foldr (fun e r => gap e.1 (e.2 :: r)) (gap last [])
def pool (es : List (Nat × CpInfo)) (last : Nat) : Array CpInfo := ⟨poolList es last⟩
def fileOf (pool : Array CpInfo) (this : Nat) (attrs : Array Attribute := #[]) (ms : Array MethodInfo := #[]) (fl : Nat := 33) (sup : Nat := 0) (ifs : Array Nat := #[]) (fds : Array FieldInfo := #[]) : ClassFile where
  minorVersion := 0
  majorVersion := 65
  constantPool := pool
  accessFlags := fl
  thisClass := this
  superClass := sup
  interfaces := ifs
  fields := fds
  methods := ms
  attributes := attrs
def plain (name : String) (sup : Option ClassId) : Class where
  name := name
  kind := .ordinary
  loader := none
  accessFlags := 33
  super := sup
  interfaces := #[]
  cf := none
  fields := #[]
  methods := #[]
  instanceTypes := #[]
  staticTypes := #[]
  resolved := #[]
  callSites := []
  init := .initialized
  statics := none
  mirror := none

def pool0 : Array CpInfo := pool [(5, u "<init>"), (0, u "()V"), (1, .class_ 10), (1, u "java/lang/Object"), (85, u "clone"), (0, u "()Ljava/lang/Object;")] 26

def k0c0 : Code := { maxStack := 0, maxLocals := 1, code := object_method_1_code, exceptionTable := #[], attributes := #[] }
def k0m0 : Method := { name := "<init>", desc := "()V", sig := { parameters := [], returnType := none }, accessFlags := 1, code := some k0c0 }
def k0m1 : Method := { name := "clone", desc := "()Ljava/lang/Object;", sig := { parameters := [], returnType := some (.object "java/lang/Object") }, accessFlags := 260, code := none }
/-- java/lang/Object -/
def k0 : Class := { plain "java/lang/Object" none with
  accessFlags := 33
  interfaces := #[]
  cf := some (fileOf pool0 8 #[] #[{ accessFlags := 1, nameIndex := 5, descriptorIndex := 6, attributes := #[] }, { accessFlags := 260, nameIndex := 96, descriptorIndex := 97, attributes := #[] }] 33 0 #[] #[])
  fields := #[]
  methods := #[k0m0, k0m1]
  instanceTypes := #[]
  staticTypes := #[]
  resolved := Array.replicate 124 none
  statics := none }

def pool1 : Array CpInfo := pool [(2, .class_ 4), (1, u "java/lang/Object"), (0, u "<init>"), (0, u "()V"), (0, .integer 2147483647), (0, .methodref 9 10), (0, .class_ 11), (0, .nameAndType 12 13), (0, u "com/example/harrier/harrier/warc/Base32EncodePinLaw"), (0, u "byteOf"), (0, u "(JI)B"), (0, .methodref 15 16), (0, .class_ 17), (0, .nameAndType 18 19), (0, u "com/example/harrier/harrier/warc/Base32"), (0, u "encode"), (0, u "([B)Ljava/lang/String;"), (0, .methodref 21 22), (0, .class_ 23), (0, .nameAndType 24 25), (0, u "java/lang/String"), (0, u "length"), (0, u "()I"), (0, .methodref 27 28), (0, .class_ 29), (0, .nameAndType 30 31), (0, u "java/lang/Math"), (0, u "min"), (0, u "(II)I"), (0, .methodref 27 33), (0, .nameAndType 34 31), (0, u "max"), (0, .methodref 9 36), (0, .nameAndType 37 38), (0, u "keep"), (0, u "(JI)J"), (0, .methodref 9 40), (0, .nameAndType 41 42), (0, u "at"), (0, u "(Ljava/lang/String;IJI)Z"), (0, .long 1099511627775), (1, .long 31), (1, .methodref 9 48), (0, .nameAndType 49 50), (0, u "symbol"), (0, u "(I)C"), (0, .methodref 21 52), (0, .nameAndType 53 50), (0, u "charAt"), (2, u "law"), (0, u "(JJI)Z")] 5

def k1m0 : Method := { name := "<init>", desc := "()V", sig := { parameters := [], returnType := none }, accessFlags := 1, code := none }
def k1c1 : Code := { maxStack := 5, maxLocals := 17, code := code, exceptionTable := #[], attributes := #[] }
def k1m1 : Method := { name := "law", desc := "(JJI)Z", sig := { parameters := [.long, .long, .int], returnType := some .boolean }, accessFlags := 9, code := some k1c1 }
def k1c2 : Code := { maxStack := 5, maxLocals := 3, code := method_3_code, exceptionTable := #[], attributes := #[] }
def k1m2 : Method := { name := "byteOf", desc := "(JI)B", sig := { parameters := [.long, .int], returnType := some .byte }, accessFlags := 10, code := some k1c2 }
def k1c3 : Code := { maxStack := 4, maxLocals := 6, code := method_4_code, exceptionTable := #[], attributes := #[] }
def k1m3 : Method := { name := "keep", desc := "(JI)J", sig := { parameters := [.long, .int], returnType := some .long }, accessFlags := 10, code := some k1c3 }
def k1c4 : Code := { maxStack := 3, maxLocals := 1, code := method_5_code, exceptionTable := #[], attributes := #[] }
def k1m4 : Method := { name := "symbol", desc := "(I)C", sig := { parameters := [.int], returnType := some .char }, accessFlags := 10, code := some k1c4 }
def k1c5 : Code := { maxStack := 5, maxLocals := 8, code := method_6_code, exceptionTable := #[], attributes := #[] }
def k1m5 : Method := { name := "at", desc := "(Ljava/lang/String;IJI)Z", sig := { parameters := [(.object "java/lang/String"), .int, .long, .int], returnType := some .boolean }, accessFlags := 10, code := some k1c5 }
/-- com/example/harrier/harrier/warc/Base32EncodePinLaw -/
def k1 : Class := { plain "com/example/harrier/harrier/warc/Base32EncodePinLaw" (some 0) with
  accessFlags := 49
  interfaces := #[]
  cf := some (fileOf pool1 9 #[] #[{ accessFlags := 1, nameIndex := 5, descriptorIndex := 6, attributes := #[] }, { accessFlags := 9, nameIndex := 56, descriptorIndex := 57, attributes := #[] }, { accessFlags := 10, nameIndex := 12, descriptorIndex := 13, attributes := #[] }, { accessFlags := 10, nameIndex := 37, descriptorIndex := 38, attributes := #[] }, { accessFlags := 10, nameIndex := 49, descriptorIndex := 50, attributes := #[] }, { accessFlags := 10, nameIndex := 41, descriptorIndex := 42, attributes := #[] }] 49 2 #[] #[])
  fields := #[]
  methods := #[k1m0, k1m1, k1m2, k1m3, k1m4, k1m5]
  instanceTypes := #[]
  staticTypes := #[]
  resolved := Array.replicate 63 none
  statics := none }

def pool2 : Array CpInfo := pool [(2, .class_ 4), (1, u "java/lang/Object"), (0, u "<init>"), (0, u "()V"), (0, .class_ 8), (0, u "java/lang/StringBuilder"), (0, .class_ 10), (0, u "com/example/harrier/harrier/warc/Base32"), (0, .methodref 7 12), (0, .nameAndType 5 13), (0, u "(I)V"), (2, .fieldref 9 17), (0, .nameAndType 18 19), (0, u "ALPHABET"), (0, u "[C"), (0, .methodref 7 21), (0, .nameAndType 22 23), (0, u "append"), (0, u "(C)Ljava/lang/StringBuilder;"), (0, .methodref 7 25), (0, .nameAndType 26 27), (0, u "length"), (0, u "()I"), (0, .methodref 7 29), (0, .nameAndType 30 31), (0, u "toString"), (0, u "()Ljava/lang/String;"), (8, u "BITS_PER_CHAR"), (0, u "I"), (2, u "GROUP_LENGTH"), (3, u "encode"), (0, u "([B)Ljava/lang/String;")] 6

def k2m0 : Method := { name := "<init>", desc := "()V", sig := { parameters := [], returnType := none }, accessFlags := 2, code := none }
def k2c1 : Code := { maxStack := 5, maxLocals := 8, code := prog_19_method_2_code, exceptionTable := #[], attributes := #[] }
def k2m1 : Method := { name := "encode", desc := "([B)Ljava/lang/String;", sig := { parameters := [(.array .byte)], returnType := some (.object "java/lang/String") }, accessFlags := 8, code := some k2c1 }
/-- com/example/harrier/harrier/warc/Base32 -/
def k2 : Class := { plain "com/example/harrier/harrier/warc/Base32" (some 0) with
  accessFlags := 48
  interfaces := #[]
  cf := some (fileOf pool2 9 #[] #[{ accessFlags := 2, nameIndex := 5, descriptorIndex := 6, attributes := #[] }, { accessFlags := 8, nameIndex := 48, descriptorIndex := 49, attributes := #[] }] 48 2 #[] #[{ accessFlags := 26, nameIndex := 18, descriptorIndex := 19, attributes := #[] }, { accessFlags := 26, nameIndex := 40, descriptorIndex := 41, attributes := #[] }, { accessFlags := 26, nameIndex := 44, descriptorIndex := 41, attributes := #[] }])
  fields := #[{ name := "ALPHABET", type := (.array .char), accessFlags := 26, slot := 0, constantValue := 0 }, { name := "BITS_PER_CHAR", type := .int, accessFlags := 26, slot := 1, constantValue := 0 }, { name := "GROUP_LENGTH", type := .int, accessFlags := 26, slot := 2, constantValue := 0 }]
  methods := #[k2m0, k2m1]
  instanceTypes := #[]
  staticTypes := #[(.array .char), .int, .int]
  resolved := Array.replicate 56 none
  statics := some 0 }

def pool3 : Array CpInfo := pool [(1, .class_ 2), (0, u "java/lang/Appendable"), (0, .class_ 4), (0, u "java/lang/Object")] 9

/-- java/lang/Appendable -/
def k3 : Class := { plain "java/lang/Appendable" (some 0) with
  accessFlags := 1537
  interfaces := #[]
  cf := some (fileOf pool3 1 #[] #[] 1537 3 #[] #[])
  fields := #[]
  methods := #[]
  instanceTypes := #[]
  staticTypes := #[]
  resolved := Array.replicate 14 none
  statics := none }

def pool4 : Array CpInfo := pool [(2, .class_ 4), (1, u "java/lang/CharSequence"), (42, .class_ 48), (0, u "java/lang/CharSequence$1CodePointIterator"), (10, .class_ 60), (0, u "java/lang/CharSequence$1CharIterator"), (5, .class_ 67), (0, u "java/lang/Object")] 63

/-- java/lang/CharSequence -/
def k4 : Class := { plain "java/lang/CharSequence" (some 0) with
  accessFlags := 1537
  interfaces := #[]
  cf := some (fileOf pool4 2 #[.nestMembers #[47, 59]] #[] 1537 66 #[] #[])
  fields := #[]
  methods := #[]
  instanceTypes := #[]
  staticTypes := #[]
  resolved := Array.replicate 131 none
  statics := none }

def pool5 : Array CpInfo := pool [(1, .class_ 2), (0, u "java/lang/String"), (0, .methodref 4 5), (0, .class_ 6), (0, .nameAndType 7 8), (0, u "java/lang/Object"), (0, u "<init>"), (0, u "()V"), (1, .class_ 12), (1, u "java/lang/AbstractStringBuilder"), (0, u "EMPTYVALUE"), (0, u "[B"), (0, .fieldref 10 16), (0, .nameAndType 17 14), (0, u "value"), (0, .fieldref 1 19), (0, .nameAndType 20 21), (0, u "COMPACT_STRINGS"), (0, u "Z"), (0, .fieldref 10 23), (0, .nameAndType 24 25), (0, u "coder"), (0, u "B"), (8, u "length"), (0, u "()I"), (9, u "append"), (2, .class_ 49), (0, u "java/lang/CharSequence"), (25, u "maybeLatin1"), (3, .fieldref 10 80), (0, .nameAndType 81 82), (0, u "count"), (0, u "I"), (0, .methodref 10 84), (0, .nameAndType 85 86), (0, u "isLatin1"), (0, u "()Z"), (1, .class_ 90), (1, u "java/lang/StringLatin1"), (9, .methodref 10 101), (0, .nameAndType 102 103), (0, u "ensureCapacityInternal"), (0, u "(I)V"), (87, .methodref 88 192), (0, .nameAndType 193 194), (0, u "canEncode"), (0, u "(C)Z"), (97, u "(C)Ljava/lang/AbstractStringBuilder;"), (110, u "()[B"), (40, .class_ 445), (0, u "java/lang/Appendable"), (106, u "getValue")] 56

def k5m0 : Method := { name := "<init>", desc := "()V", sig := { parameters := [], returnType := none }, accessFlags := 0, code := none }
def k5c1 : Code := { maxStack := 2, maxLocals := 2, code := jdk_68_method_2_code, exceptionTable := #[], attributes := #[] }
def k5m1 : Method := { name := "<init>", desc := "(I)V", sig := { parameters := [.int], returnType := none }, accessFlags := 0, code := some k5c1 }
def k5c2 : Code := { maxStack := 1, maxLocals := 1, code := jdk_68_method_6_code, exceptionTable := #[], attributes := #[] }
def k5m2 : Method := { name := "length", desc := "()I", sig := { parameters := [], returnType := some .int }, accessFlags := 1, code := some k5c2 }
def k5c3 : Code := { maxStack := 4, maxLocals := 3, code := jdk_68_method_9_code, exceptionTable := #[], attributes := #[] }
def k5m3 : Method := { name := "ensureCapacityInternal", desc := "(I)V", sig := { parameters := [.int], returnType := none }, accessFlags := 2, code := some k5c3 }
def k5c4 : Code := { maxStack := 5, maxLocals := 2, code := jdk_68_method_31_code, exceptionTable := #[], attributes := #[] }
def k5m4 : Method := { name := "append", desc := "(C)Ljava/lang/AbstractStringBuilder;", sig := { parameters := [.char], returnType := some (.object "java/lang/AbstractStringBuilder") }, accessFlags := 1, code := some k5c4 }
def k5c5 : Code := { maxStack := 1, maxLocals := 1, code := jdk_68_method_64_code, exceptionTable := #[], attributes := #[] }
def k5m5 : Method := { name := "getValue", desc := "()[B", sig := { parameters := [], returnType := some (.array .byte) }, accessFlags := 16, code := some k5c5 }
def k5c6 : Code := { maxStack := 1, maxLocals := 1, code := jdk_68_method_68_code, exceptionTable := #[], attributes := #[] }
def k5m6 : Method := { name := "isLatin1", desc := "()Z", sig := { parameters := [], returnType := some .boolean }, accessFlags := 16, code := some k5c6 }
/-- java/lang/AbstractStringBuilder -/
def k5 : Class := { plain "java/lang/AbstractStringBuilder" (some 0) with
  accessFlags := 1056
  interfaces := #[3, 4]
  cf := some (fileOf pool5 10 #[] #[{ accessFlags := 0, nameIndex := 7, descriptorIndex := 8, attributes := #[] }, { accessFlags := 0, nameIndex := 7, descriptorIndex := 103, attributes := #[] }, { accessFlags := 1, nameIndex := 34, descriptorIndex := 35, attributes := #[] }, { accessFlags := 2, nameIndex := 102, descriptorIndex := 103, attributes := #[] }, { accessFlags := 1, nameIndex := 45, descriptorIndex := 292, attributes := #[] }, { accessFlags := 16, nameIndex := 552, descriptorIndex := 403, attributes := #[] }, { accessFlags := 16, nameIndex := 85, descriptorIndex := 86, attributes := #[] }] 1056 4 #[444, 48] #[{ accessFlags := 0, nameIndex := 17, descriptorIndex := 14, attributes := #[] }, { accessFlags := 0, nameIndex := 24, descriptorIndex := 25, attributes := #[] }, { accessFlags := 0, nameIndex := 75, descriptorIndex := 21, attributes := #[] }, { accessFlags := 0, nameIndex := 81, descriptorIndex := 82, attributes := #[] }, { accessFlags := 26, nameIndex := 13, descriptorIndex := 14, attributes := #[] }])
  fields := #[{ name := "value", type := (.array .byte), accessFlags := 0, slot := 0, constantValue := 0 }, { name := "coder", type := .byte, accessFlags := 0, slot := 1, constantValue := 0 }, { name := "maybeLatin1", type := .boolean, accessFlags := 0, slot := 2, constantValue := 0 }, { name := "count", type := .int, accessFlags := 0, slot := 3, constantValue := 0 }, { name := "EMPTYVALUE", type := (.array .byte), accessFlags := 26, slot := 0, constantValue := 0 }]
  methods := #[k5m0, k5m1, k5m2, k5m3, k5m4, k5m5, k5m6]
  instanceTypes := #[(.array .byte), .byte, .boolean, .int]
  staticTypes := #[(.array .byte)]
  resolved := Array.replicate 609 none
  statics := none }

def pool6 : Array CpInfo := pool [(1, .class_ 2), (0, u "java/io/Serializable"), (0, .class_ 4), (0, u "java/lang/Object")] 2

/-- java/io/Serializable -/
def k6 : Class := { plain "java/io/Serializable" (some 0) with
  accessFlags := 1537
  interfaces := #[]
  cf := some (fileOf pool6 1 #[] #[] 1537 3 #[] #[])
  fields := #[]
  methods := #[]
  instanceTypes := #[]
  staticTypes := #[]
  resolved := Array.replicate 7 none
  statics := none }

def pool7 : Array CpInfo := pool [(1, .class_ 2), (0, u "java/lang/Comparable"), (0, .class_ 4), (0, u "java/lang/Object")] 7

/-- java/lang/Comparable -/
def k7 : Class := { plain "java/lang/Comparable" (some 0) with
  accessFlags := 1537
  interfaces := #[]
  cf := some (fileOf pool7 1 #[] #[] 1537 3 #[] #[])
  fields := #[]
  methods := #[]
  instanceTypes := #[]
  staticTypes := #[]
  resolved := Array.replicate 12 none
  statics := none }

def pool8 : Array CpInfo := pool [(1, .methodref 2 3), (0, .class_ 4), (0, .nameAndType 5 6), (0, u "java/lang/AbstractStringBuilder"), (0, u "<init>"), (0, u "(I)V"), (11, .class_ 20), (1, u "java/lang/String"), (3, .class_ 26), (1, u "java/lang/StringBuilder"), (0, u "append"), (22, .methodref 2 51), (0, .nameAndType 27 52), (0, u "(C)Ljava/lang/AbstractStringBuilder;"), (84, .methodref 18 138), (0, .nameAndType 5 139), (0, u "(Ljava/lang/StringBuilder;)V"), (5, u "()V"), (10, u "()I"), (129, u "(C)Ljava/lang/StringBuilder;"), (56, .methodref 2 344), (0, .nameAndType 345 156), (0, u "length"), (3, .class_ 350), (0, u "java/lang/Appendable"), (0, .class_ 352), (0, u "java/io/Serializable"), (0, .class_ 354), (0, u "java/lang/Comparable"), (0, .class_ 356), (0, u "java/lang/CharSequence"), (0, u "serialVersionUID"), (0, u "J"), (40, u "toString"), (0, u "()Ljava/lang/String;")] 21

def k8m0 : Method := { name := "<init>", desc := "()V", sig := { parameters := [], returnType := none }, accessFlags := 1, code := none }
def k8c1 : Code := { maxStack := 2, maxLocals := 2, code := jdk_67_method_2_code, exceptionTable := #[], attributes := #[] }
def k8m1 : Method := { name := "<init>", desc := "(I)V", sig := { parameters := [.int], returnType := none }, accessFlags := 1, code := some k8c1 }
def k8c2 : Code := { maxStack := 2, maxLocals := 2, code := jdk_67_method_14_code, exceptionTable := #[], attributes := #[] }
def k8m2 : Method := { name := "append", desc := "(C)Ljava/lang/StringBuilder;", sig := { parameters := [.char], returnType := some (.object "java/lang/StringBuilder") }, accessFlags := 1, code := some k8c2 }
def k8c3 : Code := { maxStack := 3, maxLocals := 1, code := jdk_67_method_42_code, exceptionTable := #[], attributes := #[] }
def k8m3 : Method := { name := "toString", desc := "()Ljava/lang/String;", sig := { parameters := [], returnType := some (.object "java/lang/String") }, accessFlags := 1, code := some k8c3 }
def k8c4 : Code := { maxStack := 1, maxLocals := 1, code := jdk_67_method_93_code, exceptionTable := #[], attributes := #[] }
def k8m4 : Method := { name := "length", desc := "()I", sig := { parameters := [], returnType := some .int }, accessFlags := 4161, code := some k8c4 }
/-- java/lang/StringBuilder -/
def k8 : Class := { plain "java/lang/StringBuilder" (some 5) with
  accessFlags := 49
  interfaces := #[3, 6, 7, 4]
  cf := some (fileOf pool8 24 #[] #[{ accessFlags := 1, nameIndex := 5, descriptorIndex := 145, attributes := #[] }, { accessFlags := 1, nameIndex := 5, descriptorIndex := 6, attributes := #[] }, { accessFlags := 1, nameIndex := 27, descriptorIndex := 286, attributes := #[] }, { accessFlags := 1, nameIndex := 399, descriptorIndex := 400, attributes := #[] }, { accessFlags := 4161, nameIndex := 345, descriptorIndex := 156, attributes := #[] }] 49 2 #[349, 351, 353, 355] #[{ accessFlags := 24, nameIndex := 357, descriptorIndex := 358, attributes := #[] }])
  fields := #[{ name := "serialVersionUID", type := .long, accessFlags := 24, slot := 0, constantValue := 0 }]
  methods := #[k8m0, k8m1, k8m2, k8m3, k8m4]
  instanceTypes := #[(.array .byte), .byte, .boolean, .int]
  staticTypes := #[.long]
  resolved := Array.replicate 422 none
  statics := none }

def pool9 : Array CpInfo := pool [(1, .class_ 2), (0, u "java/lang/constant/Constable"), (0, .class_ 4), (0, u "java/lang/Object")] 6

/-- java/lang/constant/Constable -/
def k9 : Class := { plain "java/lang/constant/Constable" (some 0) with
  accessFlags := 1537
  interfaces := #[]
  cf := some (fileOf pool9 1 #[] #[] 1537 3 #[] #[])
  fields := #[]
  methods := #[]
  instanceTypes := #[]
  staticTypes := #[]
  resolved := Array.replicate 11 none
  statics := none }

def pool10 : Array CpInfo := pool [(1, .class_ 2), (0, u "java/lang/constant/ConstantDesc"), (0, .class_ 4), (0, u "java/lang/Object")] 32

/-- java/lang/constant/ConstantDesc -/
def k10 : Class := { plain "java/lang/constant/ConstantDesc" (some 0) with
  accessFlags := 1537
  interfaces := #[]
  cf := some (fileOf pool10 1 #[] #[] 1537 3 #[] #[])
  fields := #[]
  methods := #[]
  instanceTypes := #[]
  staticTypes := #[]
  resolved := Array.replicate 37 none
  statics := none }

def pool11 : Array CpInfo := pool [(1, .methodref 2 3), (0, .class_ 4), (0, .nameAndType 5 6), (0, u "java/lang/Object"), (0, u "<init>"), (0, u "()V"), (2, .fieldref 10 11), (0, .class_ 12), (0, .nameAndType 13 14), (0, u "java/lang/String"), (0, u "value"), (0, u "[B"), (0, .fieldref 10 16), (0, .nameAndType 17 18), (0, u "coder"), (0, u "B"), (2, u "hash"), (0, u "I"), (2, u "hashIsZero"), (0, u "Z"), (11, .fieldref 10 39), (0, .nameAndType 40 26), (0, u "COMPACT_STRINGS"), (13, .methodref 55 56), (0, .class_ 57), (0, .nameAndType 58 59), (0, u "java/util/Arrays"), (0, u "copyOfRange"), (0, u "([BII)[B"), (47, .class_ 109), (1, u "java/lang/StringLatin1"), (32, u "()Z"), (191, u "()I"), (0, .methodref 10 336), (0, .nameAndType 17 337), (0, u "()B"), (2, u "()[B"), (22, u "([BI)C"), (27, u "(II)V"), (35, u "(I)C"), (61, .methodref 10 490), (0, .nameAndType 5 491), (0, u "(Ljava/lang/AbstractStringBuilder;Ljava/lang/Void;)V"), (0, .methodref 10 493), (0, .nameAndType 494 142), (0, u "isLatin1"), (0, .methodref 107 496), (0, .nameAndType 497 363), (0, u "charAt"), (3, u "checkIndex"), (4, .nameAndType 507 334), (0, u "length"), (41, .methodref 550 506), (0, .class_ 551), (0, u "java/lang/AbstractStringBuilder"), (0, .methodref 550 553), (0, .nameAndType 554 340), (0, u "getValue"), (20, .class_ 576), (0, u "java/lang/CharSequence"), (22, u "CASE_INSENSITIVE_ORDER"), (0, u "Ljava/util/Comparator;"), (446, .methodref 550 493), (5, .fieldref 1054 1055), (0, .class_ 1056), (0, .nameAndType 1057 1058), (0, u "jdk/internal/util/Preconditions"), (0, u "SIOOBE_FORMATTER"), (0, u "Ljava/util/function/BiFunction;"), (0, .methodref 1054 1060), (0, .nameAndType 501 1061), (0, u "(IILjava/util/function/BiFunction;)I"), (39, u "serialPersistentFields"), (0, u "[Ljava/io/ObjectStreamField;"), (0, .class_ 1104), (0, u "java/lang/String$CaseInsensitiveComparator"), (1, .class_ 1107), (0, u "java/io/Serializable"), (0, .class_ 1109), (0, u "java/lang/Comparable"), (0, .class_ 1111), (0, u "java/lang/constant/Constable"), (0, .class_ 1113), (0, u "java/lang/constant/ConstantDesc"), (2, u "serialVersionUID"), (0, u "J"), (3, u "REPL"), (0, u "C"), (2, u "LATIN1"), (1, u "UTF16"), (105, u "(Ljava/lang/StringBuilder;)V")] 217

def k11m0 : Method := { name := "<init>", desc := "()V", sig := { parameters := [], returnType := none }, accessFlags := 1, code := none }
def k11c1 : Code := { maxStack := 3, maxLocals := 2, code := jdk_42_method_53_code, exceptionTable := #[], attributes := #[] }
def k11m1 : Method := { name := "<init>", desc := "(Ljava/lang/StringBuilder;)V", sig := { parameters := [(.object "java/lang/StringBuilder")], returnType := none }, accessFlags := 1, code := some k11c1 }
def k11c2 : Code := { maxStack := 2, maxLocals := 1, code := jdk_42_method_54_code, exceptionTable := #[], attributes := #[] }
def k11m2 : Method := { name := "length", desc := "()I", sig := { parameters := [], returnType := some .int }, accessFlags := 1, code := some k11c2 }
def k11c3 : Code := { maxStack := 2, maxLocals := 2, code := jdk_42_method_56_code, exceptionTable := #[], attributes := #[] }
def k11m3 : Method := { name := "charAt", desc := "(I)C", sig := { parameters := [.int], returnType := some .char }, accessFlags := 1, code := some k11c3 }
def k11c4 : Code := { maxStack := 5, maxLocals := 5, code := jdk_42_method_150_code, exceptionTable := #[], attributes := #[] }
def k11m4 : Method := { name := "<init>", desc := "(Ljava/lang/AbstractStringBuilder;Ljava/lang/Void;)V", sig := { parameters := [(.object "java/lang/AbstractStringBuilder"), (.object "java/lang/Void")], returnType := none }, accessFlags := 0, code := some k11c4 }
def k11c5 : Code := { maxStack := 1, maxLocals := 1, code := jdk_42_method_152_code, exceptionTable := #[], attributes := #[] }
def k11m5 : Method := { name := "coder", desc := "()B", sig := { parameters := [], returnType := some .byte }, accessFlags := 0, code := some k11c5 }
def k11c6 : Code := { maxStack := 1, maxLocals := 1, code := jdk_42_method_154_code, exceptionTable := #[], attributes := #[] }
def k11m6 : Method := { name := "isLatin1", desc := "()Z", sig := { parameters := [], returnType := some .boolean }, accessFlags := 0, code := some k11c6 }
def k11c7 : Code := { maxStack := 3, maxLocals := 2, code := jdk_42_method_155_code, exceptionTable := #[], attributes := #[] }
def k11m7 : Method := { name := "checkIndex", desc := "(II)V", sig := { parameters := [.int, .int], returnType := none }, accessFlags := 8, code := some k11c7 }
/-- java/lang/String -/
def k11 : Class := { plain "java/lang/String" (some 0) with
  accessFlags := 49
  interfaces := #[6, 7, 4, 9, 10]
  cf := some (fileOf pool11 10 #[.nestMembers #[1103]] #[{ accessFlags := 1, nameIndex := 5, descriptorIndex := 6, attributes := #[] }, { accessFlags := 1, nameIndex := 5, descriptorIndex := 1233, attributes := #[] }, { accessFlags := 1, nameIndex := 507, descriptorIndex := 334, attributes := #[] }, { accessFlags := 1, nameIndex := 497, descriptorIndex := 427, attributes := #[] }, { accessFlags := 0, nameIndex := 5, descriptorIndex := 491, attributes := #[] }, { accessFlags := 0, nameIndex := 17, descriptorIndex := 337, attributes := #[] }, { accessFlags := 0, nameIndex := 494, descriptorIndex := 142, attributes := #[] }, { accessFlags := 8, nameIndex := 501, descriptorIndex := 391, attributes := #[] }] 49 2 #[1106, 1108, 575, 1110, 1112] #[{ accessFlags := 18, nameIndex := 13, descriptorIndex := 14, attributes := #[] }, { accessFlags := 18, nameIndex := 17, descriptorIndex := 18, attributes := #[] }, { accessFlags := 2, nameIndex := 21, descriptorIndex := 22, attributes := #[] }, { accessFlags := 2, nameIndex := 25, descriptorIndex := 26, attributes := #[] }, { accessFlags := 26, nameIndex := 1116, descriptorIndex := 1117, attributes := #[] }, { accessFlags := 24, nameIndex := 40, descriptorIndex := 26, attributes := #[] }, { accessFlags := 26, nameIndex := 1101, descriptorIndex := 1102, attributes := #[] }, { accessFlags := 26, nameIndex := 1121, descriptorIndex := 1122, attributes := #[] }, { accessFlags := 25, nameIndex := 599, descriptorIndex := 600, attributes := #[] }, { accessFlags := 24, nameIndex := 1125, descriptorIndex := 18, attributes := #[] }, { accessFlags := 24, nameIndex := 1127, descriptorIndex := 18, attributes := #[] }])
  fields := #[{ name := "value", type := (.array .byte), accessFlags := 18, slot := 0, constantValue := 0 }, { name := "coder", type := .byte, accessFlags := 18, slot := 1, constantValue := 0 }, { name := "hash", type := .int, accessFlags := 2, slot := 2, constantValue := 0 }, { name := "hashIsZero", type := .boolean, accessFlags := 2, slot := 3, constantValue := 0 }, { name := "serialVersionUID", type := .long, accessFlags := 26, slot := 0, constantValue := 0 }, { name := "COMPACT_STRINGS", type := .boolean, accessFlags := 24, slot := 1, constantValue := 0 }, { name := "serialPersistentFields", type := (.array (.object "java/io/ObjectStreamField")), accessFlags := 26, slot := 2, constantValue := 0 }, { name := "REPL", type := .char, accessFlags := 26, slot := 3, constantValue := 0 }, { name := "CASE_INSENSITIVE_ORDER", type := (.object "java/util/Comparator"), accessFlags := 25, slot := 4, constantValue := 0 }, { name := "LATIN1", type := .byte, accessFlags := 24, slot := 5, constantValue := 0 }, { name := "UTF16", type := .byte, accessFlags := 24, slot := 6, constantValue := 0 }]
  methods := #[k11m0, k11m1, k11m2, k11m3, k11m4, k11m5, k11m6, k11m7]
  instanceTypes := #[(.array .byte), .byte, .int, .boolean]
  staticTypes := #[.long, .boolean, (.array (.object "java/io/ObjectStreamField")), .char, (.object "java/util/Comparator"), .byte, .byte]
  resolved := Array.replicate 1451 none
  statics := some 1 }

def pool12 : Array CpInfo := pool [(2, .class_ 4), (1, u "java/lang/Object"), (0, u "<init>"), (0, u "()V"), (7, .class_ 16), (1, u "java/util/Arrays"), (57, .class_ 76), (1, u "java/util/Arrays$NaturalOrder"), (32, u "()Ljava/lang/Object;"), (3, .class_ 115), (1, u "java/util/Arrays$LegacyMergeSort"), (1, u "Z"), (10, .nameAndType 129 109), (0, u "clone"), (9, u "copyOfRange"), (170, .methodref 311 128), (0, .class_ 312), (0, u "[B"), (29, u "([BII)[B"), (32, .class_ 376), (0, u "java/util/Arrays$ArrayList"), (68, u "$assertionsDisabled"), (269, u "MIN_ARRAY_SORT_GRAN"), (0, u "I"), (2, u "INSERTIONSORT_THRESHOLD"), (255, .class_ 976), (0, u "java/util/Arrays$ArrayItr")] 52

def k12m0 : Method := { name := "<init>", desc := "()V", sig := { parameters := [], returnType := none }, accessFlags := 2, code := none }
def k12c1 : Code := { maxStack := 3, maxLocals := 3, code := jdk_65_method_132_code, exceptionTable := #[], attributes := #[] }
def k12m1 : Method := { name := "copyOfRange", desc := "([BII)[B", sig := { parameters := [(.array .byte), .int, .int], returnType := some (.array .byte) }, accessFlags := 9, code := some k12c1 }
/-- java/util/Arrays -/
def k12 : Class := { plain "java/util/Arrays" (some 0) with
  accessFlags := 49
  interfaces := #[]
  cf := some (fileOf pool12 14 #[.nestMembers #[975, 375, 113, 74]] #[{ accessFlags := 2, nameIndex := 5, descriptorIndex := 6, attributes := #[] }, { accessFlags := 9, nameIndex := 139, descriptorIndex := 342, attributes := #[] }] 49 2 #[] #[{ accessFlags := 26, nameIndex := 715, descriptorIndex := 716, attributes := #[] }, { accessFlags := 26, nameIndex := 719, descriptorIndex := 716, attributes := #[] }, { accessFlags := 4120, nameIndex := 445, descriptorIndex := 117, attributes := #[] }])
  fields := #[{ name := "MIN_ARRAY_SORT_GRAN", type := .int, accessFlags := 26, slot := 0, constantValue := 0 }, { name := "INSERTIONSORT_THRESHOLD", type := .int, accessFlags := 26, slot := 1, constantValue := 0 }, { name := "$assertionsDisabled", type := .boolean, accessFlags := 4120, slot := 2, constantValue := 0 }]
  methods := #[k12m0, k12m1]
  instanceTypes := #[]
  staticTypes := #[.int, .int, .boolean]
  resolved := Array.replicate 1029 none
  statics := none }

def pool13 : Array CpInfo := pool [(1, .class_ 2), (0, u "java/lang/Cloneable"), (0, .class_ 4), (0, u "java/lang/Object")] 2

/-- java/lang/Cloneable -/
def k13 : Class := { plain "java/lang/Cloneable" (some 0) with
  accessFlags := 1537
  interfaces := #[]
  cf := some (fileOf pool13 1 #[] #[] 1537 3 #[] #[])
  fields := #[]
  methods := #[]
  instanceTypes := #[]
  staticTypes := #[]
  resolved := Array.replicate 7 none
  statics := none }

def pool14 : Array CpInfo := pool [(1, .class_ 2), (0, u "java/lang/Math"), (1, .class_ 6), (1, u "java/lang/Object"), (0, u "<init>"), (0, u "()V"), (89, .class_ 100), (1, u "java/lang/Math$RandomNumberGeneratorHolder"), (71, u "negativeZeroFloatBits"), (0, u "J"), (2, u "negativeZeroDoubleBits"), (21, u "max"), (2, u "min"), (43, u "$assertionsDisabled"), (0, u "Z"), (88, u "(II)I"), (2, u "twoToTheDoubleScaleDown"), (0, u "D"), (4, u "twoToTheDoubleScaleUp"), (9, u "E"), (3, u "PI"), (2, u "TAU"), (2, u "DEGREES_TO_RADIANS"), (0, u "RADIANS_TO_DEGREES")] 94

def k14m0 : Method := { name := "<init>", desc := "()V", sig := { parameters := [], returnType := none }, accessFlags := 2, code := none }
def k14c1 : Code := { maxStack := 2, maxLocals := 2, code := jdk_29_method_65_code, exceptionTable := #[], attributes := #[] }
def k14m1 : Method := { name := "max", desc := "(II)I", sig := { parameters := [.int, .int], returnType := some .int }, accessFlags := 9, code := some k14c1 }
def k14c2 : Code := { maxStack := 2, maxLocals := 2, code := jdk_29_method_69_code, exceptionTable := #[], attributes := #[] }
def k14m2 : Method := { name := "min", desc := "(II)I", sig := { parameters := [.int, .int], returnType := some .int }, accessFlags := 9, code := some k14c2 }
/-- java/lang/Math -/
def k14 : Class := { plain "java/lang/Math" (some 0) with
  accessFlags := 49
  interfaces := #[]
  cf := some (fileOf pool14 1 #[.nestMembers #[98]] #[{ accessFlags := 2, nameIndex := 7, descriptorIndex := 8, attributes := #[] }, { accessFlags := 9, nameIndex := 198, descriptorIndex := 335, attributes := #[] }, { accessFlags := 9, nameIndex := 201, descriptorIndex := 335, attributes := #[] }] 49 4 #[] #[{ accessFlags := 25, nameIndex := 354, descriptorIndex := 339, attributes := #[] }, { accessFlags := 25, nameIndex := 358, descriptorIndex := 339, attributes := #[] }, { accessFlags := 25, nameIndex := 361, descriptorIndex := 339, attributes := #[] }, { accessFlags := 26, nameIndex := 364, descriptorIndex := 339, attributes := #[] }, { accessFlags := 26, nameIndex := 365, descriptorIndex := 339, attributes := #[] }, { accessFlags := 26, nameIndex := 172, descriptorIndex := 173, attributes := #[] }, { accessFlags := 26, nameIndex := 176, descriptorIndex := 173, attributes := #[] }, { accessFlags := 8, nameIndex := 344, descriptorIndex := 339, attributes := #[] }, { accessFlags := 8, nameIndex := 338, descriptorIndex := 339, attributes := #[] }, { accessFlags := 4120, nameIndex := 245, descriptorIndex := 246, attributes := #[] }])
  fields := #[{ name := "E", type := .double, accessFlags := 25, slot := 0, constantValue := 0 }, { name := "PI", type := .double, accessFlags := 25, slot := 1, constantValue := 0 }, { name := "TAU", type := .double, accessFlags := 25, slot := 2, constantValue := 0 }, { name := "DEGREES_TO_RADIANS", type := .double, accessFlags := 26, slot := 3, constantValue := 0 }, { name := "RADIANS_TO_DEGREES", type := .double, accessFlags := 26, slot := 4, constantValue := 0 }, { name := "negativeZeroFloatBits", type := .long, accessFlags := 26, slot := 5, constantValue := 0 }, { name := "negativeZeroDoubleBits", type := .long, accessFlags := 26, slot := 6, constantValue := 0 }, { name := "twoToTheDoubleScaleUp", type := .double, accessFlags := 8, slot := 7, constantValue := 0 }, { name := "twoToTheDoubleScaleDown", type := .double, accessFlags := 8, slot := 8, constantValue := 0 }, { name := "$assertionsDisabled", type := .boolean, accessFlags := 4120, slot := 9, constantValue := 0 }]
  methods := #[k14m0, k14m1, k14m2]
  instanceTypes := #[]
  staticTypes := #[.double, .double, .double, .double, .double, .long, .long, .double, .double, .boolean]
  resolved := Array.replicate 460 none
  statics := none }

def pool15 : Array CpInfo := pool [(1, .class_ 2), (0, u "java/lang/String"), (1, .class_ 6), (1, u "java/lang/Object"), (0, u "<init>"), (0, u "()V"), (0, .methodref 1 10), (0, .nameAndType 11 12), (0, u "checkIndex"), (0, u "(II)V"), (1, .class_ 16), (1, u "java/lang/StringLatin1"), (36, u "([BI)C"), (36, u "canEncode"), (14, u "(C)Z"), (15, u "$assertionsDisabled"), (0, u "Z"), (98, .class_ 223), (1, u "java/lang/StringLatin1$LinesSpliterator"), (28, u "charAt"), (137, .class_ 391), (0, u "java/lang/StringLatin1$CharsSpliterator")] 3

def k15m0 : Method := { name := "<init>", desc := "()V", sig := { parameters := [], returnType := none }, accessFlags := 0, code := none }
def k15c1 : Code := { maxStack := 2, maxLocals := 2, code := jdk_43_method_2_code, exceptionTable := #[], attributes := #[] }
def k15m1 : Method := { name := "charAt", desc := "([BI)C", sig := { parameters := [(.array .byte), .int], returnType := some .char }, accessFlags := 9, code := some k15c1 }
def k15c2 : Code := { maxStack := 2, maxLocals := 1, code := jdk_43_method_3_code, exceptionTable := #[], attributes := #[] }
def k15m2 : Method := { name := "canEncode", desc := "(C)Z", sig := { parameters := [.char], returnType := some .boolean }, accessFlags := 9, code := some k15c2 }
/-- java/lang/StringLatin1 -/
def k15 : Class := { plain "java/lang/StringLatin1" (some 0) with
  accessFlags := 48
  interfaces := #[]
  cf := some (fileOf pool15 14 #[.nestMembers #[390, 221]] #[{ accessFlags := 0, nameIndex := 7, descriptorIndex := 8, attributes := #[] }, { accessFlags := 9, nameIndex := 252, descriptorIndex := 53, attributes := #[] }, { accessFlags := 9, nameIndex := 90, descriptorIndex := 105, attributes := #[] }] 48 4 #[] #[{ accessFlags := 4120, nameIndex := 121, descriptorIndex := 122, attributes := #[] }])
  fields := #[{ name := "$assertionsDisabled", type := .boolean, accessFlags := 4120, slot := 0, constantValue := 0 }]
  methods := #[k15m0, k15m1, k15m2]
  instanceTypes := #[]
  staticTypes := #[.boolean]
  resolved := Array.replicate 395 none
  statics := none }

def pool16 : Array CpInfo := pool [(2, .class_ 4), (1, u "java/lang/Object"), (0, u "<init>"), (0, u "()V"), (17, .class_ 26), (1, u "jdk/internal/util/Preconditions"), (6, u "checkIndex"), (21, .class_ 56), (0, u "jdk/internal/util/Preconditions$4"), (57, .class_ 115), (0, u "jdk/internal/util/Preconditions$1"), (7, u "SIOOBE_FORMATTER"), (0, u "Ljava/util/function/BiFunction;"), (0, .class_ 126), (0, u "jdk/internal/util/Preconditions$2"), (3, u "AIOOBE_FORMATTER"), (0, .class_ 132), (0, u "jdk/internal/util/Preconditions$3"), (3, u "IOOBE_FORMATTER"), (41, u "(IILjava/util/function/BiFunction;)I")] 15

def k16m0 : Method := { name := "<init>", desc := "()V", sig := { parameters := [], returnType := none }, accessFlags := 1, code := none }
def k16c1 : Code := { maxStack := 3, maxLocals := 3, code := jdk_41_method_11_code, exceptionTable := #[], attributes := #[] }
def k16m1 : Method := { name := "checkIndex", desc := "(IILjava/util/function/BiFunction;)I", sig := { parameters := [.int, .int, (.object "java/util/function/BiFunction")], returnType := some .int }, accessFlags := 9, code := some k16c1 }
/-- jdk/internal/util/Preconditions -/
def k16 : Class := { plain "jdk/internal/util/Preconditions" (some 0) with
  accessFlags := 33
  interfaces := #[]
  cf := some (fileOf pool16 24 #[.nestMembers #[55, 131, 125, 114]] #[{ accessFlags := 1, nameIndex := 5, descriptorIndex := 6, attributes := #[] }, { accessFlags := 9, nameIndex := 33, descriptorIndex := 178, attributes := #[] }] 33 2 #[] #[{ accessFlags := 25, nameIndex := 123, descriptorIndex := 124, attributes := #[] }, { accessFlags := 25, nameIndex := 130, descriptorIndex := 124, attributes := #[] }, { accessFlags := 25, nameIndex := 136, descriptorIndex := 124, attributes := #[] }])
  fields := #[{ name := "SIOOBE_FORMATTER", type := (.object "java/util/function/BiFunction"), accessFlags := 25, slot := 0, constantValue := 0 }, { name := "AIOOBE_FORMATTER", type := (.object "java/util/function/BiFunction"), accessFlags := 25, slot := 1, constantValue := 0 }, { name := "IOOBE_FORMATTER", type := (.object "java/util/function/BiFunction"), accessFlags := 25, slot := 2, constantValue := 0 }]
  methods := #[k16m0, k16m1]
  instanceTypes := #[]
  staticTypes := #[(.object "java/util/function/BiFunction"), (.object "java/util/function/BiFunction"), (.object "java/util/function/BiFunction")]
  resolved := Array.replicate 194 none
  statics := some 2 }

def pool17 : Array CpInfo := pool [(9, u "<init>"), (6, .class_ 18), (1, u "java/lang/Object"), (0, u "()V"), (1, .class_ 23), (1, u "jdk/internal/util/ArraysSupport"), (0, u "LOG2_ARRAY_LONG_INDEX_SCALE"), (0, u "I"), (2, u "U"), (0, u "Ljdk/internal/misc/Unsafe;"), (8, u "BIG_ENDIAN"), (0, u "Z"), (8, u "LOG2_BYTE_BIT_SIZE"), (4, u "LOG2_ARRAY_INT_INDEX_SCALE"), (54, u "JLA"), (0, u "Ljdk/internal/access/JavaLangAccess;"), (11, u "LOG2_ARRAY_BOOLEAN_INDEX_SCALE"), (9, u "LOG2_ARRAY_BYTE_INDEX_SCALE"), (5, u "LOG2_ARRAY_CHAR_INDEX_SCALE"), (5, u "LOG2_ARRAY_SHORT_INDEX_SCALE"), (18, u "LOG2_ARRAY_FLOAT_INDEX_SCALE"), (24, u "LOG2_ARRAY_DOUBLE_INDEX_SCALE"), (89, u "T_BOOLEAN"), (2, u "T_CHAR"), (1, u "T_FLOAT"), (1, u "T_DOUBLE"), (1, u "T_BYTE"), (1, u "T_SHORT"), (1, u "T_INT"), (1, u "T_LONG"), (1, u "SOFT_MAX_ARRAY_LENGTH")] 83

def k17m0 : Method := { name := "<init>", desc := "()V", sig := { parameters := [], returnType := none }, accessFlags := 2, code := none }
/-- jdk/internal/util/ArraysSupport -/
def k17 : Class := { plain "jdk/internal/util/ArraysSupport" (some 0) with
  accessFlags := 33
  interfaces := #[]
  cf := some (fileOf pool17 21 #[] #[{ accessFlags := 2, nameIndex := 9, descriptorIndex := 19, attributes := #[] }] 33 16 #[] #[{ accessFlags := 24, nameIndex := 28, descriptorIndex := 29, attributes := #[] }, { accessFlags := 26, nameIndex := 38, descriptorIndex := 39, attributes := #[] }, { accessFlags := 25, nameIndex := 121, descriptorIndex := 25, attributes := #[] }, { accessFlags := 25, nameIndex := 131, descriptorIndex := 25, attributes := #[] }, { accessFlags := 25, nameIndex := 137, descriptorIndex := 25, attributes := #[] }, { accessFlags := 25, nameIndex := 143, descriptorIndex := 25, attributes := #[] }, { accessFlags := 25, nameIndex := 53, descriptorIndex := 25, attributes := #[] }, { accessFlags := 25, nameIndex := 24, descriptorIndex := 25, attributes := #[] }, { accessFlags := 25, nameIndex := 162, descriptorIndex := 25, attributes := #[] }, { accessFlags := 25, nameIndex := 187, descriptorIndex := 25, attributes := #[] }, { accessFlags := 26, nameIndex := 48, descriptorIndex := 25, attributes := #[] }, { accessFlags := 25, nameIndex := 277, descriptorIndex := 25, attributes := #[] }, { accessFlags := 25, nameIndex := 280, descriptorIndex := 25, attributes := #[] }, { accessFlags := 25, nameIndex := 282, descriptorIndex := 25, attributes := #[] }, { accessFlags := 25, nameIndex := 284, descriptorIndex := 25, attributes := #[] }, { accessFlags := 25, nameIndex := 286, descriptorIndex := 25, attributes := #[] }, { accessFlags := 25, nameIndex := 288, descriptorIndex := 25, attributes := #[] }, { accessFlags := 25, nameIndex := 290, descriptorIndex := 25, attributes := #[] }, { accessFlags := 25, nameIndex := 292, descriptorIndex := 25, attributes := #[] }, { accessFlags := 26, nameIndex := 108, descriptorIndex := 109, attributes := #[] }, { accessFlags := 25, nameIndex := 294, descriptorIndex := 25, attributes := #[] }])
  fields := #[{ name := "U", type := (.object "jdk/internal/misc/Unsafe"), accessFlags := 24, slot := 0, constantValue := 0 }, { name := "BIG_ENDIAN", type := .boolean, accessFlags := 26, slot := 1, constantValue := 0 }, { name := "LOG2_ARRAY_BOOLEAN_INDEX_SCALE", type := .int, accessFlags := 25, slot := 2, constantValue := 0 }, { name := "LOG2_ARRAY_BYTE_INDEX_SCALE", type := .int, accessFlags := 25, slot := 3, constantValue := 0 }, { name := "LOG2_ARRAY_CHAR_INDEX_SCALE", type := .int, accessFlags := 25, slot := 4, constantValue := 0 }, { name := "LOG2_ARRAY_SHORT_INDEX_SCALE", type := .int, accessFlags := 25, slot := 5, constantValue := 0 }, { name := "LOG2_ARRAY_INT_INDEX_SCALE", type := .int, accessFlags := 25, slot := 6, constantValue := 0 }, { name := "LOG2_ARRAY_LONG_INDEX_SCALE", type := .int, accessFlags := 25, slot := 7, constantValue := 0 }, { name := "LOG2_ARRAY_FLOAT_INDEX_SCALE", type := .int, accessFlags := 25, slot := 8, constantValue := 0 }, { name := "LOG2_ARRAY_DOUBLE_INDEX_SCALE", type := .int, accessFlags := 25, slot := 9, constantValue := 0 }, { name := "LOG2_BYTE_BIT_SIZE", type := .int, accessFlags := 26, slot := 10, constantValue := 0 }, { name := "T_BOOLEAN", type := .int, accessFlags := 25, slot := 11, constantValue := 0 }, { name := "T_CHAR", type := .int, accessFlags := 25, slot := 12, constantValue := 0 }, { name := "T_FLOAT", type := .int, accessFlags := 25, slot := 13, constantValue := 0 }, { name := "T_DOUBLE", type := .int, accessFlags := 25, slot := 14, constantValue := 0 }, { name := "T_BYTE", type := .int, accessFlags := 25, slot := 15, constantValue := 0 }, { name := "T_SHORT", type := .int, accessFlags := 25, slot := 16, constantValue := 0 }, { name := "T_INT", type := .int, accessFlags := 25, slot := 17, constantValue := 0 }, { name := "T_LONG", type := .int, accessFlags := 25, slot := 18, constantValue := 0 }, { name := "JLA", type := (.object "jdk/internal/access/JavaLangAccess"), accessFlags := 26, slot := 19, constantValue := 0 }, { name := "SOFT_MAX_ARRAY_LENGTH", type := .int, accessFlags := 25, slot := 20, constantValue := 0 }]
  methods := #[k17m0]
  instanceTypes := #[]
  staticTypes := #[(.object "jdk/internal/misc/Unsafe"), .boolean, .int, .int, .int, .int, .int, .int, .int, .int, .int, .int, .int, .int, .int, .int, .int, .int, .int, (.object "jdk/internal/access/JavaLangAccess"), .int]
  resolved := Array.replicate 378 none
  statics := none }

/-- the primitive byte -/
def k18 : Class := { plain "byte" none with kind := .primitive 'B', accessFlags := 0x411 }
/-- [B -/
def k19 : Class := { plain "[B" (some 0) with kind := .array 18 .byte, interfaces := #[13, 6], accessFlags := 1041 }

/-- the primitive char -/
def k20 : Class := { plain "char" none with kind := .primitive 'C', accessFlags := 0x411 }
/-- [C -/
def k21 : Class := { plain "[C" (some 0) with kind := .array 20 .char, interfaces := #[13, 6], accessFlags := 1041 }

/-- the primitive int -/
def k22 : Class := { plain "int" none with kind := .primitive 'I', accessFlags := 0x411 }
/-- [I -/
def k23 : Class := { plain "[I" (some 0) with kind := .array 22 .int, interfaces := #[13, 6], accessFlags := 1041 }

def heap : Heap := #[{ cls := 2, slots := #[.ref 3, .int 0, .int 0], vm := .statics 2 },
  { cls := 11, slots := #[.long 0, .int 1, .null, .int 0, .null, .int 0, .int 0], vm := .statics 11 },
  { cls := 16, slots := #[.null, .null, .null], vm := .statics 16 },
  { cls := 21, slots := #[.int 65, .int 66, .int 67, .int 68, .int 69, .int 70, .int 71, .int 72, .int 73, .int 74, .int 75, .int 76, .int 77, .int 78, .int 79, .int 80, .int 81, .int 82, .int 83, .int 84, .int 85, .int 86, .int 87, .int 88, .int 89, .int 90, .int 50, .int 51, .int 52, .int 53, .int 54, .int 55], vm := .none }]
def classes : Array Class := #[k0, k1, k2, k3, k4, k5, k6, k7, k8, k9, k10, k11, k12, k13, k14, k15, k16, k17, k18, k19, k20, k21, k22, k23]
def interned : List (Array UInt16 × Addr) := []
def slotsUsed : Nat := 45
def theMethod : MethodId := ⟨1, 1⟩
def args0 : Array Value := #[.long 5, .long 7, .int 3]
def aboutOver (below : List Frame) : State where
  vm := { classes := classes, interned := interned.toArray }
  heap := heap
  slotsUsed := slotsUsed
  threads := #[{ frames := .invoking theMethod args0 :: below }]
def below0 : List Frame := [.native { method := ⟨0, 0⟩, args := #[] }]
def about1 : State := aboutOver below0
def p0 : Program := .bare "" "" ""
def e0 : Env := launch0.env 0 0 0
theorem w_frames : about1.frames = Frame.invoking theMethod args0 :: below0 := rfl
set_option maxRecDepth 65536 in
theorem w_args : argsFit about1.vm theMethod args0 = true := by decide +kernel
set_option maxRecDepth 65536 in
theorem w_heap : heapFits about1 = true := by decide +kernel
set_option maxRecDepth 65536 in
theorem w_runnable : about1.curStatus? = some .runnable := by decide +kernel
set_option maxRecDepth 65536 in
theorem w_alone : about1.alone = true := by decide +kernel
set_option maxRecDepth 65536 in
theorem w_named : about1.methodNamed? x = some theMethod := by decide +kernel
set_option maxRecDepth 65536 in
theorem w_hears : about1.hears theMethod below0 = true := by decide +kernel
set_option maxRecDepth 65536 in
theorem w_ripe : about1.ripe theMethod args0 below0 = true := by decide +kernel
theorem w_running : about1.status = .running := rfl
set_option maxRecDepth 65536 in
theorem w_room : about1.hasRoom e0.platform room_1 = true :=
  launch0.hasRoom_least _ room_1 (by decide +kernel) (by decide +kernel) (by decide +kernel) (by decide +kernel) (by decide +kernel) (by decide +kernel)
theorem allAtoms_all (ts : List Jvm.Cond) (a : Array Jvm.Value) (st : Jvm.State) : (allAtoms ts).before a st = ts.all (fun c => c.before a st) := by
  induction ts with
  | nil => rfl
  | cons c t ih =>
    show (Jvm.Cond.and c (allAtoms t)).before a st = _
    rw [Jvm.Cond.before_and, ih, List.all_cons]
def words1 : List Jvm.Cond := Jvm.Cond.code x code maxLocals ret :: tables_1
/-- a 'code' word, met by the world's own term for the bytes: nothing is compared byte by byte -/
theorem code_word {y : MethodName} {bytes : ByteArray} {mx : Nat} {rt : Option FieldType} {a : Array Value} {s : State} {m : MethodId} {meth : Method} {c : Code} (h1 : s.methodNamed? y = some m) (h2 : s.vm.method? m = some meth) (h3 : meth.code = some c) (h4 : c.code = bytes)
    (h5 : (c.maxLocals == mx && c.exceptionTable.isEmpty && decide (c.maxStack ≤ mostOperands) && decide (meth.sig.returnType = rt) && !meth.locks && decide (parseMethodDescriptor y.desc = some meth.sig)) = true) : (Jvm.Cond.code y bytes mx rt).before a s = true := by
  simp only [Bool.and_eq_true, beq_iff_eq, Bool.not_eq_true', decide_eq_true_eq] at h5
  obtain ⟨⟨⟨⟨⟨g1, g2⟩, g3⟩, g4⟩, g5⟩, g6⟩ := h5
  simp [Cond.before, Cond.holds, Cond.value, h1, h2, h3, h4, g1, g2, g3, g4, g5, g6]
def isCode : Jvm.Cond → Bool
  | .code _ _ _ _ => true
  | _ => false
theorem all_split {L : List Jvm.Cond} {P : Jvm.Cond → Bool} (h1 : L.all (fun c => isCode c || P c) = true) (h2 : ∀ c ∈ L.filter isCode, P c = true) : L.all P = true := by
  refine List.all_eq_true.mpr fun c hc => ?_
  have h := List.all_eq_true.mp h1 c hc
  rcases Bool.eq_false_or_eq_true (isCode c) with hi | hi
  · exact h2 c (List.mem_filter.mpr ⟨hc, hi⟩)
  · simpa [hi] using h
set_option maxRecDepth 65536 in
theorem w_c0 : (Jvm.Cond.code x code maxLocals ret).before args0 about1 = true := code_word (m := ⟨1, 1⟩) (meth := k1m1) (c := k1c1) (by decide +kernel) rfl rfl rfl (by decide +kernel)
set_option maxRecDepth 65536 in
theorem w_c1 : (Jvm.Cond.code ({ cls := "com/example/harrier/harrier/warc/Base32", name := "encode", desc := "([B)Ljava/lang/String;" } : Jvm.MethodName) prog_19_method_2_code (8 : Nat) (Option.some (Jvm.ClassFile.FieldType.object "java/lang/String"))).before args0 about1 = true := code_word (m := ⟨2, 1⟩) (meth := k2m1) (c := k2c1) (by decide +kernel) rfl rfl rfl (by decide +kernel)
set_option maxRecDepth 65536 in
theorem w_c2 : (Jvm.Cond.code ({ cls := "java/lang/StringBuilder", name := "<init>", desc := "(I)V" } : Jvm.MethodName) jdk_67_method_2_code (2 : Nat) (Option.none : Option Jvm.ClassFile.FieldType)).before args0 about1 = true := code_word (m := ⟨8, 1⟩) (meth := k8m1) (c := k8c1) (by decide +kernel) rfl rfl rfl (by decide +kernel)
set_option maxRecDepth 65536 in
theorem w_c3 : (Jvm.Cond.code ({ cls := "java/lang/AbstractStringBuilder", name := "<init>", desc := "(I)V" } : Jvm.MethodName) jdk_68_method_2_code (2 : Nat) (Option.none : Option Jvm.ClassFile.FieldType)).before args0 about1 = true := code_word (m := ⟨5, 1⟩) (meth := k5m1) (c := k5c1) (by decide +kernel) rfl rfl rfl (by decide +kernel)
set_option maxRecDepth 65536 in
theorem w_c4 : (Jvm.Cond.code ({ cls := "java/lang/Object", name := "<init>", desc := "()V" } : Jvm.MethodName) object_method_1_code (1 : Nat) (Option.none : Option Jvm.ClassFile.FieldType)).before args0 about1 = true := code_word (m := ⟨0, 0⟩) (meth := k0m0) (c := k0c0) (by decide +kernel) rfl rfl rfl (by decide +kernel)
set_option maxRecDepth 65536 in
theorem w_c5 : (Jvm.Cond.code ({ cls := "java/lang/StringBuilder", name := "length", desc := "()I" } : Jvm.MethodName) jdk_67_method_93_code (1 : Nat) (Option.some Jvm.ClassFile.FieldType.int)).before args0 about1 = true := code_word (m := ⟨8, 4⟩) (meth := k8m4) (c := k8c4) (by decide +kernel) rfl rfl rfl (by decide +kernel)
set_option maxRecDepth 65536 in
theorem w_c6 : (Jvm.Cond.code ({ cls := "java/lang/AbstractStringBuilder", name := "length", desc := "()I" } : Jvm.MethodName) jdk_68_method_6_code (1 : Nat) (Option.some Jvm.ClassFile.FieldType.int)).before args0 about1 = true := code_word (m := ⟨5, 2⟩) (meth := k5m2) (c := k5c2) (by decide +kernel) rfl rfl rfl (by decide +kernel)
set_option maxRecDepth 65536 in
theorem w_c7 : (Jvm.Cond.code ({ cls := "java/lang/StringBuilder", name := "toString", desc := "()Ljava/lang/String;" } : Jvm.MethodName) jdk_67_method_42_code (1 : Nat) (Option.some (Jvm.ClassFile.FieldType.object "java/lang/String"))).before args0 about1 = true := code_word (m := ⟨8, 3⟩) (meth := k8m3) (c := k8c3) (by decide +kernel) rfl rfl rfl (by decide +kernel)
set_option maxRecDepth 65536 in
theorem w_c8 : (Jvm.Cond.code ({ cls := "java/lang/String", name := "<init>", desc := "(Ljava/lang/StringBuilder;)V" } : Jvm.MethodName) jdk_42_method_53_code (2 : Nat) (Option.none : Option Jvm.ClassFile.FieldType)).before args0 about1 = true := code_word (m := ⟨11, 1⟩) (meth := k11m1) (c := k11c1) (by decide +kernel) rfl rfl rfl (by decide +kernel)
set_option maxRecDepth 65536 in
theorem w_c9 : (Jvm.Cond.code ({ cls := "java/lang/String", name := "<init>", desc := "(Ljava/lang/AbstractStringBuilder;Ljava/lang/Void;)V" } : Jvm.MethodName) jdk_42_method_150_code (5 : Nat) (Option.none : Option Jvm.ClassFile.FieldType)).before args0 about1 = true := code_word (m := ⟨11, 4⟩) (meth := k11m4) (c := k11c4) (by decide +kernel) rfl rfl rfl (by decide +kernel)
set_option maxRecDepth 65536 in
theorem w_c10 : (Jvm.Cond.code ({ cls := "java/lang/AbstractStringBuilder", name := "getValue", desc := "()[B" } : Jvm.MethodName) jdk_68_method_64_code (1 : Nat) (Option.some (Jvm.ClassFile.FieldType.array Jvm.ClassFile.FieldType.byte))).before args0 about1 = true := code_word (m := ⟨5, 5⟩) (meth := k5m5) (c := k5c5) (by decide +kernel) rfl rfl rfl (by decide +kernel)
set_option maxRecDepth 65536 in
theorem w_c11 : (Jvm.Cond.code ({ cls := "java/lang/AbstractStringBuilder", name := "isLatin1", desc := "()Z" } : Jvm.MethodName) jdk_68_method_68_code (1 : Nat) (Option.some Jvm.ClassFile.FieldType.boolean)).before args0 about1 = true := code_word (m := ⟨5, 6⟩) (meth := k5m6) (c := k5c6) (by decide +kernel) rfl rfl rfl (by decide +kernel)
set_option maxRecDepth 65536 in
theorem w_c12 : (Jvm.Cond.code ({ cls := "java/util/Arrays", name := "copyOfRange", desc := "([BII)[B" } : Jvm.MethodName) jdk_65_method_132_code (3 : Nat) (Option.some (Jvm.ClassFile.FieldType.array Jvm.ClassFile.FieldType.byte))).before args0 about1 = true := code_word (m := ⟨12, 1⟩) (meth := k12m1) (c := k12c1) (by decide +kernel) rfl rfl rfl (by decide +kernel)
set_option maxRecDepth 65536 in
theorem w_c13 : (Jvm.Cond.code ({ cls := "java/lang/String", name := "length", desc := "()I" } : Jvm.MethodName) jdk_42_method_54_code (1 : Nat) (Option.some Jvm.ClassFile.FieldType.int)).before args0 about1 = true := code_word (m := ⟨11, 2⟩) (meth := k11m2) (c := k11c2) (by decide +kernel) rfl rfl rfl (by decide +kernel)
set_option maxRecDepth 65536 in
theorem w_c14 : (Jvm.Cond.code ({ cls := "java/lang/String", name := "coder", desc := "()B" } : Jvm.MethodName) jdk_42_method_152_code (1 : Nat) (Option.some Jvm.ClassFile.FieldType.byte)).before args0 about1 = true := code_word (m := ⟨11, 5⟩) (meth := k11m5) (c := k11c5) (by decide +kernel) rfl rfl rfl (by decide +kernel)
set_option maxRecDepth 65536 in
theorem w_c15 : (Jvm.Cond.code ({ cls := "java/lang/Math", name := "min", desc := "(II)I" } : Jvm.MethodName) jdk_29_method_69_code (2 : Nat) (Option.some Jvm.ClassFile.FieldType.int)).before args0 about1 = true := code_word (m := ⟨14, 2⟩) (meth := k14m2) (c := k14c2) (by decide +kernel) rfl rfl rfl (by decide +kernel)
set_option maxRecDepth 65536 in
theorem w_c16 : (Jvm.Cond.code ({ cls := "java/lang/Math", name := "max", desc := "(II)I" } : Jvm.MethodName) jdk_29_method_65_code (2 : Nat) (Option.some Jvm.ClassFile.FieldType.int)).before args0 about1 = true := code_word (m := ⟨14, 1⟩) (meth := k14m1) (c := k14c1) (by decide +kernel) rfl rfl rfl (by decide +kernel)
set_option maxRecDepth 65536 in
theorem w_c17 : (Jvm.Cond.code ({ cls := "com/example/harrier/harrier/warc/Base32EncodePinLaw", name := "keep", desc := "(JI)J" } : Jvm.MethodName) method_4_code (6 : Nat) (Option.some Jvm.ClassFile.FieldType.long)).before args0 about1 = true := code_word (m := ⟨1, 3⟩) (meth := k1m3) (c := k1c3) (by decide +kernel) rfl rfl rfl (by decide +kernel)
set_option maxRecDepth 65536 in
theorem w_c18 : (Jvm.Cond.code ({ cls := "com/example/harrier/harrier/warc/Base32EncodePinLaw", name := "at", desc := "(Ljava/lang/String;IJI)Z" } : Jvm.MethodName) method_6_code (8 : Nat) (Option.some Jvm.ClassFile.FieldType.boolean)).before args0 about1 = true := code_word (m := ⟨1, 5⟩) (meth := k1m5) (c := k1c5) (by decide +kernel) rfl rfl rfl (by decide +kernel)
set_option maxRecDepth 65536 in
theorem w_c19 : (Jvm.Cond.code ({ cls := "com/example/harrier/harrier/warc/Base32EncodePinLaw", name := "byteOf", desc := "(JI)B" } : Jvm.MethodName) method_3_code (3 : Nat) (Option.some Jvm.ClassFile.FieldType.byte)).before args0 about1 = true := code_word (m := ⟨1, 2⟩) (meth := k1m2) (c := k1c2) (by decide +kernel) rfl rfl rfl (by decide +kernel)
set_option maxRecDepth 65536 in
theorem w_c20 : (Jvm.Cond.code ({ cls := "java/lang/StringBuilder", name := "append", desc := "(C)Ljava/lang/StringBuilder;" } : Jvm.MethodName) jdk_67_method_14_code (2 : Nat) (Option.some (Jvm.ClassFile.FieldType.object "java/lang/StringBuilder"))).before args0 about1 = true := code_word (m := ⟨8, 2⟩) (meth := k8m2) (c := k8c2) (by decide +kernel) rfl rfl rfl (by decide +kernel)
set_option maxRecDepth 65536 in
theorem w_c21 : (Jvm.Cond.code ({ cls := "java/lang/AbstractStringBuilder", name := "append", desc := "(C)Ljava/lang/AbstractStringBuilder;" } : Jvm.MethodName) jdk_68_method_31_code (2 : Nat) (Option.some (Jvm.ClassFile.FieldType.object "java/lang/AbstractStringBuilder"))).before args0 about1 = true := code_word (m := ⟨5, 4⟩) (meth := k5m4) (c := k5c4) (by decide +kernel) rfl rfl rfl (by decide +kernel)
set_option maxRecDepth 65536 in
theorem w_c22 : (Jvm.Cond.code ({ cls := "java/lang/AbstractStringBuilder", name := "ensureCapacityInternal", desc := "(I)V" } : Jvm.MethodName) jdk_68_method_9_code (3 : Nat) (Option.none : Option Jvm.ClassFile.FieldType)).before args0 about1 = true := code_word (m := ⟨5, 3⟩) (meth := k5m3) (c := k5c3) (by decide +kernel) rfl rfl rfl (by decide +kernel)
set_option maxRecDepth 65536 in
theorem w_c23 : (Jvm.Cond.code ({ cls := "java/lang/StringLatin1", name := "canEncode", desc := "(C)Z" } : Jvm.MethodName) jdk_43_method_3_code (1 : Nat) (Option.some Jvm.ClassFile.FieldType.boolean)).before args0 about1 = true := code_word (m := ⟨15, 2⟩) (meth := k15m2) (c := k15c2) (by decide +kernel) rfl rfl rfl (by decide +kernel)
set_option maxRecDepth 65536 in
theorem w_c24 : (Jvm.Cond.code ({ cls := "com/example/harrier/harrier/warc/Base32EncodePinLaw", name := "symbol", desc := "(I)C" } : Jvm.MethodName) method_5_code (1 : Nat) (Option.some Jvm.ClassFile.FieldType.char)).before args0 about1 = true := code_word (m := ⟨1, 4⟩) (meth := k1m4) (c := k1c4) (by decide +kernel) rfl rfl rfl (by decide +kernel)
set_option maxRecDepth 65536 in
theorem w_c25 : (Jvm.Cond.code ({ cls := "java/lang/String", name := "charAt", desc := "(I)C" } : Jvm.MethodName) jdk_42_method_56_code (2 : Nat) (Option.some Jvm.ClassFile.FieldType.char)).before args0 about1 = true := code_word (m := ⟨11, 3⟩) (meth := k11m3) (c := k11c3) (by decide +kernel) rfl rfl rfl (by decide +kernel)
set_option maxRecDepth 65536 in
theorem w_c26 : (Jvm.Cond.code ({ cls := "java/lang/String", name := "isLatin1", desc := "()Z" } : Jvm.MethodName) jdk_42_method_154_code (1 : Nat) (Option.some Jvm.ClassFile.FieldType.boolean)).before args0 about1 = true := code_word (m := ⟨11, 6⟩) (meth := k11m6) (c := k11c6) (by decide +kernel) rfl rfl rfl (by decide +kernel)
set_option maxRecDepth 65536 in
theorem w_c27 : (Jvm.Cond.code ({ cls := "java/lang/StringLatin1", name := "charAt", desc := "([BI)C" } : Jvm.MethodName) jdk_43_method_2_code (2 : Nat) (Option.some Jvm.ClassFile.FieldType.char)).before args0 about1 = true := code_word (m := ⟨15, 1⟩) (meth := k15m1) (c := k15c1) (by decide +kernel) rfl rfl rfl (by decide +kernel)
set_option maxRecDepth 65536 in
theorem w_c28 : (Jvm.Cond.code ({ cls := "java/lang/String", name := "checkIndex", desc := "(II)V" } : Jvm.MethodName) jdk_42_method_155_code (2 : Nat) (Option.none : Option Jvm.ClassFile.FieldType)).before args0 about1 = true := code_word (m := ⟨11, 7⟩) (meth := k11m7) (c := k11c7) (by decide +kernel) rfl rfl rfl (by decide +kernel)
set_option maxRecDepth 65536 in
theorem w_c29 : (Jvm.Cond.code ({ cls := "jdk/internal/util/Preconditions", name := "checkIndex", desc := "(IILjava/util/function/BiFunction;)I" } : Jvm.MethodName) jdk_41_method_11_code (3 : Nat) (Option.some Jvm.ClassFile.FieldType.int)).before args0 about1 = true := code_word (m := ⟨16, 1⟩) (meth := k16m1) (c := k16c1) (by decide +kernel) rfl rfl rfl (by decide +kernel)
def codes1 : List Jvm.Cond := [Jvm.Cond.code x code maxLocals ret, Jvm.Cond.code ({ cls := "com/example/harrier/harrier/warc/Base32", name := "encode", desc := "([B)Ljava/lang/String;" } : Jvm.MethodName) prog_19_method_2_code (8 : Nat) (Option.some (Jvm.ClassFile.FieldType.object "java/lang/String")), Jvm.Cond.code ({ cls := "java/lang/StringBuilder", name := "<init>", desc := "(I)V" } : Jvm.MethodName) jdk_67_method_2_code (2 : Nat) (Option.none : Option Jvm.ClassFile.FieldType), Jvm.Cond.code ({ cls := "java/lang/AbstractStringBuilder", name := "<init>", desc := "(I)V" } : Jvm.MethodName) jdk_68_method_2_code (2 : Nat) (Option.none : Option Jvm.ClassFile.FieldType), Jvm.Cond.code ({ cls := "java/lang/Object", name := "<init>", desc := "()V" } : Jvm.MethodName) object_method_1_code (1 : Nat) (Option.none : Option Jvm.ClassFile.FieldType), Jvm.Cond.code ({ cls := "java/lang/StringBuilder", name := "length", desc := "()I" } : Jvm.MethodName) jdk_67_method_93_code (1 : Nat) (Option.some Jvm.ClassFile.FieldType.int), Jvm.Cond.code ({ cls := "java/lang/AbstractStringBuilder", name := "length", desc := "()I" } : Jvm.MethodName) jdk_68_method_6_code (1 : Nat) (Option.some Jvm.ClassFile.FieldType.int), Jvm.Cond.code ({ cls := "java/lang/StringBuilder", name := "toString", desc := "()Ljava/lang/String;" } : Jvm.MethodName) jdk_67_method_42_code (1 : Nat) (Option.some (Jvm.ClassFile.FieldType.object "java/lang/String")), Jvm.Cond.code ({ cls := "java/lang/String", name := "<init>", desc := "(Ljava/lang/StringBuilder;)V" } : Jvm.MethodName) jdk_42_method_53_code (2 : Nat) (Option.none : Option Jvm.ClassFile.FieldType), Jvm.Cond.code ({ cls := "java/lang/String", name := "<init>", desc := "(Ljava/lang/AbstractStringBuilder;Ljava/lang/Void;)V" } : Jvm.MethodName) jdk_42_method_150_code (5 : Nat) (Option.none : Option Jvm.ClassFile.FieldType), Jvm.Cond.code ({ cls := "java/lang/AbstractStringBuilder", name := "getValue", desc := "()[B" } : Jvm.MethodName) jdk_68_method_64_code (1 : Nat) (Option.some (Jvm.ClassFile.FieldType.array Jvm.ClassFile.FieldType.byte)), Jvm.Cond.code ({ cls := "java/lang/AbstractStringBuilder", name := "isLatin1", desc := "()Z" } : Jvm.MethodName) jdk_68_method_68_code (1 : Nat) (Option.some Jvm.ClassFile.FieldType.boolean), Jvm.Cond.code ({ cls := "java/util/Arrays", name := "copyOfRange", desc := "([BII)[B" } : Jvm.MethodName) jdk_65_method_132_code (3 : Nat) (Option.some (Jvm.ClassFile.FieldType.array Jvm.ClassFile.FieldType.byte)), Jvm.Cond.code ({ cls := "java/lang/String", name := "length", desc := "()I" } : Jvm.MethodName) jdk_42_method_54_code (1 : Nat) (Option.some Jvm.ClassFile.FieldType.int), Jvm.Cond.code ({ cls := "java/lang/String", name := "coder", desc := "()B" } : Jvm.MethodName) jdk_42_method_152_code (1 : Nat) (Option.some Jvm.ClassFile.FieldType.byte), Jvm.Cond.code ({ cls := "java/lang/Math", name := "min", desc := "(II)I" } : Jvm.MethodName) jdk_29_method_69_code (2 : Nat) (Option.some Jvm.ClassFile.FieldType.int), Jvm.Cond.code ({ cls := "java/lang/Math", name := "max", desc := "(II)I" } : Jvm.MethodName) jdk_29_method_65_code (2 : Nat) (Option.some Jvm.ClassFile.FieldType.int), Jvm.Cond.code ({ cls := "com/example/harrier/harrier/warc/Base32EncodePinLaw", name := "keep", desc := "(JI)J" } : Jvm.MethodName) method_4_code (6 : Nat) (Option.some Jvm.ClassFile.FieldType.long), Jvm.Cond.code ({ cls := "com/example/harrier/harrier/warc/Base32EncodePinLaw", name := "at", desc := "(Ljava/lang/String;IJI)Z" } : Jvm.MethodName) method_6_code (8 : Nat) (Option.some Jvm.ClassFile.FieldType.boolean), Jvm.Cond.code ({ cls := "com/example/harrier/harrier/warc/Base32EncodePinLaw", name := "byteOf", desc := "(JI)B" } : Jvm.MethodName) method_3_code (3 : Nat) (Option.some Jvm.ClassFile.FieldType.byte), Jvm.Cond.code ({ cls := "java/lang/StringBuilder", name := "append", desc := "(C)Ljava/lang/StringBuilder;" } : Jvm.MethodName) jdk_67_method_14_code (2 : Nat) (Option.some (Jvm.ClassFile.FieldType.object "java/lang/StringBuilder")), Jvm.Cond.code ({ cls := "java/lang/AbstractStringBuilder", name := "append", desc := "(C)Ljava/lang/AbstractStringBuilder;" } : Jvm.MethodName) jdk_68_method_31_code (2 : Nat) (Option.some (Jvm.ClassFile.FieldType.object "java/lang/AbstractStringBuilder")), Jvm.Cond.code ({ cls := "java/lang/AbstractStringBuilder", name := "ensureCapacityInternal", desc := "(I)V" } : Jvm.MethodName) jdk_68_method_9_code (3 : Nat) (Option.none : Option Jvm.ClassFile.FieldType), Jvm.Cond.code ({ cls := "java/lang/StringLatin1", name := "canEncode", desc := "(C)Z" } : Jvm.MethodName) jdk_43_method_3_code (1 : Nat) (Option.some Jvm.ClassFile.FieldType.boolean), Jvm.Cond.code ({ cls := "com/example/harrier/harrier/warc/Base32EncodePinLaw", name := "symbol", desc := "(I)C" } : Jvm.MethodName) method_5_code (1 : Nat) (Option.some Jvm.ClassFile.FieldType.char), Jvm.Cond.code ({ cls := "java/lang/String", name := "charAt", desc := "(I)C" } : Jvm.MethodName) jdk_42_method_56_code (2 : Nat) (Option.some Jvm.ClassFile.FieldType.char), Jvm.Cond.code ({ cls := "java/lang/String", name := "isLatin1", desc := "()Z" } : Jvm.MethodName) jdk_42_method_154_code (1 : Nat) (Option.some Jvm.ClassFile.FieldType.boolean), Jvm.Cond.code ({ cls := "java/lang/StringLatin1", name := "charAt", desc := "([BI)C" } : Jvm.MethodName) jdk_43_method_2_code (2 : Nat) (Option.some Jvm.ClassFile.FieldType.char), Jvm.Cond.code ({ cls := "java/lang/String", name := "checkIndex", desc := "(II)V" } : Jvm.MethodName) jdk_42_method_155_code (2 : Nat) (Option.none : Option Jvm.ClassFile.FieldType), Jvm.Cond.code ({ cls := "jdk/internal/util/Preconditions", name := "checkIndex", desc := "(IILjava/util/function/BiFunction;)I" } : Jvm.MethodName) jdk_41_method_11_code (3 : Nat) (Option.some Jvm.ClassFile.FieldType.int)]
set_option maxRecDepth 65536 in
theorem codes_eq : words1.filter isCode = codes1 := rfl
theorem w_codes : ∀ c ∈ words1.filter isCode, c.before args0 about1 = true := by
  rw [codes_eq]
  intro c hc
  simp only [codes1, List.mem_cons, List.not_mem_nil, or_false] at hc
  rcases hc with rfl | rfl | rfl | rfl | rfl | rfl | rfl | rfl | rfl | rfl | rfl | rfl | rfl | rfl | rfl | rfl | rfl | rfl | rfl | rfl | rfl | rfl | rfl | rfl | rfl | rfl | rfl | rfl | rfl | rfl
  · exact w_c0
  · exact w_c1
  · exact w_c2
  · exact w_c3
  · exact w_c4
  · exact w_c5
  · exact w_c6
  · exact w_c7
  · exact w_c8
  · exact w_c9
  · exact w_c10
  · exact w_c11
  · exact w_c12
  · exact w_c13
  · exact w_c14
  · exact w_c15
  · exact w_c16
  · exact w_c17
  · exact w_c18
  · exact w_c19
  · exact w_c20
  · exact w_c21
  · exact w_c22
  · exact w_c23
  · exact w_c24
  · exact w_c25
  · exact w_c26
  · exact w_c27
  · exact w_c28
  · exact w_c29
set_option maxRecDepth 65536 in
theorem w_t1 : (words1.take 24).all (fun c => isCode c || c.before args0 about1) = true := by decide +kernel
set_option maxRecDepth 65536 in
theorem w_t2 : ((words1.drop 24).take 24).all (fun c => isCode c || c.before args0 about1) = true := by decide +kernel
set_option maxRecDepth 65536 in
theorem w_t3 : (((words1.drop 24).drop 24).take 24).all (fun c => isCode c || c.before args0 about1) = true := by decide +kernel
set_option maxRecDepth 65536 in
theorem w_t4 : ((((words1.drop 24).drop 24).drop 24).take 24).all (fun c => isCode c || c.before args0 about1) = true := by decide +kernel
set_option maxRecDepth 65536 in
theorem w_t5 : (((((words1.drop 24).drop 24).drop 24).drop 24).take 24).all (fun c => isCode c || c.before args0 about1) = true := by decide +kernel
set_option maxRecDepth 65536 in
theorem w_t6 : ((((((words1.drop 24).drop 24).drop 24).drop 24).drop 24).take 24).all (fun c => isCode c || c.before args0 about1) = true := by decide +kernel
set_option maxRecDepth 65536 in
theorem w_t7 : ((((((words1.drop 24).drop 24).drop 24).drop 24).drop 24).drop 24).all (fun c => isCode c || c.before args0 about1) = true := by decide +kernel
theorem w_tables : (allAtoms (Jvm.Cond.code x code maxLocals ret :: tables_1)).before args0 about1 = true := by
  rw [allAtoms_all]
  show words1.all (fun c => c.before args0 about1) = true
  refine all_split ?_ w_codes
  rw [← List.take_append_drop 24 words1, List.all_append, w_t1, ← List.take_append_drop 24 (words1.drop 24), List.all_append, w_t2, ← List.take_append_drop 24 ((words1.drop 24).drop 24), List.all_append, w_t3, ← List.take_append_drop 24 (((words1.drop 24).drop 24).drop 24), List.all_append, w_t4, ← List.take_append_drop 24 ((((words1.drop 24).drop 24).drop 24).drop 24), List.all_append, w_t5, ← List.take_append_drop 24 (((((words1.drop 24).drop 24).drop 24).drop 24).drop 24), List.all_append, w_t6, w_t7]
  rfl
set_option maxRecDepth 65536 in
theorem w_rest : rest_1_c.before args0 about1 = true := by decide +kernel
set_option maxRecDepth 65536 in
theorem w_case : (Jvm.Cond.and given_1 narrow_1).before args0 about1 = true := by decide +kernel
theorem w_applies : (headSpec (Jvm.Cond.code x code maxLocals ret :: tables_1) room_1).applies x e0.platform about1 = true :=
  (Spec.applies_iff w_frames).mpr ⟨w_running, w_runnable, w_alone, w_named, w_hears, w_ripe, w_room, w_tables⟩
theorem atStart : AtStart classFile x code maxLocals ret World_1 tables_1 room_1 Calls_1 rest_1 Pre_1 launch0 p0 e0 about1 theMethod args0 below0 :=
  ⟨lists_1, trivial, launch0.admits_env _ _ _, launch0.least_env, fairChoices_fair.cas, fairChoices_fair.clock, w_frames, w_args, w_heap, w_applies, trivial, w_rest, w_case⟩
end start1
theorem witness_1 : WitnessClaimed_1 := ⟨start1.p0, start1.e0, start1.about1, start1.theMethod, start1.args0, start1.below0, start1.atStart⟩
end Jvm.Pilot.@@N@@
