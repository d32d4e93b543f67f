import JvmDerived
import JvmDerived.Pilot.@@N@@Statement
import JvmDerived.Pilot.@@N@@Code
set_option linter.unusedVariables false
set_option linter.unusedSimpArgs false
namespace Jvm.RoadKit
open Sem ClassFile Op Lib Jvm.Stand Jvm.Free Jvm.LawKit
section New
variable {p : Program} {l : Launch} {e : Env} {R : Room} {s : State} {m : MethodId} {args : Array Value} {below : List Frame} {meth : Method} {c : Code} {T : State} {locs : List Loc} {cells slots : Nat}
theorem retI (X : Stand p l e R s m args below meth c T locs cells slots) (hx : p.tables.exec = Jvm.exec) {pc : Nat} {Ls : Array Slot} {z : Int32} {rest : List Value} (hret : meth.sig.returnType = some .int) (hd : decode c.code pc = .ok (.ireturn, 1)) {fs : List Frame}
    (hl : ∀ (f : JFrame) (acts : List Action), f.method = m → f.locked = none → f.entered = [] → (doReturn e (T.setTop f) acts (some (.int z))).1 = T.setFrames fs) : Steps p.tables e below (T.setTop (mkF m pc Ls (.int z :: rest))) (T.setFrames fs) := by
  have hm' : T.vm.method? m = some meth := X.method'
  have hn : narrow .int (.int z) = .int z := rfl
  show Steps p.tables e below (T.setTop { method := m, pc := pc, locals := Ls, stack := _ :: rest, locked := none }) _
  jvm_step X.here [X.here.top, hx, hd, hm', hret, hn]
  first | (intro acts; rw [hl _ acts rfl rfl rfl]) | rw [hl _ _ rfl rfl rfl]
  exact Steps.refl _
end New
end Jvm.RoadKit
namespace Jvm.Pilot.@@N@@
open Jvm Jvm.ClassFile Sem Op Lib Jvm.Free Jvm.Stand Jvm.LawKit Jvm.RoadKit Bundle Jvm.Pilot.@@N@@.Jvm.D
/-- the goal of a walk, carried over a piece of it -/
theorem own_go {tb : Tables} {e : Env} {below : List Frame} {A B : State} {P : State → Outcome → Prop} (st : ∀ t, Steps tb e below B t → Steps tb e below A t) (h : ∃ s₂ o, Steps tb e below B s₂ ∧ P s₂ o) : ∃ s₂ o, Steps tb e below A s₂ ∧ P s₂ o := by
  obtain ⟨s₂, o, h1, h2⟩ := h
  exact ⟨s₂, o, st _ h1, h2⟩
/-- a boolean as the int that the machine holds -/
def own_i (b : Bool) : Int32 := if b = true then 1 else 0
theorem own_i1 {b : Bool} (h : b = true) : ¬ (own_i b = 0) := by subst h; decide
theorem own_i0 {b : Bool} (h : ¬ b = true) : own_i b = 0 := by cases b; · rfl
                                                               · exact absurd rfl h
theorem own_it {b : Bool} (h : b = true) : own_i b = 1 := by subst h; rfl
theorem own_nb (b : Bool) : nar .boolean (own_i b) = own_i b := by cases b <;> decide
/-- one step of Newton's iteration -/
def own_nw (m x : Int64) : Int64 := x * ((2 : Int64) - (m * x))
def own_inv (m : Int64) : Int64 := own_nw m (own_nw m (own_nw m (own_nw m (own_nw m m))))
/-- z xor its k-fold shift -/
def own_s (k : Int32) (z : Int64) : Int64 := ((z.toUInt64 >>> (k &&& 0x3f).toInt64.toUInt64).toInt64)
def own_x (k : Int32) (z : Int64) : Int64 := z ^^^ own_s k z
def own_y (k j : Int32) (z : Int64) : Int64 := (z ^^^ own_s k z) ^^^ own_s j z
def own_mix (s : Int64) : Int64 := own_x 31 ((own_x 27 ((own_x 30 s) * (-4658895280553007687 : Int64))) * (-7723592293110705685 : Int64))
def own_un (z i1 i2 : Int64) : Int64 := own_y 30 60 ((own_y 27 54 ((own_y 31 62 z) * i2)) * i1)
theorem own_inv1 : ((-4658895280553007687 : Int64) * (own_inv (-4658895280553007687 : Int64))) = (1 : Int64) := by decide +kernel
theorem own_inv2 : ((-7723592293110705685 : Int64) * (own_inv (-7723592293110705685 : Int64))) = (1 : Int64) := by decide +kernel
theorem own_bv (n : Nat) (hn : 64 ≤ 3 * n) (x : BitVec 64) : (((x ^^^ (x >>> n)) ^^^ ((x ^^^ (x >>> n)) >>> n)) ^^^ ((x ^^^ (x >>> n)) >>> (2 * n))) = x := by
  apply BitVec.eq_of_getLsbD_eq
  intro i hi
  have e1 : n + (n + i) = 2 * n + i := by omega
  have e2 : x.getLsbD (n + (2 * n + i)) = false := BitVec.getLsbD_of_ge _ _ (by omega)
  simp only [BitVec.getLsbD_xor, BitVec.getLsbD_ushiftRight, e1, e2]
  cases x.getLsbD i <;> cases x.getLsbD (n + i) <;> cases x.getLsbD (2 * n + i) <;> rfl
theorem own_y31 (x : Int64) : own_y 31 62 (own_x 31 x) = x := by
  apply Int64.toBitVec_inj.mp
  exact own_bv 31 (by decide) x.toBitVec
theorem own_y27 (x : Int64) : own_y 27 54 (own_x 27 x) = x := by
  apply Int64.toBitVec_inj.mp
  exact own_bv 27 (by decide) x.toBitVec
theorem own_y30 (x : Int64) : own_y 30 60 (own_x 30 x) = x := by
  apply Int64.toBitVec_inj.mp
  exact own_bv 30 (by decide) x.toBitVec
theorem own_undo (s : Int64) : own_un (own_mix s) (own_inv (-4658895280553007687 : Int64)) (own_inv (-7723592293110705685 : Int64)) = s := by
  unfold own_un own_mix
  rw [own_y31, Int64.mul_assoc, own_inv2, Int64.mul_one, own_y27, Int64.mul_assoc, own_inv1, Int64.mul_one, own_y30]
theorem own_c1 (q : Int64) : own_un (own_mix (q + (-7046029254386353131 : Int64))) (own_inv (-4658895280553007687 : Int64)) (own_inv (-7723592293110705685 : Int64)) = q + (-7046029254386353131 : Int64) := own_undo _
theorem own_c2 (q : Int64) : own_un (own_mix ((q + (-7046029254386353131 : Int64)) + (-7046029254386353131 : Int64))) (own_inv (-4658895280553007687 : Int64)) (own_inv (-7723592293110705685 : Int64)) = q + ((2 : Int64) * (-7046029254386353131 : Int64)) := by
  rw [own_undo, Int64.add_assoc]
  exact congrArg (q + ·) (by decide +kernel)
theorem own_c3 (q : Int64) : own_un (own_mix (((q + (-7046029254386353131 : Int64)) + (-7046029254386353131 : Int64)) + (-7046029254386353131 : Int64))) (own_inv (-4658895280553007687 : Int64)) (own_inv (-7723592293110705685 : Int64)) = q + ((3 : Int64) * (-7046029254386353131 : Int64)) := by
  rw [own_undo, Int64.add_assoc, Int64.add_assoc]
  exact congrArg (q + ·) (by decide +kernel)
theorem d1_0 : decode method_2_code 0 = .ok (.lload_n 0, 1) := by decide +kernel
theorem d1_1 : decode method_2_code 1 = .ok (.lstore_n 2, 1) := by decide +kernel
theorem d1_2 : decode method_2_code 2 = .ok (.lload_n 2, 1) := by decide +kernel
theorem d1_3 : decode method_2_code 3 = .ok (.ldc2_w 7, 3) := by decide +kernel
theorem d1_6 : decode method_2_code 6 = .ok (.lload_n 0, 1) := by decide +kernel
theorem d1_7 : decode method_2_code 7 = .ok (.lload_n 2, 1) := by decide +kernel
theorem d1_8 : decode method_2_code 8 = .ok (.lmul, 1) := by decide +kernel
theorem d1_9 : decode method_2_code 9 = .ok (.lsub, 1) := by decide +kernel
theorem d1_10 : decode method_2_code 10 = .ok (.lmul, 1) := by decide +kernel
theorem d1_11 : decode method_2_code 11 = .ok (.lstore_n 2, 1) := by decide +kernel
theorem d1_12 : decode method_2_code 12 = .ok (.lload_n 2, 1) := by decide +kernel
theorem d1_13 : decode method_2_code 13 = .ok (.ldc2_w 7, 3) := by decide +kernel
theorem d1_16 : decode method_2_code 16 = .ok (.lload_n 0, 1) := by decide +kernel
theorem d1_17 : decode method_2_code 17 = .ok (.lload_n 2, 1) := by decide +kernel
theorem d1_18 : decode method_2_code 18 = .ok (.lmul, 1) := by decide +kernel
theorem d1_19 : decode method_2_code 19 = .ok (.lsub, 1) := by decide +kernel
theorem d1_20 : decode method_2_code 20 = .ok (.lmul, 1) := by decide +kernel
theorem d1_21 : decode method_2_code 21 = .ok (.lstore_n 2, 1) := by decide +kernel
theorem d1_22 : decode method_2_code 22 = .ok (.lload_n 2, 1) := by decide +kernel
theorem d1_23 : decode method_2_code 23 = .ok (.ldc2_w 7, 3) := by decide +kernel
theorem d1_26 : decode method_2_code 26 = .ok (.lload_n 0, 1) := by decide +kernel
theorem d1_27 : decode method_2_code 27 = .ok (.lload_n 2, 1) := by decide +kernel
theorem d1_28 : decode method_2_code 28 = .ok (.lmul, 1) := by decide +kernel
theorem d1_29 : decode method_2_code 29 = .ok (.lsub, 1) := by decide +kernel
theorem d1_30 : decode method_2_code 30 = .ok (.lmul, 1) := by decide +kernel
theorem d1_31 : decode method_2_code 31 = .ok (.lstore_n 2, 1) := by decide +kernel
theorem d1_32 : decode method_2_code 32 = .ok (.lload_n 2, 1) := by decide +kernel
theorem d1_33 : decode method_2_code 33 = .ok (.ldc2_w 7, 3) := by decide +kernel
theorem d1_36 : decode method_2_code 36 = .ok (.lload_n 0, 1) := by decide +kernel
theorem d1_37 : decode method_2_code 37 = .ok (.lload_n 2, 1) := by decide +kernel
theorem d1_38 : decode method_2_code 38 = .ok (.lmul, 1) := by decide +kernel
theorem d1_39 : decode method_2_code 39 = .ok (.lsub, 1) := by decide +kernel
theorem d1_40 : decode method_2_code 40 = .ok (.lmul, 1) := by decide +kernel
theorem d1_41 : decode method_2_code 41 = .ok (.lstore_n 2, 1) := by decide +kernel
theorem d1_42 : decode method_2_code 42 = .ok (.lload_n 2, 1) := by decide +kernel
theorem d1_43 : decode method_2_code 43 = .ok (.ldc2_w 7, 3) := by decide +kernel
theorem d1_46 : decode method_2_code 46 = .ok (.lload_n 0, 1) := by decide +kernel
theorem d1_47 : decode method_2_code 47 = .ok (.lload_n 2, 1) := by decide +kernel
theorem d1_48 : decode method_2_code 48 = .ok (.lmul, 1) := by decide +kernel
theorem d1_49 : decode method_2_code 49 = .ok (.lsub, 1) := by decide +kernel
theorem d1_50 : decode method_2_code 50 = .ok (.lmul, 1) := by decide +kernel
theorem d1_51 : decode method_2_code 51 = .ok (.lstore_n 2, 1) := by decide +kernel
theorem d1_52 : decode method_2_code 52 = .ok (.lload_n 2, 1) := by decide +kernel
theorem d1_53 : decode method_2_code 53 = .ok (.lreturn, 1) := by decide +kernel
theorem d2_0 : decode prog_31_method_1_code 0 = .ok (.aload_n 0, 1) := by decide +kernel
theorem d2_1 : decode prog_31_method_1_code 1 = .ok (.invokespecial 1, 3) := by decide +kernel
theorem d2_4 : decode prog_31_method_1_code 4 = .ok (.aload_n 0, 1) := by decide +kernel
theorem d2_5 : decode prog_31_method_1_code 5 = .ok (.lload_n 1, 1) := by decide +kernel
theorem d2_6 : decode prog_31_method_1_code 6 = .ok (.putfield 7, 3) := by decide +kernel
theorem d2_9 : decode prog_31_method_1_code 9 = .ok (.return_, 1) := by decide +kernel
theorem d4_0 : decode prog_31_method_2_code 0 = .ok (.aload_n 0, 1) := by decide +kernel
theorem d4_1 : decode prog_31_method_2_code 1 = .ok (.dup, 1) := by decide +kernel
theorem d4_2 : decode prog_31_method_2_code 2 = .ok (.getfield 7, 3) := by decide +kernel
theorem d4_5 : decode prog_31_method_2_code 5 = .ok (.ldc2_w 13, 3) := by decide +kernel
theorem d4_8 : decode prog_31_method_2_code 8 = .ok (.ladd, 1) := by decide +kernel
theorem d4_9 : decode prog_31_method_2_code 9 = .ok (.putfield 7, 3) := by decide +kernel
theorem d4_12 : decode prog_31_method_2_code 12 = .ok (.aload_n 0, 1) := by decide +kernel
theorem d4_13 : decode prog_31_method_2_code 13 = .ok (.getfield 7, 3) := by decide +kernel
theorem d4_16 : decode prog_31_method_2_code 16 = .ok (.aload_n 0, 1) := by decide +kernel
theorem d4_17 : decode prog_31_method_2_code 17 = .ok (.getfield 7, 3) := by decide +kernel
theorem d4_20 : decode prog_31_method_2_code 20 = .ok (.bipush 30, 2) := by decide +kernel
theorem d4_22 : decode prog_31_method_2_code 22 = .ok (.lushr, 1) := by decide +kernel
theorem d4_23 : decode prog_31_method_2_code 23 = .ok (.lxor, 1) := by decide +kernel
theorem d4_24 : decode prog_31_method_2_code 24 = .ok (.ldc2_w 15, 3) := by decide +kernel
theorem d4_27 : decode prog_31_method_2_code 27 = .ok (.lmul, 1) := by decide +kernel
theorem d4_28 : decode prog_31_method_2_code 28 = .ok (.lstore_n 1, 1) := by decide +kernel
theorem d4_29 : decode prog_31_method_2_code 29 = .ok (.lload_n 1, 1) := by decide +kernel
theorem d4_30 : decode prog_31_method_2_code 30 = .ok (.lload_n 1, 1) := by decide +kernel
theorem d4_31 : decode prog_31_method_2_code 31 = .ok (.bipush 27, 2) := by decide +kernel
theorem d4_33 : decode prog_31_method_2_code 33 = .ok (.lushr, 1) := by decide +kernel
theorem d4_34 : decode prog_31_method_2_code 34 = .ok (.lxor, 1) := by decide +kernel
theorem d4_35 : decode prog_31_method_2_code 35 = .ok (.ldc2_w 17, 3) := by decide +kernel
theorem d4_38 : decode prog_31_method_2_code 38 = .ok (.lmul, 1) := by decide +kernel
theorem d4_39 : decode prog_31_method_2_code 39 = .ok (.lstore_n 1, 1) := by decide +kernel
theorem d4_40 : decode prog_31_method_2_code 40 = .ok (.lload_n 1, 1) := by decide +kernel
theorem d4_41 : decode prog_31_method_2_code 41 = .ok (.lload_n 1, 1) := by decide +kernel
theorem d4_42 : decode prog_31_method_2_code 42 = .ok (.bipush 31, 2) := by decide +kernel
theorem d4_44 : decode prog_31_method_2_code 44 = .ok (.lushr, 1) := by decide +kernel
theorem d4_45 : decode prog_31_method_2_code 45 = .ok (.lxor, 1) := by decide +kernel
theorem d4_46 : decode prog_31_method_2_code 46 = .ok (.lreturn, 1) := by decide +kernel
theorem d5_0 : decode method_3_code 0 = .ok (.lload_n 0, 1) := by decide +kernel
theorem d5_1 : decode method_3_code 1 = .ok (.lload_n 0, 1) := by decide +kernel
theorem d5_2 : decode method_3_code 2 = .ok (.bipush 31, 2) := by decide +kernel
theorem d5_4 : decode method_3_code 4 = .ok (.lushr, 1) := by decide +kernel
theorem d5_5 : decode method_3_code 5 = .ok (.lxor, 1) := by decide +kernel
theorem d5_6 : decode method_3_code 6 = .ok (.lload_n 0, 1) := by decide +kernel
theorem d5_7 : decode method_3_code 7 = .ok (.bipush 62, 2) := by decide +kernel
theorem d5_9 : decode method_3_code 9 = .ok (.lushr, 1) := by decide +kernel
theorem d5_10 : decode method_3_code 10 = .ok (.lxor, 1) := by decide +kernel
theorem d5_11 : decode method_3_code 11 = .ok (.lstore 6, 2) := by decide +kernel
theorem d5_13 : decode method_3_code 13 = .ok (.lload 6, 2) := by decide +kernel
theorem d5_15 : decode method_3_code 15 = .ok (.lload 4, 2) := by decide +kernel
theorem d5_17 : decode method_3_code 17 = .ok (.lmul, 1) := by decide +kernel
theorem d5_18 : decode method_3_code 18 = .ok (.lstore 6, 2) := by decide +kernel
theorem d5_20 : decode method_3_code 20 = .ok (.lload 6, 2) := by decide +kernel
theorem d5_22 : decode method_3_code 22 = .ok (.lload 6, 2) := by decide +kernel
theorem d5_24 : decode method_3_code 24 = .ok (.bipush 27, 2) := by decide +kernel
theorem d5_26 : decode method_3_code 26 = .ok (.lushr, 1) := by decide +kernel
theorem d5_27 : decode method_3_code 27 = .ok (.lxor, 1) := by decide +kernel
theorem d5_28 : decode method_3_code 28 = .ok (.lload 6, 2) := by decide +kernel
theorem d5_30 : decode method_3_code 30 = .ok (.bipush 54, 2) := by decide +kernel
theorem d5_32 : decode method_3_code 32 = .ok (.lushr, 1) := by decide +kernel
theorem d5_33 : decode method_3_code 33 = .ok (.lxor, 1) := by decide +kernel
theorem d5_34 : decode method_3_code 34 = .ok (.lstore 6, 2) := by decide +kernel
theorem d5_36 : decode method_3_code 36 = .ok (.lload 6, 2) := by decide +kernel
theorem d5_38 : decode method_3_code 38 = .ok (.lload_n 2, 1) := by decide +kernel
theorem d5_39 : decode method_3_code 39 = .ok (.lmul, 1) := by decide +kernel
theorem d5_40 : decode method_3_code 40 = .ok (.lstore 6, 2) := by decide +kernel
theorem d5_42 : decode method_3_code 42 = .ok (.lload 6, 2) := by decide +kernel
theorem d5_44 : decode method_3_code 44 = .ok (.lload 6, 2) := by decide +kernel
theorem d5_46 : decode method_3_code 46 = .ok (.bipush 30, 2) := by decide +kernel
theorem d5_48 : decode method_3_code 48 = .ok (.lushr, 1) := by decide +kernel
theorem d5_49 : decode method_3_code 49 = .ok (.lxor, 1) := by decide +kernel
theorem d5_50 : decode method_3_code 50 = .ok (.lload 6, 2) := by decide +kernel
theorem d5_52 : decode method_3_code 52 = .ok (.bipush 60, 2) := by decide +kernel
theorem d5_54 : decode method_3_code 54 = .ok (.lushr, 1) := by decide +kernel
theorem d5_55 : decode method_3_code 55 = .ok (.lxor, 1) := by decide +kernel
theorem d5_56 : decode method_3_code 56 = .ok (.lstore 6, 2) := by decide +kernel
theorem d5_58 : decode method_3_code 58 = .ok (.lload 6, 2) := by decide +kernel
theorem d5_60 : decode method_3_code 60 = .ok (.lreturn, 1) := by decide +kernel
theorem pd_0 : parseMethodDescriptor "(J)J" = some ⟨[.long], some .long⟩ := by decide +kernel
theorem pd_1 : parseMethodDescriptor "(J)V" = some ⟨[.long], none⟩ := by decide +kernel
theorem pd_2 : parseMethodDescriptor "()J" = some ⟨[], some .long⟩ := by decide +kernel
theorem pd_3 : parseMethodDescriptor "(JJJ)J" = some ⟨[.long, .long, .long], some .long⟩ := by decide +kernel
theorem pn_0 : plainName "com/example/marshalyard/marshalyard/generation/SplitMix64NextPinLaw" = true := by first | (simp [plainName, overriddenIn]; done) | decide +kernel
theorem pn_1 : plainName "com/example/marshalyard/marshalyard/generation/SplitMix64" = true := by first | (simp [plainName, overriddenIn]; done) | decide +kernel
theorem ef_1 (m : MethodId) (x0 : Int64) : entryFrame m #[(.long x0)] 4 = mkF m 0 #[.val (.long x0), .second, .unset, .unset] [] := by first | (simp [entryFrame, mkF, argsToLocals, Value.category]; done) | rfl
def Q1 (Z : State) (q1 : Int64) (h0 : Heap) (n0 : Nat) (v : Option Value) (h : Heap) (L : List Loc) : Prop := v = some (.long (own_inv q1)) ∧ Fr n0 L ∧ h = h0
set_option maxRecDepth 65536 in
set_option maxHeartbeats 40000000 in
theorem rm1 (l : Launch) (Z : State) (a0 : Array Value) (hw : ∀ d ∈ tables_1, d.before a0 Z = true) (ws : List Jvm.Cond) (q1 : Int64)  (h0 : Heap) (n0 : Nat) (Z0 : n0 ≤ h0.size)  :
    MetFree l (⟨"com/example/marshalyard/marshalyard/generation/SplitMix64NextPinLaw", "inverse", "(J)J"⟩ : MethodName) (head1 (Jvm.Cond.code (⟨"com/example/marshalyard/marshalyard/generation/SplitMix64NextPinLaw", "inverse", "(J)J"⟩ : MethodName) method_2_code 4 (some .long) :: ws) ({ frames := 0, cells := 0, slots := 0, locals := 0 } : Room)) (fun a U => a = #[(.long q1)] ∧ Z.Warmed39 U.vm ∧ U.heap = h0) (fun _ _ _ _ _ => True) (fun _ U o U' => ∃ v L, o = .returned v ∧ Q1 Z q1 h0 n0 v U'.heap L ∧ FrameEnd U o U' L ({ frames := 0, cells := 0, slots := 0, locals := 0 } : Room).cells ({ frames := 0, cells := 0, slots := 0, locals := 0 } : Room).slots) := by
  refine MetFree.of_bodySF (plainFor_of_name pn_0) hisR ?_
  intro p e s m args below meth c s₁ Bd hml0 hP hK
  obtain ⟨rfl, hZ, hh⟩ := hP
  have hx := Bd.exec
  have hby := Bd.bytes
  have hml : c.maxLocals = 4 := hml0
  have hown : s.vm.findClass "com/example/marshalyard/marshalyard/generation/SplitMix64NextPinLaw" = some m.cls := findClass_of_methodNamed Bd.named
  have hnm := (name_of_methodNamed Bd.named Bd.method).1
  have X0 : Stand p l e ({ frames := 0, cells := 0, slots := 0, locals := 0 } : Room) s m #[(.long q1)] below meth c s₁ [] 0 0 := Stand.of_body Bd
  have e0 : s₁.heap = h0 := by rw [← hh, Bd.state]; rfl
  have N0 := Fr.nil n0
  refine own_go (B := s₁.setTop (mkF m 0 #[.val (.long q1), .second, .unset, .unset] [])) (fun t kt => castTop (ef_1 m q1) kt) ?_
  refine own_go (B := s₁.setTop (mkF m 2 #[.val (.long q1), .second, .val (.long q1), .second] [])) (fun t kt => ?_) ?_
  · show Steps p.tables e below (s₁.setTop (mkF m 0 #[.val (.long q1), .second, .unset, .unset] [])) _
    refine XS.lloadN X0.here hx rfl (hb hby d1_0) rfl ?_
    show Steps p.tables e below (s₁.setTop (mkF m 1 #[.val (.long q1), .second, .unset, .unset] [(.long q1)])) _
    refine XS.lstoreN X0.here hx rfl (hb hby d1_1) rfl (l' := #[.val (.long q1), .second, .val (.long q1), .second]) rfl ?_
    exact kt
  refine own_go (B := s₁.setTop (mkF m 12 #[.val (.long q1), .second, .val (.long (own_nw q1 q1)), .second] [])) (fun t kt => ?_) ?_
  · show Steps p.tables e below (s₁.setTop (mkF m 2 #[.val (.long q1), .second, .val (.long q1), .second] [])) _
    refine XS.lloadN X0.here hx rfl (hb hby d1_2) rfl ?_
    show Steps p.tables e below (s₁.setTop (mkF m 3 #[.val (.long q1), .second, .val (.long q1), .second] [(.long q1)])) _
    refine X0.ldc2Long hx hown (mvT hZ (hw _ (List.mem_of_getElem? (i := 7) rfl))) (g := (mkF m 3 #[.val (.long q1), .second, .val (.long q1), .second] [(.long q1)])) rfl (hb hby d1_3) _ ?_
    show Steps p.tables e below (s₁.setTop (mkF m 6 #[.val (.long q1), .second, .val (.long q1), .second] [(.long (2 : Int64)), (.long q1)])) _
    refine XS.lloadN X0.here hx rfl (hb hby d1_6) rfl ?_
    show Steps p.tables e below (s₁.setTop (mkF m 7 #[.val (.long q1), .second, .val (.long q1), .second] [(.long q1), (.long (2 : Int64)), (.long q1)])) _
    refine XS.lloadN X0.here hx rfl (hb hby d1_7) rfl ?_
    show Steps p.tables e below (s₁.setTop (mkF m 8 #[.val (.long q1), .second, .val (.long q1), .second] [(.long q1), (.long q1), (.long (2 : Int64)), (.long q1)])) _
    refine XS.lmul X0.here hx rfl (hb hby d1_8) rfl ?_
    show Steps p.tables e below (s₁.setTop (mkF m 9 #[.val (.long q1), .second, .val (.long q1), .second] [(.long (q1 * q1)), (.long (2 : Int64)), (.long q1)])) _
    refine XS.lsub X0.here hx rfl (hb hby d1_9) rfl ?_
    show Steps p.tables e below (s₁.setTop (mkF m 10 #[.val (.long q1), .second, .val (.long q1), .second] [(.long ((2 : Int64) - (q1 * q1))), (.long q1)])) _
    refine XS.lmul X0.here hx rfl (hb hby d1_10) rfl ?_
    show Steps p.tables e below (s₁.setTop (mkF m 11 #[.val (.long q1), .second, .val (.long q1), .second] [(.long (q1 * ((2 : Int64) - (q1 * q1))))])) _
    refine XS.lstoreN X0.here hx rfl (hb hby d1_11) rfl (l' := #[.val (.long q1), .second, .val (.long (q1 * ((2 : Int64) - (q1 * q1)))), .second]) rfl ?_
    exact kt
  refine own_go (B := s₁.setTop (mkF m 22 #[.val (.long q1), .second, .val (.long (own_nw q1 (own_nw q1 q1))), .second] [])) (fun t kt => ?_) ?_
  · show Steps p.tables e below (s₁.setTop (mkF m 12 #[.val (.long q1), .second, .val (.long (own_nw q1 q1)), .second] [])) _
    refine XS.lloadN X0.here hx rfl (hb hby d1_12) rfl ?_
    show Steps p.tables e below (s₁.setTop (mkF m 13 #[.val (.long q1), .second, .val (.long (own_nw q1 q1)), .second] [(.long (own_nw q1 q1))])) _
    refine X0.ldc2Long hx hown (mvT hZ (hw _ (List.mem_of_getElem? (i := 7) rfl))) (g := (mkF m 13 #[.val (.long q1), .second, .val (.long (own_nw q1 q1)), .second] [(.long (own_nw q1 q1))])) rfl (hb hby d1_13) _ ?_
    show Steps p.tables e below (s₁.setTop (mkF m 16 #[.val (.long q1), .second, .val (.long (own_nw q1 q1)), .second] [(.long (2 : Int64)), (.long (own_nw q1 q1))])) _
    refine XS.lloadN X0.here hx rfl (hb hby d1_16) rfl ?_
    show Steps p.tables e below (s₁.setTop (mkF m 17 #[.val (.long q1), .second, .val (.long (own_nw q1 q1)), .second] [(.long q1), (.long (2 : Int64)), (.long (own_nw q1 q1))])) _
    refine XS.lloadN X0.here hx rfl (hb hby d1_17) rfl ?_
    show Steps p.tables e below (s₁.setTop (mkF m 18 #[.val (.long q1), .second, .val (.long (own_nw q1 q1)), .second] [(.long (own_nw q1 q1)), (.long q1), (.long (2 : Int64)), (.long (own_nw q1 q1))])) _
    refine XS.lmul X0.here hx rfl (hb hby d1_18) rfl ?_
    show Steps p.tables e below (s₁.setTop (mkF m 19 #[.val (.long q1), .second, .val (.long (own_nw q1 q1)), .second] [(.long (q1 * (own_nw q1 q1))), (.long (2 : Int64)), (.long (own_nw q1 q1))])) _
    refine XS.lsub X0.here hx rfl (hb hby d1_19) rfl ?_
    show Steps p.tables e below (s₁.setTop (mkF m 20 #[.val (.long q1), .second, .val (.long (own_nw q1 q1)), .second] [(.long ((2 : Int64) - (q1 * (own_nw q1 q1)))), (.long (own_nw q1 q1))])) _
    refine XS.lmul X0.here hx rfl (hb hby d1_20) rfl ?_
    show Steps p.tables e below (s₁.setTop (mkF m 21 #[.val (.long q1), .second, .val (.long (own_nw q1 q1)), .second] [(.long ((own_nw q1 q1) * ((2 : Int64) - (q1 * (own_nw q1 q1)))))])) _
    refine XS.lstoreN X0.here hx rfl (hb hby d1_21) rfl (l' := #[.val (.long q1), .second, .val (.long ((own_nw q1 q1) * ((2 : Int64) - (q1 * (own_nw q1 q1))))), .second]) rfl ?_
    exact kt
  refine own_go (B := s₁.setTop (mkF m 32 #[.val (.long q1), .second, .val (.long (own_nw q1 (own_nw q1 (own_nw q1 q1)))), .second] [])) (fun t kt => ?_) ?_
  · show Steps p.tables e below (s₁.setTop (mkF m 22 #[.val (.long q1), .second, .val (.long (own_nw q1 (own_nw q1 q1))), .second] [])) _
    refine XS.lloadN X0.here hx rfl (hb hby d1_22) rfl ?_
    show Steps p.tables e below (s₁.setTop (mkF m 23 #[.val (.long q1), .second, .val (.long (own_nw q1 (own_nw q1 q1))), .second] [(.long (own_nw q1 (own_nw q1 q1)))])) _
    refine X0.ldc2Long hx hown (mvT hZ (hw _ (List.mem_of_getElem? (i := 7) rfl))) (g := (mkF m 23 #[.val (.long q1), .second, .val (.long (own_nw q1 (own_nw q1 q1))), .second] [(.long (own_nw q1 (own_nw q1 q1)))])) rfl (hb hby d1_23) _ ?_
    show Steps p.tables e below (s₁.setTop (mkF m 26 #[.val (.long q1), .second, .val (.long (own_nw q1 (own_nw q1 q1))), .second] [(.long (2 : Int64)), (.long (own_nw q1 (own_nw q1 q1)))])) _
    refine XS.lloadN X0.here hx rfl (hb hby d1_26) rfl ?_
    show Steps p.tables e below (s₁.setTop (mkF m 27 #[.val (.long q1), .second, .val (.long (own_nw q1 (own_nw q1 q1))), .second] [(.long q1), (.long (2 : Int64)), (.long (own_nw q1 (own_nw q1 q1)))])) _
    refine XS.lloadN X0.here hx rfl (hb hby d1_27) rfl ?_
    show Steps p.tables e below (s₁.setTop (mkF m 28 #[.val (.long q1), .second, .val (.long (own_nw q1 (own_nw q1 q1))), .second] [(.long (own_nw q1 (own_nw q1 q1))), (.long q1), (.long (2 : Int64)), (.long (own_nw q1 (own_nw q1 q1)))])) _
    refine XS.lmul X0.here hx rfl (hb hby d1_28) rfl ?_
    show Steps p.tables e below (s₁.setTop (mkF m 29 #[.val (.long q1), .second, .val (.long (own_nw q1 (own_nw q1 q1))), .second] [(.long (q1 * (own_nw q1 (own_nw q1 q1)))), (.long (2 : Int64)), (.long (own_nw q1 (own_nw q1 q1)))])) _
    refine XS.lsub X0.here hx rfl (hb hby d1_29) rfl ?_
    show Steps p.tables e below (s₁.setTop (mkF m 30 #[.val (.long q1), .second, .val (.long (own_nw q1 (own_nw q1 q1))), .second] [(.long ((2 : Int64) - (q1 * (own_nw q1 (own_nw q1 q1))))), (.long (own_nw q1 (own_nw q1 q1)))])) _
    refine XS.lmul X0.here hx rfl (hb hby d1_30) rfl ?_
    show Steps p.tables e below (s₁.setTop (mkF m 31 #[.val (.long q1), .second, .val (.long (own_nw q1 (own_nw q1 q1))), .second] [(.long ((own_nw q1 (own_nw q1 q1)) * ((2 : Int64) - (q1 * (own_nw q1 (own_nw q1 q1))))))])) _
    refine XS.lstoreN X0.here hx rfl (hb hby d1_31) rfl (l' := #[.val (.long q1), .second, .val (.long ((own_nw q1 (own_nw q1 q1)) * ((2 : Int64) - (q1 * (own_nw q1 (own_nw q1 q1)))))), .second]) rfl ?_
    exact kt
  refine own_go (B := s₁.setTop (mkF m 42 #[.val (.long q1), .second, .val (.long (own_nw q1 (own_nw q1 (own_nw q1 (own_nw q1 q1))))), .second] [])) (fun t kt => ?_) ?_
  · show Steps p.tables e below (s₁.setTop (mkF m 32 #[.val (.long q1), .second, .val (.long (own_nw q1 (own_nw q1 (own_nw q1 q1)))), .second] [])) _
    refine XS.lloadN X0.here hx rfl (hb hby d1_32) rfl ?_
    show Steps p.tables e below (s₁.setTop (mkF m 33 #[.val (.long q1), .second, .val (.long (own_nw q1 (own_nw q1 (own_nw q1 q1)))), .second] [(.long (own_nw q1 (own_nw q1 (own_nw q1 q1))))])) _
    refine X0.ldc2Long hx hown (mvT hZ (hw _ (List.mem_of_getElem? (i := 7) rfl))) (g := (mkF m 33 #[.val (.long q1), .second, .val (.long (own_nw q1 (own_nw q1 (own_nw q1 q1)))), .second] [(.long (own_nw q1 (own_nw q1 (own_nw q1 q1))))])) rfl (hb hby d1_33) _ ?_
    show Steps p.tables e below (s₁.setTop (mkF m 36 #[.val (.long q1), .second, .val (.long (own_nw q1 (own_nw q1 (own_nw q1 q1)))), .second] [(.long (2 : Int64)), (.long (own_nw q1 (own_nw q1 (own_nw q1 q1))))])) _
    refine XS.lloadN X0.here hx rfl (hb hby d1_36) rfl ?_
    show Steps p.tables e below (s₁.setTop (mkF m 37 #[.val (.long q1), .second, .val (.long (own_nw q1 (own_nw q1 (own_nw q1 q1)))), .second] [(.long q1), (.long (2 : Int64)), (.long (own_nw q1 (own_nw q1 (own_nw q1 q1))))])) _
    refine XS.lloadN X0.here hx rfl (hb hby d1_37) rfl ?_
    show Steps p.tables e below (s₁.setTop (mkF m 38 #[.val (.long q1), .second, .val (.long (own_nw q1 (own_nw q1 (own_nw q1 q1)))), .second] [(.long (own_nw q1 (own_nw q1 (own_nw q1 q1)))), (.long q1), (.long (2 : Int64)), (.long (own_nw q1 (own_nw q1 (own_nw q1 q1))))])) _
    refine XS.lmul X0.here hx rfl (hb hby d1_38) rfl ?_
    show Steps p.tables e below (s₁.setTop (mkF m 39 #[.val (.long q1), .second, .val (.long (own_nw q1 (own_nw q1 (own_nw q1 q1)))), .second] [(.long (q1 * (own_nw q1 (own_nw q1 (own_nw q1 q1))))), (.long (2 : Int64)), (.long (own_nw q1 (own_nw q1 (own_nw q1 q1))))])) _
    refine XS.lsub X0.here hx rfl (hb hby d1_39) rfl ?_
    show Steps p.tables e below (s₁.setTop (mkF m 40 #[.val (.long q1), .second, .val (.long (own_nw q1 (own_nw q1 (own_nw q1 q1)))), .second] [(.long ((2 : Int64) - (q1 * (own_nw q1 (own_nw q1 (own_nw q1 q1)))))), (.long (own_nw q1 (own_nw q1 (own_nw q1 q1))))])) _
    refine XS.lmul X0.here hx rfl (hb hby d1_40) rfl ?_
    show Steps p.tables e below (s₁.setTop (mkF m 41 #[.val (.long q1), .second, .val (.long (own_nw q1 (own_nw q1 (own_nw q1 q1)))), .second] [(.long ((own_nw q1 (own_nw q1 (own_nw q1 q1))) * ((2 : Int64) - (q1 * (own_nw q1 (own_nw q1 (own_nw q1 q1)))))))])) _
    refine XS.lstoreN X0.here hx rfl (hb hby d1_41) rfl (l' := #[.val (.long q1), .second, .val (.long ((own_nw q1 (own_nw q1 (own_nw q1 q1))) * ((2 : Int64) - (q1 * (own_nw q1 (own_nw q1 (own_nw q1 q1))))))), .second]) rfl ?_
    exact kt
  refine own_go (B := s₁.setTop (mkF m 52 #[.val (.long q1), .second, .val (.long (own_nw q1 (own_nw q1 (own_nw q1 (own_nw q1 (own_nw q1 q1)))))), .second] [])) (fun t kt => ?_) ?_
  · show Steps p.tables e below (s₁.setTop (mkF m 42 #[.val (.long q1), .second, .val (.long (own_nw q1 (own_nw q1 (own_nw q1 (own_nw q1 q1))))), .second] [])) _
    refine XS.lloadN X0.here hx rfl (hb hby d1_42) rfl ?_
    show Steps p.tables e below (s₁.setTop (mkF m 43 #[.val (.long q1), .second, .val (.long (own_nw q1 (own_nw q1 (own_nw q1 (own_nw q1 q1))))), .second] [(.long (own_nw q1 (own_nw q1 (own_nw q1 (own_nw q1 q1)))))])) _
    refine X0.ldc2Long hx hown (mvT hZ (hw _ (List.mem_of_getElem? (i := 7) rfl))) (g := (mkF m 43 #[.val (.long q1), .second, .val (.long (own_nw q1 (own_nw q1 (own_nw q1 (own_nw q1 q1))))), .second] [(.long (own_nw q1 (own_nw q1 (own_nw q1 (own_nw q1 q1)))))])) rfl (hb hby d1_43) _ ?_
    show Steps p.tables e below (s₁.setTop (mkF m 46 #[.val (.long q1), .second, .val (.long (own_nw q1 (own_nw q1 (own_nw q1 (own_nw q1 q1))))), .second] [(.long (2 : Int64)), (.long (own_nw q1 (own_nw q1 (own_nw q1 (own_nw q1 q1)))))])) _
    refine XS.lloadN X0.here hx rfl (hb hby d1_46) rfl ?_
    show Steps p.tables e below (s₁.setTop (mkF m 47 #[.val (.long q1), .second, .val (.long (own_nw q1 (own_nw q1 (own_nw q1 (own_nw q1 q1))))), .second] [(.long q1), (.long (2 : Int64)), (.long (own_nw q1 (own_nw q1 (own_nw q1 (own_nw q1 q1)))))])) _
    refine XS.lloadN X0.here hx rfl (hb hby d1_47) rfl ?_
    show Steps p.tables e below (s₁.setTop (mkF m 48 #[.val (.long q1), .second, .val (.long (own_nw q1 (own_nw q1 (own_nw q1 (own_nw q1 q1))))), .second] [(.long (own_nw q1 (own_nw q1 (own_nw q1 (own_nw q1 q1))))), (.long q1), (.long (2 : Int64)), (.long (own_nw q1 (own_nw q1 (own_nw q1 (own_nw q1 q1)))))])) _
    refine XS.lmul X0.here hx rfl (hb hby d1_48) rfl ?_
    show Steps p.tables e below (s₁.setTop (mkF m 49 #[.val (.long q1), .second, .val (.long (own_nw q1 (own_nw q1 (own_nw q1 (own_nw q1 q1))))), .second] [(.long (q1 * (own_nw q1 (own_nw q1 (own_nw q1 (own_nw q1 q1)))))), (.long (2 : Int64)), (.long (own_nw q1 (own_nw q1 (own_nw q1 (own_nw q1 q1)))))])) _
    refine XS.lsub X0.here hx rfl (hb hby d1_49) rfl ?_
    show Steps p.tables e below (s₁.setTop (mkF m 50 #[.val (.long q1), .second, .val (.long (own_nw q1 (own_nw q1 (own_nw q1 (own_nw q1 q1))))), .second] [(.long ((2 : Int64) - (q1 * (own_nw q1 (own_nw q1 (own_nw q1 (own_nw q1 q1))))))), (.long (own_nw q1 (own_nw q1 (own_nw q1 (own_nw q1 q1)))))])) _
    refine XS.lmul X0.here hx rfl (hb hby d1_50) rfl ?_
    show Steps p.tables e below (s₁.setTop (mkF m 51 #[.val (.long q1), .second, .val (.long (own_nw q1 (own_nw q1 (own_nw q1 (own_nw q1 q1))))), .second] [(.long ((own_nw q1 (own_nw q1 (own_nw q1 (own_nw q1 q1)))) * ((2 : Int64) - (q1 * (own_nw q1 (own_nw q1 (own_nw q1 (own_nw q1 q1))))))))])) _
    refine XS.lstoreN X0.here hx rfl (hb hby d1_51) rfl (l' := #[.val (.long q1), .second, .val (.long ((own_nw q1 (own_nw q1 (own_nw q1 (own_nw q1 q1)))) * ((2 : Int64) - (q1 * (own_nw q1 (own_nw q1 (own_nw q1 (own_nw q1 q1)))))))), .second]) rfl ?_
    exact kt
  refine own_go (B := s₁.setTop (mkF m 53 #[.val (.long q1), .second, .val (.long (own_nw q1 (own_nw q1 (own_nw q1 (own_nw q1 (own_nw q1 q1)))))), .second] [(.long (own_inv q1))])) (fun t kt => ?_) ?_
  · show Steps p.tables e below (s₁.setTop (mkF m 52 #[.val (.long q1), .second, .val (.long (own_nw q1 (own_nw q1 (own_nw q1 (own_nw q1 (own_nw q1 q1)))))), .second] [])) _
    refine XS.lloadN X0.here hx rfl (hb hby d1_52) rfl ?_
    exact kt
  obtain ⟨fs, hr, hrun, hended, hW, hsame⟩ := X0.leave (v := some (.long (own_inv q1))) (fun h => by rw [Bd.returns] at h; cases h)
  refine ⟨_, _, ?_, hrun, hended, _, _, rfl, ?_, ⟨_, rfl⟩, hW, hsame.mono (by decide) (by decide)⟩
  · show Steps p.tables e below (s₁.setTop (mkF m 53 #[.val (.long q1), .second, .val (.long (own_nw q1 (own_nw q1 (own_nw q1 (own_nw q1 (own_nw q1 q1)))))), .second] [(.long (own_inv q1))])) _
    exact retOut X0 hx Bd.returns rfl (Or.inr (Or.inl ⟨rfl, rfl, _, rfl⟩)) (hb hby d1_53) hr
  · show Q1 Z q1 h0 n0 _ s₁.heap _
    rw [e0]
    exact ⟨rfl, N0, rfl⟩
theorem ef_5 (m : MethodId) (x0 : Int64) (x1 : Int64) (x2 : Int64) : entryFrame m #[(.long x0), (.long x1), (.long x2)] 8 = mkF m 0 #[.val (.long x0), .second, .val (.long x1), .second, .val (.long x2), .second, .unset, .unset] [] := by first | (simp [entryFrame, mkF, argsToLocals, Value.category]; done) | rfl
def Q5 (Z : State) (q1 q2 q3 : Int64) (h0 : Heap) (n0 : Nat) (v : Option Value) (h : Heap) (L : List Loc) : Prop := v = some (.long (own_un q1 q2 q3)) ∧ Fr n0 L ∧ h = h0
set_option maxRecDepth 65536 in
set_option maxHeartbeats 40000000 in
theorem rm5 (l : Launch) (Z : State) (a0 : Array Value) (hw : ∀ d ∈ tables_1, d.before a0 Z = true) (ws : List Jvm.Cond) (q1 : Int64) (q2 : Int64) (q3 : Int64)  (h0 : Heap) (n0 : Nat) (Z0 : n0 ≤ h0.size)  :
    MetFree l (⟨"com/example/marshalyard/marshalyard/generation/SplitMix64NextPinLaw", "unmix", "(JJJ)J"⟩ : MethodName) (head1 (Jvm.Cond.code (⟨"com/example/marshalyard/marshalyard/generation/SplitMix64NextPinLaw", "unmix", "(JJJ)J"⟩ : MethodName) method_3_code 8 (some .long) :: ws) ({ frames := 0, cells := 0, slots := 0, locals := 0 } : Room)) (fun a U => a = #[(.long q1), (.long q2), (.long q3)] ∧ Z.Warmed39 U.vm ∧ U.heap = h0) (fun _ _ _ _ _ => True) (fun _ U o U' => ∃ v L, o = .returned v ∧ Q5 Z q1 q2 q3 h0 n0 v U'.heap L ∧ FrameEnd U o U' L ({ frames := 0, cells := 0, slots := 0, locals := 0 } : Room).cells ({ frames := 0, cells := 0, slots := 0, locals := 0 } : Room).slots) := by
  refine MetFree.of_bodySF (plainFor_of_name pn_0) hisR ?_
  intro p e s m args below meth c s₁ Bd hml0 hP hK
  obtain ⟨rfl, hZ, hh⟩ := hP
  have hx := Bd.exec
  have hby := Bd.bytes
  have hml : c.maxLocals = 8 := hml0
  have hown : s.vm.findClass "com/example/marshalyard/marshalyard/generation/SplitMix64NextPinLaw" = some m.cls := findClass_of_methodNamed Bd.named
  have hnm := (name_of_methodNamed Bd.named Bd.method).1
  have X0 : Stand p l e ({ frames := 0, cells := 0, slots := 0, locals := 0 } : Room) s m #[(.long q1), (.long q2), (.long q3)] below meth c s₁ [] 0 0 := Stand.of_body Bd
  have e0 : s₁.heap = h0 := by rw [← hh, Bd.state]; rfl
  have N0 := Fr.nil n0
  refine own_go (B := s₁.setTop (mkF m 0 #[.val (.long q1), .second, .val (.long q2), .second, .val (.long q3), .second, .unset, .unset] [])) (fun t kt => castTop (ef_5 m q1 q2 q3) kt) ?_
  refine own_go (B := s₁.setTop (mkF m 13 #[.val (.long q1), .second, .val (.long q2), .second, .val (.long q3), .second, .val (.long (own_y 31 62 q1)), .second] [])) (fun t kt => ?_) ?_
  · show Steps p.tables e below (s₁.setTop (mkF m 0 #[.val (.long q1), .second, .val (.long q2), .second, .val (.long q3), .second, .unset, .unset] [])) _
    refine XS.lloadN X0.here hx rfl (hb hby d5_0) rfl ?_
    show Steps p.tables e below (s₁.setTop (mkF m 1 #[.val (.long q1), .second, .val (.long q2), .second, .val (.long q3), .second, .unset, .unset] [(.long q1)])) _
    refine XS.lloadN X0.here hx rfl (hb hby d5_1) rfl ?_
    show Steps p.tables e below (s₁.setTop (mkF m 2 #[.val (.long q1), .second, .val (.long q2), .second, .val (.long q3), .second, .unset, .unset] [(.long q1), (.long q1)])) _
    refine XS.bipush X0.here hx rfl (hb hby d5_2) ?_
    show Steps p.tables e below (s₁.setTop (mkF m 4 #[.val (.long q1), .second, .val (.long q2), .second, .val (.long q3), .second, .unset, .unset] [(.int (31 : Int32)), (.long q1), (.long q1)])) _
    refine XS.lushr X0.here hx rfl (hb hby d5_4) rfl ?_
    show Steps p.tables e below (s₁.setTop (mkF m 5 #[.val (.long q1), .second, .val (.long q2), .second, .val (.long q3), .second, .unset, .unset] [(.long ((q1.toUInt64 >>> ((31 : Int32) &&& 0x3f).toInt64.toUInt64).toInt64)), (.long q1)])) _
    refine XS.lxor X0.here hx rfl (hb hby d5_5) rfl ?_
    show Steps p.tables e below (s₁.setTop (mkF m 6 #[.val (.long q1), .second, .val (.long q2), .second, .val (.long q3), .second, .unset, .unset] [(.long (q1 ^^^ ((q1.toUInt64 >>> ((31 : Int32) &&& 0x3f).toInt64.toUInt64).toInt64)))])) _
    refine XS.lloadN X0.here hx rfl (hb hby d5_6) rfl ?_
    show Steps p.tables e below (s₁.setTop (mkF m 7 #[.val (.long q1), .second, .val (.long q2), .second, .val (.long q3), .second, .unset, .unset] [(.long q1), (.long (q1 ^^^ ((q1.toUInt64 >>> ((31 : Int32) &&& 0x3f).toInt64.toUInt64).toInt64)))])) _
    refine XS.bipush X0.here hx rfl (hb hby d5_7) ?_
    show Steps p.tables e below (s₁.setTop (mkF m 9 #[.val (.long q1), .second, .val (.long q2), .second, .val (.long q3), .second, .unset, .unset] [(.int (62 : Int32)), (.long q1), (.long (q1 ^^^ ((q1.toUInt64 >>> ((31 : Int32) &&& 0x3f).toInt64.toUInt64).toInt64)))])) _
    refine XS.lushr X0.here hx rfl (hb hby d5_9) rfl ?_
    show Steps p.tables e below (s₁.setTop (mkF m 10 #[.val (.long q1), .second, .val (.long q2), .second, .val (.long q3), .second, .unset, .unset] [(.long ((q1.toUInt64 >>> ((62 : Int32) &&& 0x3f).toInt64.toUInt64).toInt64)), (.long (q1 ^^^ ((q1.toUInt64 >>> ((31 : Int32) &&& 0x3f).toInt64.toUInt64).toInt64)))])) _
    refine XS.lxor X0.here hx rfl (hb hby d5_10) rfl ?_
    show Steps p.tables e below (s₁.setTop (mkF m 11 #[.val (.long q1), .second, .val (.long q2), .second, .val (.long q3), .second, .unset, .unset] [(.long ((q1 ^^^ ((q1.toUInt64 >>> ((31 : Int32) &&& 0x3f).toInt64.toUInt64).toInt64)) ^^^ ((q1.toUInt64 >>> ((62 : Int32) &&& 0x3f).toInt64.toUInt64).toInt64)))])) _
    refine XS.lstore X0.here hx rfl (hb hby d5_11) rfl (l' := #[.val (.long q1), .second, .val (.long q2), .second, .val (.long q3), .second, .val (.long ((q1 ^^^ ((q1.toUInt64 >>> ((31 : Int32) &&& 0x3f).toInt64.toUInt64).toInt64)) ^^^ ((q1.toUInt64 >>> ((62 : Int32) &&& 0x3f).toInt64.toUInt64).toInt64))), .second]) rfl ?_
    exact kt
  refine own_go (B := s₁.setTop (mkF m 20 #[.val (.long q1), .second, .val (.long q2), .second, .val (.long q3), .second, .val (.long ((own_y 31 62 q1) * q3)), .second] [])) (fun t kt => ?_) ?_
  · show Steps p.tables e below (s₁.setTop (mkF m 13 #[.val (.long q1), .second, .val (.long q2), .second, .val (.long q3), .second, .val (.long (own_y 31 62 q1)), .second] [])) _
    refine XS.lload X0.here hx rfl (hb hby d5_13) rfl ?_
    show Steps p.tables e below (s₁.setTop (mkF m 15 #[.val (.long q1), .second, .val (.long q2), .second, .val (.long q3), .second, .val (.long (own_y 31 62 q1)), .second] [(.long (own_y 31 62 q1))])) _
    refine XS.lload X0.here hx rfl (hb hby d5_15) rfl ?_
    show Steps p.tables e below (s₁.setTop (mkF m 17 #[.val (.long q1), .second, .val (.long q2), .second, .val (.long q3), .second, .val (.long (own_y 31 62 q1)), .second] [(.long q3), (.long (own_y 31 62 q1))])) _
    refine XS.lmul X0.here hx rfl (hb hby d5_17) rfl ?_
    show Steps p.tables e below (s₁.setTop (mkF m 18 #[.val (.long q1), .second, .val (.long q2), .second, .val (.long q3), .second, .val (.long (own_y 31 62 q1)), .second] [(.long ((own_y 31 62 q1) * q3))])) _
    refine XS.lstore X0.here hx rfl (hb hby d5_18) rfl (l' := #[.val (.long q1), .second, .val (.long q2), .second, .val (.long q3), .second, .val (.long ((own_y 31 62 q1) * q3)), .second]) rfl ?_
    exact kt
  refine own_go (B := s₁.setTop (mkF m 36 #[.val (.long q1), .second, .val (.long q2), .second, .val (.long q3), .second, .val (.long (own_y 27 54 ((own_y 31 62 q1) * q3))), .second] [])) (fun t kt => ?_) ?_
  · show Steps p.tables e below (s₁.setTop (mkF m 20 #[.val (.long q1), .second, .val (.long q2), .second, .val (.long q3), .second, .val (.long ((own_y 31 62 q1) * q3)), .second] [])) _
    refine XS.lload X0.here hx rfl (hb hby d5_20) rfl ?_
    show Steps p.tables e below (s₁.setTop (mkF m 22 #[.val (.long q1), .second, .val (.long q2), .second, .val (.long q3), .second, .val (.long ((own_y 31 62 q1) * q3)), .second] [(.long ((own_y 31 62 q1) * q3))])) _
    refine XS.lload X0.here hx rfl (hb hby d5_22) rfl ?_
    show Steps p.tables e below (s₁.setTop (mkF m 24 #[.val (.long q1), .second, .val (.long q2), .second, .val (.long q3), .second, .val (.long ((own_y 31 62 q1) * q3)), .second] [(.long ((own_y 31 62 q1) * q3)), (.long ((own_y 31 62 q1) * q3))])) _
    refine XS.bipush X0.here hx rfl (hb hby d5_24) ?_
    show Steps p.tables e below (s₁.setTop (mkF m 26 #[.val (.long q1), .second, .val (.long q2), .second, .val (.long q3), .second, .val (.long ((own_y 31 62 q1) * q3)), .second] [(.int (27 : Int32)), (.long ((own_y 31 62 q1) * q3)), (.long ((own_y 31 62 q1) * q3))])) _
    refine XS.lushr X0.here hx rfl (hb hby d5_26) rfl ?_
    show Steps p.tables e below (s₁.setTop (mkF m 27 #[.val (.long q1), .second, .val (.long q2), .second, .val (.long q3), .second, .val (.long ((own_y 31 62 q1) * q3)), .second] [(.long ((((own_y 31 62 q1) * q3).toUInt64 >>> ((27 : Int32) &&& 0x3f).toInt64.toUInt64).toInt64)), (.long ((own_y 31 62 q1) * q3))])) _
    refine XS.lxor X0.here hx rfl (hb hby d5_27) rfl ?_
    show Steps p.tables e below (s₁.setTop (mkF m 28 #[.val (.long q1), .second, .val (.long q2), .second, .val (.long q3), .second, .val (.long ((own_y 31 62 q1) * q3)), .second] [(.long (((own_y 31 62 q1) * q3) ^^^ ((((own_y 31 62 q1) * q3).toUInt64 >>> ((27 : Int32) &&& 0x3f).toInt64.toUInt64).toInt64)))])) _
    refine XS.lload X0.here hx rfl (hb hby d5_28) rfl ?_
    show Steps p.tables e below (s₁.setTop (mkF m 30 #[.val (.long q1), .second, .val (.long q2), .second, .val (.long q3), .second, .val (.long ((own_y 31 62 q1) * q3)), .second] [(.long ((own_y 31 62 q1) * q3)), (.long (((own_y 31 62 q1) * q3) ^^^ ((((own_y 31 62 q1) * q3).toUInt64 >>> ((27 : Int32) &&& 0x3f).toInt64.toUInt64).toInt64)))])) _
    refine XS.bipush X0.here hx rfl (hb hby d5_30) ?_
    show Steps p.tables e below (s₁.setTop (mkF m 32 #[.val (.long q1), .second, .val (.long q2), .second, .val (.long q3), .second, .val (.long ((own_y 31 62 q1) * q3)), .second] [(.int (54 : Int32)), (.long ((own_y 31 62 q1) * q3)), (.long (((own_y 31 62 q1) * q3) ^^^ ((((own_y 31 62 q1) * q3).toUInt64 >>> ((27 : Int32) &&& 0x3f).toInt64.toUInt64).toInt64)))])) _
    refine XS.lushr X0.here hx rfl (hb hby d5_32) rfl ?_
    show Steps p.tables e below (s₁.setTop (mkF m 33 #[.val (.long q1), .second, .val (.long q2), .second, .val (.long q3), .second, .val (.long ((own_y 31 62 q1) * q3)), .second] [(.long ((((own_y 31 62 q1) * q3).toUInt64 >>> ((54 : Int32) &&& 0x3f).toInt64.toUInt64).toInt64)), (.long (((own_y 31 62 q1) * q3) ^^^ ((((own_y 31 62 q1) * q3).toUInt64 >>> ((27 : Int32) &&& 0x3f).toInt64.toUInt64).toInt64)))])) _
    refine XS.lxor X0.here hx rfl (hb hby d5_33) rfl ?_
    show Steps p.tables e below (s₁.setTop (mkF m 34 #[.val (.long q1), .second, .val (.long q2), .second, .val (.long q3), .second, .val (.long ((own_y 31 62 q1) * q3)), .second] [(.long ((((own_y 31 62 q1) * q3) ^^^ ((((own_y 31 62 q1) * q3).toUInt64 >>> ((27 : Int32) &&& 0x3f).toInt64.toUInt64).toInt64)) ^^^ ((((own_y 31 62 q1) * q3).toUInt64 >>> ((54 : Int32) &&& 0x3f).toInt64.toUInt64).toInt64)))])) _
    refine XS.lstore X0.here hx rfl (hb hby d5_34) rfl (l' := #[.val (.long q1), .second, .val (.long q2), .second, .val (.long q3), .second, .val (.long ((((own_y 31 62 q1) * q3) ^^^ ((((own_y 31 62 q1) * q3).toUInt64 >>> ((27 : Int32) &&& 0x3f).toInt64.toUInt64).toInt64)) ^^^ ((((own_y 31 62 q1) * q3).toUInt64 >>> ((54 : Int32) &&& 0x3f).toInt64.toUInt64).toInt64))), .second]) rfl ?_
    exact kt
  refine own_go (B := s₁.setTop (mkF m 42 #[.val (.long q1), .second, .val (.long q2), .second, .val (.long q3), .second, .val (.long ((own_y 27 54 ((own_y 31 62 q1) * q3)) * q2)), .second] [])) (fun t kt => ?_) ?_
  · show Steps p.tables e below (s₁.setTop (mkF m 36 #[.val (.long q1), .second, .val (.long q2), .second, .val (.long q3), .second, .val (.long (own_y 27 54 ((own_y 31 62 q1) * q3))), .second] [])) _
    refine XS.lload X0.here hx rfl (hb hby d5_36) rfl ?_
    show Steps p.tables e below (s₁.setTop (mkF m 38 #[.val (.long q1), .second, .val (.long q2), .second, .val (.long q3), .second, .val (.long (own_y 27 54 ((own_y 31 62 q1) * q3))), .second] [(.long (own_y 27 54 ((own_y 31 62 q1) * q3)))])) _
    refine XS.lloadN X0.here hx rfl (hb hby d5_38) rfl ?_
    show Steps p.tables e below (s₁.setTop (mkF m 39 #[.val (.long q1), .second, .val (.long q2), .second, .val (.long q3), .second, .val (.long (own_y 27 54 ((own_y 31 62 q1) * q3))), .second] [(.long q2), (.long (own_y 27 54 ((own_y 31 62 q1) * q3)))])) _
    refine XS.lmul X0.here hx rfl (hb hby d5_39) rfl ?_
    show Steps p.tables e below (s₁.setTop (mkF m 40 #[.val (.long q1), .second, .val (.long q2), .second, .val (.long q3), .second, .val (.long (own_y 27 54 ((own_y 31 62 q1) * q3))), .second] [(.long ((own_y 27 54 ((own_y 31 62 q1) * q3)) * q2))])) _
    refine XS.lstore X0.here hx rfl (hb hby d5_40) rfl (l' := #[.val (.long q1), .second, .val (.long q2), .second, .val (.long q3), .second, .val (.long ((own_y 27 54 ((own_y 31 62 q1) * q3)) * q2)), .second]) rfl ?_
    exact kt
  refine own_go (B := s₁.setTop (mkF m 58 #[.val (.long q1), .second, .val (.long q2), .second, .val (.long q3), .second, .val (.long (own_y 30 60 ((own_y 27 54 ((own_y 31 62 q1) * q3)) * q2))), .second] [])) (fun t kt => ?_) ?_
  · show Steps p.tables e below (s₁.setTop (mkF m 42 #[.val (.long q1), .second, .val (.long q2), .second, .val (.long q3), .second, .val (.long ((own_y 27 54 ((own_y 31 62 q1) * q3)) * q2)), .second] [])) _
    refine XS.lload X0.here hx rfl (hb hby d5_42) rfl ?_
    show Steps p.tables e below (s₁.setTop (mkF m 44 #[.val (.long q1), .second, .val (.long q2), .second, .val (.long q3), .second, .val (.long ((own_y 27 54 ((own_y 31 62 q1) * q3)) * q2)), .second] [(.long ((own_y 27 54 ((own_y 31 62 q1) * q3)) * q2))])) _
    refine XS.lload X0.here hx rfl (hb hby d5_44) rfl ?_
    show Steps p.tables e below (s₁.setTop (mkF m 46 #[.val (.long q1), .second, .val (.long q2), .second, .val (.long q3), .second, .val (.long ((own_y 27 54 ((own_y 31 62 q1) * q3)) * q2)), .second] [(.long ((own_y 27 54 ((own_y 31 62 q1) * q3)) * q2)), (.long ((own_y 27 54 ((own_y 31 62 q1) * q3)) * q2))])) _
    refine XS.bipush X0.here hx rfl (hb hby d5_46) ?_
    show Steps p.tables e below (s₁.setTop (mkF m 48 #[.val (.long q1), .second, .val (.long q2), .second, .val (.long q3), .second, .val (.long ((own_y 27 54 ((own_y 31 62 q1) * q3)) * q2)), .second] [(.int (30 : Int32)), (.long ((own_y 27 54 ((own_y 31 62 q1) * q3)) * q2)), (.long ((own_y 27 54 ((own_y 31 62 q1) * q3)) * q2))])) _
    refine XS.lushr X0.here hx rfl (hb hby d5_48) rfl ?_
    show Steps p.tables e below (s₁.setTop (mkF m 49 #[.val (.long q1), .second, .val (.long q2), .second, .val (.long q3), .second, .val (.long ((own_y 27 54 ((own_y 31 62 q1) * q3)) * q2)), .second] [(.long ((((own_y 27 54 ((own_y 31 62 q1) * q3)) * q2).toUInt64 >>> ((30 : Int32) &&& 0x3f).toInt64.toUInt64).toInt64)), (.long ((own_y 27 54 ((own_y 31 62 q1) * q3)) * q2))])) _
    refine XS.lxor X0.here hx rfl (hb hby d5_49) rfl ?_
    show Steps p.tables e below (s₁.setTop (mkF m 50 #[.val (.long q1), .second, .val (.long q2), .second, .val (.long q3), .second, .val (.long ((own_y 27 54 ((own_y 31 62 q1) * q3)) * q2)), .second] [(.long (((own_y 27 54 ((own_y 31 62 q1) * q3)) * q2) ^^^ ((((own_y 27 54 ((own_y 31 62 q1) * q3)) * q2).toUInt64 >>> ((30 : Int32) &&& 0x3f).toInt64.toUInt64).toInt64)))])) _
    refine XS.lload X0.here hx rfl (hb hby d5_50) rfl ?_
    show Steps p.tables e below (s₁.setTop (mkF m 52 #[.val (.long q1), .second, .val (.long q2), .second, .val (.long q3), .second, .val (.long ((own_y 27 54 ((own_y 31 62 q1) * q3)) * q2)), .second] [(.long ((own_y 27 54 ((own_y 31 62 q1) * q3)) * q2)), (.long (((own_y 27 54 ((own_y 31 62 q1) * q3)) * q2) ^^^ ((((own_y 27 54 ((own_y 31 62 q1) * q3)) * q2).toUInt64 >>> ((30 : Int32) &&& 0x3f).toInt64.toUInt64).toInt64)))])) _
    refine XS.bipush X0.here hx rfl (hb hby d5_52) ?_
    show Steps p.tables e below (s₁.setTop (mkF m 54 #[.val (.long q1), .second, .val (.long q2), .second, .val (.long q3), .second, .val (.long ((own_y 27 54 ((own_y 31 62 q1) * q3)) * q2)), .second] [(.int (60 : Int32)), (.long ((own_y 27 54 ((own_y 31 62 q1) * q3)) * q2)), (.long (((own_y 27 54 ((own_y 31 62 q1) * q3)) * q2) ^^^ ((((own_y 27 54 ((own_y 31 62 q1) * q3)) * q2).toUInt64 >>> ((30 : Int32) &&& 0x3f).toInt64.toUInt64).toInt64)))])) _
    refine XS.lushr X0.here hx rfl (hb hby d5_54) rfl ?_
    show Steps p.tables e below (s₁.setTop (mkF m 55 #[.val (.long q1), .second, .val (.long q2), .second, .val (.long q3), .second, .val (.long ((own_y 27 54 ((own_y 31 62 q1) * q3)) * q2)), .second] [(.long ((((own_y 27 54 ((own_y 31 62 q1) * q3)) * q2).toUInt64 >>> ((60 : Int32) &&& 0x3f).toInt64.toUInt64).toInt64)), (.long (((own_y 27 54 ((own_y 31 62 q1) * q3)) * q2) ^^^ ((((own_y 27 54 ((own_y 31 62 q1) * q3)) * q2).toUInt64 >>> ((30 : Int32) &&& 0x3f).toInt64.toUInt64).toInt64)))])) _
    refine XS.lxor X0.here hx rfl (hb hby d5_55) rfl ?_
    show Steps p.tables e below (s₁.setTop (mkF m 56 #[.val (.long q1), .second, .val (.long q2), .second, .val (.long q3), .second, .val (.long ((own_y 27 54 ((own_y 31 62 q1) * q3)) * q2)), .second] [(.long ((((own_y 27 54 ((own_y 31 62 q1) * q3)) * q2) ^^^ ((((own_y 27 54 ((own_y 31 62 q1) * q3)) * q2).toUInt64 >>> ((30 : Int32) &&& 0x3f).toInt64.toUInt64).toInt64)) ^^^ ((((own_y 27 54 ((own_y 31 62 q1) * q3)) * q2).toUInt64 >>> ((60 : Int32) &&& 0x3f).toInt64.toUInt64).toInt64)))])) _
    refine XS.lstore X0.here hx rfl (hb hby d5_56) rfl (l' := #[.val (.long q1), .second, .val (.long q2), .second, .val (.long q3), .second, .val (.long ((((own_y 27 54 ((own_y 31 62 q1) * q3)) * q2) ^^^ ((((own_y 27 54 ((own_y 31 62 q1) * q3)) * q2).toUInt64 >>> ((30 : Int32) &&& 0x3f).toInt64.toUInt64).toInt64)) ^^^ ((((own_y 27 54 ((own_y 31 62 q1) * q3)) * q2).toUInt64 >>> ((60 : Int32) &&& 0x3f).toInt64.toUInt64).toInt64))), .second]) rfl ?_
    exact kt
  refine own_go (B := s₁.setTop (mkF m 60 #[.val (.long q1), .second, .val (.long q2), .second, .val (.long q3), .second, .val (.long (own_y 30 60 ((own_y 27 54 ((own_y 31 62 q1) * q3)) * q2))), .second] [(.long (own_un q1 q2 q3))])) (fun t kt => ?_) ?_
  · show Steps p.tables e below (s₁.setTop (mkF m 58 #[.val (.long q1), .second, .val (.long q2), .second, .val (.long q3), .second, .val (.long (own_y 30 60 ((own_y 27 54 ((own_y 31 62 q1) * q3)) * q2))), .second] [])) _
    refine XS.lload X0.here hx rfl (hb hby d5_58) rfl ?_
    exact kt
  obtain ⟨fs, hr, hrun, hended, hW, hsame⟩ := X0.leave (v := some (.long (own_un q1 q2 q3))) (fun h => by rw [Bd.returns] at h; cases h)
  refine ⟨_, _, ?_, hrun, hended, _, _, rfl, ?_, ⟨_, rfl⟩, hW, hsame.mono (by decide) (by decide)⟩
  · show Steps p.tables e below (s₁.setTop (mkF m 60 #[.val (.long q1), .second, .val (.long q2), .second, .val (.long q3), .second, .val (.long (own_y 30 60 ((own_y 27 54 ((own_y 31 62 q1) * q3)) * q2))), .second] [(.long (own_un q1 q2 q3))])) _
    exact retOut X0 hx Bd.returns rfl (Or.inr (Or.inl ⟨rfl, rfl, _, rfl⟩)) (hb hby d5_60) hr
  · show Q5 Z q1 q2 q3 h0 n0 _ s₁.heap _
    rw [e0]
    exact ⟨rfl, N0, rfl⟩
theorem ef_2 (m : MethodId) (x0 : Addr) (x1 : Int64) : entryFrame m #[(.ref x0), (.long x1)] 3 = mkF m 0 #[.val (.ref x0), .val (.long x1), .second] [] := by first | (simp [entryFrame, mkF, argsToLocals, Value.category]; done) | rfl
def Q2 (Z : State) (a1 : Addr) (q2 : Int64) (h0 : Heap) (n0 : Nat) (v : Option Value) (h : Heap) (L : List Loc) : Prop := v = none ∧ Fr n0 L ∧ Keep h0 h [a1] ∧ Exa Z h a1 "com/example/marshalyard/marshalyard/generation/SplitMix64" ∧ Fld Z h a1 "com/example/marshalyard/marshalyard/generation/SplitMix64" "state" "J" (.long q2)
set_option maxRecDepth 65536 in
set_option maxHeartbeats 40000000 in
theorem rm2 (l : Launch) (Z : State) (a0 : Array Value) (hw : ∀ d ∈ tables_1, d.before a0 Z = true) (ws : List Jvm.Cond) (a1 : Addr) (q2 : Int64)  (h0 : Heap) (n0 : Nat) (Z0 : n0 ≤ h0.size) (F : Fld Z h0 a1 "com/example/marshalyard/marshalyard/generation/SplitMix64" "state" "J" (.long (0 : Int64))) (E : Exa Z h0 a1 "com/example/marshalyard/marshalyard/generation/SplitMix64") (g : n0 ≤ a1) :
    MetFree l (⟨"com/example/marshalyard/marshalyard/generation/SplitMix64", "<init>", "(J)V"⟩ : MethodName) (head1 (Jvm.Cond.code (⟨"com/example/marshalyard/marshalyard/generation/SplitMix64", "<init>", "(J)V"⟩ : MethodName) prog_31_method_1_code 3 none :: ws) ({ frames := 1, cells := 0, slots := 0, locals := 12 } : Room)) (fun a U => a = #[(.ref a1), (.long q2)] ∧ Z.Warmed39 U.vm ∧ U.heap = h0) (fun _ _ _ _ _ => True) (fun _ U o U' => ∃ v L, o = .returned v ∧ Q2 Z a1 q2 h0 n0 v U'.heap L ∧ FrameEnd U o U' L ({ frames := 1, cells := 0, slots := 0, locals := 12 } : Room).cells ({ frames := 1, cells := 0, slots := 0, locals := 12 } : Room).slots) := by
  refine MetFree.of_bodySF (plainFor_of_name pn_1) hisR ?_
  intro p e s m args below meth c s₁ Bd hml0 hP hK
  obtain ⟨rfl, hZ, hh⟩ := hP
  have hx := Bd.exec
  have hby := Bd.bytes
  have hml : c.maxLocals = 3 := hml0
  have hown : s.vm.findClass "com/example/marshalyard/marshalyard/generation/SplitMix64" = some m.cls := findClass_of_methodNamed Bd.named
  have hnm := (name_of_methodNamed Bd.named Bd.method).1
  have X0 : Stand p l e ({ frames := 1, cells := 0, slots := 0, locals := 12 } : Room) s m #[(.ref a1), (.long q2)] below meth c s₁ [] 0 0 := Stand.of_body Bd
  have e0 : s₁.heap = h0 := by rw [← hh, Bd.state]; rfl
  have N0 := Fr.nil n0
  refine own_go (B := s₁.setTop (mkF m 0 #[.val (.ref a1), .val (.long q2), .second] [])) (fun t kt => castTop (ef_2 m a1 q2) kt) ?_
  refine own_go (B := s₁.setTop (mkF m 1 #[.val (.ref a1), .val (.long q2), .second] [(.ref a1)])) (fun t kt => ?_) ?_
  · show Steps p.tables e below (s₁.setTop (mkF m 0 #[.val (.ref a1), .val (.long q2), .second] [])) _
    refine XS.aloadN X0.here hx rfl (hb hby d2_0) rfl rfl ?_
    exact kt
  obtain ⟨T1, X1, e1, st1⟩ := initO X0 hx hZ hown (hw _ (List.mem_of_getElem? (i := 14) rfl)) (hw _ (List.mem_of_getElem? (i := 15) rfl)) (hw _ (List.mem_of_getElem? (i := 16) rfl)) e0 (g := (mkF m 1 #[.val (.ref a1), .val (.long q2), .second] [(.ref a1)])) rfl (by rw [hml]; rfl) rfl (hb hby d2_1) (by decide) (W := 0) (by show 2 * 0 + _ ≤ _; exact Nat.le_of_eq rfl) (by decide)
  refine own_go (B := T1.setTop (mkF m 4 #[.val (.ref a1), .val (.long q2), .second] [])) (fun t kt => st1 t kt) ?_
  refine own_go (B := T1.setTop (mkF m 6 #[.val (.ref a1), .val (.long q2), .second] [(.long q2), (.ref a1)])) (fun t kt => ?_) ?_
  · show Steps p.tables e below (T1.setTop (mkF m 4 #[.val (.ref a1), .val (.long q2), .second] [])) _
    refine XS.aloadN X1.here hx rfl (hb hby d2_4) rfl rfl ?_
    show Steps p.tables e below (T1.setTop (mkF m 5 #[.val (.ref a1), .val (.long q2), .second] [(.ref a1)])) _
    refine XS.lloadN X1.here hx rfl (hb hby d2_5) rfl ?_
    exact kt
  obtain ⟨T2, h2, X2, e2, W2, st2⟩ := putF X1 hx hZ hown (host := "") (Or.inl (hw _ (List.mem_of_getElem? (i := 17) rfl))) Via.refl e1 F E (Or.inl (hw _ (List.mem_of_getElem? (i := 18) rfl))) (hw _ (List.mem_of_getElem? (i := 9) rfl)) (ty := .long) (by decide) rfl rfl (g := (mkF m 6 #[.val (.ref a1), .val (.long q2), .second] [(.long q2), (.ref a1)])) rfl rfl (hb hby d2_6)
  have N2 := Fr.snoc X2 N0 g
  refine own_go (B := T2.setTop (mkF m 9 #[.val (.ref a1), .val (.long q2), .second] [])) (fun t kt => st2 t kt) ?_
  have P : Keep h0 h2 [a1] := (Keep.refl _ _).wr W2 (Or.inl (List.mem_of_getElem? (i := 0) rfl))
  obtain ⟨fs, hr, hrun, hended, hW, hsame⟩ := X2.leave (v := none) (fun _ => rfl)
  refine ⟨_, _, ?_, hrun, hended, _, _, rfl, ?_, ⟨_, rfl⟩, hW, hsame.mono (by decide) (by decide)⟩
  · show Steps p.tables e below (T2.setTop (mkF m 9 #[.val (.ref a1), .val (.long q2), .second] [])) _
    exact X2.returnOut hx Bd.returns (hb hby d2_9) hr
  · show Q2 Z a1 q2 h0 n0 _ T2.heap _
    rw [e2]
    exact ⟨rfl, N2, P, E.wr W2, F.same W2⟩
theorem ef_4 (m : MethodId) (x0 : Addr) : entryFrame m #[(.ref x0)] 3 = mkF m 0 #[.val (.ref x0), .unset, .unset] [] := by first | (simp [entryFrame, mkF, argsToLocals, Value.category]; done) | rfl
def Q4 (Z : State) (a1 : Addr) (q : Int64) (h0 : Heap) (n0 : Nat) (v : Option Value) (h : Heap) (L : List Loc) : Prop := v = some (.long (own_mix (q + (-7046029254386353131 : Int64)))) ∧ Fr n0 L ∧ Keep h0 h [a1] ∧ Exa Z h a1 "com/example/marshalyard/marshalyard/generation/SplitMix64" ∧ Fld Z h a1 "com/example/marshalyard/marshalyard/generation/SplitMix64" "state" "J" (.long (q + (-7046029254386353131 : Int64)))
set_option maxRecDepth 65536 in
set_option maxHeartbeats 40000000 in
theorem rm4 (l : Launch) (Z : State) (a0 : Array Value) (hw : ∀ d ∈ tables_1, d.before a0 Z = true) (ws : List Jvm.Cond) (a1 : Addr) (q : Int64) (h0 : Heap) (n0 : Nat) (Z0 : n0 ≤ h0.size) (F : Fld Z h0 a1 "com/example/marshalyard/marshalyard/generation/SplitMix64" "state" "J" (.long q)) (E : Exa Z h0 a1 "com/example/marshalyard/marshalyard/generation/SplitMix64") (g : n0 ≤ a1) :
    MetFree l (⟨"com/example/marshalyard/marshalyard/generation/SplitMix64", "next", "()J"⟩ : MethodName) (head1 (Jvm.Cond.code (⟨"com/example/marshalyard/marshalyard/generation/SplitMix64", "next", "()J"⟩ : MethodName) prog_31_method_2_code 3 (some .long) :: ws) ({ frames := 0, cells := 0, slots := 0, locals := 0 } : Room)) (fun a U => a = #[(.ref a1)] ∧ Z.Warmed39 U.vm ∧ U.heap = h0) (fun _ _ _ _ _ => True) (fun _ U o U' => ∃ v L, o = .returned v ∧ Q4 Z a1 q h0 n0 v U'.heap L ∧ FrameEnd U o U' L ({ frames := 0, cells := 0, slots := 0, locals := 0 } : Room).cells ({ frames := 0, cells := 0, slots := 0, locals := 0 } : Room).slots) := by
  refine MetFree.of_bodySF (plainFor_of_name pn_1) hisR ?_
  intro p e s m args below meth c s₁ Bd hml0 hP hK
  obtain ⟨rfl, hZ, hh⟩ := hP
  have hx := Bd.exec
  have hby := Bd.bytes
  have hml : c.maxLocals = 3 := hml0
  have hown : s.vm.findClass "com/example/marshalyard/marshalyard/generation/SplitMix64" = some m.cls := findClass_of_methodNamed Bd.named
  have hnm := (name_of_methodNamed Bd.named Bd.method).1
  have X0 : Stand p l e ({ frames := 0, cells := 0, slots := 0, locals := 0 } : Room) s m #[(.ref a1)] below meth c s₁ [] 0 0 := Stand.of_body Bd
  have e0 : s₁.heap = h0 := by rw [← hh, Bd.state]; rfl
  have N0 := Fr.nil n0
  refine own_go (B := s₁.setTop (mkF m 0 #[.val (.ref a1), .unset, .unset] [])) (fun t kt => castTop (ef_4 m a1) kt) ?_
  refine own_go (B := s₁.setTop (mkF m 2 #[.val (.ref a1), .unset, .unset] [(.ref a1), (.ref a1)])) (fun t kt => ?_) ?_
  · show Steps p.tables e below (s₁.setTop (mkF m 0 #[.val (.ref a1), .unset, .unset] [])) _
    refine XS.aloadN X0.here hx rfl (hb hby d4_0) rfl rfl ?_
    show Steps p.tables e below (s₁.setTop (mkF m 1 #[.val (.ref a1), .unset, .unset] [(.ref a1)])) _
    refine XS.dup X0.here hx rfl (hb hby d4_1) rfl rfl ?_
    exact kt
  obtain ⟨T3, X3, e3, st3⟩ := getF X0 hx hZ hown (host := "") (Or.inl (hw _ (List.mem_of_getElem? (i := 17) rfl))) Via.refl e0 F (g := (mkF m 2 #[.val (.ref a1), .unset, .unset] [(.ref a1), (.ref a1)])) rfl rfl (hb hby d4_2)
  refine own_go (B := T3.setTop (mkF m 5 #[.val (.ref a1), .unset, .unset] [(.long q), (.ref a1)])) (fun t kt => st3 t kt) ?_
  refine own_go (B := T3.setTop (mkF m 9 #[.val (.ref a1), .unset, .unset] [(.long (q + (-7046029254386353131 : Int64))), (.ref a1)])) (fun t kt => ?_) ?_
  · show Steps p.tables e below (T3.setTop (mkF m 5 #[.val (.ref a1), .unset, .unset] [(.long q), (.ref a1)])) _
    refine X3.ldc2Long hx hown (mvT hZ (hw _ (List.mem_of_getElem? (i := 24) rfl))) (g := (mkF m 5 #[.val (.ref a1), .unset, .unset] [(.long q), (.ref a1)])) rfl (hb hby d4_5) _ ?_
    show Steps p.tables e below (T3.setTop (mkF m 8 #[.val (.ref a1), .unset, .unset] [(.long (-7046029254386353131 : Int64)), (.long q), (.ref a1)])) _
    refine XS.ladd X3.here hx rfl (hb hby d4_8) rfl ?_
    exact kt
  obtain ⟨T4, h4, X4, e4, W4, st4⟩ := putF X3 hx hZ hown (host := "") (Or.inl (hw _ (List.mem_of_getElem? (i := 17) rfl))) Via.refl e3 F E (Or.inl (hw _ (List.mem_of_getElem? (i := 18) rfl))) (hw _ (List.mem_of_getElem? (i := 9) rfl)) (ty := .long) (by decide) rfl rfl (g := (mkF m 9 #[.val (.ref a1), .unset, .unset] [(.long (q + (-7046029254386353131 : Int64))), (.ref a1)])) rfl rfl (hb hby d4_9)
  have N4 := Fr.snoc X4 N0 g
  refine own_go (B := T4.setTop (mkF m 12 #[.val (.ref a1), .unset, .unset] [])) (fun t kt => st4 t kt) ?_
  have P : Keep h0 h4 [a1] := (Keep.refl _ _).wr W4 (Or.inl (List.mem_of_getElem? (i := 0) rfl))
  have F' : Fld Z h4 a1 "com/example/marshalyard/marshalyard/generation/SplitMix64" "state" "J" (.long (q + (-7046029254386353131 : Int64))) := F.same W4
  refine own_go (B := T4.setTop (mkF m 13 #[.val (.ref a1), .unset, .unset] [(.ref a1)])) (fun t kt => ?_) ?_
  · show Steps p.tables e below (T4.setTop (mkF m 12 #[.val (.ref a1), .unset, .unset] [])) _
    refine XS.aloadN X4.here hx rfl (hb hby d4_12) rfl rfl ?_
    exact kt
  obtain ⟨T5, X5, e5, st5⟩ := getF X4 hx hZ hown (host := "") (Or.inl (hw _ (List.mem_of_getElem? (i := 17) rfl))) Via.refl e4 F' (g := (mkF m 13 #[.val (.ref a1), .unset, .unset] [(.ref a1)])) rfl rfl (hb hby d4_13)
  refine own_go (B := T5.setTop (mkF m 16 #[.val (.ref a1), .unset, .unset] [(.long (q + (-7046029254386353131 : Int64)))])) (fun t kt => st5 t kt) ?_
  refine own_go (B := T5.setTop (mkF m 17 #[.val (.ref a1), .unset, .unset] [(.ref a1), (.long (q + (-7046029254386353131 : Int64)))])) (fun t kt => ?_) ?_
  · show Steps p.tables e below (T5.setTop (mkF m 16 #[.val (.ref a1), .unset, .unset] [(.long (q + (-7046029254386353131 : Int64)))])) _
    refine XS.aloadN X5.here hx rfl (hb hby d4_16) rfl rfl ?_
    exact kt
  obtain ⟨T6, X6, e6, st6⟩ := getF X5 hx hZ hown (host := "") (Or.inl (hw _ (List.mem_of_getElem? (i := 17) rfl))) Via.refl e5 F' (g := (mkF m 17 #[.val (.ref a1), .unset, .unset] [(.ref a1), (.long (q + (-7046029254386353131 : Int64)))])) rfl rfl (hb hby d4_17)
  refine own_go (B := T6.setTop (mkF m 20 #[.val (.ref a1), .unset, .unset] [(.long (q + (-7046029254386353131 : Int64))), (.long (q + (-7046029254386353131 : Int64)))])) (fun t kt => st6 t kt) ?_
  refine own_go (B := T6.setTop (mkF m 24 #[.val (.ref a1), .unset, .unset] [(.long (own_x 30 (q + (-7046029254386353131 : Int64))))])) (fun t kt => ?_) ?_
  · show Steps p.tables e below (T6.setTop (mkF m 20 #[.val (.ref a1), .unset, .unset] [(.long (q + (-7046029254386353131 : Int64))), (.long (q + (-7046029254386353131 : Int64)))])) _
    refine XS.bipush X6.here hx rfl (hb hby d4_20) ?_
    show Steps p.tables e below (T6.setTop (mkF m 22 #[.val (.ref a1), .unset, .unset] [(.int (30 : Int32)), (.long (q + (-7046029254386353131 : Int64))), (.long (q + (-7046029254386353131 : Int64)))])) _
    refine XS.lushr X6.here hx rfl (hb hby d4_22) rfl ?_
    show Steps p.tables e below (T6.setTop (mkF m 23 #[.val (.ref a1), .unset, .unset] [(.long (((q + (-7046029254386353131 : Int64)).toUInt64 >>> ((30 : Int32) &&& 0x3f).toInt64.toUInt64).toInt64)), (.long (q + (-7046029254386353131 : Int64)))])) _
    refine XS.lxor X6.here hx rfl (hb hby d4_23) rfl ?_
    exact kt
  refine own_go (B := T6.setTop (mkF m 29 #[.val (.ref a1), .val (.long ((own_x 30 (q + (-7046029254386353131 : Int64))) * (-4658895280553007687 : Int64))), .second] [])) (fun t kt => ?_) ?_
  · show Steps p.tables e below (T6.setTop (mkF m 24 #[.val (.ref a1), .unset, .unset] [(.long (own_x 30 (q + (-7046029254386353131 : Int64))))])) _
    refine X6.ldc2Long hx hown (mvT hZ (hw _ (List.mem_of_getElem? (i := 25) rfl))) (g := (mkF m 24 #[.val (.ref a1), .unset, .unset] [(.long (own_x 30 (q + (-7046029254386353131 : Int64))))])) rfl (hb hby d4_24) _ ?_
    show Steps p.tables e below (T6.setTop (mkF m 27 #[.val (.ref a1), .unset, .unset] [(.long (-4658895280553007687 : Int64)), (.long (own_x 30 (q + (-7046029254386353131 : Int64))))])) _
    refine XS.lmul X6.here hx rfl (hb hby d4_27) rfl ?_
    show Steps p.tables e below (T6.setTop (mkF m 28 #[.val (.ref a1), .unset, .unset] [(.long ((own_x 30 (q + (-7046029254386353131 : Int64))) * (-4658895280553007687 : Int64)))])) _
    refine XS.lstoreN X6.here hx rfl (hb hby d4_28) rfl (l' := #[.val (.ref a1), .val (.long ((own_x 30 (q + (-7046029254386353131 : Int64))) * (-4658895280553007687 : Int64))), .second]) rfl ?_
    exact kt
  refine own_go (B := T6.setTop (mkF m 35 #[.val (.ref a1), .val (.long ((own_x 30 (q + (-7046029254386353131 : Int64))) * (-4658895280553007687 : Int64))), .second] [(.long (own_x 27 ((own_x 30 (q + (-7046029254386353131 : Int64))) * (-4658895280553007687 : Int64))))])) (fun t kt => ?_) ?_
  · show Steps p.tables e below (T6.setTop (mkF m 29 #[.val (.ref a1), .val (.long ((own_x 30 (q + (-7046029254386353131 : Int64))) * (-4658895280553007687 : Int64))), .second] [])) _
    refine XS.lloadN X6.here hx rfl (hb hby d4_29) rfl ?_
    show Steps p.tables e below (T6.setTop (mkF m 30 #[.val (.ref a1), .val (.long ((own_x 30 (q + (-7046029254386353131 : Int64))) * (-4658895280553007687 : Int64))), .second] [(.long ((own_x 30 (q + (-7046029254386353131 : Int64))) * (-4658895280553007687 : Int64)))])) _
    refine XS.lloadN X6.here hx rfl (hb hby d4_30) rfl ?_
    show Steps p.tables e below (T6.setTop (mkF m 31 #[.val (.ref a1), .val (.long ((own_x 30 (q + (-7046029254386353131 : Int64))) * (-4658895280553007687 : Int64))), .second] [(.long ((own_x 30 (q + (-7046029254386353131 : Int64))) * (-4658895280553007687 : Int64))), (.long ((own_x 30 (q + (-7046029254386353131 : Int64))) * (-4658895280553007687 : Int64)))])) _
    refine XS.bipush X6.here hx rfl (hb hby d4_31) ?_
    show Steps p.tables e below (T6.setTop (mkF m 33 #[.val (.ref a1), .val (.long ((own_x 30 (q + (-7046029254386353131 : Int64))) * (-4658895280553007687 : Int64))), .second] [(.int (27 : Int32)), (.long ((own_x 30 (q + (-7046029254386353131 : Int64))) * (-4658895280553007687 : Int64))), (.long ((own_x 30 (q + (-7046029254386353131 : Int64))) * (-4658895280553007687 : Int64)))])) _
    refine XS.lushr X6.here hx rfl (hb hby d4_33) rfl ?_
    show Steps p.tables e below (T6.setTop (mkF m 34 #[.val (.ref a1), .val (.long ((own_x 30 (q + (-7046029254386353131 : Int64))) * (-4658895280553007687 : Int64))), .second] [(.long ((((own_x 30 (q + (-7046029254386353131 : Int64))) * (-4658895280553007687 : Int64)).toUInt64 >>> ((27 : Int32) &&& 0x3f).toInt64.toUInt64).toInt64)), (.long ((own_x 30 (q + (-7046029254386353131 : Int64))) * (-4658895280553007687 : Int64)))])) _
    refine XS.lxor X6.here hx rfl (hb hby d4_34) rfl ?_
    exact kt
  refine own_go (B := T6.setTop (mkF m 40 #[.val (.ref a1), .val (.long ((own_x 27 ((own_x 30 (q + (-7046029254386353131 : Int64))) * (-4658895280553007687 : Int64))) * (-7723592293110705685 : Int64))), .second] [])) (fun t kt => ?_) ?_
  · show Steps p.tables e below (T6.setTop (mkF m 35 #[.val (.ref a1), .val (.long ((own_x 30 (q + (-7046029254386353131 : Int64))) * (-4658895280553007687 : Int64))), .second] [(.long (own_x 27 ((own_x 30 (q + (-7046029254386353131 : Int64))) * (-4658895280553007687 : Int64))))])) _
    refine X6.ldc2Long hx hown (mvT hZ (hw _ (List.mem_of_getElem? (i := 26) rfl))) (g := (mkF m 35 #[.val (.ref a1), .val (.long ((own_x 30 (q + (-7046029254386353131 : Int64))) * (-4658895280553007687 : Int64))), .second] [(.long (own_x 27 ((own_x 30 (q + (-7046029254386353131 : Int64))) * (-4658895280553007687 : Int64))))])) rfl (hb hby d4_35) _ ?_
    show Steps p.tables e below (T6.setTop (mkF m 38 #[.val (.ref a1), .val (.long ((own_x 30 (q + (-7046029254386353131 : Int64))) * (-4658895280553007687 : Int64))), .second] [(.long (-7723592293110705685 : Int64)), (.long (own_x 27 ((own_x 30 (q + (-7046029254386353131 : Int64))) * (-4658895280553007687 : Int64))))])) _
    refine XS.lmul X6.here hx rfl (hb hby d4_38) rfl ?_
    show Steps p.tables e below (T6.setTop (mkF m 39 #[.val (.ref a1), .val (.long ((own_x 30 (q + (-7046029254386353131 : Int64))) * (-4658895280553007687 : Int64))), .second] [(.long ((own_x 27 ((own_x 30 (q + (-7046029254386353131 : Int64))) * (-4658895280553007687 : Int64))) * (-7723592293110705685 : Int64)))])) _
    refine XS.lstoreN X6.here hx rfl (hb hby d4_39) rfl (l' := #[.val (.ref a1), .val (.long ((own_x 27 ((own_x 30 (q + (-7046029254386353131 : Int64))) * (-4658895280553007687 : Int64))) * (-7723592293110705685 : Int64))), .second]) rfl ?_
    exact kt
  refine own_go (B := T6.setTop (mkF m 46 #[.val (.ref a1), .val (.long ((own_x 27 ((own_x 30 (q + (-7046029254386353131 : Int64))) * (-4658895280553007687 : Int64))) * (-7723592293110705685 : Int64))), .second] [(.long (own_mix (q + (-7046029254386353131 : Int64))))])) (fun t kt => ?_) ?_
  · show Steps p.tables e below (T6.setTop (mkF m 40 #[.val (.ref a1), .val (.long ((own_x 27 ((own_x 30 (q + (-7046029254386353131 : Int64))) * (-4658895280553007687 : Int64))) * (-7723592293110705685 : Int64))), .second] [])) _
    refine XS.lloadN X6.here hx rfl (hb hby d4_40) rfl ?_
    show Steps p.tables e below (T6.setTop (mkF m 41 #[.val (.ref a1), .val (.long ((own_x 27 ((own_x 30 (q + (-7046029254386353131 : Int64))) * (-4658895280553007687 : Int64))) * (-7723592293110705685 : Int64))), .second] [(.long ((own_x 27 ((own_x 30 (q + (-7046029254386353131 : Int64))) * (-4658895280553007687 : Int64))) * (-7723592293110705685 : Int64)))])) _
    refine XS.lloadN X6.here hx rfl (hb hby d4_41) rfl ?_
    show Steps p.tables e below (T6.setTop (mkF m 42 #[.val (.ref a1), .val (.long ((own_x 27 ((own_x 30 (q + (-7046029254386353131 : Int64))) * (-4658895280553007687 : Int64))) * (-7723592293110705685 : Int64))), .second] [(.long ((own_x 27 ((own_x 30 (q + (-7046029254386353131 : Int64))) * (-4658895280553007687 : Int64))) * (-7723592293110705685 : Int64))), (.long ((own_x 27 ((own_x 30 (q + (-7046029254386353131 : Int64))) * (-4658895280553007687 : Int64))) * (-7723592293110705685 : Int64)))])) _
    refine XS.bipush X6.here hx rfl (hb hby d4_42) ?_
    show Steps p.tables e below (T6.setTop (mkF m 44 #[.val (.ref a1), .val (.long ((own_x 27 ((own_x 30 (q + (-7046029254386353131 : Int64))) * (-4658895280553007687 : Int64))) * (-7723592293110705685 : Int64))), .second] [(.int (31 : Int32)), (.long ((own_x 27 ((own_x 30 (q + (-7046029254386353131 : Int64))) * (-4658895280553007687 : Int64))) * (-7723592293110705685 : Int64))), (.long ((own_x 27 ((own_x 30 (q + (-7046029254386353131 : Int64))) * (-4658895280553007687 : Int64))) * (-7723592293110705685 : Int64)))])) _
    refine XS.lushr X6.here hx rfl (hb hby d4_44) rfl ?_
    show Steps p.tables e below (T6.setTop (mkF m 45 #[.val (.ref a1), .val (.long ((own_x 27 ((own_x 30 (q + (-7046029254386353131 : Int64))) * (-4658895280553007687 : Int64))) * (-7723592293110705685 : Int64))), .second] [(.long ((((own_x 27 ((own_x 30 (q + (-7046029254386353131 : Int64))) * (-4658895280553007687 : Int64))) * (-7723592293110705685 : Int64)).toUInt64 >>> ((31 : Int32) &&& 0x3f).toInt64.toUInt64).toInt64)), (.long ((own_x 27 ((own_x 30 (q + (-7046029254386353131 : Int64))) * (-4658895280553007687 : Int64))) * (-7723592293110705685 : Int64)))])) _
    refine XS.lxor X6.here hx rfl (hb hby d4_45) rfl ?_
    exact kt
  obtain ⟨fs, hr, hrun, hended, hW, hsame⟩ := X6.leave (v := some (.long (own_mix (q + (-7046029254386353131 : Int64))))) (fun h => by rw [Bd.returns] at h; cases h)
  refine ⟨_, _, ?_, hrun, hended, _, _, rfl, ?_, ⟨_, rfl⟩, hW, hsame.mono (by decide) (by decide)⟩
  · show Steps p.tables e below (T6.setTop (mkF m 46 #[.val (.ref a1), .val (.long ((own_x 27 ((own_x 30 (q + (-7046029254386353131 : Int64))) * (-4658895280553007687 : Int64))) * (-7723592293110705685 : Int64))), .second] [(.long (own_mix (q + (-7046029254386353131 : Int64))))])) _
    exact retOut X6 hx Bd.returns rfl (Or.inr (Or.inl ⟨rfl, rfl, _, rfl⟩)) (hb hby d4_46) hr
  · show Q4 Z a1 q h0 n0 _ T6.heap _
    rw [e6]
    exact ⟨rfl, N4, P, E.wr W4, F'⟩
theorem ef_0 (m : MethodId) (x0 : Int64) : entryFrame m #[(.long x0)] maxLocals = mkF m 0 #[.val (.long x0), .second, .unset, .unset, .unset, .unset, .unset, .unset, .unset, .unset, .unset, .unset, .unset, .unset, .unset, .unset, .unset, .unset, .unset] [] := by first | (simp [entryFrame, mkF, argsToLocals, Value.category, maxLocals]; done) | rfl
def Q0 (Z : State) (q1 : Int64) (h0 : Heap) (n0 : Nat) (v : Option Value) (h : Heap) (L : List Loc) : Prop := v = some (.int (1 : Int32)) ∧ Fr n0 L
set_option maxRecDepth 65536 in
set_option maxHeartbeats 40000000 in
theorem rm0 (l : Launch) (Z : State) (a0 : Array Value) (hw : ∀ d ∈ tables_1, d.before a0 Z = true) (ws : List Jvm.Cond) (q1 : Int64)  (h0 : Heap) (n0 : Nat) (Z0 : n0 ≤ h0.size)  :
    MetFree l x (head1 (Jvm.Cond.code x code maxLocals ret :: ws) room_1) (fun a U => a = #[(.long q1)] ∧ Z.Warmed39 U.vm ∧ U.heap = h0) (fun _ _ _ _ _ => True) (fun _ U o U' => ∃ v L, o = .returned v ∧ Q0 Z q1 h0 n0 v U'.heap L ∧ FrameEnd U o U' L room_1.cells room_1.slots) := by
  refine MetFree.of_bodySF (plainFor_of_name pn_0) hisR ?_
  intro p e s m args below meth c s₁ Bd hml0 hP hK
  obtain ⟨rfl, hZ, hh⟩ := hP
  have hx := Bd.exec
  have hby := Bd.bytes
  have hml : c.maxLocals = 19 := hml0
  have hown : s.vm.findClass "com/example/marshalyard/marshalyard/generation/SplitMix64NextPinLaw" = some m.cls := findClass_of_methodNamed Bd.named
  have hnm := (name_of_methodNamed Bd.named Bd.method).1
  have X0 : Stand p l e room_1 s m #[(.long q1)] below meth c s₁ [] 0 0 := Stand.of_body Bd
  have e0 : s₁.heap = h0 := by rw [← hh, Bd.state]; rfl
  have N0 := Fr.nil n0
  refine own_go (B := s₁.setTop (mkF m 0 #[.val (.long q1), .second, .unset, .unset, .unset, .unset, .unset, .unset, .unset, .unset, .unset, .unset, .unset, .unset, .unset, .unset, .unset, .unset, .unset] [])) (fun t kt => castTop (ef_0 m q1) kt) ?_
  refine own_go (B := s₁.setTop (mkF m 16 #[.val (.long q1), .second, .val (.long (-7046029254386353131 : Int64)), .second, .val (.long (-4658895280553007687 : Int64)), .second, .val (.long (-7723592293110705685 : Int64)), .second, .unset, .unset, .unset, .unset, .unset, .unset, .unset, .unset, .unset, .unset, .unset] [(.long (-4658895280553007687 : Int64))])) (fun t kt => ?_) ?_
  · show Steps p.tables e below (s₁.setTop (mkF m 0 #[.val (.long q1), .second, .unset, .unset, .unset, .unset, .unset, .unset, .unset, .unset, .unset, .unset, .unset, .unset, .unset, .unset, .unset, .unset, .unset] [])) _
    refine X0.ldc2Long hx hown (mvT hZ (hw _ (List.mem_of_getElem? (i := 0) rfl))) (g := (mkF m 0 #[.val (.long q1), .second, .unset, .unset, .unset, .unset, .unset, .unset, .unset, .unset, .unset, .unset, .unset, .unset, .unset, .unset, .unset, .unset, .unset] [])) rfl (hb hby at_0) _ ?_
    show Steps p.tables e below (s₁.setTop (mkF m 3 #[.val (.long q1), .second, .unset, .unset, .unset, .unset, .unset, .unset, .unset, .unset, .unset, .unset, .unset, .unset, .unset, .unset, .unset, .unset, .unset] [(.long (-7046029254386353131 : Int64))])) _
    refine XS.lstoreN X0.here hx rfl (hb hby at_3) rfl (l' := #[.val (.long q1), .second, .val (.long (-7046029254386353131 : Int64)), .second, .unset, .unset, .unset, .unset, .unset, .unset, .unset, .unset, .unset, .unset, .unset, .unset, .unset, .unset, .unset]) rfl ?_
    show Steps p.tables e below (s₁.setTop (mkF m 4 #[.val (.long q1), .second, .val (.long (-7046029254386353131 : Int64)), .second, .unset, .unset, .unset, .unset, .unset, .unset, .unset, .unset, .unset, .unset, .unset, .unset, .unset, .unset, .unset] [])) _
    refine X0.ldc2Long hx hown (mvT hZ (hw _ (List.mem_of_getElem? (i := 1) rfl))) (g := (mkF m 4 #[.val (.long q1), .second, .val (.long (-7046029254386353131 : Int64)), .second, .unset, .unset, .unset, .unset, .unset, .unset, .unset, .unset, .unset, .unset, .unset, .unset, .unset, .unset, .unset] [])) rfl (hb hby at_4) _ ?_
    show Steps p.tables e below (s₁.setTop (mkF m 7 #[.val (.long q1), .second, .val (.long (-7046029254386353131 : Int64)), .second, .unset, .unset, .unset, .unset, .unset, .unset, .unset, .unset, .unset, .unset, .unset, .unset, .unset, .unset, .unset] [(.long (-4658895280553007687 : Int64))])) _
    refine XS.lstore X0.here hx rfl (hb hby at_7) rfl (l' := #[.val (.long q1), .second, .val (.long (-7046029254386353131 : Int64)), .second, .val (.long (-4658895280553007687 : Int64)), .second, .unset, .unset, .unset, .unset, .unset, .unset, .unset, .unset, .unset, .unset, .unset, .unset, .unset]) rfl ?_
    show Steps p.tables e below (s₁.setTop (mkF m 9 #[.val (.long q1), .second, .val (.long (-7046029254386353131 : Int64)), .second, .val (.long (-4658895280553007687 : Int64)), .second, .unset, .unset, .unset, .unset, .unset, .unset, .unset, .unset, .unset, .unset, .unset, .unset, .unset] [])) _
    refine X0.ldc2Long hx hown (mvT hZ (hw _ (List.mem_of_getElem? (i := 2) rfl))) (g := (mkF m 9 #[.val (.long q1), .second, .val (.long (-7046029254386353131 : Int64)), .second, .val (.long (-4658895280553007687 : Int64)), .second, .unset, .unset, .unset, .unset, .unset, .unset, .unset, .unset, .unset, .unset, .unset, .unset, .unset] [])) rfl (hb hby at_9) _ ?_
    show Steps p.tables e below (s₁.setTop (mkF m 12 #[.val (.long q1), .second, .val (.long (-7046029254386353131 : Int64)), .second, .val (.long (-4658895280553007687 : Int64)), .second, .unset, .unset, .unset, .unset, .unset, .unset, .unset, .unset, .unset, .unset, .unset, .unset, .unset] [(.long (-7723592293110705685 : Int64))])) _
    refine XS.lstore X0.here hx rfl (hb hby at_12) rfl (l' := #[.val (.long q1), .second, .val (.long (-7046029254386353131 : Int64)), .second, .val (.long (-4658895280553007687 : Int64)), .second, .val (.long (-7723592293110705685 : Int64)), .second, .unset, .unset, .unset, .unset, .unset, .unset, .unset, .unset, .unset, .unset, .unset]) rfl ?_
    show Steps p.tables e below (s₁.setTop (mkF m 14 #[.val (.long q1), .second, .val (.long (-7046029254386353131 : Int64)), .second, .val (.long (-4658895280553007687 : Int64)), .second, .val (.long (-7723592293110705685 : Int64)), .second, .unset, .unset, .unset, .unset, .unset, .unset, .unset, .unset, .unset, .unset, .unset] [])) _
    refine XS.lload X0.here hx rfl (hb hby at_14) rfl ?_
    exact kt
  obtain ⟨_, _, ⟨T7, L7, k7, n7⟩, -, X7, ⟨Lc7, hQ7, l7, y7, z7⟩, st7⟩ := Jvm.LawKit.callS X0 hx (y := (⟨"com/example/marshalyard/marshalyard/generation/SplitMix64NextPinLaw", "inverse", "(J)J"⟩ : MethodName)) hown (mvT hZ (hw _ (List.mem_of_getElem? (i := 3) rfl))) (mvT hZ (hw _ (List.mem_of_getElem? (i := 4) rfl))) (mvT hZ (hw _ (List.mem_of_getElem? (i := 5) rfl))) (mvT hZ (hw _ (List.mem_of_getElem? (i := 6) rfl))) (by decide) (backOf (W := 0) (rm1 l Z a0 hw [] (-4658895280553007687 : Int64) h0 n0 Z0) hZ (hw _ (List.mem_of_getElem? (i := 6) rfl)) (hw _ (List.mem_of_getElem? (i := 5) rfl)) (by decide) (by decide)) (g := (mkF m 16 #[.val (.long q1), .second, .val (.long (-7046029254386353131 : Int64)), .second, .val (.long (-4658895280553007687 : Int64)), .second, .val (.long (-7723592293110705685 : Int64)), .second, .unset, .unset, .unset, .unset, .unset, .unset, .unset, .unset, .unset, .unset, .unset] [(.long (-4658895280553007687 : Int64))])) rfl (by rw [hml]; rfl) (argsL := [(.long (-4658895280553007687 : Int64))]) (rest := []) (lenOf pd_0 rfl) rfl (by show 2 * 0 + _ ≤ _; exact Nat.le_of_eq rfl) (hb hby at_16) (fun _ _ => ⟨rfl, e0, (by decide : 0 + 0 ≤ _), (by decide : 0 + 0 ≤ _)⟩)
  dsimp only [Pt.U, Pt.locs, Pt.cells, Pt.slots] at X7 l7 y7 z7 st7 hQ7
  subst l7 y7 z7
  obtain ⟨rfl, N7q, e7⟩ := hQ7
  have N7 := Fr.app N0 N7q
  refine own_go (B := T7.setTop (mkF m 19 #[.val (.long q1), .second, .val (.long (-7046029254386353131 : Int64)), .second, .val (.long (-4658895280553007687 : Int64)), .second, .val (.long (-7723592293110705685 : Int64)), .second, .unset, .unset, .unset, .unset, .unset, .unset, .unset, .unset, .unset, .unset, .unset] [(.long (own_inv (-4658895280553007687 : Int64)))])) (fun t kt => st7 t kt) ?_
  refine own_go (B := T7.setTop (mkF m 23 #[.val (.long q1), .second, .val (.long (-7046029254386353131 : Int64)), .second, .val (.long (-4658895280553007687 : Int64)), .second, .val (.long (-7723592293110705685 : Int64)), .second, .val (.long (own_inv (-4658895280553007687 : Int64))), .second, .unset, .unset, .unset, .unset, .unset, .unset, .unset, .unset, .unset] [(.long (-7723592293110705685 : Int64))])) (fun t kt => ?_) ?_
  · show Steps p.tables e below (T7.setTop (mkF m 19 #[.val (.long q1), .second, .val (.long (-7046029254386353131 : Int64)), .second, .val (.long (-4658895280553007687 : Int64)), .second, .val (.long (-7723592293110705685 : Int64)), .second, .unset, .unset, .unset, .unset, .unset, .unset, .unset, .unset, .unset, .unset, .unset] [(.long (own_inv (-4658895280553007687 : Int64)))])) _
    refine XS.lstore X7.here hx rfl (hb hby at_19) rfl (l' := #[.val (.long q1), .second, .val (.long (-7046029254386353131 : Int64)), .second, .val (.long (-4658895280553007687 : Int64)), .second, .val (.long (-7723592293110705685 : Int64)), .second, .val (.long (own_inv (-4658895280553007687 : Int64))), .second, .unset, .unset, .unset, .unset, .unset, .unset, .unset, .unset, .unset]) rfl ?_
    show Steps p.tables e below (T7.setTop (mkF m 21 #[.val (.long q1), .second, .val (.long (-7046029254386353131 : Int64)), .second, .val (.long (-4658895280553007687 : Int64)), .second, .val (.long (-7723592293110705685 : Int64)), .second, .val (.long (own_inv (-4658895280553007687 : Int64))), .second, .unset, .unset, .unset, .unset, .unset, .unset, .unset, .unset, .unset] [])) _
    refine XS.lload X7.here hx rfl (hb hby at_21) rfl ?_
    exact kt
  obtain ⟨_, _, ⟨T8, L8, k8, n8⟩, -, X8, ⟨Lc8, hQ8, l8, y8, z8⟩, st8⟩ := Jvm.LawKit.callS X7 hx (y := (⟨"com/example/marshalyard/marshalyard/generation/SplitMix64NextPinLaw", "inverse", "(J)J"⟩ : MethodName)) hown (mvT hZ (hw _ (List.mem_of_getElem? (i := 3) rfl))) (mvT hZ (hw _ (List.mem_of_getElem? (i := 4) rfl))) (mvT hZ (hw _ (List.mem_of_getElem? (i := 5) rfl))) (mvT hZ (hw _ (List.mem_of_getElem? (i := 6) rfl))) (by decide) (backOf (W := 0) (rm1 l Z a0 hw [] (-7723592293110705685 : Int64) h0 n0 Z0) hZ (hw _ (List.mem_of_getElem? (i := 6) rfl)) (hw _ (List.mem_of_getElem? (i := 5) rfl)) (by decide) (by decide)) (g := (mkF m 23 #[.val (.long q1), .second, .val (.long (-7046029254386353131 : Int64)), .second, .val (.long (-4658895280553007687 : Int64)), .second, .val (.long (-7723592293110705685 : Int64)), .second, .val (.long (own_inv (-4658895280553007687 : Int64))), .second, .unset, .unset, .unset, .unset, .unset, .unset, .unset, .unset, .unset] [(.long (-7723592293110705685 : Int64))])) rfl (by rw [hml]; rfl) (argsL := [(.long (-7723592293110705685 : Int64))]) (rest := []) (lenOf pd_0 rfl) rfl (by show 2 * 0 + _ ≤ _; exact Nat.le_of_eq rfl) (hb hby at_23) (fun _ _ => ⟨rfl, e7, (by decide : (0 + 0) + 0 ≤ _), (by decide : (0 + 0) + 0 ≤ _)⟩)
  dsimp only [Pt.U, Pt.locs, Pt.cells, Pt.slots] at X8 l8 y8 z8 st8 hQ8
  subst l8 y8 z8
  obtain ⟨rfl, N8q, e8⟩ := hQ8
  have N8 := Fr.app N7 N8q
  refine own_go (B := T8.setTop (mkF m 26 #[.val (.long q1), .second, .val (.long (-7046029254386353131 : Int64)), .second, .val (.long (-4658895280553007687 : Int64)), .second, .val (.long (-7723592293110705685 : Int64)), .second, .val (.long (own_inv (-4658895280553007687 : Int64))), .second, .unset, .unset, .unset, .unset, .unset, .unset, .unset, .unset, .unset] [(.long (own_inv (-7723592293110705685 : Int64)))])) (fun t kt => st8 t kt) ?_
  refine own_go (B := T8.setTop (mkF m 50 #[.val (.long q1), .second, .val (.long (-7046029254386353131 : Int64)), .second, .val (.long (-4658895280553007687 : Int64)), .second, .val (.long (-7723592293110705685 : Int64)), .second, .val (.long (own_inv (-4658895280553007687 : Int64))), .second, .val (.long (own_inv (-7723592293110705685 : Int64))), .second, .unset, .unset, .unset, .unset, .unset, .unset, .unset] [])) (fun t kt => ?_) ?_
  · show Steps p.tables e below (T8.setTop (mkF m 26 #[.val (.long q1), .second, .val (.long (-7046029254386353131 : Int64)), .second, .val (.long (-4658895280553007687 : Int64)), .second, .val (.long (-7723592293110705685 : Int64)), .second, .val (.long (own_inv (-4658895280553007687 : Int64))), .second, .unset, .unset, .unset, .unset, .unset, .unset, .unset, .unset, .unset] [(.long (own_inv (-7723592293110705685 : Int64)))])) _
    refine XS.lstore X8.here hx rfl (hb hby at_26) rfl (l' := #[.val (.long q1), .second, .val (.long (-7046029254386353131 : Int64)), .second, .val (.long (-4658895280553007687 : Int64)), .second, .val (.long (-7723592293110705685 : Int64)), .second, .val (.long (own_inv (-4658895280553007687 : Int64))), .second, .val (.long (own_inv (-7723592293110705685 : Int64))), .second, .unset, .unset, .unset, .unset, .unset, .unset, .unset]) rfl ?_
    show Steps p.tables e below (T8.setTop (mkF m 28 #[.val (.long q1), .second, .val (.long (-7046029254386353131 : Int64)), .second, .val (.long (-4658895280553007687 : Int64)), .second, .val (.long (-7723592293110705685 : Int64)), .second, .val (.long (own_inv (-4658895280553007687 : Int64))), .second, .val (.long (own_inv (-7723592293110705685 : Int64))), .second, .unset, .unset, .unset, .unset, .unset, .unset, .unset] [])) _
    refine XS.lload X8.here hx rfl (hb hby at_28) rfl ?_
    show Steps p.tables e below (T8.setTop (mkF m 30 #[.val (.long q1), .second, .val (.long (-7046029254386353131 : Int64)), .second, .val (.long (-4658895280553007687 : Int64)), .second, .val (.long (-7723592293110705685 : Int64)), .second, .val (.long (own_inv (-4658895280553007687 : Int64))), .second, .val (.long (own_inv (-7723592293110705685 : Int64))), .second, .unset, .unset, .unset, .unset, .unset, .unset, .unset] [(.long (-4658895280553007687 : Int64))])) _
    refine XS.lload X8.here hx rfl (hb hby at_30) rfl ?_
    show Steps p.tables e below (T8.setTop (mkF m 32 #[.val (.long q1), .second, .val (.long (-7046029254386353131 : Int64)), .second, .val (.long (-4658895280553007687 : Int64)), .second, .val (.long (-7723592293110705685 : Int64)), .second, .val (.long (own_inv (-4658895280553007687 : Int64))), .second, .val (.long (own_inv (-7723592293110705685 : Int64))), .second, .unset, .unset, .unset, .unset, .unset, .unset, .unset] [(.long (own_inv (-4658895280553007687 : Int64))), (.long (-4658895280553007687 : Int64))])) _
    refine XS.lmul X8.here hx rfl (hb hby at_32) rfl ?_
    show Steps p.tables e below (T8.setTop (mkF m 33 #[.val (.long q1), .second, .val (.long (-7046029254386353131 : Int64)), .second, .val (.long (-4658895280553007687 : Int64)), .second, .val (.long (-7723592293110705685 : Int64)), .second, .val (.long (own_inv (-4658895280553007687 : Int64))), .second, .val (.long (own_inv (-7723592293110705685 : Int64))), .second, .unset, .unset, .unset, .unset, .unset, .unset, .unset] [(.long ((-4658895280553007687 : Int64) * (own_inv (-4658895280553007687 : Int64))))])) _
    refine XS.lconst X8.here hx rfl (hb hby at_33) ?_
    show Steps p.tables e below (T8.setTop (mkF m 34 #[.val (.long q1), .second, .val (.long (-7046029254386353131 : Int64)), .second, .val (.long (-4658895280553007687 : Int64)), .second, .val (.long (-7723592293110705685 : Int64)), .second, .val (.long (own_inv (-4658895280553007687 : Int64))), .second, .val (.long (own_inv (-7723592293110705685 : Int64))), .second, .unset, .unset, .unset, .unset, .unset, .unset, .unset] [(.long (1 : Int64)), (.long ((-4658895280553007687 : Int64) * (own_inv (-4658895280553007687 : Int64))))])) _
    refine XS.lcmp X8.here hx rfl (hb hby at_34) rfl ?_
    show Steps p.tables e below (T8.setTop (mkF m 35 #[.val (.long q1), .second, .val (.long (-7046029254386353131 : Int64)), .second, .val (.long (-4658895280553007687 : Int64)), .second, .val (.long (-7723592293110705685 : Int64)), .second, .val (.long (own_inv (-4658895280553007687 : Int64))), .second, .val (.long (own_inv (-7723592293110705685 : Int64))), .second, .unset, .unset, .unset, .unset, .unset, .unset, .unset] [(.int (lcmpW ((-4658895280553007687 : Int64) * (own_inv (-4658895280553007687 : Int64))) (1 : Int64)))])) _
    refine XS.ifNo X8.here hx rfl (hb hby at_35) rfl ((if0 _ _).trans (teq ((lw_eq _ _).mpr own_inv1)).2) ?_
    show Steps p.tables e below (T8.setTop (mkF m 38 #[.val (.long q1), .second, .val (.long (-7046029254386353131 : Int64)), .second, .val (.long (-4658895280553007687 : Int64)), .second, .val (.long (-7723592293110705685 : Int64)), .second, .val (.long (own_inv (-4658895280553007687 : Int64))), .second, .val (.long (own_inv (-7723592293110705685 : Int64))), .second, .unset, .unset, .unset, .unset, .unset, .unset, .unset] [])) _
    refine XS.lload X8.here hx rfl (hb hby at_38) rfl ?_
    show Steps p.tables e below (T8.setTop (mkF m 40 #[.val (.long q1), .second, .val (.long (-7046029254386353131 : Int64)), .second, .val (.long (-4658895280553007687 : Int64)), .second, .val (.long (-7723592293110705685 : Int64)), .second, .val (.long (own_inv (-4658895280553007687 : Int64))), .second, .val (.long (own_inv (-7723592293110705685 : Int64))), .second, .unset, .unset, .unset, .unset, .unset, .unset, .unset] [(.long (-7723592293110705685 : Int64))])) _
    refine XS.lload X8.here hx rfl (hb hby at_40) rfl ?_
    show Steps p.tables e below (T8.setTop (mkF m 42 #[.val (.long q1), .second, .val (.long (-7046029254386353131 : Int64)), .second, .val (.long (-4658895280553007687 : Int64)), .second, .val (.long (-7723592293110705685 : Int64)), .second, .val (.long (own_inv (-4658895280553007687 : Int64))), .second, .val (.long (own_inv (-7723592293110705685 : Int64))), .second, .unset, .unset, .unset, .unset, .unset, .unset, .unset] [(.long (own_inv (-7723592293110705685 : Int64))), (.long (-7723592293110705685 : Int64))])) _
    refine XS.lmul X8.here hx rfl (hb hby at_42) rfl ?_
    show Steps p.tables e below (T8.setTop (mkF m 43 #[.val (.long q1), .second, .val (.long (-7046029254386353131 : Int64)), .second, .val (.long (-4658895280553007687 : Int64)), .second, .val (.long (-7723592293110705685 : Int64)), .second, .val (.long (own_inv (-4658895280553007687 : Int64))), .second, .val (.long (own_inv (-7723592293110705685 : Int64))), .second, .unset, .unset, .unset, .unset, .unset, .unset, .unset] [(.long ((-7723592293110705685 : Int64) * (own_inv (-7723592293110705685 : Int64))))])) _
    refine XS.lconst X8.here hx rfl (hb hby at_43) ?_
    show Steps p.tables e below (T8.setTop (mkF m 44 #[.val (.long q1), .second, .val (.long (-7046029254386353131 : Int64)), .second, .val (.long (-4658895280553007687 : Int64)), .second, .val (.long (-7723592293110705685 : Int64)), .second, .val (.long (own_inv (-4658895280553007687 : Int64))), .second, .val (.long (own_inv (-7723592293110705685 : Int64))), .second, .unset, .unset, .unset, .unset, .unset, .unset, .unset] [(.long (1 : Int64)), (.long ((-7723592293110705685 : Int64) * (own_inv (-7723592293110705685 : Int64))))])) _
    refine XS.lcmp X8.here hx rfl (hb hby at_44) rfl ?_
    show Steps p.tables e below (T8.setTop (mkF m 45 #[.val (.long q1), .second, .val (.long (-7046029254386353131 : Int64)), .second, .val (.long (-4658895280553007687 : Int64)), .second, .val (.long (-7723592293110705685 : Int64)), .second, .val (.long (own_inv (-4658895280553007687 : Int64))), .second, .val (.long (own_inv (-7723592293110705685 : Int64))), .second, .unset, .unset, .unset, .unset, .unset, .unset, .unset] [(.int (lcmpW ((-7723592293110705685 : Int64) * (own_inv (-7723592293110705685 : Int64))) (1 : Int64)))])) _
    refine XS.ifYes X8.here hx rfl (pc0 := 45) (pc' := 50) rfl (hb hby at_45) rfl ((if0 _ _).trans (teq ((lw_eq _ _).mpr own_inv2)).1) (by decide) (by decide) ?_
    exact kt
  obtain ⟨T9, h9, X9, e9, E9, A9, D9, -, st9⟩ := newO X8 hx hZ hown (hw _ (List.mem_of_getElem? (i := 8) rfl)) (hw _ (List.mem_of_getElem? (i := 9) rfl)) (hw _ (List.mem_of_getElem? (i := 10) rfl)) e8 (g := (mkF m 50 #[.val (.long q1), .second, .val (.long (-7046029254386353131 : Int64)), .second, .val (.long (-4658895280553007687 : Int64)), .second, .val (.long (-7723592293110705685 : Int64)), .second, .val (.long (own_inv (-4658895280553007687 : Int64))), .second, .val (.long (own_inv (-7723592293110705685 : Int64))), .second, .unset, .unset, .unset, .unset, .unset, .unset, .unset] [])) rfl (hb hby at_50) (by decide) (by decide)
  obtain ⟨b9, g9⟩ : ∃ z, z = h0.size := ⟨_, rfl⟩
  rw [← g9] at A9 D9 st9
  have F9_state : Fld Z h9 b9 "com/example/marshalyard/marshalyard/generation/SplitMix64" "state" "J" (.long (0 : Int64)) := D9 (Or.inl (hw _ (List.mem_of_getElem? (i := 18) rfl))) (ty := .long) (by decide)
  refine own_go (B := T9.setTop (mkF m 53 #[.val (.long q1), .second, .val (.long (-7046029254386353131 : Int64)), .second, .val (.long (-4658895280553007687 : Int64)), .second, .val (.long (-7723592293110705685 : Int64)), .second, .val (.long (own_inv (-4658895280553007687 : Int64))), .second, .val (.long (own_inv (-7723592293110705685 : Int64))), .second, .unset, .unset, .unset, .unset, .unset, .unset, .unset] [(.ref b9)])) (fun t kt => st9 t kt) ?_
  have Z1 : n0 ≤ h9.size := Nat.le_trans Z0 E9.1
  have gb : n0 ≤ b9 := Nat.le_trans Z0 (Nat.le_of_eq g9.symm)
  refine own_go (B := T9.setTop (mkF m 55 #[.val (.long q1), .second, .val (.long (-7046029254386353131 : Int64)), .second, .val (.long (-4658895280553007687 : Int64)), .second, .val (.long (-7723592293110705685 : Int64)), .second, .val (.long (own_inv (-4658895280553007687 : Int64))), .second, .val (.long (own_inv (-7723592293110705685 : Int64))), .second, .unset, .unset, .unset, .unset, .unset, .unset, .unset] [(.long q1), (.ref b9), (.ref b9)])) (fun t kt => ?_) ?_
  · show Steps p.tables e below (T9.setTop (mkF m 53 #[.val (.long q1), .second, .val (.long (-7046029254386353131 : Int64)), .second, .val (.long (-4658895280553007687 : Int64)), .second, .val (.long (-7723592293110705685 : Int64)), .second, .val (.long (own_inv (-4658895280553007687 : Int64))), .second, .val (.long (own_inv (-7723592293110705685 : Int64))), .second, .unset, .unset, .unset, .unset, .unset, .unset, .unset] [(.ref b9)])) _
    refine XS.dup X9.here hx rfl (hb hby at_53) rfl rfl ?_
    show Steps p.tables e below (T9.setTop (mkF m 54 #[.val (.long q1), .second, .val (.long (-7046029254386353131 : Int64)), .second, .val (.long (-4658895280553007687 : Int64)), .second, .val (.long (-7723592293110705685 : Int64)), .second, .val (.long (own_inv (-4658895280553007687 : Int64))), .second, .val (.long (own_inv (-7723592293110705685 : Int64))), .second, .unset, .unset, .unset, .unset, .unset, .unset, .unset] [(.ref b9), (.ref b9)])) _
    refine XS.lloadN X9.here hx rfl (hb hby at_54) rfl ?_
    exact kt
  obtain ⟨_, _, ⟨T10, L10, k10, n10⟩, -, X10, ⟨Lc10, hQ10, l10, y10, z10⟩, st10⟩ := X9.specialBack hx (y := (⟨"com/example/marshalyard/marshalyard/generation/SplitMix64", "<init>", "(J)V"⟩ : MethodName)) rfl hown (mvT hZ (hw _ (List.mem_of_getElem? (i := 11) rfl))) (mvT hZ (hw _ (List.mem_of_getElem? (i := 12) rfl))) (mvT hZ (hw _ (List.mem_of_getElem? (i := 13) rfl))) (by decide) (backOf (W := 1) (rm2 l Z a0 hw [] b9 q1 h9 n0 Z1 F9_state A9 gb) hZ (hw _ (List.mem_of_getElem? (i := 13) rfl)) (hw _ (List.mem_of_getElem? (i := 10) rfl)) (by decide) (by decide)) (g := (mkF m 55 #[.val (.long q1), .second, .val (.long (-7046029254386353131 : Int64)), .second, .val (.long (-4658895280553007687 : Int64)), .second, .val (.long (-7723592293110705685 : Int64)), .second, .val (.long (own_inv (-4658895280553007687 : Int64))), .second, .val (.long (own_inv (-7723592293110705685 : Int64))), .second, .unset, .unset, .unset, .unset, .unset, .unset, .unset] [(.long q1), (.ref b9), (.ref b9)])) rfl (by rw [hml]; rfl) (Steps.refl _) (a := b9) (argsL := [(.long q1)]) (rest := [(.ref b9)]) (lenOf pd_1 rfl) rfl (by show 2 * 0 + _ ≤ _; exact Nat.le_of_eq rfl) (hb hby at_55) (fun _ _ => ⟨rfl, e9, (by decide : (((0 + 0) + 0) + 1) + 0 ≤ _), (by decide : (((0 + 0) + 0) + 1) + 0 ≤ _)⟩)
  dsimp only [Pt.U, Pt.locs, Pt.cells, Pt.slots] at X10 l10 y10 z10 st10 hQ10
  subst l10 y10 z10
  obtain ⟨rfl, N10q, K10, E10, F10⟩ := hQ10
  have N10 := Fr.app N8 N10q
  refine own_go (B := T10.setTop (mkF m 58 #[.val (.long q1), .second, .val (.long (-7046029254386353131 : Int64)), .second, .val (.long (-4658895280553007687 : Int64)), .second, .val (.long (-7723592293110705685 : Int64)), .second, .val (.long (own_inv (-4658895280553007687 : Int64))), .second, .val (.long (own_inv (-7723592293110705685 : Int64))), .second, .unset, .unset, .unset, .unset, .unset, .unset, .unset] [(.ref b9)])) (fun t kt => st10.trans kt) ?_
  have Z2 : n0 ≤ T10.heap.size := Nat.le_trans Z1 K10.1
  refine own_go (B := T10.setTop (mkF m 62 #[.val (.long q1), .second, .val (.long (-7046029254386353131 : Int64)), .second, .val (.long (-4658895280553007687 : Int64)), .second, .val (.long (-7723592293110705685 : Int64)), .second, .val (.long (own_inv (-4658895280553007687 : Int64))), .second, .val (.long (own_inv (-7723592293110705685 : Int64))), .second, .val (.ref b9), .unset, .unset, .unset, .unset, .unset, .unset] [(.ref b9)])) (fun t kt => ?_) ?_
  · show Steps p.tables e below (T10.setTop (mkF m 58 #[.val (.long q1), .second, .val (.long (-7046029254386353131 : Int64)), .second, .val (.long (-4658895280553007687 : Int64)), .second, .val (.long (-7723592293110705685 : Int64)), .second, .val (.long (own_inv (-4658895280553007687 : Int64))), .second, .val (.long (own_inv (-7723592293110705685 : Int64))), .second, .unset, .unset, .unset, .unset, .unset, .unset, .unset] [(.ref b9)])) _
    refine XS.astore X10.here hx rfl (hb hby at_58) rfl rfl (l' := #[.val (.long q1), .second, .val (.long (-7046029254386353131 : Int64)), .second, .val (.long (-4658895280553007687 : Int64)), .second, .val (.long (-7723592293110705685 : Int64)), .second, .val (.long (own_inv (-4658895280553007687 : Int64))), .second, .val (.long (own_inv (-7723592293110705685 : Int64))), .second, .val (.ref b9), .unset, .unset, .unset, .unset, .unset, .unset]) rfl ?_
    show Steps p.tables e below (T10.setTop (mkF m 60 #[.val (.long q1), .second, .val (.long (-7046029254386353131 : Int64)), .second, .val (.long (-4658895280553007687 : Int64)), .second, .val (.long (-7723592293110705685 : Int64)), .second, .val (.long (own_inv (-4658895280553007687 : Int64))), .second, .val (.long (own_inv (-7723592293110705685 : Int64))), .second, .val (.ref b9), .unset, .unset, .unset, .unset, .unset, .unset] [])) _
    refine XS.aload X10.here hx rfl (hb hby at_60) rfl rfl ?_
    exact kt
  obtain ⟨cq11, kq11, q11a, q11b, q11c⟩ := isOf hZ rfl E10
  obtain ⟨_, _, ⟨T11, L11, k11, n11⟩, -, X11, ⟨Lc11, hQ11, l11, y11, z11⟩, st11⟩ := X10.virtualBack hx (y := (⟨"com/example/marshalyard/marshalyard/generation/SplitMix64", "next", "()J"⟩ : MethodName)) (z := (⟨"com/example/marshalyard/marshalyard/generation/SplitMix64", "next", "()J"⟩ : MethodName)) hown (mvT hZ (hw _ (List.mem_of_getElem? (i := 19) rfl))) (mvT hZ (hw _ (List.mem_of_getElem? (i := 20) rfl))) (notFace_of_selects (args := #[]) (mvT hZ (hw _ (List.mem_of_getElem? (i := 22) rfl)))) (mvT hZ (hw _ (List.mem_of_getElem? (i := 22) rfl))) (mvT hZ (hw _ (List.mem_of_getElem? (i := 21) rfl))) (by decide) (backOf (W := 0) (rm4 l Z a0 hw [] b9 q1 T10.heap n0 Z2 F10 E10 gb) hZ (hw _ (List.mem_of_getElem? (i := 23) rfl)) (hw _ (List.mem_of_getElem? (i := 10) rfl)) (by decide) (by decide)) q11a q11c (g := (mkF m 62 #[.val (.long q1), .second, .val (.long (-7046029254386353131 : Int64)), .second, .val (.long (-4658895280553007687 : Int64)), .second, .val (.long (-7723592293110705685 : Int64)), .second, .val (.long (own_inv (-4658895280553007687 : Int64))), .second, .val (.long (own_inv (-7723592293110705685 : Int64))), .second, .val (.ref b9), .unset, .unset, .unset, .unset, .unset, .unset] [(.ref b9)])) rfl (by rw [hml]; rfl) (Steps.refl _) (argsL := []) (rest := []) (lenOf pd_2 rfl) rfl (by show 2 * 0 + _ ≤ _; exact Nat.le_of_eq rfl) (hb hby at_62) (fun _ _ => ⟨rfl, rfl, (by decide : ((((0 + 0) + 0) + 1) + 0) + 0 ≤ _), (by decide : ((((0 + 0) + 0) + 1) + 0) + 0 ≤ _)⟩)
  dsimp only [Pt.U, Pt.locs, Pt.cells, Pt.slots] at X11 l11 y11 z11 st11 hQ11
  subst l11 y11 z11
  obtain ⟨rfl, N11q, K11, E11, F11⟩ := hQ11
  have N11 := Fr.app N10 N11q
  refine own_go (B := T11.setTop (mkF m 65 #[.val (.long q1), .second, .val (.long (-7046029254386353131 : Int64)), .second, .val (.long (-4658895280553007687 : Int64)), .second, .val (.long (-7723592293110705685 : Int64)), .second, .val (.long (own_inv (-4658895280553007687 : Int64))), .second, .val (.long (own_inv (-7723592293110705685 : Int64))), .second, .val (.ref b9), .unset, .unset, .unset, .unset, .unset, .unset] [(.long (own_mix (q1 + (-7046029254386353131 : Int64))))])) (fun t kt => st11.trans kt) ?_
  have Z3 : n0 ≤ T11.heap.size := Nat.le_trans Z2 K11.1
  refine own_go (B := T11.setTop (mkF m 69 #[.val (.long q1), .second, .val (.long (-7046029254386353131 : Int64)), .second, .val (.long (-4658895280553007687 : Int64)), .second, .val (.long (-7723592293110705685 : Int64)), .second, .val (.long (own_inv (-4658895280553007687 : Int64))), .second, .val (.long (own_inv (-7723592293110705685 : Int64))), .second, .val (.ref b9), .val (.long (own_mix (q1 + (-7046029254386353131 : Int64)))), .second, .unset, .unset, .unset, .unset] [(.ref b9)])) (fun t kt => ?_) ?_
  · show Steps p.tables e below (T11.setTop (mkF m 65 #[.val (.long q1), .second, .val (.long (-7046029254386353131 : Int64)), .second, .val (.long (-4658895280553007687 : Int64)), .second, .val (.long (-7723592293110705685 : Int64)), .second, .val (.long (own_inv (-4658895280553007687 : Int64))), .second, .val (.long (own_inv (-7723592293110705685 : Int64))), .second, .val (.ref b9), .unset, .unset, .unset, .unset, .unset, .unset] [(.long (own_mix (q1 + (-7046029254386353131 : Int64))))])) _
    refine XS.lstore X11.here hx rfl (hb hby at_65) rfl (l' := #[.val (.long q1), .second, .val (.long (-7046029254386353131 : Int64)), .second, .val (.long (-4658895280553007687 : Int64)), .second, .val (.long (-7723592293110705685 : Int64)), .second, .val (.long (own_inv (-4658895280553007687 : Int64))), .second, .val (.long (own_inv (-7723592293110705685 : Int64))), .second, .val (.ref b9), .val (.long (own_mix (q1 + (-7046029254386353131 : Int64)))), .second, .unset, .unset, .unset, .unset]) rfl ?_
    show Steps p.tables e below (T11.setTop (mkF m 67 #[.val (.long q1), .second, .val (.long (-7046029254386353131 : Int64)), .second, .val (.long (-4658895280553007687 : Int64)), .second, .val (.long (-7723592293110705685 : Int64)), .second, .val (.long (own_inv (-4658895280553007687 : Int64))), .second, .val (.long (own_inv (-7723592293110705685 : Int64))), .second, .val (.ref b9), .val (.long (own_mix (q1 + (-7046029254386353131 : Int64)))), .second, .unset, .unset, .unset, .unset] [])) _
    refine XS.aload X11.here hx rfl (hb hby at_67) rfl rfl ?_
    exact kt
  obtain ⟨cq12, kq12, q12a, q12b, q12c⟩ := isOf hZ rfl E11
  obtain ⟨_, _, ⟨T12, L12, k12, n12⟩, -, X12, ⟨Lc12, hQ12, l12, y12, z12⟩, st12⟩ := X11.virtualBack hx (y := (⟨"com/example/marshalyard/marshalyard/generation/SplitMix64", "next", "()J"⟩ : MethodName)) (z := (⟨"com/example/marshalyard/marshalyard/generation/SplitMix64", "next", "()J"⟩ : MethodName)) hown (mvT hZ (hw _ (List.mem_of_getElem? (i := 19) rfl))) (mvT hZ (hw _ (List.mem_of_getElem? (i := 20) rfl))) (notFace_of_selects (args := #[]) (mvT hZ (hw _ (List.mem_of_getElem? (i := 22) rfl)))) (mvT hZ (hw _ (List.mem_of_getElem? (i := 22) rfl))) (mvT hZ (hw _ (List.mem_of_getElem? (i := 21) rfl))) (by decide) (backOf (W := 0) (rm4 l Z a0 hw [] b9 (q1 + (-7046029254386353131 : Int64)) T11.heap n0 Z3 F11 E11 gb) hZ (hw _ (List.mem_of_getElem? (i := 23) rfl)) (hw _ (List.mem_of_getElem? (i := 10) rfl)) (by decide) (by decide)) q12a q12c (g := (mkF m 69 #[.val (.long q1), .second, .val (.long (-7046029254386353131 : Int64)), .second, .val (.long (-4658895280553007687 : Int64)), .second, .val (.long (-7723592293110705685 : Int64)), .second, .val (.long (own_inv (-4658895280553007687 : Int64))), .second, .val (.long (own_inv (-7723592293110705685 : Int64))), .second, .val (.ref b9), .val (.long (own_mix (q1 + (-7046029254386353131 : Int64)))), .second, .unset, .unset, .unset, .unset] [(.ref b9)])) rfl (by rw [hml]; rfl) (Steps.refl _) (argsL := []) (rest := []) (lenOf pd_2 rfl) rfl (by show 2 * 0 + _ ≤ _; exact Nat.le_of_eq rfl) (hb hby at_69) (fun _ _ => ⟨rfl, rfl, (by decide : (((((0 + 0) + 0) + 1) + 0) + 0) + 0 ≤ _), (by decide : (((((0 + 0) + 0) + 1) + 0) + 0) + 0 ≤ _)⟩)
  dsimp only [Pt.U, Pt.locs, Pt.cells, Pt.slots] at X12 l12 y12 z12 st12 hQ12
  subst l12 y12 z12
  obtain ⟨rfl, N12q, K12, E12, F12⟩ := hQ12
  have N12 := Fr.app N11 N12q
  refine own_go (B := T12.setTop (mkF m 72 #[.val (.long q1), .second, .val (.long (-7046029254386353131 : Int64)), .second, .val (.long (-4658895280553007687 : Int64)), .second, .val (.long (-7723592293110705685 : Int64)), .second, .val (.long (own_inv (-4658895280553007687 : Int64))), .second, .val (.long (own_inv (-7723592293110705685 : Int64))), .second, .val (.ref b9), .val (.long (own_mix (q1 + (-7046029254386353131 : Int64)))), .second, .unset, .unset, .unset, .unset] [(.long (own_mix ((q1 + (-7046029254386353131 : Int64)) + (-7046029254386353131 : Int64))))])) (fun t kt => st12.trans kt) ?_
  have Z4 : n0 ≤ T12.heap.size := Nat.le_trans Z3 K12.1
  refine own_go (B := T12.setTop (mkF m 76 #[.val (.long q1), .second, .val (.long (-7046029254386353131 : Int64)), .second, .val (.long (-4658895280553007687 : Int64)), .second, .val (.long (-7723592293110705685 : Int64)), .second, .val (.long (own_inv (-4658895280553007687 : Int64))), .second, .val (.long (own_inv (-7723592293110705685 : Int64))), .second, .val (.ref b9), .val (.long (own_mix (q1 + (-7046029254386353131 : Int64)))), .second, .val (.long (own_mix ((q1 + (-7046029254386353131 : Int64)) + (-7046029254386353131 : Int64)))), .second, .unset, .unset] [(.ref b9)])) (fun t kt => ?_) ?_
  · show Steps p.tables e below (T12.setTop (mkF m 72 #[.val (.long q1), .second, .val (.long (-7046029254386353131 : Int64)), .second, .val (.long (-4658895280553007687 : Int64)), .second, .val (.long (-7723592293110705685 : Int64)), .second, .val (.long (own_inv (-4658895280553007687 : Int64))), .second, .val (.long (own_inv (-7723592293110705685 : Int64))), .second, .val (.ref b9), .val (.long (own_mix (q1 + (-7046029254386353131 : Int64)))), .second, .unset, .unset, .unset, .unset] [(.long (own_mix ((q1 + (-7046029254386353131 : Int64)) + (-7046029254386353131 : Int64))))])) _
    refine XS.lstore X12.here hx rfl (hb hby at_72) rfl (l' := #[.val (.long q1), .second, .val (.long (-7046029254386353131 : Int64)), .second, .val (.long (-4658895280553007687 : Int64)), .second, .val (.long (-7723592293110705685 : Int64)), .second, .val (.long (own_inv (-4658895280553007687 : Int64))), .second, .val (.long (own_inv (-7723592293110705685 : Int64))), .second, .val (.ref b9), .val (.long (own_mix (q1 + (-7046029254386353131 : Int64)))), .second, .val (.long (own_mix ((q1 + (-7046029254386353131 : Int64)) + (-7046029254386353131 : Int64)))), .second, .unset, .unset]) rfl ?_
    show Steps p.tables e below (T12.setTop (mkF m 74 #[.val (.long q1), .second, .val (.long (-7046029254386353131 : Int64)), .second, .val (.long (-4658895280553007687 : Int64)), .second, .val (.long (-7723592293110705685 : Int64)), .second, .val (.long (own_inv (-4658895280553007687 : Int64))), .second, .val (.long (own_inv (-7723592293110705685 : Int64))), .second, .val (.ref b9), .val (.long (own_mix (q1 + (-7046029254386353131 : Int64)))), .second, .val (.long (own_mix ((q1 + (-7046029254386353131 : Int64)) + (-7046029254386353131 : Int64)))), .second, .unset, .unset] [])) _
    refine XS.aload X12.here hx rfl (hb hby at_74) rfl rfl ?_
    exact kt
  obtain ⟨cq13, kq13, q13a, q13b, q13c⟩ := isOf hZ rfl E12
  obtain ⟨_, _, ⟨T13, L13, k13, n13⟩, -, X13, ⟨Lc13, hQ13, l13, y13, z13⟩, st13⟩ := X12.virtualBack hx (y := (⟨"com/example/marshalyard/marshalyard/generation/SplitMix64", "next", "()J"⟩ : MethodName)) (z := (⟨"com/example/marshalyard/marshalyard/generation/SplitMix64", "next", "()J"⟩ : MethodName)) hown (mvT hZ (hw _ (List.mem_of_getElem? (i := 19) rfl))) (mvT hZ (hw _ (List.mem_of_getElem? (i := 20) rfl))) (notFace_of_selects (args := #[]) (mvT hZ (hw _ (List.mem_of_getElem? (i := 22) rfl)))) (mvT hZ (hw _ (List.mem_of_getElem? (i := 22) rfl))) (mvT hZ (hw _ (List.mem_of_getElem? (i := 21) rfl))) (by decide) (backOf (W := 0) (rm4 l Z a0 hw [] b9 ((q1 + (-7046029254386353131 : Int64)) + (-7046029254386353131 : Int64)) T12.heap n0 Z4 F12 E12 gb) hZ (hw _ (List.mem_of_getElem? (i := 23) rfl)) (hw _ (List.mem_of_getElem? (i := 10) rfl)) (by decide) (by decide)) q13a q13c (g := (mkF m 76 #[.val (.long q1), .second, .val (.long (-7046029254386353131 : Int64)), .second, .val (.long (-4658895280553007687 : Int64)), .second, .val (.long (-7723592293110705685 : Int64)), .second, .val (.long (own_inv (-4658895280553007687 : Int64))), .second, .val (.long (own_inv (-7723592293110705685 : Int64))), .second, .val (.ref b9), .val (.long (own_mix (q1 + (-7046029254386353131 : Int64)))), .second, .val (.long (own_mix ((q1 + (-7046029254386353131 : Int64)) + (-7046029254386353131 : Int64)))), .second, .unset, .unset] [(.ref b9)])) rfl (by rw [hml]; rfl) (Steps.refl _) (argsL := []) (rest := []) (lenOf pd_2 rfl) rfl (by show 2 * 0 + _ ≤ _; exact Nat.le_of_eq rfl) (hb hby at_76) (fun _ _ => ⟨rfl, rfl, (by decide : ((((((0 + 0) + 0) + 1) + 0) + 0) + 0) + 0 ≤ _), (by decide : ((((((0 + 0) + 0) + 1) + 0) + 0) + 0) + 0 ≤ _)⟩)
  dsimp only [Pt.U, Pt.locs, Pt.cells, Pt.slots] at X13 l13 y13 z13 st13 hQ13
  subst l13 y13 z13
  obtain ⟨rfl, N13q, K13, E13, F13⟩ := hQ13
  have N13 := Fr.app N12 N13q
  refine own_go (B := T13.setTop (mkF m 79 #[.val (.long q1), .second, .val (.long (-7046029254386353131 : Int64)), .second, .val (.long (-4658895280553007687 : Int64)), .second, .val (.long (-7723592293110705685 : Int64)), .second, .val (.long (own_inv (-4658895280553007687 : Int64))), .second, .val (.long (own_inv (-7723592293110705685 : Int64))), .second, .val (.ref b9), .val (.long (own_mix (q1 + (-7046029254386353131 : Int64)))), .second, .val (.long (own_mix ((q1 + (-7046029254386353131 : Int64)) + (-7046029254386353131 : Int64)))), .second, .unset, .unset] [(.long (own_mix (((q1 + (-7046029254386353131 : Int64)) + (-7046029254386353131 : Int64)) + (-7046029254386353131 : Int64))))])) (fun t kt => st13.trans kt) ?_
  have Z5 : n0 ≤ T13.heap.size := Nat.le_trans Z4 K13.1
  obtain ⟨hh1, hhe⟩ : ∃ z : Heap, z = T13.heap := ⟨_, rfl⟩
  rw [← hhe] at Z5
  refine own_go (B := T13.setTop (mkF m 87 #[.val (.long q1), .second, .val (.long (-7046029254386353131 : Int64)), .second, .val (.long (-4658895280553007687 : Int64)), .second, .val (.long (-7723592293110705685 : Int64)), .second, .val (.long (own_inv (-4658895280553007687 : Int64))), .second, .val (.long (own_inv (-7723592293110705685 : Int64))), .second, .val (.ref b9), .val (.long (own_mix (q1 + (-7046029254386353131 : Int64)))), .second, .val (.long (own_mix ((q1 + (-7046029254386353131 : Int64)) + (-7046029254386353131 : Int64)))), .second, .val (.long (own_mix (((q1 + (-7046029254386353131 : Int64)) + (-7046029254386353131 : Int64)) + (-7046029254386353131 : Int64)))), .second] [(.long (own_inv (-7723592293110705685 : Int64))), (.long (own_inv (-4658895280553007687 : Int64))), (.long (own_mix (q1 + (-7046029254386353131 : Int64))))])) (fun t kt => ?_) ?_
  · show Steps p.tables e below (T13.setTop (mkF m 79 #[.val (.long q1), .second, .val (.long (-7046029254386353131 : Int64)), .second, .val (.long (-4658895280553007687 : Int64)), .second, .val (.long (-7723592293110705685 : Int64)), .second, .val (.long (own_inv (-4658895280553007687 : Int64))), .second, .val (.long (own_inv (-7723592293110705685 : Int64))), .second, .val (.ref b9), .val (.long (own_mix (q1 + (-7046029254386353131 : Int64)))), .second, .val (.long (own_mix ((q1 + (-7046029254386353131 : Int64)) + (-7046029254386353131 : Int64)))), .second, .unset, .unset] [(.long (own_mix (((q1 + (-7046029254386353131 : Int64)) + (-7046029254386353131 : Int64)) + (-7046029254386353131 : Int64))))])) _
    refine XS.lstore X13.here hx rfl (hb hby at_79) rfl (l' := #[.val (.long q1), .second, .val (.long (-7046029254386353131 : Int64)), .second, .val (.long (-4658895280553007687 : Int64)), .second, .val (.long (-7723592293110705685 : Int64)), .second, .val (.long (own_inv (-4658895280553007687 : Int64))), .second, .val (.long (own_inv (-7723592293110705685 : Int64))), .second, .val (.ref b9), .val (.long (own_mix (q1 + (-7046029254386353131 : Int64)))), .second, .val (.long (own_mix ((q1 + (-7046029254386353131 : Int64)) + (-7046029254386353131 : Int64)))), .second, .val (.long (own_mix (((q1 + (-7046029254386353131 : Int64)) + (-7046029254386353131 : Int64)) + (-7046029254386353131 : Int64)))), .second]) rfl ?_
    show Steps p.tables e below (T13.setTop (mkF m 81 #[.val (.long q1), .second, .val (.long (-7046029254386353131 : Int64)), .second, .val (.long (-4658895280553007687 : Int64)), .second, .val (.long (-7723592293110705685 : Int64)), .second, .val (.long (own_inv (-4658895280553007687 : Int64))), .second, .val (.long (own_inv (-7723592293110705685 : Int64))), .second, .val (.ref b9), .val (.long (own_mix (q1 + (-7046029254386353131 : Int64)))), .second, .val (.long (own_mix ((q1 + (-7046029254386353131 : Int64)) + (-7046029254386353131 : Int64)))), .second, .val (.long (own_mix (((q1 + (-7046029254386353131 : Int64)) + (-7046029254386353131 : Int64)) + (-7046029254386353131 : Int64)))), .second] [])) _
    refine XS.lload X13.here hx rfl (hb hby at_81) rfl ?_
    show Steps p.tables e below (T13.setTop (mkF m 83 #[.val (.long q1), .second, .val (.long (-7046029254386353131 : Int64)), .second, .val (.long (-4658895280553007687 : Int64)), .second, .val (.long (-7723592293110705685 : Int64)), .second, .val (.long (own_inv (-4658895280553007687 : Int64))), .second, .val (.long (own_inv (-7723592293110705685 : Int64))), .second, .val (.ref b9), .val (.long (own_mix (q1 + (-7046029254386353131 : Int64)))), .second, .val (.long (own_mix ((q1 + (-7046029254386353131 : Int64)) + (-7046029254386353131 : Int64)))), .second, .val (.long (own_mix (((q1 + (-7046029254386353131 : Int64)) + (-7046029254386353131 : Int64)) + (-7046029254386353131 : Int64)))), .second] [(.long (own_mix (q1 + (-7046029254386353131 : Int64))))])) _
    refine XS.lload X13.here hx rfl (hb hby at_83) rfl ?_
    show Steps p.tables e below (T13.setTop (mkF m 85 #[.val (.long q1), .second, .val (.long (-7046029254386353131 : Int64)), .second, .val (.long (-4658895280553007687 : Int64)), .second, .val (.long (-7723592293110705685 : Int64)), .second, .val (.long (own_inv (-4658895280553007687 : Int64))), .second, .val (.long (own_inv (-7723592293110705685 : Int64))), .second, .val (.ref b9), .val (.long (own_mix (q1 + (-7046029254386353131 : Int64)))), .second, .val (.long (own_mix ((q1 + (-7046029254386353131 : Int64)) + (-7046029254386353131 : Int64)))), .second, .val (.long (own_mix (((q1 + (-7046029254386353131 : Int64)) + (-7046029254386353131 : Int64)) + (-7046029254386353131 : Int64)))), .second] [(.long (own_inv (-4658895280553007687 : Int64))), (.long (own_mix (q1 + (-7046029254386353131 : Int64))))])) _
    refine XS.lload X13.here hx rfl (hb hby at_85) rfl ?_
    exact kt
  obtain ⟨_, _, ⟨T14, L14, k14, n14⟩, -, X14, ⟨Lc14, hQ14, l14, y14, z14⟩, st14⟩ := Jvm.LawKit.callS X13 hx (y := (⟨"com/example/marshalyard/marshalyard/generation/SplitMix64NextPinLaw", "unmix", "(JJJ)J"⟩ : MethodName)) hown (mvT hZ (hw _ (List.mem_of_getElem? (i := 27) rfl))) (mvT hZ (hw _ (List.mem_of_getElem? (i := 28) rfl))) (mvT hZ (hw _ (List.mem_of_getElem? (i := 5) rfl))) (mvT hZ (hw _ (List.mem_of_getElem? (i := 29) rfl))) (by decide) (backOf (W := 0) (rm5 l Z a0 hw [] (own_mix (q1 + (-7046029254386353131 : Int64))) (own_inv (-4658895280553007687 : Int64)) (own_inv (-7723592293110705685 : Int64)) hh1 n0 Z5) hZ (hw _ (List.mem_of_getElem? (i := 29) rfl)) (hw _ (List.mem_of_getElem? (i := 5) rfl)) (by decide) (by decide)) (g := (mkF m 87 #[.val (.long q1), .second, .val (.long (-7046029254386353131 : Int64)), .second, .val (.long (-4658895280553007687 : Int64)), .second, .val (.long (-7723592293110705685 : Int64)), .second, .val (.long (own_inv (-4658895280553007687 : Int64))), .second, .val (.long (own_inv (-7723592293110705685 : Int64))), .second, .val (.ref b9), .val (.long (own_mix (q1 + (-7046029254386353131 : Int64)))), .second, .val (.long (own_mix ((q1 + (-7046029254386353131 : Int64)) + (-7046029254386353131 : Int64)))), .second, .val (.long (own_mix (((q1 + (-7046029254386353131 : Int64)) + (-7046029254386353131 : Int64)) + (-7046029254386353131 : Int64)))), .second] [(.long (own_inv (-7723592293110705685 : Int64))), (.long (own_inv (-4658895280553007687 : Int64))), (.long (own_mix (q1 + (-7046029254386353131 : Int64))))])) rfl (by rw [hml]; rfl) (argsL := [(.long (own_mix (q1 + (-7046029254386353131 : Int64)))), (.long (own_inv (-4658895280553007687 : Int64))), (.long (own_inv (-7723592293110705685 : Int64)))]) (rest := []) (lenOf pd_3 rfl) rfl (by show 2 * 0 + _ ≤ _; exact Nat.le_of_eq rfl) (hb hby at_87) (fun _ _ => ⟨rfl, hhe.symm, (by decide : (((((((0 + 0) + 0) + 1) + 0) + 0) + 0) + 0) + 0 ≤ _), (by decide : (((((((0 + 0) + 0) + 1) + 0) + 0) + 0) + 0) + 0 ≤ _)⟩)
  dsimp only [Pt.U, Pt.locs, Pt.cells, Pt.slots] at X14 l14 y14 z14 st14 hQ14
  subst l14 y14 z14
  obtain ⟨rfl, N14q, e14⟩ := hQ14
  have N14 := Fr.app N13 N14q
  refine own_go (B := T14.setTop (mkF m 90 #[.val (.long q1), .second, .val (.long (-7046029254386353131 : Int64)), .second, .val (.long (-4658895280553007687 : Int64)), .second, .val (.long (-7723592293110705685 : Int64)), .second, .val (.long (own_inv (-4658895280553007687 : Int64))), .second, .val (.long (own_inv (-7723592293110705685 : Int64))), .second, .val (.ref b9), .val (.long (own_mix (q1 + (-7046029254386353131 : Int64)))), .second, .val (.long (own_mix ((q1 + (-7046029254386353131 : Int64)) + (-7046029254386353131 : Int64)))), .second, .val (.long (own_mix (((q1 + (-7046029254386353131 : Int64)) + (-7046029254386353131 : Int64)) + (-7046029254386353131 : Int64)))), .second] [(.long (own_un (own_mix (q1 + (-7046029254386353131 : Int64))) (own_inv (-4658895280553007687 : Int64)) (own_inv (-7723592293110705685 : Int64))))])) (fun t kt => st14 t kt) ?_
  refine own_go (B := T14.setTop (mkF m 103 #[.val (.long q1), .second, .val (.long (-7046029254386353131 : Int64)), .second, .val (.long (-4658895280553007687 : Int64)), .second, .val (.long (-7723592293110705685 : Int64)), .second, .val (.long (own_inv (-4658895280553007687 : Int64))), .second, .val (.long (own_inv (-7723592293110705685 : Int64))), .second, .val (.ref b9), .val (.long (own_mix (q1 + (-7046029254386353131 : Int64)))), .second, .val (.long (own_mix ((q1 + (-7046029254386353131 : Int64)) + (-7046029254386353131 : Int64)))), .second, .val (.long (own_mix (((q1 + (-7046029254386353131 : Int64)) + (-7046029254386353131 : Int64)) + (-7046029254386353131 : Int64)))), .second] [(.long (own_inv (-7723592293110705685 : Int64))), (.long (own_inv (-4658895280553007687 : Int64))), (.long (own_mix ((q1 + (-7046029254386353131 : Int64)) + (-7046029254386353131 : Int64))))])) (fun t kt => ?_) ?_
  · show Steps p.tables e below (T14.setTop (mkF m 90 #[.val (.long q1), .second, .val (.long (-7046029254386353131 : Int64)), .second, .val (.long (-4658895280553007687 : Int64)), .second, .val (.long (-7723592293110705685 : Int64)), .second, .val (.long (own_inv (-4658895280553007687 : Int64))), .second, .val (.long (own_inv (-7723592293110705685 : Int64))), .second, .val (.ref b9), .val (.long (own_mix (q1 + (-7046029254386353131 : Int64)))), .second, .val (.long (own_mix ((q1 + (-7046029254386353131 : Int64)) + (-7046029254386353131 : Int64)))), .second, .val (.long (own_mix (((q1 + (-7046029254386353131 : Int64)) + (-7046029254386353131 : Int64)) + (-7046029254386353131 : Int64)))), .second] [(.long (own_un (own_mix (q1 + (-7046029254386353131 : Int64))) (own_inv (-4658895280553007687 : Int64)) (own_inv (-7723592293110705685 : Int64))))])) _
    refine XS.lloadN X14.here hx rfl (hb hby at_90) rfl ?_
    show Steps p.tables e below (T14.setTop (mkF m 91 #[.val (.long q1), .second, .val (.long (-7046029254386353131 : Int64)), .second, .val (.long (-4658895280553007687 : Int64)), .second, .val (.long (-7723592293110705685 : Int64)), .second, .val (.long (own_inv (-4658895280553007687 : Int64))), .second, .val (.long (own_inv (-7723592293110705685 : Int64))), .second, .val (.ref b9), .val (.long (own_mix (q1 + (-7046029254386353131 : Int64)))), .second, .val (.long (own_mix ((q1 + (-7046029254386353131 : Int64)) + (-7046029254386353131 : Int64)))), .second, .val (.long (own_mix (((q1 + (-7046029254386353131 : Int64)) + (-7046029254386353131 : Int64)) + (-7046029254386353131 : Int64)))), .second] [(.long q1), (.long (own_un (own_mix (q1 + (-7046029254386353131 : Int64))) (own_inv (-4658895280553007687 : Int64)) (own_inv (-7723592293110705685 : Int64))))])) _
    refine XS.lloadN X14.here hx rfl (hb hby at_91) rfl ?_
    show Steps p.tables e below (T14.setTop (mkF m 92 #[.val (.long q1), .second, .val (.long (-7046029254386353131 : Int64)), .second, .val (.long (-4658895280553007687 : Int64)), .second, .val (.long (-7723592293110705685 : Int64)), .second, .val (.long (own_inv (-4658895280553007687 : Int64))), .second, .val (.long (own_inv (-7723592293110705685 : Int64))), .second, .val (.ref b9), .val (.long (own_mix (q1 + (-7046029254386353131 : Int64)))), .second, .val (.long (own_mix ((q1 + (-7046029254386353131 : Int64)) + (-7046029254386353131 : Int64)))), .second, .val (.long (own_mix (((q1 + (-7046029254386353131 : Int64)) + (-7046029254386353131 : Int64)) + (-7046029254386353131 : Int64)))), .second] [(.long (-7046029254386353131 : Int64)), (.long q1), (.long (own_un (own_mix (q1 + (-7046029254386353131 : Int64))) (own_inv (-4658895280553007687 : Int64)) (own_inv (-7723592293110705685 : Int64))))])) _
    refine XS.ladd X14.here hx rfl (hb hby at_92) rfl ?_
    show Steps p.tables e below (T14.setTop (mkF m 93 #[.val (.long q1), .second, .val (.long (-7046029254386353131 : Int64)), .second, .val (.long (-4658895280553007687 : Int64)), .second, .val (.long (-7723592293110705685 : Int64)), .second, .val (.long (own_inv (-4658895280553007687 : Int64))), .second, .val (.long (own_inv (-7723592293110705685 : Int64))), .second, .val (.ref b9), .val (.long (own_mix (q1 + (-7046029254386353131 : Int64)))), .second, .val (.long (own_mix ((q1 + (-7046029254386353131 : Int64)) + (-7046029254386353131 : Int64)))), .second, .val (.long (own_mix (((q1 + (-7046029254386353131 : Int64)) + (-7046029254386353131 : Int64)) + (-7046029254386353131 : Int64)))), .second] [(.long (q1 + (-7046029254386353131 : Int64))), (.long (own_un (own_mix (q1 + (-7046029254386353131 : Int64))) (own_inv (-4658895280553007687 : Int64)) (own_inv (-7723592293110705685 : Int64))))])) _
    refine XS.lcmp X14.here hx rfl (hb hby at_93) rfl ?_
    show Steps p.tables e below (T14.setTop (mkF m 94 #[.val (.long q1), .second, .val (.long (-7046029254386353131 : Int64)), .second, .val (.long (-4658895280553007687 : Int64)), .second, .val (.long (-7723592293110705685 : Int64)), .second, .val (.long (own_inv (-4658895280553007687 : Int64))), .second, .val (.long (own_inv (-7723592293110705685 : Int64))), .second, .val (.ref b9), .val (.long (own_mix (q1 + (-7046029254386353131 : Int64)))), .second, .val (.long (own_mix ((q1 + (-7046029254386353131 : Int64)) + (-7046029254386353131 : Int64)))), .second, .val (.long (own_mix (((q1 + (-7046029254386353131 : Int64)) + (-7046029254386353131 : Int64)) + (-7046029254386353131 : Int64)))), .second] [(.int (lcmpW (own_un (own_mix (q1 + (-7046029254386353131 : Int64))) (own_inv (-4658895280553007687 : Int64)) (own_inv (-7723592293110705685 : Int64))) (q1 + (-7046029254386353131 : Int64))))])) _
    refine XS.ifNo X14.here hx rfl (hb hby at_94) rfl ((if0 _ _).trans (teq ((lw_eq _ _).mpr (own_c1 q1))).2) ?_
    show Steps p.tables e below (T14.setTop (mkF m 97 #[.val (.long q1), .second, .val (.long (-7046029254386353131 : Int64)), .second, .val (.long (-4658895280553007687 : Int64)), .second, .val (.long (-7723592293110705685 : Int64)), .second, .val (.long (own_inv (-4658895280553007687 : Int64))), .second, .val (.long (own_inv (-7723592293110705685 : Int64))), .second, .val (.ref b9), .val (.long (own_mix (q1 + (-7046029254386353131 : Int64)))), .second, .val (.long (own_mix ((q1 + (-7046029254386353131 : Int64)) + (-7046029254386353131 : Int64)))), .second, .val (.long (own_mix (((q1 + (-7046029254386353131 : Int64)) + (-7046029254386353131 : Int64)) + (-7046029254386353131 : Int64)))), .second] [])) _
    refine XS.lload X14.here hx rfl (hb hby at_97) rfl ?_
    show Steps p.tables e below (T14.setTop (mkF m 99 #[.val (.long q1), .second, .val (.long (-7046029254386353131 : Int64)), .second, .val (.long (-4658895280553007687 : Int64)), .second, .val (.long (-7723592293110705685 : Int64)), .second, .val (.long (own_inv (-4658895280553007687 : Int64))), .second, .val (.long (own_inv (-7723592293110705685 : Int64))), .second, .val (.ref b9), .val (.long (own_mix (q1 + (-7046029254386353131 : Int64)))), .second, .val (.long (own_mix ((q1 + (-7046029254386353131 : Int64)) + (-7046029254386353131 : Int64)))), .second, .val (.long (own_mix (((q1 + (-7046029254386353131 : Int64)) + (-7046029254386353131 : Int64)) + (-7046029254386353131 : Int64)))), .second] [(.long (own_mix ((q1 + (-7046029254386353131 : Int64)) + (-7046029254386353131 : Int64))))])) _
    refine XS.lload X14.here hx rfl (hb hby at_99) rfl ?_
    show Steps p.tables e below (T14.setTop (mkF m 101 #[.val (.long q1), .second, .val (.long (-7046029254386353131 : Int64)), .second, .val (.long (-4658895280553007687 : Int64)), .second, .val (.long (-7723592293110705685 : Int64)), .second, .val (.long (own_inv (-4658895280553007687 : Int64))), .second, .val (.long (own_inv (-7723592293110705685 : Int64))), .second, .val (.ref b9), .val (.long (own_mix (q1 + (-7046029254386353131 : Int64)))), .second, .val (.long (own_mix ((q1 + (-7046029254386353131 : Int64)) + (-7046029254386353131 : Int64)))), .second, .val (.long (own_mix (((q1 + (-7046029254386353131 : Int64)) + (-7046029254386353131 : Int64)) + (-7046029254386353131 : Int64)))), .second] [(.long (own_inv (-4658895280553007687 : Int64))), (.long (own_mix ((q1 + (-7046029254386353131 : Int64)) + (-7046029254386353131 : Int64))))])) _
    refine XS.lload X14.here hx rfl (hb hby at_101) rfl ?_
    exact kt
  obtain ⟨_, _, ⟨T15, L15, k15, n15⟩, -, X15, ⟨Lc15, hQ15, l15, y15, z15⟩, st15⟩ := Jvm.LawKit.callS X14 hx (y := (⟨"com/example/marshalyard/marshalyard/generation/SplitMix64NextPinLaw", "unmix", "(JJJ)J"⟩ : MethodName)) hown (mvT hZ (hw _ (List.mem_of_getElem? (i := 27) rfl))) (mvT hZ (hw _ (List.mem_of_getElem? (i := 28) rfl))) (mvT hZ (hw _ (List.mem_of_getElem? (i := 5) rfl))) (mvT hZ (hw _ (List.mem_of_getElem? (i := 29) rfl))) (by decide) (backOf (W := 0) (rm5 l Z a0 hw [] (own_mix ((q1 + (-7046029254386353131 : Int64)) + (-7046029254386353131 : Int64))) (own_inv (-4658895280553007687 : Int64)) (own_inv (-7723592293110705685 : Int64)) hh1 n0 Z5) hZ (hw _ (List.mem_of_getElem? (i := 29) rfl)) (hw _ (List.mem_of_getElem? (i := 5) rfl)) (by decide) (by decide)) (g := (mkF m 103 #[.val (.long q1), .second, .val (.long (-7046029254386353131 : Int64)), .second, .val (.long (-4658895280553007687 : Int64)), .second, .val (.long (-7723592293110705685 : Int64)), .second, .val (.long (own_inv (-4658895280553007687 : Int64))), .second, .val (.long (own_inv (-7723592293110705685 : Int64))), .second, .val (.ref b9), .val (.long (own_mix (q1 + (-7046029254386353131 : Int64)))), .second, .val (.long (own_mix ((q1 + (-7046029254386353131 : Int64)) + (-7046029254386353131 : Int64)))), .second, .val (.long (own_mix (((q1 + (-7046029254386353131 : Int64)) + (-7046029254386353131 : Int64)) + (-7046029254386353131 : Int64)))), .second] [(.long (own_inv (-7723592293110705685 : Int64))), (.long (own_inv (-4658895280553007687 : Int64))), (.long (own_mix ((q1 + (-7046029254386353131 : Int64)) + (-7046029254386353131 : Int64))))])) rfl (by rw [hml]; rfl) (argsL := [(.long (own_mix ((q1 + (-7046029254386353131 : Int64)) + (-7046029254386353131 : Int64)))), (.long (own_inv (-4658895280553007687 : Int64))), (.long (own_inv (-7723592293110705685 : Int64)))]) (rest := []) (lenOf pd_3 rfl) rfl (by show 2 * 0 + _ ≤ _; exact Nat.le_of_eq rfl) (hb hby at_103) (fun _ _ => ⟨rfl, e14, (by decide : ((((((((0 + 0) + 0) + 1) + 0) + 0) + 0) + 0) + 0) + 0 ≤ _), (by decide : ((((((((0 + 0) + 0) + 1) + 0) + 0) + 0) + 0) + 0) + 0 ≤ _)⟩)
  dsimp only [Pt.U, Pt.locs, Pt.cells, Pt.slots] at X15 l15 y15 z15 st15 hQ15
  subst l15 y15 z15
  obtain ⟨rfl, N15q, e15⟩ := hQ15
  have N15 := Fr.app N14 N15q
  refine own_go (B := T15.setTop (mkF m 106 #[.val (.long q1), .second, .val (.long (-7046029254386353131 : Int64)), .second, .val (.long (-4658895280553007687 : Int64)), .second, .val (.long (-7723592293110705685 : Int64)), .second, .val (.long (own_inv (-4658895280553007687 : Int64))), .second, .val (.long (own_inv (-7723592293110705685 : Int64))), .second, .val (.ref b9), .val (.long (own_mix (q1 + (-7046029254386353131 : Int64)))), .second, .val (.long (own_mix ((q1 + (-7046029254386353131 : Int64)) + (-7046029254386353131 : Int64)))), .second, .val (.long (own_mix (((q1 + (-7046029254386353131 : Int64)) + (-7046029254386353131 : Int64)) + (-7046029254386353131 : Int64)))), .second] [(.long (own_un (own_mix ((q1 + (-7046029254386353131 : Int64)) + (-7046029254386353131 : Int64))) (own_inv (-4658895280553007687 : Int64)) (own_inv (-7723592293110705685 : Int64))))])) (fun t kt => st15 t kt) ?_
  refine own_go (B := T15.setTop (mkF m 123 #[.val (.long q1), .second, .val (.long (-7046029254386353131 : Int64)), .second, .val (.long (-4658895280553007687 : Int64)), .second, .val (.long (-7723592293110705685 : Int64)), .second, .val (.long (own_inv (-4658895280553007687 : Int64))), .second, .val (.long (own_inv (-7723592293110705685 : Int64))), .second, .val (.ref b9), .val (.long (own_mix (q1 + (-7046029254386353131 : Int64)))), .second, .val (.long (own_mix ((q1 + (-7046029254386353131 : Int64)) + (-7046029254386353131 : Int64)))), .second, .val (.long (own_mix (((q1 + (-7046029254386353131 : Int64)) + (-7046029254386353131 : Int64)) + (-7046029254386353131 : Int64)))), .second] [(.long (own_inv (-7723592293110705685 : Int64))), (.long (own_inv (-4658895280553007687 : Int64))), (.long (own_mix (((q1 + (-7046029254386353131 : Int64)) + (-7046029254386353131 : Int64)) + (-7046029254386353131 : Int64))))])) (fun t kt => ?_) ?_
  · show Steps p.tables e below (T15.setTop (mkF m 106 #[.val (.long q1), .second, .val (.long (-7046029254386353131 : Int64)), .second, .val (.long (-4658895280553007687 : Int64)), .second, .val (.long (-7723592293110705685 : Int64)), .second, .val (.long (own_inv (-4658895280553007687 : Int64))), .second, .val (.long (own_inv (-7723592293110705685 : Int64))), .second, .val (.ref b9), .val (.long (own_mix (q1 + (-7046029254386353131 : Int64)))), .second, .val (.long (own_mix ((q1 + (-7046029254386353131 : Int64)) + (-7046029254386353131 : Int64)))), .second, .val (.long (own_mix (((q1 + (-7046029254386353131 : Int64)) + (-7046029254386353131 : Int64)) + (-7046029254386353131 : Int64)))), .second] [(.long (own_un (own_mix ((q1 + (-7046029254386353131 : Int64)) + (-7046029254386353131 : Int64))) (own_inv (-4658895280553007687 : Int64)) (own_inv (-7723592293110705685 : Int64))))])) _
    refine XS.lloadN X15.here hx rfl (hb hby at_106) rfl ?_
    show Steps p.tables e below (T15.setTop (mkF m 107 #[.val (.long q1), .second, .val (.long (-7046029254386353131 : Int64)), .second, .val (.long (-4658895280553007687 : Int64)), .second, .val (.long (-7723592293110705685 : Int64)), .second, .val (.long (own_inv (-4658895280553007687 : Int64))), .second, .val (.long (own_inv (-7723592293110705685 : Int64))), .second, .val (.ref b9), .val (.long (own_mix (q1 + (-7046029254386353131 : Int64)))), .second, .val (.long (own_mix ((q1 + (-7046029254386353131 : Int64)) + (-7046029254386353131 : Int64)))), .second, .val (.long (own_mix (((q1 + (-7046029254386353131 : Int64)) + (-7046029254386353131 : Int64)) + (-7046029254386353131 : Int64)))), .second] [(.long q1), (.long (own_un (own_mix ((q1 + (-7046029254386353131 : Int64)) + (-7046029254386353131 : Int64))) (own_inv (-4658895280553007687 : Int64)) (own_inv (-7723592293110705685 : Int64))))])) _
    refine X15.ldc2Long hx hown (mvT hZ (hw _ (List.mem_of_getElem? (i := 7) rfl))) (g := (mkF m 107 #[.val (.long q1), .second, .val (.long (-7046029254386353131 : Int64)), .second, .val (.long (-4658895280553007687 : Int64)), .second, .val (.long (-7723592293110705685 : Int64)), .second, .val (.long (own_inv (-4658895280553007687 : Int64))), .second, .val (.long (own_inv (-7723592293110705685 : Int64))), .second, .val (.ref b9), .val (.long (own_mix (q1 + (-7046029254386353131 : Int64)))), .second, .val (.long (own_mix ((q1 + (-7046029254386353131 : Int64)) + (-7046029254386353131 : Int64)))), .second, .val (.long (own_mix (((q1 + (-7046029254386353131 : Int64)) + (-7046029254386353131 : Int64)) + (-7046029254386353131 : Int64)))), .second] [(.long q1), (.long (own_un (own_mix ((q1 + (-7046029254386353131 : Int64)) + (-7046029254386353131 : Int64))) (own_inv (-4658895280553007687 : Int64)) (own_inv (-7723592293110705685 : Int64))))])) rfl (hb hby at_107) _ ?_
    show Steps p.tables e below (T15.setTop (mkF m 110 #[.val (.long q1), .second, .val (.long (-7046029254386353131 : Int64)), .second, .val (.long (-4658895280553007687 : Int64)), .second, .val (.long (-7723592293110705685 : Int64)), .second, .val (.long (own_inv (-4658895280553007687 : Int64))), .second, .val (.long (own_inv (-7723592293110705685 : Int64))), .second, .val (.ref b9), .val (.long (own_mix (q1 + (-7046029254386353131 : Int64)))), .second, .val (.long (own_mix ((q1 + (-7046029254386353131 : Int64)) + (-7046029254386353131 : Int64)))), .second, .val (.long (own_mix (((q1 + (-7046029254386353131 : Int64)) + (-7046029254386353131 : Int64)) + (-7046029254386353131 : Int64)))), .second] [(.long (2 : Int64)), (.long q1), (.long (own_un (own_mix ((q1 + (-7046029254386353131 : Int64)) + (-7046029254386353131 : Int64))) (own_inv (-4658895280553007687 : Int64)) (own_inv (-7723592293110705685 : Int64))))])) _
    refine XS.lloadN X15.here hx rfl (hb hby at_110) rfl ?_
    show Steps p.tables e below (T15.setTop (mkF m 111 #[.val (.long q1), .second, .val (.long (-7046029254386353131 : Int64)), .second, .val (.long (-4658895280553007687 : Int64)), .second, .val (.long (-7723592293110705685 : Int64)), .second, .val (.long (own_inv (-4658895280553007687 : Int64))), .second, .val (.long (own_inv (-7723592293110705685 : Int64))), .second, .val (.ref b9), .val (.long (own_mix (q1 + (-7046029254386353131 : Int64)))), .second, .val (.long (own_mix ((q1 + (-7046029254386353131 : Int64)) + (-7046029254386353131 : Int64)))), .second, .val (.long (own_mix (((q1 + (-7046029254386353131 : Int64)) + (-7046029254386353131 : Int64)) + (-7046029254386353131 : Int64)))), .second] [(.long (-7046029254386353131 : Int64)), (.long (2 : Int64)), (.long q1), (.long (own_un (own_mix ((q1 + (-7046029254386353131 : Int64)) + (-7046029254386353131 : Int64))) (own_inv (-4658895280553007687 : Int64)) (own_inv (-7723592293110705685 : Int64))))])) _
    refine XS.lmul X15.here hx rfl (hb hby at_111) rfl ?_
    show Steps p.tables e below (T15.setTop (mkF m 112 #[.val (.long q1), .second, .val (.long (-7046029254386353131 : Int64)), .second, .val (.long (-4658895280553007687 : Int64)), .second, .val (.long (-7723592293110705685 : Int64)), .second, .val (.long (own_inv (-4658895280553007687 : Int64))), .second, .val (.long (own_inv (-7723592293110705685 : Int64))), .second, .val (.ref b9), .val (.long (own_mix (q1 + (-7046029254386353131 : Int64)))), .second, .val (.long (own_mix ((q1 + (-7046029254386353131 : Int64)) + (-7046029254386353131 : Int64)))), .second, .val (.long (own_mix (((q1 + (-7046029254386353131 : Int64)) + (-7046029254386353131 : Int64)) + (-7046029254386353131 : Int64)))), .second] [(.long ((2 : Int64) * (-7046029254386353131 : Int64))), (.long q1), (.long (own_un (own_mix ((q1 + (-7046029254386353131 : Int64)) + (-7046029254386353131 : Int64))) (own_inv (-4658895280553007687 : Int64)) (own_inv (-7723592293110705685 : Int64))))])) _
    refine XS.ladd X15.here hx rfl (hb hby at_112) rfl ?_
    show Steps p.tables e below (T15.setTop (mkF m 113 #[.val (.long q1), .second, .val (.long (-7046029254386353131 : Int64)), .second, .val (.long (-4658895280553007687 : Int64)), .second, .val (.long (-7723592293110705685 : Int64)), .second, .val (.long (own_inv (-4658895280553007687 : Int64))), .second, .val (.long (own_inv (-7723592293110705685 : Int64))), .second, .val (.ref b9), .val (.long (own_mix (q1 + (-7046029254386353131 : Int64)))), .second, .val (.long (own_mix ((q1 + (-7046029254386353131 : Int64)) + (-7046029254386353131 : Int64)))), .second, .val (.long (own_mix (((q1 + (-7046029254386353131 : Int64)) + (-7046029254386353131 : Int64)) + (-7046029254386353131 : Int64)))), .second] [(.long (q1 + ((2 : Int64) * (-7046029254386353131 : Int64)))), (.long (own_un (own_mix ((q1 + (-7046029254386353131 : Int64)) + (-7046029254386353131 : Int64))) (own_inv (-4658895280553007687 : Int64)) (own_inv (-7723592293110705685 : Int64))))])) _
    refine XS.lcmp X15.here hx rfl (hb hby at_113) rfl ?_
    show Steps p.tables e below (T15.setTop (mkF m 114 #[.val (.long q1), .second, .val (.long (-7046029254386353131 : Int64)), .second, .val (.long (-4658895280553007687 : Int64)), .second, .val (.long (-7723592293110705685 : Int64)), .second, .val (.long (own_inv (-4658895280553007687 : Int64))), .second, .val (.long (own_inv (-7723592293110705685 : Int64))), .second, .val (.ref b9), .val (.long (own_mix (q1 + (-7046029254386353131 : Int64)))), .second, .val (.long (own_mix ((q1 + (-7046029254386353131 : Int64)) + (-7046029254386353131 : Int64)))), .second, .val (.long (own_mix (((q1 + (-7046029254386353131 : Int64)) + (-7046029254386353131 : Int64)) + (-7046029254386353131 : Int64)))), .second] [(.int (lcmpW (own_un (own_mix ((q1 + (-7046029254386353131 : Int64)) + (-7046029254386353131 : Int64))) (own_inv (-4658895280553007687 : Int64)) (own_inv (-7723592293110705685 : Int64))) (q1 + ((2 : Int64) * (-7046029254386353131 : Int64)))))])) _
    refine XS.ifNo X15.here hx rfl (hb hby at_114) rfl ((if0 _ _).trans (teq ((lw_eq _ _).mpr (own_c2 q1))).2) ?_
    show Steps p.tables e below (T15.setTop (mkF m 117 #[.val (.long q1), .second, .val (.long (-7046029254386353131 : Int64)), .second, .val (.long (-4658895280553007687 : Int64)), .second, .val (.long (-7723592293110705685 : Int64)), .second, .val (.long (own_inv (-4658895280553007687 : Int64))), .second, .val (.long (own_inv (-7723592293110705685 : Int64))), .second, .val (.ref b9), .val (.long (own_mix (q1 + (-7046029254386353131 : Int64)))), .second, .val (.long (own_mix ((q1 + (-7046029254386353131 : Int64)) + (-7046029254386353131 : Int64)))), .second, .val (.long (own_mix (((q1 + (-7046029254386353131 : Int64)) + (-7046029254386353131 : Int64)) + (-7046029254386353131 : Int64)))), .second] [])) _
    refine XS.lload X15.here hx rfl (hb hby at_117) rfl ?_
    show Steps p.tables e below (T15.setTop (mkF m 119 #[.val (.long q1), .second, .val (.long (-7046029254386353131 : Int64)), .second, .val (.long (-4658895280553007687 : Int64)), .second, .val (.long (-7723592293110705685 : Int64)), .second, .val (.long (own_inv (-4658895280553007687 : Int64))), .second, .val (.long (own_inv (-7723592293110705685 : Int64))), .second, .val (.ref b9), .val (.long (own_mix (q1 + (-7046029254386353131 : Int64)))), .second, .val (.long (own_mix ((q1 + (-7046029254386353131 : Int64)) + (-7046029254386353131 : Int64)))), .second, .val (.long (own_mix (((q1 + (-7046029254386353131 : Int64)) + (-7046029254386353131 : Int64)) + (-7046029254386353131 : Int64)))), .second] [(.long (own_mix (((q1 + (-7046029254386353131 : Int64)) + (-7046029254386353131 : Int64)) + (-7046029254386353131 : Int64))))])) _
    refine XS.lload X15.here hx rfl (hb hby at_119) rfl ?_
    show Steps p.tables e below (T15.setTop (mkF m 121 #[.val (.long q1), .second, .val (.long (-7046029254386353131 : Int64)), .second, .val (.long (-4658895280553007687 : Int64)), .second, .val (.long (-7723592293110705685 : Int64)), .second, .val (.long (own_inv (-4658895280553007687 : Int64))), .second, .val (.long (own_inv (-7723592293110705685 : Int64))), .second, .val (.ref b9), .val (.long (own_mix (q1 + (-7046029254386353131 : Int64)))), .second, .val (.long (own_mix ((q1 + (-7046029254386353131 : Int64)) + (-7046029254386353131 : Int64)))), .second, .val (.long (own_mix (((q1 + (-7046029254386353131 : Int64)) + (-7046029254386353131 : Int64)) + (-7046029254386353131 : Int64)))), .second] [(.long (own_inv (-4658895280553007687 : Int64))), (.long (own_mix (((q1 + (-7046029254386353131 : Int64)) + (-7046029254386353131 : Int64)) + (-7046029254386353131 : Int64))))])) _
    refine XS.lload X15.here hx rfl (hb hby at_121) rfl ?_
    exact kt
  obtain ⟨_, _, ⟨T16, L16, k16, n16⟩, -, X16, ⟨Lc16, hQ16, l16, y16, z16⟩, st16⟩ := Jvm.LawKit.callS X15 hx (y := (⟨"com/example/marshalyard/marshalyard/generation/SplitMix64NextPinLaw", "unmix", "(JJJ)J"⟩ : MethodName)) hown (mvT hZ (hw _ (List.mem_of_getElem? (i := 27) rfl))) (mvT hZ (hw _ (List.mem_of_getElem? (i := 28) rfl))) (mvT hZ (hw _ (List.mem_of_getElem? (i := 5) rfl))) (mvT hZ (hw _ (List.mem_of_getElem? (i := 29) rfl))) (by decide) (backOf (W := 0) (rm5 l Z a0 hw [] (own_mix (((q1 + (-7046029254386353131 : Int64)) + (-7046029254386353131 : Int64)) + (-7046029254386353131 : Int64))) (own_inv (-4658895280553007687 : Int64)) (own_inv (-7723592293110705685 : Int64)) hh1 n0 Z5) hZ (hw _ (List.mem_of_getElem? (i := 29) rfl)) (hw _ (List.mem_of_getElem? (i := 5) rfl)) (by decide) (by decide)) (g := (mkF m 123 #[.val (.long q1), .second, .val (.long (-7046029254386353131 : Int64)), .second, .val (.long (-4658895280553007687 : Int64)), .second, .val (.long (-7723592293110705685 : Int64)), .second, .val (.long (own_inv (-4658895280553007687 : Int64))), .second, .val (.long (own_inv (-7723592293110705685 : Int64))), .second, .val (.ref b9), .val (.long (own_mix (q1 + (-7046029254386353131 : Int64)))), .second, .val (.long (own_mix ((q1 + (-7046029254386353131 : Int64)) + (-7046029254386353131 : Int64)))), .second, .val (.long (own_mix (((q1 + (-7046029254386353131 : Int64)) + (-7046029254386353131 : Int64)) + (-7046029254386353131 : Int64)))), .second] [(.long (own_inv (-7723592293110705685 : Int64))), (.long (own_inv (-4658895280553007687 : Int64))), (.long (own_mix (((q1 + (-7046029254386353131 : Int64)) + (-7046029254386353131 : Int64)) + (-7046029254386353131 : Int64))))])) rfl (by rw [hml]; rfl) (argsL := [(.long (own_mix (((q1 + (-7046029254386353131 : Int64)) + (-7046029254386353131 : Int64)) + (-7046029254386353131 : Int64)))), (.long (own_inv (-4658895280553007687 : Int64))), (.long (own_inv (-7723592293110705685 : Int64)))]) (rest := []) (lenOf pd_3 rfl) rfl (by show 2 * 0 + _ ≤ _; exact Nat.le_of_eq rfl) (hb hby at_123) (fun _ _ => ⟨rfl, e15, (by decide : (((((((((0 + 0) + 0) + 1) + 0) + 0) + 0) + 0) + 0) + 0) + 0 ≤ _), (by decide : (((((((((0 + 0) + 0) + 1) + 0) + 0) + 0) + 0) + 0) + 0) + 0 ≤ _)⟩)
  dsimp only [Pt.U, Pt.locs, Pt.cells, Pt.slots] at X16 l16 y16 z16 st16 hQ16
  subst l16 y16 z16
  obtain ⟨rfl, N16q, e16⟩ := hQ16
  have N16 := Fr.app N15 N16q
  refine own_go (B := T16.setTop (mkF m 126 #[.val (.long q1), .second, .val (.long (-7046029254386353131 : Int64)), .second, .val (.long (-4658895280553007687 : Int64)), .second, .val (.long (-7723592293110705685 : Int64)), .second, .val (.long (own_inv (-4658895280553007687 : Int64))), .second, .val (.long (own_inv (-7723592293110705685 : Int64))), .second, .val (.ref b9), .val (.long (own_mix (q1 + (-7046029254386353131 : Int64)))), .second, .val (.long (own_mix ((q1 + (-7046029254386353131 : Int64)) + (-7046029254386353131 : Int64)))), .second, .val (.long (own_mix (((q1 + (-7046029254386353131 : Int64)) + (-7046029254386353131 : Int64)) + (-7046029254386353131 : Int64)))), .second] [(.long (own_un (own_mix (((q1 + (-7046029254386353131 : Int64)) + (-7046029254386353131 : Int64)) + (-7046029254386353131 : Int64))) (own_inv (-4658895280553007687 : Int64)) (own_inv (-7723592293110705685 : Int64))))])) (fun t kt => st16 t kt) ?_
  refine own_go (B := T16.setTop (mkF m 142 #[.val (.long q1), .second, .val (.long (-7046029254386353131 : Int64)), .second, .val (.long (-4658895280553007687 : Int64)), .second, .val (.long (-7723592293110705685 : Int64)), .second, .val (.long (own_inv (-4658895280553007687 : Int64))), .second, .val (.long (own_inv (-7723592293110705685 : Int64))), .second, .val (.ref b9), .val (.long (own_mix (q1 + (-7046029254386353131 : Int64)))), .second, .val (.long (own_mix ((q1 + (-7046029254386353131 : Int64)) + (-7046029254386353131 : Int64)))), .second, .val (.long (own_mix (((q1 + (-7046029254386353131 : Int64)) + (-7046029254386353131 : Int64)) + (-7046029254386353131 : Int64)))), .second] [(.int (1 : Int32))])) (fun t kt => ?_) ?_
  · show Steps p.tables e below (T16.setTop (mkF m 126 #[.val (.long q1), .second, .val (.long (-7046029254386353131 : Int64)), .second, .val (.long (-4658895280553007687 : Int64)), .second, .val (.long (-7723592293110705685 : Int64)), .second, .val (.long (own_inv (-4658895280553007687 : Int64))), .second, .val (.long (own_inv (-7723592293110705685 : Int64))), .second, .val (.ref b9), .val (.long (own_mix (q1 + (-7046029254386353131 : Int64)))), .second, .val (.long (own_mix ((q1 + (-7046029254386353131 : Int64)) + (-7046029254386353131 : Int64)))), .second, .val (.long (own_mix (((q1 + (-7046029254386353131 : Int64)) + (-7046029254386353131 : Int64)) + (-7046029254386353131 : Int64)))), .second] [(.long (own_un (own_mix (((q1 + (-7046029254386353131 : Int64)) + (-7046029254386353131 : Int64)) + (-7046029254386353131 : Int64))) (own_inv (-4658895280553007687 : Int64)) (own_inv (-7723592293110705685 : Int64))))])) _
    refine XS.lloadN X16.here hx rfl (hb hby at_126) rfl ?_
    show Steps p.tables e below (T16.setTop (mkF m 127 #[.val (.long q1), .second, .val (.long (-7046029254386353131 : Int64)), .second, .val (.long (-4658895280553007687 : Int64)), .second, .val (.long (-7723592293110705685 : Int64)), .second, .val (.long (own_inv (-4658895280553007687 : Int64))), .second, .val (.long (own_inv (-7723592293110705685 : Int64))), .second, .val (.ref b9), .val (.long (own_mix (q1 + (-7046029254386353131 : Int64)))), .second, .val (.long (own_mix ((q1 + (-7046029254386353131 : Int64)) + (-7046029254386353131 : Int64)))), .second, .val (.long (own_mix (((q1 + (-7046029254386353131 : Int64)) + (-7046029254386353131 : Int64)) + (-7046029254386353131 : Int64)))), .second] [(.long q1), (.long (own_un (own_mix (((q1 + (-7046029254386353131 : Int64)) + (-7046029254386353131 : Int64)) + (-7046029254386353131 : Int64))) (own_inv (-4658895280553007687 : Int64)) (own_inv (-7723592293110705685 : Int64))))])) _
    refine X16.ldc2Long hx hown (mvT hZ (hw _ (List.mem_of_getElem? (i := 30) rfl))) (g := (mkF m 127 #[.val (.long q1), .second, .val (.long (-7046029254386353131 : Int64)), .second, .val (.long (-4658895280553007687 : Int64)), .second, .val (.long (-7723592293110705685 : Int64)), .second, .val (.long (own_inv (-4658895280553007687 : Int64))), .second, .val (.long (own_inv (-7723592293110705685 : Int64))), .second, .val (.ref b9), .val (.long (own_mix (q1 + (-7046029254386353131 : Int64)))), .second, .val (.long (own_mix ((q1 + (-7046029254386353131 : Int64)) + (-7046029254386353131 : Int64)))), .second, .val (.long (own_mix (((q1 + (-7046029254386353131 : Int64)) + (-7046029254386353131 : Int64)) + (-7046029254386353131 : Int64)))), .second] [(.long q1), (.long (own_un (own_mix (((q1 + (-7046029254386353131 : Int64)) + (-7046029254386353131 : Int64)) + (-7046029254386353131 : Int64))) (own_inv (-4658895280553007687 : Int64)) (own_inv (-7723592293110705685 : Int64))))])) rfl (hb hby at_127) _ ?_
    show Steps p.tables e below (T16.setTop (mkF m 130 #[.val (.long q1), .second, .val (.long (-7046029254386353131 : Int64)), .second, .val (.long (-4658895280553007687 : Int64)), .second, .val (.long (-7723592293110705685 : Int64)), .second, .val (.long (own_inv (-4658895280553007687 : Int64))), .second, .val (.long (own_inv (-7723592293110705685 : Int64))), .second, .val (.ref b9), .val (.long (own_mix (q1 + (-7046029254386353131 : Int64)))), .second, .val (.long (own_mix ((q1 + (-7046029254386353131 : Int64)) + (-7046029254386353131 : Int64)))), .second, .val (.long (own_mix (((q1 + (-7046029254386353131 : Int64)) + (-7046029254386353131 : Int64)) + (-7046029254386353131 : Int64)))), .second] [(.long (3 : Int64)), (.long q1), (.long (own_un (own_mix (((q1 + (-7046029254386353131 : Int64)) + (-7046029254386353131 : Int64)) + (-7046029254386353131 : Int64))) (own_inv (-4658895280553007687 : Int64)) (own_inv (-7723592293110705685 : Int64))))])) _
    refine XS.lloadN X16.here hx rfl (hb hby at_130) rfl ?_
    show Steps p.tables e below (T16.setTop (mkF m 131 #[.val (.long q1), .second, .val (.long (-7046029254386353131 : Int64)), .second, .val (.long (-4658895280553007687 : Int64)), .second, .val (.long (-7723592293110705685 : Int64)), .second, .val (.long (own_inv (-4658895280553007687 : Int64))), .second, .val (.long (own_inv (-7723592293110705685 : Int64))), .second, .val (.ref b9), .val (.long (own_mix (q1 + (-7046029254386353131 : Int64)))), .second, .val (.long (own_mix ((q1 + (-7046029254386353131 : Int64)) + (-7046029254386353131 : Int64)))), .second, .val (.long (own_mix (((q1 + (-7046029254386353131 : Int64)) + (-7046029254386353131 : Int64)) + (-7046029254386353131 : Int64)))), .second] [(.long (-7046029254386353131 : Int64)), (.long (3 : Int64)), (.long q1), (.long (own_un (own_mix (((q1 + (-7046029254386353131 : Int64)) + (-7046029254386353131 : Int64)) + (-7046029254386353131 : Int64))) (own_inv (-4658895280553007687 : Int64)) (own_inv (-7723592293110705685 : Int64))))])) _
    refine XS.lmul X16.here hx rfl (hb hby at_131) rfl ?_
    show Steps p.tables e below (T16.setTop (mkF m 132 #[.val (.long q1), .second, .val (.long (-7046029254386353131 : Int64)), .second, .val (.long (-4658895280553007687 : Int64)), .second, .val (.long (-7723592293110705685 : Int64)), .second, .val (.long (own_inv (-4658895280553007687 : Int64))), .second, .val (.long (own_inv (-7723592293110705685 : Int64))), .second, .val (.ref b9), .val (.long (own_mix (q1 + (-7046029254386353131 : Int64)))), .second, .val (.long (own_mix ((q1 + (-7046029254386353131 : Int64)) + (-7046029254386353131 : Int64)))), .second, .val (.long (own_mix (((q1 + (-7046029254386353131 : Int64)) + (-7046029254386353131 : Int64)) + (-7046029254386353131 : Int64)))), .second] [(.long ((3 : Int64) * (-7046029254386353131 : Int64))), (.long q1), (.long (own_un (own_mix (((q1 + (-7046029254386353131 : Int64)) + (-7046029254386353131 : Int64)) + (-7046029254386353131 : Int64))) (own_inv (-4658895280553007687 : Int64)) (own_inv (-7723592293110705685 : Int64))))])) _
    refine XS.ladd X16.here hx rfl (hb hby at_132) rfl ?_
    show Steps p.tables e below (T16.setTop (mkF m 133 #[.val (.long q1), .second, .val (.long (-7046029254386353131 : Int64)), .second, .val (.long (-4658895280553007687 : Int64)), .second, .val (.long (-7723592293110705685 : Int64)), .second, .val (.long (own_inv (-4658895280553007687 : Int64))), .second, .val (.long (own_inv (-7723592293110705685 : Int64))), .second, .val (.ref b9), .val (.long (own_mix (q1 + (-7046029254386353131 : Int64)))), .second, .val (.long (own_mix ((q1 + (-7046029254386353131 : Int64)) + (-7046029254386353131 : Int64)))), .second, .val (.long (own_mix (((q1 + (-7046029254386353131 : Int64)) + (-7046029254386353131 : Int64)) + (-7046029254386353131 : Int64)))), .second] [(.long (q1 + ((3 : Int64) * (-7046029254386353131 : Int64)))), (.long (own_un (own_mix (((q1 + (-7046029254386353131 : Int64)) + (-7046029254386353131 : Int64)) + (-7046029254386353131 : Int64))) (own_inv (-4658895280553007687 : Int64)) (own_inv (-7723592293110705685 : Int64))))])) _
    refine XS.lcmp X16.here hx rfl (hb hby at_133) rfl ?_
    show Steps p.tables e below (T16.setTop (mkF m 134 #[.val (.long q1), .second, .val (.long (-7046029254386353131 : Int64)), .second, .val (.long (-4658895280553007687 : Int64)), .second, .val (.long (-7723592293110705685 : Int64)), .second, .val (.long (own_inv (-4658895280553007687 : Int64))), .second, .val (.long (own_inv (-7723592293110705685 : Int64))), .second, .val (.ref b9), .val (.long (own_mix (q1 + (-7046029254386353131 : Int64)))), .second, .val (.long (own_mix ((q1 + (-7046029254386353131 : Int64)) + (-7046029254386353131 : Int64)))), .second, .val (.long (own_mix (((q1 + (-7046029254386353131 : Int64)) + (-7046029254386353131 : Int64)) + (-7046029254386353131 : Int64)))), .second] [(.int (lcmpW (own_un (own_mix (((q1 + (-7046029254386353131 : Int64)) + (-7046029254386353131 : Int64)) + (-7046029254386353131 : Int64))) (own_inv (-4658895280553007687 : Int64)) (own_inv (-7723592293110705685 : Int64))) (q1 + ((3 : Int64) * (-7046029254386353131 : Int64)))))])) _
    refine XS.ifNo X16.here hx rfl (hb hby at_134) rfl ((if0 _ _).trans (teq ((lw_eq _ _).mpr (own_c3 q1))).2) ?_
    show Steps p.tables e below (T16.setTop (mkF m 137 #[.val (.long q1), .second, .val (.long (-7046029254386353131 : Int64)), .second, .val (.long (-4658895280553007687 : Int64)), .second, .val (.long (-7723592293110705685 : Int64)), .second, .val (.long (own_inv (-4658895280553007687 : Int64))), .second, .val (.long (own_inv (-7723592293110705685 : Int64))), .second, .val (.ref b9), .val (.long (own_mix (q1 + (-7046029254386353131 : Int64)))), .second, .val (.long (own_mix ((q1 + (-7046029254386353131 : Int64)) + (-7046029254386353131 : Int64)))), .second, .val (.long (own_mix (((q1 + (-7046029254386353131 : Int64)) + (-7046029254386353131 : Int64)) + (-7046029254386353131 : Int64)))), .second] [])) _
    refine XS.iconst X16.here hx rfl (hb hby at_137) ?_
    show Steps p.tables e below (T16.setTop (mkF m 138 #[.val (.long q1), .second, .val (.long (-7046029254386353131 : Int64)), .second, .val (.long (-4658895280553007687 : Int64)), .second, .val (.long (-7723592293110705685 : Int64)), .second, .val (.long (own_inv (-4658895280553007687 : Int64))), .second, .val (.long (own_inv (-7723592293110705685 : Int64))), .second, .val (.ref b9), .val (.long (own_mix (q1 + (-7046029254386353131 : Int64)))), .second, .val (.long (own_mix ((q1 + (-7046029254386353131 : Int64)) + (-7046029254386353131 : Int64)))), .second, .val (.long (own_mix (((q1 + (-7046029254386353131 : Int64)) + (-7046029254386353131 : Int64)) + (-7046029254386353131 : Int64)))), .second] [(.int (1 : Int32))])) _
    refine XS.goto X16.here hx rfl (pc0 := 138) (pc' := 142) rfl (hb hby at_138) (by decide) (by decide) ?_
    exact kt
  obtain ⟨fs, hr, hrun, hended, hW, hsame⟩ := X16.leave (v := some (.int (1 : Int32))) (fun h => by rw [Bd.returns] at h; cases h)
  refine ⟨_, _, ?_, hrun, hended, _, _, rfl, ?_, ⟨_, rfl⟩, hW, hsame.mono (by decide) (by decide)⟩
  · show Steps p.tables e below (T16.setTop (mkF m 142 #[.val (.long q1), .second, .val (.long (-7046029254386353131 : Int64)), .second, .val (.long (-4658895280553007687 : Int64)), .second, .val (.long (-7723592293110705685 : Int64)), .second, .val (.long (own_inv (-4658895280553007687 : Int64))), .second, .val (.long (own_inv (-7723592293110705685 : Int64))), .second, .val (.ref b9), .val (.long (own_mix (q1 + (-7046029254386353131 : Int64)))), .second, .val (.long (own_mix ((q1 + (-7046029254386353131 : Int64)) + (-7046029254386353131 : Int64)))), .second, .val (.long (own_mix (((q1 + (-7046029254386353131 : Int64)) + (-7046029254386353131 : Int64)) + (-7046029254386353131 : Int64)))), .second] [(.int (1 : Int32))])) _
    exact retN X16 hx (t := .boolean) Bd.returns (by simp) (hb hby at_142) hr
  · show Q0 Z q1 h0 n0 _ T16.heap _
    rw [e16]
    exact ⟨rfl, N16⟩
set_option maxRecDepth 65536 in
set_option maxHeartbeats 40000000 in
theorem comes_1 {Post : Tables → Env → Array Value → State → Outcome → State → Prop} (hpost : ∀ tb e args s v u, (limb_1_1.after args s (.returned v) u = true ∧ limb_1_2.after args s (.returned v) u = true ∧ True) → FrameEnd s (.returned v) u (Jvm.fieldLocs frame_1_writes args s ++ Jvm.arrayLocs frame_1_arrays args s ++ Jvm.staticLocs frame_1_statics s) 16 128 → Post tb e args s (.returned v) u) :
    ArmFor flags0 classFile x code maxLocals ret World_1 tables_1 room_1 Calls_1 rest_1 Pre_1 Post := by
  intro l hfl _ _ p e ha hc hk s m args below hf hA hF happ hP
  obtain ⟨hcalls, hrest, hpre⟩ := hP
  obtain ⟨-, -, -, hnamed, -, -, -, hat⟩ := (Spec.applies_iff hf).mp happ
  obtain ⟨hg, hn⟩ := and_e (Cond.before_iff.mp (show (Jvm.Cond.and given_1 narrow_1).before args s = true from hpre))
  obtain ⟨gg1, gg2⟩ := and_e hg
  obtain ⟨w0, rfl⟩ : ∃ w0 : Value, args = #[w0] := by
    have hs : args.size = 1 := by simpa [Cond.value, given_1] using gg1
    obtain ⟨L⟩ := args
    match L, hs with
    | [w0], _ => exact ⟨w0, rfl⟩
  have hw := fun d (hd : d ∈ tables_1) => atoms_spec (ws := Jvm.Cond.code x code maxLocals ret :: tables_1) hat d (List.mem_cons_of_mem _ hd)
  obtain ⟨i0, ei0⟩ := isL_v gg2
  obtain rfl : w0 = (.long i0) := Option.some.inj ei0
  obtain ⟨n, o, h1, h2, h3, _, L, rfl, ⟨rfl, N⟩, hq⟩ := rm0 l s _ hw tables_1 i0  s.heap s.heap.size (Nat.le_refl _)  p e ha hc hk s m _ below hf ((Spec.applies_iff_loose hf).mp happ).1 ⟨rfl, State.Warmed39.refl s, rfl⟩ trivial
  refine ⟨n, _, h1, h2, h3, hpost _ _ _ _ _ _ ⟨Cond.after_iff.mpr rfl, Cond.after_iff.mpr (eq_i res_at (Term.int_eval (1)) rfl), trivial⟩ ⟨hq.1, hq.2.1, (hq.2.2.sift fun y hy => Or.inr (N y hy)).mono (by decide) (by decide)⟩⟩
theorem main_1_1 : Claimed_1_1 := comes_1 fun _ _ _ _ _ _ h hF => ⟨h.1, hF⟩
theorem main_1_2 : Claimed_1_2 := comes_1 fun _ _ _ _ _ _ h hF => ⟨h.2.1, hF⟩
end Jvm.Pilot.@@N@@
namespace Jvm.Pilot.@@N@@
open Jvm Jvm.ClassFile Sem Op Lib Jvm.Free Jvm.Stand Jvm.Pilot.@@N@@.Jvm.D
/-! MADE BY PROGRAM (witnessworld.py) out of the Statement's table words and the real class files: 9 classes; the members and pool entries that the words name. The judged class is class 1, her method 3. -/
namespace start1
open Jvm.ClassFile
def u (s : String) : CpInfo := .utf8 (stringToUtf16 s)
/-- a pool by its gaps: so many unusable entries, then the entry; so many at the end -/
def gap : Nat → List CpInfo → List CpInfo
  | 0, r => r
  | n + 1, r => .unusable :: gap n r
def poolList (es : List (Nat × CpInfo)) (last : Nat) : List CpInfo := es.foldr (fun e r => gap e.1 (e.2 :: r)) (gap last [])
def pool (es : List (Nat × CpInfo)) (last : Nat) : Array CpInfo := ⟨poolList es last⟩
def fileOf (pool : Array CpInfo) (this : Nat) (attrs : Array Attribute := #[]) (ms : Array MethodInfo := #[]) (fl : Nat := 33) (sup : Nat := 0) (ifs : Array Nat := #[]) (fds : Array FieldInfo := #[]) : ClassFile where
  minorVersion := 0
  majorVersion := 65
  constantPool := pool
  accessFlags := fl
  thisClass := this
  superClass := sup
  interfaces := ifs
  fields := fds
  methods := ms
  attributes := attrs
def plain (name : String) (sup : Option ClassId) : Class where
  name := name
  kind := .ordinary
  loader := none
  accessFlags := 33
  super := sup
  interfaces := #[]
  cf := none
  fields := #[]
  methods := #[]
  instanceTypes := #[]
  staticTypes := #[]
  resolved := #[]
  callSites := []
  init := .initialized
  statics := none
  mirror := none

def pool0 : Array CpInfo := pool [(5, u "<init>"), (0, u "()V"), (1, .class_ 10), (1, u "java/lang/Object")] 113

def k0c0 : Code := { maxStack := 0, maxLocals := 1, code := object_method_1_code, exceptionTable := #[], attributes := #[] }
def k0m0 : Method := { name := "<init>", desc := "()V", sig := { parameters := [], returnType := none }, accessFlags := 1, code := some k0c0 }
/-- java/lang/Object -/
def k0 : Class := { plain "java/lang/Object" none with
  accessFlags := 33
  interfaces := #[]
  cf := some (fileOf pool0 8 #[] #[{ accessFlags := 1, nameIndex := 5, descriptorIndex := 6, attributes := #[] }] 33 0 #[] #[])
  fields := #[]
  methods := #[k0m0]
  instanceTypes := #[]
  staticTypes := #[]
  resolved := Array.replicate 124 none
  statics := none }

def pool1 : Array CpInfo := pool [(2, .class_ 4), (1, u "java/lang/Object"), (0, u "<init>"), (0, u "()V"), (0, .long 2), (1, .long 11400714819323198485), (1, .long 13787848793156543929), (1, .long 10723151780598845931), (1, .methodref 16 17), (0, .class_ 18), (0, .nameAndType 19 20), (0, u "com/example/marshalyard/marshalyard/generation/SplitMix64NextPinLaw"), (0, u "inverse"), (0, u "(J)J"), (0, .class_ 22), (0, u "com/example/marshalyard/marshalyard/generation/SplitMix64"), (0, .methodref 21 24), (0, .nameAndType 5 25), (0, u "(J)V"), (0, .methodref 21 27), (0, .nameAndType 28 29), (0, u "next"), (0, u "()J"), (0, .methodref 16 31), (0, .nameAndType 32 33), (0, u "unmix"), (0, u "(JJJ)J"), (0, .long 3), (3, u "law"), (0, u "(J)Z")] 3

def k1m0 : Method := { name := "<init>", desc := "()V", sig := { parameters := [], returnType := none }, accessFlags := 2, code := none }
def k1c1 : Code := { maxStack := 8, maxLocals := 4, code := method_2_code, exceptionTable := #[], attributes := #[] }
def k1m1 : Method := { name := "inverse", desc := "(J)J", sig := { parameters := [.long], returnType := some .long }, accessFlags := 10, code := some k1c1 }
def k1c2 : Code := { maxStack := 5, maxLocals := 8, code := method_3_code, exceptionTable := #[], attributes := #[] }
def k1m2 : Method := { name := "unmix", desc := "(JJJ)J", sig := { parameters := [.long, .long, .long], returnType := some .long }, accessFlags := 10, code := some k1c2 }
def k1c3 : Code := { maxStack := 8, maxLocals := 19, code := code, exceptionTable := #[], attributes := #[] }
def k1m3 : Method := { name := "law", desc := "(J)Z", sig := { parameters := [.long], returnType := some .boolean }, accessFlags := 9, code := some k1c3 }
/-- com/example/marshalyard/marshalyard/generation/SplitMix64NextPinLaw -/
def k1 : Class := { plain "com/example/marshalyard/marshalyard/generation/SplitMix64NextPinLaw" (some 0) with
  accessFlags := 49
  interfaces := #[]
  cf := some (fileOf pool1 16 #[] #[{ accessFlags := 2, nameIndex := 5, descriptorIndex := 6, attributes := #[] }, { accessFlags := 10, nameIndex := 19, descriptorIndex := 20, attributes := #[] }, { accessFlags := 10, nameIndex := 32, descriptorIndex := 33, attributes := #[] }, { accessFlags := 9, nameIndex := 38, descriptorIndex := 39, attributes := #[] }] 49 2 #[] #[])
  fields := #[]
  methods := #[k1m0, k1m1, k1m2, k1m3]
  instanceTypes := #[]
  staticTypes := #[]
  resolved := Array.replicate 43 none
  statics := none }

def pool2 : Array CpInfo := pool [(1, .methodref 2 3), (0, .class_ 4), (0, .nameAndType 5 6), (0, u "java/lang/Object"), (0, u "<init>"), (0, u "()V"), (0, .fieldref 8 9), (0, .class_ 10), (0, .nameAndType 11 12), (0, u "com/example/marshalyard/marshalyard/generation/SplitMix64"), (0, u "state"), (0, u "J"), (0, .long 11400714819323198485), (1, .long 13787848793156543929), (1, .long 10723151780598845931), (4, u "()J"), (21, u "next"), (0, u "STEP"), (1, u "FIRST_MIX"), (0, u "SECOND_MIX"), (0, u "UNIFORM_BITS"), (0, u "I"), (1, u "UNIT"), (0, u "D"), (0, u "(J)V")] 24

def k2c0 : Code := { maxStack := 3, maxLocals := 3, code := prog_31_method_1_code, exceptionTable := #[], attributes := #[] }
def k2m0 : Method := { name := "<init>", desc := "(J)V", sig := { parameters := [.long], returnType := none }, accessFlags := 1, code := some k2c0 }
def k2c1 : Code := { maxStack := 5, maxLocals := 3, code := prog_31_method_2_code, exceptionTable := #[], attributes := #[] }
def k2m1 : Method := { name := "next", desc := "()J", sig := { parameters := [], returnType := some .long }, accessFlags := 1, code := some k2c1 }
/-- com/example/marshalyard/marshalyard/generation/SplitMix64 -/
def k2 : Class := { plain "com/example/marshalyard/marshalyard/generation/SplitMix64" (some 0) with
  accessFlags := 49
  interfaces := #[]
  cf := some (fileOf pool2 8 #[] #[{ accessFlags := 1, nameIndex := 5, descriptorIndex := 54, attributes := #[] }, { accessFlags := 1, nameIndex := 44, descriptorIndex := 22, attributes := #[] }] 49 2 #[] #[{ accessFlags := 26, nameIndex := 45, descriptorIndex := 12, attributes := #[] }, { accessFlags := 26, nameIndex := 47, descriptorIndex := 12, attributes := #[] }, { accessFlags := 26, nameIndex := 48, descriptorIndex := 12, attributes := #[] }, { accessFlags := 26, nameIndex := 49, descriptorIndex := 50, attributes := #[] }, { accessFlags := 26, nameIndex := 52, descriptorIndex := 53, attributes := #[] }, { accessFlags := 2, nameIndex := 11, descriptorIndex := 12, attributes := #[] }])
  fields := #[{ name := "STEP", type := .long, accessFlags := 26, slot := 0, constantValue := 0 }, { name := "FIRST_MIX", type := .long, accessFlags := 26, slot := 1, constantValue := 0 }, { name := "SECOND_MIX", type := .long, accessFlags := 26, slot := 2, constantValue := 0 }, { name := "UNIFORM_BITS", type := .int, accessFlags := 26, slot := 3, constantValue := 0 }, { name := "UNIT", type := .double, accessFlags := 26, slot := 4, constantValue := 0 }, { name := "state", type := .long, accessFlags := 2, slot := 0, constantValue := 0 }]
  methods := #[k2m0, k2m1]
  instanceTypes := #[.long]
  staticTypes := #[.long, .long, .long, .int, .double]
  resolved := Array.replicate 79 none
  statics := none }

def pool3 : Array CpInfo := pool [(1, u "java/lang/Cloneable"), (0, .class_ 1), (0, u "java/lang/Object"), (0, .class_ 3)] 3

/-- java/lang/Cloneable -/
def k3 : Class := { plain "java/lang/Cloneable" (some 0) with
  accessFlags := 1537
  interfaces := #[]
  cf := some (fileOf pool3 2 #[] #[] 1537 4 #[] #[])
  fields := #[]
  methods := #[]
  instanceTypes := #[]
  staticTypes := #[]
  resolved := Array.replicate 8 none
  statics := none }

def pool4 : Array CpInfo := pool [(1, u "java/io/Serializable"), (0, .class_ 1), (0, u "java/lang/Object"), (0, .class_ 3)] 3

/-- java/io/Serializable -/
def k4 : Class := { plain "java/io/Serializable" (some 0) with
  accessFlags := 1537
  interfaces := #[]
  cf := some (fileOf pool4 2 #[] #[] 1537 4 #[] #[])
  fields := #[]
  methods := #[]
  instanceTypes := #[]
  staticTypes := #[]
  resolved := Array.replicate 8 none
  statics := none }

/-- the primitive byte -/
def k5 : Class := { plain "byte" none with kind := .primitive 'B', accessFlags := 0x411 }
/-- [B -/
def k6 : Class := { plain "[B" (some 0) with kind := .array 5 .byte, interfaces := #[3, 4], accessFlags := 1041 }

/-- the primitive int -/
def k7 : Class := { plain "int" none with kind := .primitive 'I', accessFlags := 0x411 }
/-- [I -/
def k8 : Class := { plain "[I" (some 0) with kind := .array 7 .int, interfaces := #[3, 4], accessFlags := 1041 }

def heap : Heap := #[]
def classes : Array Class := #[k0, k1, k2, k3, k4, k5, k6, k7, k8]
def interned : List (Array UInt16 × Addr) := []
def slotsUsed : Nat := 0
def theMethod : MethodId := ⟨1, 3⟩
def args0 : Array Value := #[.long 5]
def aboutOver (below : List Frame) : State where
  vm := { classes := classes, interned := interned.toArray }
  heap := heap
  slotsUsed := slotsUsed
  threads := #[{ frames := .invoking theMethod args0 :: below }]
def below0 : List Frame := [.native { method := ⟨0, 0⟩, args := #[] }]
def about1 : State := aboutOver below0
def p0 : Program := .bare "" "" ""
def e0 : Env := launch0.env 0 0 0
theorem w_frames : about1.frames = Frame.invoking theMethod args0 :: below0 := rfl
set_option maxRecDepth 65536 in
theorem w_args : argsFit about1.vm theMethod args0 = true := by decide +kernel
set_option maxRecDepth 65536 in
theorem w_heap : heapFits about1 = true := by decide +kernel
set_option maxRecDepth 65536 in
theorem w_runnable : about1.curStatus? = some .runnable := by decide +kernel
set_option maxRecDepth 65536 in
theorem w_alone : about1.alone = true := by decide +kernel
set_option maxRecDepth 65536 in
theorem w_named : about1.methodNamed? x = some theMethod := by decide +kernel
set_option maxRecDepth 65536 in
theorem w_hears : about1.hears theMethod below0 = true := by decide +kernel
set_option maxRecDepth 65536 in
theorem w_ripe : about1.ripe theMethod args0 below0 = true := by decide +kernel
theorem w_running : about1.status = .running := rfl
set_option maxRecDepth 65536 in
theorem w_room : about1.hasRoom e0.platform room_1 = true :=
  launch0.hasRoom_least _ room_1 (by decide +kernel) (by decide +kernel) (by decide +kernel) (by decide +kernel) (by decide +kernel) (by decide +kernel)
theorem allAtoms_all (ts : List Jvm.Cond) (a : Array Jvm.Value) (st : Jvm.State) : (allAtoms ts).before a st = ts.all (fun c => c.before a st) := by
  induction ts with
  | nil => rfl
  | cons c t ih =>
    show (Jvm.Cond.and c (allAtoms t)).before a st = _
    rw [Jvm.Cond.before_and, ih, List.all_cons]
def words1 : List Jvm.Cond := Jvm.Cond.code x code maxLocals ret :: tables_1
/-- a 'code' word, met by the world's own term for the bytes: nothing is compared byte by byte -/
theorem code_word {y : MethodName} {bytes : ByteArray} {mx : Nat} {rt : Option FieldType} {a : Array Value} {s : State} {m : MethodId} {meth : Method} {c : Code} (h1 : s.methodNamed? y = some m) (h2 : s.vm.method? m = some meth) (h3 : meth.code = some c) (h4 : c.code = bytes)
    (h5 : (c.maxLocals == mx && c.exceptionTable.isEmpty && decide (c.maxStack ≤ mostOperands) && decide (meth.sig.returnType = rt) && !meth.locks && decide (parseMethodDescriptor y.desc = some meth.sig)) = true) : (Jvm.Cond.code y bytes mx rt).before a s = true := by
  simp only [Bool.and_eq_true, beq_iff_eq, Bool.not_eq_true', decide_eq_true_eq] at h5
  obtain ⟨⟨⟨⟨⟨g1, g2⟩, g3⟩, g4⟩, g5⟩, g6⟩ := h5
  simp [Cond.before, Cond.holds, Cond.value, h1, h2, h3, h4, g1, g2, g3, g4, g5, g6]
def isCode : Jvm.Cond → Bool
  | .code _ _ _ _ => true
  | _ => false
theorem all_split {L : List Jvm.Cond} {P : Jvm.Cond → Bool} (h1 : L.all (fun c => isCode c || P c) = true) (h2 : ∀ c ∈ L.filter isCode, P c = true) : L.all P = true := by
  refine List.all_eq_true.mpr fun c hc => ?_
  have h := List.all_eq_true.mp h1 c hc
  rcases Bool.eq_false_or_eq_true (isCode c) with hi | hi
  · exact h2 c (List.mem_filter.mpr ⟨hc, hi⟩)
  · simpa [hi] using h
set_option maxRecDepth 65536 in
theorem w_c0 : (Jvm.Cond.code x code maxLocals ret).before args0 about1 = true := code_word (m := ⟨1, 3⟩) (meth := k1m3) (c := k1c3) (by decide +kernel) rfl rfl rfl (by decide +kernel)
set_option maxRecDepth 65536 in
theorem w_c1 : (Jvm.Cond.code ({ cls := "com/example/marshalyard/marshalyard/generation/SplitMix64NextPinLaw", name := "inverse", desc := "(J)J" } : Jvm.MethodName) method_2_code (4 : Nat) (Option.some Jvm.ClassFile.FieldType.long)).before args0 about1 = true := code_word (m := ⟨1, 1⟩) (meth := k1m1) (c := k1c1) (by decide +kernel) rfl rfl rfl (by decide +kernel)
set_option maxRecDepth 65536 in
theorem w_c2 : (Jvm.Cond.code ({ cls := "com/example/marshalyard/marshalyard/generation/SplitMix64", name := "<init>", desc := "(J)V" } : Jvm.MethodName) prog_31_method_1_code (3 : Nat) (Option.none : Option Jvm.ClassFile.FieldType)).before args0 about1 = true := code_word (m := ⟨2, 0⟩) (meth := k2m0) (c := k2c0) (by decide +kernel) rfl rfl rfl (by decide +kernel)
set_option maxRecDepth 65536 in
theorem w_c3 : (Jvm.Cond.code ({ cls := "java/lang/Object", name := "<init>", desc := "()V" } : Jvm.MethodName) object_method_1_code (1 : Nat) (Option.none : Option Jvm.ClassFile.FieldType)).before args0 about1 = true := code_word (m := ⟨0, 0⟩) (meth := k0m0) (c := k0c0) (by decide +kernel) rfl rfl rfl (by decide +kernel)
set_option maxRecDepth 65536 in
theorem w_c4 : (Jvm.Cond.code ({ cls := "com/example/marshalyard/marshalyard/generation/SplitMix64", name := "next", desc := "()J" } : Jvm.MethodName) prog_31_method_2_code (3 : Nat) (Option.some Jvm.ClassFile.FieldType.long)).before args0 about1 = true := code_word (m := ⟨2, 1⟩) (meth := k2m1) (c := k2c1) (by decide +kernel) rfl rfl rfl (by decide +kernel)
set_option maxRecDepth 65536 in
theorem w_c5 : (Jvm.Cond.code ({ cls := "com/example/marshalyard/marshalyard/generation/SplitMix64NextPinLaw", name := "unmix", desc := "(JJJ)J" } : Jvm.MethodName) method_3_code (8 : Nat) (Option.some Jvm.ClassFile.FieldType.long)).before args0 about1 = true := code_word (m := ⟨1, 2⟩) (meth := k1m2) (c := k1c2) (by decide +kernel) rfl rfl rfl (by decide +kernel)
def codes1 : List Jvm.Cond := [Jvm.Cond.code x code maxLocals ret, Jvm.Cond.code ({ cls := "com/example/marshalyard/marshalyard/generation/SplitMix64NextPinLaw", name := "inverse", desc := "(J)J" } : Jvm.MethodName) method_2_code (4 : Nat) (Option.some Jvm.ClassFile.FieldType.long), Jvm.Cond.code ({ cls := "com/example/marshalyard/marshalyard/generation/SplitMix64", name := "<init>", desc := "(J)V" } : Jvm.MethodName) prog_31_method_1_code (3 : Nat) (Option.none : Option Jvm.ClassFile.FieldType), Jvm.Cond.code ({ cls := "java/lang/Object", name := "<init>", desc := "()V" } : Jvm.MethodName) object_method_1_code (1 : Nat) (Option.none : Option Jvm.ClassFile.FieldType), Jvm.Cond.code ({ cls := "com/example/marshalyard/marshalyard/generation/SplitMix64", name := "next", desc := "()J" } : Jvm.MethodName) prog_31_method_2_code (3 : Nat) (Option.some Jvm.ClassFile.FieldType.long), Jvm.Cond.code ({ cls := "com/example/marshalyard/marshalyard/generation/SplitMix64NextPinLaw", name := "unmix", desc := "(JJJ)J" } : Jvm.MethodName) method_3_code (8 : Nat) (Option.some Jvm.ClassFile.FieldType.long)]
set_option maxRecDepth 65536 in
theorem codes_eq : words1.filter isCode = codes1 := rfl
theorem w_codes : ∀ c ∈ words1.filter isCode, c.before args0 about1 = true := by
  rw [codes_eq]
  intro c hc
  simp only [codes1, List.mem_cons, List.not_mem_nil, or_false] at hc
  rcases hc with rfl | rfl | rfl | rfl | rfl | rfl
  · exact w_c0
  · exact w_c1
  · exact w_c2
  · exact w_c3
  · exact w_c4
  · exact w_c5
set_option maxRecDepth 65536 in
theorem w_t1 : (words1.take 24).all (fun c => isCode c || c.before args0 about1) = true := by decide +kernel
set_option maxRecDepth 65536 in
theorem w_t2 : (words1.drop 24).all (fun c => isCode c || c.before args0 about1) = true := by decide +kernel
theorem w_tables : (allAtoms (Jvm.Cond.code x code maxLocals ret :: tables_1)).before args0 about1 = true := by
  rw [allAtoms_all]
  show words1.all (fun c => c.before args0 about1) = true
  refine all_split ?_ w_codes
  rw [← List.take_append_drop 24 words1, List.all_append, w_t1, w_t2]
  rfl
set_option maxRecDepth 65536 in
theorem w_case : (Jvm.Cond.and given_1 narrow_1).before args0 about1 = true := by decide +kernel
theorem w_applies : (headSpec (Jvm.Cond.code x code maxLocals ret :: tables_1) room_1).applies x e0.platform about1 = true :=
  (Spec.applies_iff w_frames).mpr ⟨w_running, w_runnable, w_alone, w_named, w_hears, w_ripe, w_room, w_tables⟩
theorem atStart : AtStart classFile x code maxLocals ret World_1 tables_1 room_1 Calls_1 rest_1 Pre_1 launch0 p0 e0 about1 theMethod args0 below0 :=
  ⟨lists_1, trivial, launch0.admits_env _ _ _, launch0.least_env, fairChoices_fair.cas, fairChoices_fair.clock, w_frames, w_args, w_heap, w_applies, trivial, trivial, w_case⟩
end start1
theorem witness_1 : WitnessClaimed_1 := ⟨start1.p0, start1.e0, start1.about1, start1.theMethod, start1.args0, start1.below0, start1.atStart⟩
end Jvm.Pilot.@@N@@
