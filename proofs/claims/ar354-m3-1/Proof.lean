import JvmDerived
import JvmDerived.Pilot.@@N@@Statement
import JvmDerived.Pilot.@@N@@Code
set_option linter.unusedVariables false
set_option linter.unusedSimpArgs false
namespace Jvm.RoadKit
open Sem ClassFile Op Lib Jvm.Stand Jvm.Free Jvm.LawKit
section New
variable {p : Program} {l : Launch} {e : Env} {R : Room} {s : State} {m : MethodId} {args : Array Value} {below : List Frame} {meth : Method} {c : Code} {T : State} {locs : List Loc} {cells slots : Nat}
theorem retI (X : Stand p l e R s m args below meth c T locs cells slots) (hx : p.tables.exec = Jvm.exec) {pc : Nat} {Ls : Array Slot} {z : Int32} {rest : List Value} (hret : meth.sig.returnType = some .int) (hd : decode c.code pc = .ok (.ireturn, 1)) {fs : List Frame}
    (hl : ∀ (f : JFrame) (acts : List Action), f.method = m → f.locked = none → f.entered = [] → (doReturn e (T.setTop f) acts (some (.int z))).1 = T.setFrames fs) : Steps p.tables e below (T.setTop (mkF m pc Ls (.int z :: rest))) (T.setFrames fs) := by
  have hm' : T.vm.method? m = some meth := X.method'
  have hn : narrow .int (.int z) = .int z := rfl
  show Steps p.tables e below (T.setTop { method := m, pc := pc, locals := Ls, stack := _ :: rest, locked := none }) _
  jvm_step X.here [X.here.top, hx, hd, hm', hret, hn]
  first | (intro acts; rw [hl _ acts rfl rfl rfl]) | rw [hl _ _ rfl rfl rfl]
  exact Steps.refl _
end New
end Jvm.RoadKit
namespace Jvm.Pilot.@@N@@
open Jvm Jvm.ClassFile Sem Op Lib Jvm.Free Jvm.Stand Jvm.LawKit Jvm.RoadKit Bundle Jvm.Pilot.@@N@@.Jvm.D
/-- the goal of a walk, carried over a piece of it -/
theorem own_go {tb : Tables} {e : Env} {below : List Frame} {A B : State} {P : State → Outcome → Prop} (st : ∀ t, Steps tb e below B t → Steps tb e below A t) (h : ∃ s₂ o, Steps tb e below B s₂ ∧ P s₂ o) : ∃ s₂ o, Steps tb e below A s₂ ∧ P s₂ o := by
  obtain ⟨s₂, o, h1, h2⟩ := h
  exact ⟨s₂, o, st _ h1, h2⟩
/-- a boolean as the int that the machine holds -/
def own_i (b : Bool) : Int32 := if b = true then 1 else 0
theorem own_i1 {b : Bool} (h : b = true) : ¬ (own_i b = 0) := by subst h; decide
theorem own_i0 {b : Bool} (h : ¬ b = true) : own_i b = 0 := by cases b; · rfl
                                                               · exact absurd rfl h
theorem own_it {b : Bool} (h : b = true) : own_i b = 1 := by subst h; rfl
theorem own_nb (b : Bool) : nar .boolean (own_i b) = own_i b := by cases b <;> decide
/-- what HeapShare.string returns -/
def own_str (q : Int64) : Int64 := if q = (0 : Int64) then (0 : Int64) else ((((24 : Int64) + (7 : Int64)) &&& (-8 : Int64)) + ((((16 : Int64) + ((2 : Int64) * q)) + (7 : Int64)) &&& (-8 : Int64)))
theorem own_zero {q : Int64} (h : q = (0 : Int64)) : own_str q = (0 : Int64) := if_pos h
theorem own_and8 (y : Nat) (h : y < 2 ^ 64) : y &&& 18446744073709551608 = y / 8 * 8 := by
  have e1 : (18446744073709551608 : Nat) = (2 ^ 61 - 1) <<< 3 := by decide
  have e2 : y / 8 * 8 = (y >>> 3) <<< 3 := by rw [Nat.shiftLeft_eq, Nat.shiftRight_eq_div_pow]
  rw [e1, e2]
  apply Nat.eq_of_testBit_eq
  intro i
  rw [Nat.testBit_and, Nat.testBit_shiftLeft, Nat.testBit_shiftLeft, Nat.testBit_shiftRight, Nat.testBit_two_pow_sub_one]
  by_cases h3 : 3 ≤ i
  · by_cases h64 : i < 64
    · have : i - 3 < 61 := by omega
      simp [h3, this]
    · have hb : y.testBit i = false := Nat.testBit_lt_two_pow (Nat.lt_of_lt_of_le h (Nat.pow_le_pow_right (by decide) (by omega)))
      have e : 3 + (i - 3) = i := by omega
      simp [h3, hb, e]
  · simp [h3]
theorem own_nn64 {x : Int64} (h : 0 ≤ x.toInt) : x.toInt = (x.toBitVec.toNat : Int) ∧ x.toBitVec.toNat < 2 ^ 63 := by
  have h1 : x.toInt = x.toBitVec.toInt := rfl
  have h2 := BitVec.toInt_eq_toNat_cond x.toBitVec
  have h3 := x.toBitVec.isLt
  rw [h1] at h ⊢
  rw [h2] at h ⊢
  split at h <;> rename_i hc
  · rw [if_pos hc]; exact ⟨rfl, by omega⟩
  · omega
theorem own_of_nat {x : Int64} {n : Nat} (h : x.toBitVec.toNat = n) (hn : n < 2 ^ 63) : x.toInt = (n : Int) := by
  have h1 : x.toInt = x.toBitVec.toInt := rfl
  rw [h1, BitVec.toInt_eq_toNat_cond, h, if_pos (by omega)]
theorem own_land8 {x : Int64} (h : 0 ≤ x.toInt) : (x &&& (-8 : Int64)).toInt = x.toInt / 8 * 8 := by
  obtain ⟨h1, h2⟩ := own_nn64 h
  have e : (x &&& (-8 : Int64)).toBitVec.toNat = x.toBitVec.toNat / 8 * 8 := by
    rw [Int64.toBitVec_and, BitVec.toNat_and]
    exact own_and8 _ (by omega)
  rw [own_of_nat e (by omega), h1]
  omega
theorem own_mask (q : Int64) : 0 ≤ (q &&& (2305843009213693951 : Int64)).toInt ∧ (q &&& (2305843009213693951 : Int64)).toInt < 2305843009213693952 := by
  have e : (q &&& (2305843009213693951 : Int64)).toBitVec.toNat ≤ 2305843009213693951 := by
    rw [Int64.toBitVec_and, BitVec.toNat_and]
    exact Nat.and_le_right
  rw [own_of_nat rfl (by omega)]
  omega
theorem own_pos (p : Int64) {q : Int64} (hq : q = (p &&& (2305843009213693951 : Int64))) (h : ¬ q = (0 : Int64)) : own_str q = ((40 : Int64) + ((8 : Int64) * ((q + (3 : Int64)) / (4 : Int64)))) := by
  have hm := own_mask p
  rw [← hq] at hm
  obtain ⟨h1, h2⟩ := hm
  rw [own_str, if_neg h]
  have c24 : (((24 : Int64) + (7 : Int64)) &&& (-8 : Int64)) = (24 : Int64) := by decide
  rw [c24]
  have l3 : (3 : Int64).toInt = 3 := rfl
  have l4 : (4 : Int64).toInt = 4 := rfl
  have l8 : (8 : Int64).toInt = 8 := rfl
  have l16 : (16 : Int64).toInt = 16 := rfl
  have l2 : (2 : Int64).toInt = 2 := rfl
  have l7 : (7 : Int64).toInt = 7 := rfl
  have l24 : (24 : Int64).toInt = 24 := rfl
  have l40 : (40 : Int64).toInt = 40 := rfl
  have a1 := c_lmul (2 : Int64) q
  have r1 := rng64 ((2 : Int64) * q)
  rw [l2] at a1
  have v1 : ((2 : Int64) * q).toInt = 2 * q.toInt := by omega
  have a2 := c_ladd (16 : Int64) ((2 : Int64) * q)
  have r2 := rng64 ((16 : Int64) + (2 : Int64) * q)
  have v2 : ((16 : Int64) + (2 : Int64) * q).toInt = 16 + 2 * q.toInt := by omega
  have a3 := c_ladd ((16 : Int64) + (2 : Int64) * q) (7 : Int64)
  have r3 := rng64 (((16 : Int64) + (2 : Int64) * q) + (7 : Int64))
  have v3 : (((16 : Int64) + (2 : Int64) * q) + (7 : Int64)).toInt = 23 + 2 * q.toInt := by omega
  have v4 := own_land8 (x := ((16 : Int64) + (2 : Int64) * q) + (7 : Int64)) (by omega)
  rw [v3] at v4
  have a5 := c_ladd (24 : Int64) ((((16 : Int64) + (2 : Int64) * q) + (7 : Int64)) &&& (-8 : Int64))
  have r5 := rng64 ((24 : Int64) + ((((16 : Int64) + (2 : Int64) * q) + (7 : Int64)) &&& (-8 : Int64)))
  have b1 := c_ladd q (3 : Int64)
  have s1 := rng64 (q + (3 : Int64))
  have u1 : (q + (3 : Int64)).toInt = q.toInt + 3 := by omega
  have u2 : ((q + (3 : Int64)) / (4 : Int64)).toInt = (q.toInt + 3) / 4 := by
    rw [Int64.toInt_div, u1, l4, Int.tdiv_eq_ediv_of_nonneg (by omega)]
    exact Int.bmod_eq_of_le (by omega) (by omega)
  have b3 := c_lmul (8 : Int64) ((q + (3 : Int64)) / (4 : Int64))
  have s3 := rng64 ((8 : Int64) * ((q + (3 : Int64)) / (4 : Int64)))
  rw [l8, u2] at b3
  have u3 : ((8 : Int64) * ((q + (3 : Int64)) / (4 : Int64))).toInt = 8 * ((q.toInt + 3) / 4) := by omega
  have b4 := c_ladd (40 : Int64) ((8 : Int64) * ((q + (3 : Int64)) / (4 : Int64)))
  have s4 := rng64 ((40 : Int64) + (8 : Int64) * ((q + (3 : Int64)) / (4 : Int64)))
  apply Int64.toInt_inj.mp
  omega
theorem d1_0 : decode prog_36_method_3_code 0 = .ok (.lload_n 0, 1) := by decide +kernel
theorem d1_1 : decode prog_36_method_3_code 1 = .ok (.lconst 0, 1) := by decide +kernel
theorem d1_2 : decode prog_36_method_3_code 2 = .ok (.lcmp, 1) := by decide +kernel
theorem d1_3 : decode prog_36_method_3_code 3 = .ok (.ifCond .ne 7, 3) := by decide +kernel
theorem d1_6 : decode prog_36_method_3_code 6 = .ok (.lconst 0, 1) := by decide +kernel
theorem d1_7 : decode prog_36_method_3_code 7 = .ok (.goto 22, 3) := by decide +kernel
theorem d1_10 : decode prog_36_method_3_code 10 = .ok (.ldc2_w 41, 3) := by decide +kernel
theorem d1_13 : decode prog_36_method_3_code 13 = .ok (.invokestatic 43, 3) := by decide +kernel
theorem d1_16 : decode prog_36_method_3_code 16 = .ok (.ldc2_w 46, 3) := by decide +kernel
theorem d1_19 : decode prog_36_method_3_code 19 = .ok (.ldc2_w 48, 3) := by decide +kernel
theorem d1_22 : decode prog_36_method_3_code 22 = .ok (.lload_n 0, 1) := by decide +kernel
theorem d1_23 : decode prog_36_method_3_code 23 = .ok (.lmul, 1) := by decide +kernel
theorem d1_24 : decode prog_36_method_3_code 24 = .ok (.ladd, 1) := by decide +kernel
theorem d1_25 : decode prog_36_method_3_code 25 = .ok (.invokestatic 43, 3) := by decide +kernel
theorem d1_28 : decode prog_36_method_3_code 28 = .ok (.ladd, 1) := by decide +kernel
theorem d1_29 : decode prog_36_method_3_code 29 = .ok (.lreturn, 1) := by decide +kernel
theorem d2_0 : decode prog_36_method_4_code 0 = .ok (.lload_n 0, 1) := by decide +kernel
theorem d2_1 : decode prog_36_method_4_code 1 = .ok (.ldc2_w 50, 3) := by decide +kernel
theorem d2_4 : decode prog_36_method_4_code 4 = .ok (.ladd, 1) := by decide +kernel
theorem d2_5 : decode prog_36_method_4_code 5 = .ok (.ldc2_w 52, 3) := by decide +kernel
theorem d2_8 : decode prog_36_method_4_code 8 = .ok (.land, 1) := by decide +kernel
theorem d2_9 : decode prog_36_method_4_code 9 = .ok (.lreturn, 1) := by decide +kernel
theorem pd_0 : parseMethodDescriptor "(J)J" = some ⟨[.long], some .long⟩ := by decide +kernel
theorem pn_0 : plainName "com/example/auscult/auscult/HeapShare" = true := by first | (simp [plainName, overriddenIn]; done) | decide +kernel
theorem pn_1 : plainName "com/example/auscult/auscult/HeapShareStringPinLaw" = true := by first | (simp [plainName, overriddenIn]; done) | decide +kernel
theorem ef_2 (m : MethodId) (x0 : Int64) : entryFrame m #[(.long x0)] 2 = mkF m 0 #[.val (.long x0), .second] [] := by first | (simp [entryFrame, mkF, argsToLocals, Value.category]; done) | rfl
def Q2 (Z : State) (q1 : Int64) (h0 : Heap) (n0 : Nat) (v : Option Value) (h : Heap) (L : List Loc) : Prop := v = some (.long ((q1 + (7 : Int64)) &&& (-8 : Int64))) ∧ Fr n0 L ∧ h = h0
set_option maxRecDepth 65536 in
set_option maxHeartbeats 40000000 in
theorem rm2 (l : Launch) (Z : State) (a0 : Array Value) (hw : ∀ d ∈ tables_1, d.before a0 Z = true) (ws : List Jvm.Cond) (q1 : Int64)  (h0 : Heap) (n0 : Nat) (Z0 : n0 ≤ h0.size)  :
    MetFree l (⟨"com/example/auscult/auscult/HeapShare", "align", "(J)J"⟩ : MethodName) (head1 (Jvm.Cond.code (⟨"com/example/auscult/auscult/HeapShare", "align", "(J)J"⟩ : MethodName) prog_36_method_4_code 2 (some .long) :: ws) ({ frames := 0, cells := 0, slots := 0, locals := 0 } : Room)) (fun a U => a = #[(.long q1)] ∧ Z.Warmed39 U.vm ∧ U.heap = h0) (fun _ _ _ _ _ => True) (fun _ U o U' => ∃ v L, o = .returned v ∧ Q2 Z q1 h0 n0 v U'.heap L ∧ FrameEnd U o U' L ({ frames := 0, cells := 0, slots := 0, locals := 0 } : Room).cells ({ frames := 0, cells := 0, slots := 0, locals := 0 } : Room).slots) := by
  refine MetFree.of_bodySF (plainFor_of_name pn_0) hisR ?_
  intro p e s m args below meth c s₁ Bd hml0 hP hK
  obtain ⟨rfl, hZ, hh⟩ := hP
  have hx := Bd.exec
  have hby := Bd.bytes
  have hml : c.maxLocals = 2 := hml0
  have hown : s.vm.findClass "com/example/auscult/auscult/HeapShare" = some m.cls := findClass_of_methodNamed Bd.named
  have hnm := (name_of_methodNamed Bd.named Bd.method).1
  have X0 : Stand p l e ({ frames := 0, cells := 0, slots := 0, locals := 0 } : Room) s m #[(.long q1)] below meth c s₁ [] 0 0 := Stand.of_body Bd
  have e0 : s₁.heap = h0 := by rw [← hh, Bd.state]; rfl
  have N0 := Fr.nil n0
  refine own_go (B := s₁.setTop (mkF m 0 #[.val (.long q1), .second] [])) (fun t kt => castTop (ef_2 m q1) kt) ?_
  refine own_go (B := s₁.setTop (mkF m 9 #[.val (.long q1), .second] [(.long ((q1 + (7 : Int64)) &&& (-8 : Int64)))])) (fun t kt => ?_) ?_
  · show Steps p.tables e below (s₁.setTop (mkF m 0 #[.val (.long q1), .second] [])) _
    refine XS.lloadN X0.here hx rfl (hb hby d2_0) rfl ?_
    show Steps p.tables e below (s₁.setTop (mkF m 1 #[.val (.long q1), .second] [(.long q1)])) _
    refine X0.ldc2Long hx hown (mvT hZ (hw _ (List.mem_of_getElem? (i := 13) rfl))) (g := (mkF m 1 #[.val (.long q1), .second] [(.long q1)])) rfl (hb hby d2_1) _ ?_
    show Steps p.tables e below (s₁.setTop (mkF m 4 #[.val (.long q1), .second] [(.long (7 : Int64)), (.long q1)])) _
    refine XS.ladd X0.here hx rfl (hb hby d2_4) rfl ?_
    show Steps p.tables e below (s₁.setTop (mkF m 5 #[.val (.long q1), .second] [(.long (q1 + (7 : Int64)))])) _
    refine X0.ldc2Long hx hown (mvT hZ (hw _ (List.mem_of_getElem? (i := 14) rfl))) (g := (mkF m 5 #[.val (.long q1), .second] [(.long (q1 + (7 : Int64)))])) rfl (hb hby d2_5) _ ?_
    show Steps p.tables e below (s₁.setTop (mkF m 8 #[.val (.long q1), .second] [(.long (-8 : Int64)), (.long (q1 + (7 : Int64)))])) _
    refine XS.land X0.here hx rfl (hb hby d2_8) rfl ?_
    exact kt
  obtain ⟨fs, hr, hrun, hended, hW, hsame⟩ := X0.leave (v := some (.long ((q1 + (7 : Int64)) &&& (-8 : Int64)))) (fun h => by rw [Bd.returns] at h; cases h)
  refine ⟨_, _, ?_, hrun, hended, _, _, rfl, ?_, ⟨_, rfl⟩, hW, hsame.mono (by decide) (by decide)⟩
  · show Steps p.tables e below (s₁.setTop (mkF m 9 #[.val (.long q1), .second] [(.long ((q1 + (7 : Int64)) &&& (-8 : Int64)))])) _
    exact retOut X0 hx Bd.returns rfl (Or.inr (Or.inl ⟨rfl, rfl, _, rfl⟩)) (hb hby d2_9) hr
  · show Q2 Z q1 h0 n0 _ s₁.heap _
    rw [e0]
    exact ⟨rfl, N0, rfl⟩
theorem ef_1 (m : MethodId) (x0 : Int64) : entryFrame m #[(.long x0)] 2 = mkF m 0 #[.val (.long x0), .second] [] := by first | (simp [entryFrame, mkF, argsToLocals, Value.category]; done) | rfl
def Q1 (Z : State) (q1 : Int64) (h0 : Heap) (n0 : Nat) (v : Option Value) (h : Heap) (L : List Loc) : Prop := v = some (.long (own_str q1)) ∧ Fr n0 L ∧ h = h0
set_option maxRecDepth 65536 in
set_option maxHeartbeats 40000000 in
theorem rm1 (l : Launch) (Z : State) (a0 : Array Value) (hw : ∀ d ∈ tables_1, d.before a0 Z = true) (ws : List Jvm.Cond) (q1 : Int64)  (h0 : Heap) (n0 : Nat) (Z0 : n0 ≤ h0.size)  :
    MetFree l (⟨"com/example/auscult/auscult/HeapShare", "string", "(J)J"⟩ : MethodName) (head1 (Jvm.Cond.code (⟨"com/example/auscult/auscult/HeapShare", "string", "(J)J"⟩ : MethodName) prog_36_method_3_code 2 (some .long) :: ws) ({ frames := 1, cells := 0, slots := 0, locals := 40 } : Room)) (fun a U => a = #[(.long q1)] ∧ Z.Warmed39 U.vm ∧ U.heap = h0) (fun _ _ _ _ _ => True) (fun _ U o U' => ∃ v L, o = .returned v ∧ Q1 Z q1 h0 n0 v U'.heap L ∧ FrameEnd U o U' L ({ frames := 1, cells := 0, slots := 0, locals := 40 } : Room).cells ({ frames := 1, cells := 0, slots := 0, locals := 40 } : Room).slots) := by
  refine MetFree.of_bodySF (plainFor_of_name pn_0) hisR ?_
  intro p e s m args below meth c s₁ Bd hml0 hP hK
  obtain ⟨rfl, hZ, hh⟩ := hP
  have hx := Bd.exec
  have hby := Bd.bytes
  have hml : c.maxLocals = 2 := hml0
  have hown : s.vm.findClass "com/example/auscult/auscult/HeapShare" = some m.cls := findClass_of_methodNamed Bd.named
  have hnm := (name_of_methodNamed Bd.named Bd.method).1
  have X0 : Stand p l e ({ frames := 1, cells := 0, slots := 0, locals := 40 } : Room) s m #[(.long q1)] below meth c s₁ [] 0 0 := Stand.of_body Bd
  have e0 : s₁.heap = h0 := by rw [← hh, Bd.state]; rfl
  have N0 := Fr.nil n0
  refine own_go (B := s₁.setTop (mkF m 0 #[.val (.long q1), .second] [])) (fun t kt => castTop (ef_1 m q1) kt) ?_
  refine own_go (B := s₁.setTop (mkF m 3 #[.val (.long q1), .second] [(.int (lcmpW q1 (0 : Int64)))])) (fun t kt => ?_) ?_
  · show Steps p.tables e below (s₁.setTop (mkF m 0 #[.val (.long q1), .second] [])) _
    refine XS.lloadN X0.here hx rfl (hb hby d1_0) rfl ?_
    show Steps p.tables e below (s₁.setTop (mkF m 1 #[.val (.long q1), .second] [(.long q1)])) _
    refine XS.lconst X0.here hx rfl (hb hby d1_1) ?_
    show Steps p.tables e below (s₁.setTop (mkF m 2 #[.val (.long q1), .second] [(.long (0 : Int64)), (.long q1)])) _
    refine XS.lcmp X0.here hx rfl (hb hby d1_2) rfl ?_
    exact kt
  by_cases hc3 : q1 = (0 : Int64)
  · refine own_go (B := s₁.setTop (mkF m 29 #[.val (.long q1), .second] [(.long (0 : Int64))])) (fun t kt => ?_) ?_
    · show Steps p.tables e below (s₁.setTop (mkF m 3 #[.val (.long q1), .second] [(.int (lcmpW q1 (0 : Int64)))])) _
      refine XS.ifNo X0.here hx rfl (hb hby d1_3) rfl ((if0 _ _).trans (teq ((lw_eq _ _).mpr hc3)).2) ?_
      show Steps p.tables e below (s₁.setTop (mkF m 6 #[.val (.long q1), .second] [])) _
      refine XS.lconst X0.here hx rfl (hb hby d1_6) ?_
      show Steps p.tables e below (s₁.setTop (mkF m 7 #[.val (.long q1), .second] [(.long (0 : Int64))])) _
      refine XS.goto X0.here hx rfl (pc0 := 7) (pc' := 29) rfl (hb hby d1_7) (by decide) (by decide) ?_
      exact kt
    have hv : own_str q1 = (0 : Int64) := if_pos hc3
    obtain ⟨fs, hr, hrun, hended, hW, hsame⟩ := X0.leave (v := some (.long (0 : Int64))) (fun h => by rw [Bd.returns] at h; cases h)
    refine ⟨_, _, ?_, hrun, hended, _, _, rfl, ?_, ⟨_, rfl⟩, hW, hsame.mono (by decide) (by decide)⟩
    · show Steps p.tables e below (s₁.setTop (mkF m 29 #[.val (.long q1), .second] [(.long (0 : Int64))])) _
      exact retOut X0 hx Bd.returns rfl (Or.inr (Or.inl ⟨rfl, rfl, _, rfl⟩)) (hb hby d1_29) hr
    · show Q1 Z q1 h0 n0 _ s₁.heap _
      rw [e0]
      exact ⟨by rw [hv], N0, rfl⟩
  · refine own_go (B := s₁.setTop (mkF m 13 #[.val (.long q1), .second] [(.long (24 : Int64))])) (fun t kt => ?_) ?_
    · show Steps p.tables e below (s₁.setTop (mkF m 3 #[.val (.long q1), .second] [(.int (lcmpW q1 (0 : Int64)))])) _
      refine XS.ifYes X0.here hx rfl (pc0 := 3) (pc' := 10) rfl (hb hby d1_3) rfl ((if0 _ _).trans (feq (mt (lw_eq _ _).mp hc3)).2) (by decide) (by decide) ?_
      show Steps p.tables e below (s₁.setTop (mkF m 10 #[.val (.long q1), .second] [])) _
      refine X0.ldc2Long hx hown (mvT hZ (hw _ (List.mem_of_getElem? (i := 9) rfl))) (g := (mkF m 10 #[.val (.long q1), .second] [])) rfl (hb hby d1_10) _ ?_
      exact kt
    obtain ⟨_, _, ⟨T1, L1, k1, n1⟩, -, X1, ⟨Lc1, hQ1, l1, y1, z1⟩, st1⟩ := Jvm.LawKit.callS X0 hx (y := (⟨"com/example/auscult/auscult/HeapShare", "align", "(J)J"⟩ : MethodName)) hown (mvT hZ (hw _ (List.mem_of_getElem? (i := 10) rfl))) (mvT hZ (hw _ (List.mem_of_getElem? (i := 11) rfl))) (mvT hZ (hw _ (List.mem_of_getElem? (i := 7) rfl))) (mvT hZ (hw _ (List.mem_of_getElem? (i := 12) rfl))) (by decide) (backOf (W := 0) (rm2 l Z a0 hw [] (24 : Int64) h0 n0 Z0) hZ (hw _ (List.mem_of_getElem? (i := 12) rfl)) (hw _ (List.mem_of_getElem? (i := 7) rfl)) (by decide) (by decide)) (g := (mkF m 13 #[.val (.long q1), .second] [(.long (24 : Int64))])) rfl (by rw [hml]; rfl) (argsL := [(.long (24 : Int64))]) (rest := []) (lenOf pd_0 rfl) rfl (by show 2 * 0 + _ ≤ _; exact Nat.le_of_eq rfl) (hb hby d1_13) (fun _ _ => ⟨rfl, e0, (by decide : 0 + 0 ≤ _), (by decide : 0 + 0 ≤ _)⟩)
    dsimp only [Pt.U, Pt.locs, Pt.cells, Pt.slots] at X1 l1 y1 z1 st1 hQ1
    subst l1 y1 z1
    obtain ⟨rfl, N1q, e1⟩ := hQ1
    have N1 := Fr.app N0 N1q
    refine own_go (B := T1.setTop (mkF m 16 #[.val (.long q1), .second] [(.long (((24 : Int64) + (7 : Int64)) &&& (-8 : Int64)))])) (fun t kt => st1 t kt) ?_
    refine own_go (B := T1.setTop (mkF m 25 #[.val (.long q1), .second] [(.long ((16 : Int64) + ((2 : Int64) * q1))), (.long (((24 : Int64) + (7 : Int64)) &&& (-8 : Int64)))])) (fun t kt => ?_) ?_
    · show Steps p.tables e below (T1.setTop (mkF m 16 #[.val (.long q1), .second] [(.long (((24 : Int64) + (7 : Int64)) &&& (-8 : Int64)))])) _
      refine X1.ldc2Long hx hown (mvT hZ (hw _ (List.mem_of_getElem? (i := 15) rfl))) (g := (mkF m 16 #[.val (.long q1), .second] [(.long (((24 : Int64) + (7 : Int64)) &&& (-8 : Int64)))])) rfl (hb hby d1_16) _ ?_
      show Steps p.tables e below (T1.setTop (mkF m 19 #[.val (.long q1), .second] [(.long (16 : Int64)), (.long (((24 : Int64) + (7 : Int64)) &&& (-8 : Int64)))])) _
      refine X1.ldc2Long hx hown (mvT hZ (hw _ (List.mem_of_getElem? (i := 16) rfl))) (g := (mkF m 19 #[.val (.long q1), .second] [(.long (16 : Int64)), (.long (((24 : Int64) + (7 : Int64)) &&& (-8 : Int64)))])) rfl (hb hby d1_19) _ ?_
      show Steps p.tables e below (T1.setTop (mkF m 22 #[.val (.long q1), .second] [(.long (2 : Int64)), (.long (16 : Int64)), (.long (((24 : Int64) + (7 : Int64)) &&& (-8 : Int64)))])) _
      refine XS.lloadN X1.here hx rfl (hb hby d1_22) rfl ?_
      show Steps p.tables e below (T1.setTop (mkF m 23 #[.val (.long q1), .second] [(.long q1), (.long (2 : Int64)), (.long (16 : Int64)), (.long (((24 : Int64) + (7 : Int64)) &&& (-8 : Int64)))])) _
      refine XS.lmul X1.here hx rfl (hb hby d1_23) rfl ?_
      show Steps p.tables e below (T1.setTop (mkF m 24 #[.val (.long q1), .second] [(.long ((2 : Int64) * q1)), (.long (16 : Int64)), (.long (((24 : Int64) + (7 : Int64)) &&& (-8 : Int64)))])) _
      refine XS.ladd X1.here hx rfl (hb hby d1_24) rfl ?_
      exact kt
    obtain ⟨_, _, ⟨T2, L2, k2, n2⟩, -, X2, ⟨Lc2, hQ2, l2, y2, z2⟩, st2⟩ := Jvm.LawKit.callS X1 hx (y := (⟨"com/example/auscult/auscult/HeapShare", "align", "(J)J"⟩ : MethodName)) hown (mvT hZ (hw _ (List.mem_of_getElem? (i := 10) rfl))) (mvT hZ (hw _ (List.mem_of_getElem? (i := 11) rfl))) (mvT hZ (hw _ (List.mem_of_getElem? (i := 7) rfl))) (mvT hZ (hw _ (List.mem_of_getElem? (i := 12) rfl))) (by decide) (backOf (W := 2) (rm2 l Z a0 hw [] ((16 : Int64) + ((2 : Int64) * q1)) h0 n0 Z0) hZ (hw _ (List.mem_of_getElem? (i := 12) rfl)) (hw _ (List.mem_of_getElem? (i := 7) rfl)) (by decide) (by decide)) (g := (mkF m 25 #[.val (.long q1), .second] [(.long ((16 : Int64) + ((2 : Int64) * q1))), (.long (((24 : Int64) + (7 : Int64)) &&& (-8 : Int64)))])) rfl (by rw [hml]; rfl) (argsL := [(.long ((16 : Int64) + ((2 : Int64) * q1)))]) (rest := [(.long (((24 : Int64) + (7 : Int64)) &&& (-8 : Int64)))]) (lenOf pd_0 rfl) rfl (by show 2 * 0 + _ ≤ _; exact Nat.le_of_eq rfl) (hb hby d1_25) (fun _ _ => ⟨rfl, e1, (by decide : (0 + 0) + 0 ≤ _), (by decide : (0 + 0) + 0 ≤ _)⟩)
    dsimp only [Pt.U, Pt.locs, Pt.cells, Pt.slots] at X2 l2 y2 z2 st2 hQ2
    subst l2 y2 z2
    obtain ⟨rfl, N2q, e2⟩ := hQ2
    have N2 := Fr.app N1 N2q
    refine own_go (B := T2.setTop (mkF m 28 #[.val (.long q1), .second] [(.long ((((16 : Int64) + ((2 : Int64) * q1)) + (7 : Int64)) &&& (-8 : Int64))), (.long (((24 : Int64) + (7 : Int64)) &&& (-8 : Int64)))])) (fun t kt => st2 t kt) ?_
    refine own_go (B := T2.setTop (mkF m 29 #[.val (.long q1), .second] [(.long ((((24 : Int64) + (7 : Int64)) &&& (-8 : Int64)) + ((((16 : Int64) + ((2 : Int64) * q1)) + (7 : Int64)) &&& (-8 : Int64))))])) (fun t kt => ?_) ?_
    · show Steps p.tables e below (T2.setTop (mkF m 28 #[.val (.long q1), .second] [(.long ((((16 : Int64) + ((2 : Int64) * q1)) + (7 : Int64)) &&& (-8 : Int64))), (.long (((24 : Int64) + (7 : Int64)) &&& (-8 : Int64)))])) _
      refine XS.ladd X2.here hx rfl (hb hby d1_28) rfl ?_
      exact kt
    have hv : own_str q1 = ((((24 : Int64) + (7 : Int64)) &&& (-8 : Int64)) + ((((16 : Int64) + ((2 : Int64) * q1)) + (7 : Int64)) &&& (-8 : Int64))) := if_neg hc3
    obtain ⟨fs, hr, hrun, hended, hW, hsame⟩ := X2.leave (v := some (.long ((((24 : Int64) + (7 : Int64)) &&& (-8 : Int64)) + ((((16 : Int64) + ((2 : Int64) * q1)) + (7 : Int64)) &&& (-8 : Int64))))) (fun h => by rw [Bd.returns] at h; cases h)
    refine ⟨_, _, ?_, hrun, hended, _, _, rfl, ?_, ⟨_, rfl⟩, hW, hsame.mono (by decide) (by decide)⟩
    · show Steps p.tables e below (T2.setTop (mkF m 29 #[.val (.long q1), .second] [(.long ((((24 : Int64) + (7 : Int64)) &&& (-8 : Int64)) + ((((16 : Int64) + ((2 : Int64) * q1)) + (7 : Int64)) &&& (-8 : Int64))))])) _
      exact retOut X2 hx Bd.returns rfl (Or.inr (Or.inl ⟨rfl, rfl, _, rfl⟩)) (hb hby d1_29) hr
    · show Q1 Z q1 h0 n0 _ T2.heap _
      rw [e2]
      exact ⟨by rw [hv], N2, rfl⟩
theorem ef_0 (m : MethodId) (x0 : Int64) : entryFrame m #[(.long x0)] maxLocals = mkF m 0 #[.val (.long x0), .second, .unset, .unset, .unset, .unset] [] := by first | (simp [entryFrame, mkF, argsToLocals, Value.category, maxLocals]; done) | rfl
def Q0 (Z : State) (q1 : Int64) (h0 : Heap) (n0 : Nat) (v : Option Value) (h : Heap) (L : List Loc) : Prop := v = some (.int (1 : Int32)) ∧ Fr n0 L
set_option maxRecDepth 65536 in
set_option maxHeartbeats 40000000 in
theorem rm0 (l : Launch) (Z : State) (a0 : Array Value) (hw : ∀ d ∈ tables_1, d.before a0 Z = true) (ws : List Jvm.Cond) (q1 : Int64)  (h0 : Heap) (n0 : Nat) (Z0 : n0 ≤ h0.size)  :
    MetFree l x (head1 (Jvm.Cond.code x code maxLocals ret :: ws) room_1) (fun a U => a = #[(.long q1)] ∧ Z.Warmed39 U.vm ∧ U.heap = h0) (fun _ _ _ _ _ => True) (fun _ U o U' => ∃ v L, o = .returned v ∧ Q0 Z q1 h0 n0 v U'.heap L ∧ FrameEnd U o U' L room_1.cells room_1.slots) := by
  refine MetFree.of_bodySF (plainFor_of_name pn_1) hisR ?_
  intro p e s m args below meth c s₁ Bd hml0 hP hK
  obtain ⟨rfl, hZ, hh⟩ := hP
  have hx := Bd.exec
  have hby := Bd.bytes
  have hml : c.maxLocals = 6 := hml0
  have hown : s.vm.findClass "com/example/auscult/auscult/HeapShareStringPinLaw" = some m.cls := findClass_of_methodNamed Bd.named
  have hnm := (name_of_methodNamed Bd.named Bd.method).1
  have X0 : Stand p l e room_1 s m #[(.long q1)] below meth c s₁ [] 0 0 := Stand.of_body Bd
  have e0 : s₁.heap = h0 := by rw [← hh, Bd.state]; rfl
  have N0 := Fr.nil n0
  refine own_go (B := s₁.setTop (mkF m 0 #[.val (.long q1), .second, .unset, .unset, .unset, .unset] [])) (fun t kt => castTop (ef_0 m q1) kt) ?_
  refine own_go (B := s₁.setTop (mkF m 9 #[.val (.long q1), .second, .val (.long (q1 &&& (2305843009213693951 : Int64))), .second, .unset, .unset] [(.int (lcmpW (q1 &&& (2305843009213693951 : Int64)) (0 : Int64)))])) (fun t kt => ?_) ?_
  · show Steps p.tables e below (s₁.setTop (mkF m 0 #[.val (.long q1), .second, .unset, .unset, .unset, .unset] [])) _
    refine XS.lloadN X0.here hx rfl (hb hby at_0) rfl ?_
    show Steps p.tables e below (s₁.setTop (mkF m 1 #[.val (.long q1), .second, .unset, .unset, .unset, .unset] [(.long q1)])) _
    refine X0.ldc2Long hx hown (mvT hZ (hw _ (List.mem_of_getElem? (i := 0) rfl))) (g := (mkF m 1 #[.val (.long q1), .second, .unset, .unset, .unset, .unset] [(.long q1)])) rfl (hb hby at_1) _ ?_
    show Steps p.tables e below (s₁.setTop (mkF m 4 #[.val (.long q1), .second, .unset, .unset, .unset, .unset] [(.long (2305843009213693951 : Int64)), (.long q1)])) _
    refine XS.land X0.here hx rfl (hb hby at_4) rfl ?_
    show Steps p.tables e below (s₁.setTop (mkF m 5 #[.val (.long q1), .second, .unset, .unset, .unset, .unset] [(.long (q1 &&& (2305843009213693951 : Int64)))])) _
    refine XS.lstoreN X0.here hx rfl (hb hby at_5) rfl (l' := #[.val (.long q1), .second, .val (.long (q1 &&& (2305843009213693951 : Int64))), .second, .unset, .unset]) rfl ?_
    show Steps p.tables e below (s₁.setTop (mkF m 6 #[.val (.long q1), .second, .val (.long (q1 &&& (2305843009213693951 : Int64))), .second, .unset, .unset] [])) _
    refine XS.lloadN X0.here hx rfl (hb hby at_6) rfl ?_
    show Steps p.tables e below (s₁.setTop (mkF m 7 #[.val (.long q1), .second, .val (.long (q1 &&& (2305843009213693951 : Int64))), .second, .unset, .unset] [(.long (q1 &&& (2305843009213693951 : Int64)))])) _
    refine XS.lconst X0.here hx rfl (hb hby at_7) ?_
    show Steps p.tables e below (s₁.setTop (mkF m 8 #[.val (.long q1), .second, .val (.long (q1 &&& (2305843009213693951 : Int64))), .second, .unset, .unset] [(.long (0 : Int64)), (.long (q1 &&& (2305843009213693951 : Int64)))])) _
    refine XS.lcmp X0.here hx rfl (hb hby at_8) rfl ?_
    exact kt
  by_cases hc9 : (q1 &&& (2305843009213693951 : Int64)) = (0 : Int64)
  · refine own_go (B := s₁.setTop (mkF m 38 #[.val (.long q1), .second, .val (.long (q1 &&& (2305843009213693951 : Int64))), .second, .val (.long (0 : Int64)), .second] [(.long (q1 &&& (2305843009213693951 : Int64)))])) (fun t kt => ?_) ?_
    · show Steps p.tables e below (s₁.setTop (mkF m 9 #[.val (.long q1), .second, .val (.long (q1 &&& (2305843009213693951 : Int64))), .second, .unset, .unset] [(.int (lcmpW (q1 &&& (2305843009213693951 : Int64)) (0 : Int64)))])) _
      refine XS.ifNo X0.here hx rfl (hb hby at_9) rfl ((if0 _ _).trans (teq ((lw_eq _ _).mpr hc9)).2) ?_
      show Steps p.tables e below (s₁.setTop (mkF m 12 #[.val (.long q1), .second, .val (.long (q1 &&& (2305843009213693951 : Int64))), .second, .unset, .unset] [])) _
      refine XS.lconst X0.here hx rfl (hb hby at_12) ?_
      show Steps p.tables e below (s₁.setTop (mkF m 13 #[.val (.long q1), .second, .val (.long (q1 &&& (2305843009213693951 : Int64))), .second, .unset, .unset] [(.long (0 : Int64))])) _
      refine XS.lstore X0.here hx rfl (hb hby at_13) rfl (l' := #[.val (.long q1), .second, .val (.long (q1 &&& (2305843009213693951 : Int64))), .second, .val (.long (0 : Int64)), .second]) rfl ?_
      show Steps p.tables e below (s₁.setTop (mkF m 15 #[.val (.long q1), .second, .val (.long (q1 &&& (2305843009213693951 : Int64))), .second, .val (.long (0 : Int64)), .second] [])) _
      refine XS.goto X0.here hx rfl (pc0 := 15) (pc' := 37) rfl (hb hby at_15) (by decide) (by decide) ?_
      show Steps p.tables e below (s₁.setTop (mkF m 37 #[.val (.long q1), .second, .val (.long (q1 &&& (2305843009213693951 : Int64))), .second, .val (.long (0 : Int64)), .second] [])) _
      refine XS.lloadN X0.here hx rfl (hb hby at_37) rfl ?_
      exact kt
    obtain ⟨_, _, ⟨T3, L3, k3, n3⟩, -, X3, ⟨Lc3, hQ3, l3, y3, z3⟩, st3⟩ := Jvm.LawKit.callS X0 hx (y := (⟨"com/example/auscult/auscult/HeapShare", "string", "(J)J"⟩ : MethodName)) hown (mvT hZ (hw _ (List.mem_of_getElem? (i := 5) rfl))) (mvT hZ (hw _ (List.mem_of_getElem? (i := 6) rfl))) (mvT hZ (hw _ (List.mem_of_getElem? (i := 7) rfl))) (mvT hZ (hw _ (List.mem_of_getElem? (i := 8) rfl))) (by decide) (backOf (W := 0) (rm1 l Z a0 hw [] (q1 &&& (2305843009213693951 : Int64)) h0 n0 Z0) hZ (hw _ (List.mem_of_getElem? (i := 8) rfl)) (hw _ (List.mem_of_getElem? (i := 7) rfl)) (by decide) (by decide)) (g := (mkF m 38 #[.val (.long q1), .second, .val (.long (q1 &&& (2305843009213693951 : Int64))), .second, .val (.long (0 : Int64)), .second] [(.long (q1 &&& (2305843009213693951 : Int64)))])) rfl (by rw [hml]; rfl) (argsL := [(.long (q1 &&& (2305843009213693951 : Int64)))]) (rest := []) (lenOf pd_0 rfl) rfl (by show 2 * 0 + _ ≤ _; exact Nat.le_of_eq rfl) (hb hby at_38) (fun _ _ => ⟨rfl, e0, (by decide : 0 + 0 ≤ _), (by decide : 0 + 0 ≤ _)⟩)
    dsimp only [Pt.U, Pt.locs, Pt.cells, Pt.slots] at X3 l3 y3 z3 st3 hQ3
    subst l3 y3 z3
    obtain ⟨rfl, N3q, e3⟩ := hQ3
    have N3 := Fr.app N0 N3q
    refine own_go (B := T3.setTop (mkF m 41 #[.val (.long q1), .second, .val (.long (q1 &&& (2305843009213693951 : Int64))), .second, .val (.long (0 : Int64)), .second] [(.long (own_str (q1 &&& (2305843009213693951 : Int64))))])) (fun t kt => st3 t kt) ?_
    refine own_go (B := T3.setTop (mkF m 52 #[.val (.long q1), .second, .val (.long (q1 &&& (2305843009213693951 : Int64))), .second, .val (.long (0 : Int64)), .second] [(.int (1 : Int32))])) (fun t kt => ?_) ?_
    · show Steps p.tables e below (T3.setTop (mkF m 41 #[.val (.long q1), .second, .val (.long (q1 &&& (2305843009213693951 : Int64))), .second, .val (.long (0 : Int64)), .second] [(.long (own_str (q1 &&& (2305843009213693951 : Int64))))])) _
      refine XS.lload X3.here hx rfl (hb hby at_41) rfl ?_
      show Steps p.tables e below (T3.setTop (mkF m 43 #[.val (.long q1), .second, .val (.long (q1 &&& (2305843009213693951 : Int64))), .second, .val (.long (0 : Int64)), .second] [(.long (0 : Int64)), (.long (own_str (q1 &&& (2305843009213693951 : Int64))))])) _
      refine XS.lcmp X3.here hx rfl (hb hby at_43) rfl ?_
      show Steps p.tables e below (T3.setTop (mkF m 44 #[.val (.long q1), .second, .val (.long (q1 &&& (2305843009213693951 : Int64))), .second, .val (.long (0 : Int64)), .second] [(.int (lcmpW (own_str (q1 &&& (2305843009213693951 : Int64))) (0 : Int64)))])) _
      refine XS.ifNo X3.here hx rfl (hb hby at_44) rfl ((if0 _ _).trans (teq ((lw_eq _ _).mpr (own_zero hc9))).2) ?_
      show Steps p.tables e below (T3.setTop (mkF m 47 #[.val (.long q1), .second, .val (.long (q1 &&& (2305843009213693951 : Int64))), .second, .val (.long (0 : Int64)), .second] [])) _
      refine XS.iconst X3.here hx rfl (hb hby at_47) ?_
      show Steps p.tables e below (T3.setTop (mkF m 48 #[.val (.long q1), .second, .val (.long (q1 &&& (2305843009213693951 : Int64))), .second, .val (.long (0 : Int64)), .second] [(.int (1 : Int32))])) _
      refine XS.goto X3.here hx rfl (pc0 := 48) (pc' := 52) rfl (hb hby at_48) (by decide) (by decide) ?_
      exact kt
    obtain ⟨fs, hr, hrun, hended, hW, hsame⟩ := X3.leave (v := some (.int (1 : Int32))) (fun h => by rw [Bd.returns] at h; cases h)
    refine ⟨_, _, ?_, hrun, hended, _, _, rfl, ?_, ⟨_, rfl⟩, hW, hsame.mono (by decide) (by decide)⟩
    · show Steps p.tables e below (T3.setTop (mkF m 52 #[.val (.long q1), .second, .val (.long (q1 &&& (2305843009213693951 : Int64))), .second, .val (.long (0 : Int64)), .second] [(.int (1 : Int32))])) _
      exact retN X3 hx (t := .boolean) Bd.returns (by simp) (hb hby at_52) hr
    · show Q0 Z q1 h0 n0 _ T3.heap _
      rw [e3]
      exact ⟨rfl, N3⟩
  · refine own_go (B := s₁.setTop (mkF m 38 #[.val (.long q1), .second, .val (.long (q1 &&& (2305843009213693951 : Int64))), .second, .val (.long ((40 : Int64) + ((8 : Int64) * (((q1 &&& (2305843009213693951 : Int64)) + (3 : Int64)) / (4 : Int64))))), .second] [(.long (q1 &&& (2305843009213693951 : Int64)))])) (fun t kt => ?_) ?_
    · show Steps p.tables e below (s₁.setTop (mkF m 9 #[.val (.long q1), .second, .val (.long (q1 &&& (2305843009213693951 : Int64))), .second, .unset, .unset] [(.int (lcmpW (q1 &&& (2305843009213693951 : Int64)) (0 : Int64)))])) _
      refine XS.ifYes X0.here hx rfl (pc0 := 9) (pc' := 18) rfl (hb hby at_9) rfl ((if0 _ _).trans (feq (mt (lw_eq _ _).mp hc9)).2) (by decide) (by decide) ?_
      show Steps p.tables e below (s₁.setTop (mkF m 18 #[.val (.long q1), .second, .val (.long (q1 &&& (2305843009213693951 : Int64))), .second, .unset, .unset] [])) _
      refine X0.ldc2Long hx hown (mvT hZ (hw _ (List.mem_of_getElem? (i := 1) rfl))) (g := (mkF m 18 #[.val (.long q1), .second, .val (.long (q1 &&& (2305843009213693951 : Int64))), .second, .unset, .unset] [])) rfl (hb hby at_18) _ ?_
      show Steps p.tables e below (s₁.setTop (mkF m 21 #[.val (.long q1), .second, .val (.long (q1 &&& (2305843009213693951 : Int64))), .second, .unset, .unset] [(.long (40 : Int64))])) _
      refine X0.ldc2Long hx hown (mvT hZ (hw _ (List.mem_of_getElem? (i := 2) rfl))) (g := (mkF m 21 #[.val (.long q1), .second, .val (.long (q1 &&& (2305843009213693951 : Int64))), .second, .unset, .unset] [(.long (40 : Int64))])) rfl (hb hby at_21) _ ?_
      show Steps p.tables e below (s₁.setTop (mkF m 24 #[.val (.long q1), .second, .val (.long (q1 &&& (2305843009213693951 : Int64))), .second, .unset, .unset] [(.long (8 : Int64)), (.long (40 : Int64))])) _
      refine XS.lloadN X0.here hx rfl (hb hby at_24) rfl ?_
      show Steps p.tables e below (s₁.setTop (mkF m 25 #[.val (.long q1), .second, .val (.long (q1 &&& (2305843009213693951 : Int64))), .second, .unset, .unset] [(.long (q1 &&& (2305843009213693951 : Int64))), (.long (8 : Int64)), (.long (40 : Int64))])) _
      refine X0.ldc2Long hx hown (mvT hZ (hw _ (List.mem_of_getElem? (i := 3) rfl))) (g := (mkF m 25 #[.val (.long q1), .second, .val (.long (q1 &&& (2305843009213693951 : Int64))), .second, .unset, .unset] [(.long (q1 &&& (2305843009213693951 : Int64))), (.long (8 : Int64)), (.long (40 : Int64))])) rfl (hb hby at_25) _ ?_
      show Steps p.tables e below (s₁.setTop (mkF m 28 #[.val (.long q1), .second, .val (.long (q1 &&& (2305843009213693951 : Int64))), .second, .unset, .unset] [(.long (3 : Int64)), (.long (q1 &&& (2305843009213693951 : Int64))), (.long (8 : Int64)), (.long (40 : Int64))])) _
      refine XS.ladd X0.here hx rfl (hb hby at_28) rfl ?_
      show Steps p.tables e below (s₁.setTop (mkF m 29 #[.val (.long q1), .second, .val (.long (q1 &&& (2305843009213693951 : Int64))), .second, .unset, .unset] [(.long ((q1 &&& (2305843009213693951 : Int64)) + (3 : Int64))), (.long (8 : Int64)), (.long (40 : Int64))])) _
      refine X0.ldc2Long hx hown (mvT hZ (hw _ (List.mem_of_getElem? (i := 4) rfl))) (g := (mkF m 29 #[.val (.long q1), .second, .val (.long (q1 &&& (2305843009213693951 : Int64))), .second, .unset, .unset] [(.long ((q1 &&& (2305843009213693951 : Int64)) + (3 : Int64))), (.long (8 : Int64)), (.long (40 : Int64))])) rfl (hb hby at_29) _ ?_
      show Steps p.tables e below (s₁.setTop (mkF m 32 #[.val (.long q1), .second, .val (.long (q1 &&& (2305843009213693951 : Int64))), .second, .unset, .unset] [(.long (4 : Int64)), (.long ((q1 &&& (2305843009213693951 : Int64)) + (3 : Int64))), (.long (8 : Int64)), (.long (40 : Int64))])) _
      refine XS.ldiv X0.here hx rfl (hb hby at_32) rfl (by decide) ?_
      show Steps p.tables e below (s₁.setTop (mkF m 33 #[.val (.long q1), .second, .val (.long (q1 &&& (2305843009213693951 : Int64))), .second, .unset, .unset] [(.long (((q1 &&& (2305843009213693951 : Int64)) + (3 : Int64)) / (4 : Int64))), (.long (8 : Int64)), (.long (40 : Int64))])) _
      refine XS.lmul X0.here hx rfl (hb hby at_33) rfl ?_
      show Steps p.tables e below (s₁.setTop (mkF m 34 #[.val (.long q1), .second, .val (.long (q1 &&& (2305843009213693951 : Int64))), .second, .unset, .unset] [(.long ((8 : Int64) * (((q1 &&& (2305843009213693951 : Int64)) + (3 : Int64)) / (4 : Int64)))), (.long (40 : Int64))])) _
      refine XS.ladd X0.here hx rfl (hb hby at_34) rfl ?_
      show Steps p.tables e below (s₁.setTop (mkF m 35 #[.val (.long q1), .second, .val (.long (q1 &&& (2305843009213693951 : Int64))), .second, .unset, .unset] [(.long ((40 : Int64) + ((8 : Int64) * (((q1 &&& (2305843009213693951 : Int64)) + (3 : Int64)) / (4 : Int64)))))])) _
      refine XS.lstore X0.here hx rfl (hb hby at_35) rfl (l' := #[.val (.long q1), .second, .val (.long (q1 &&& (2305843009213693951 : Int64))), .second, .val (.long ((40 : Int64) + ((8 : Int64) * (((q1 &&& (2305843009213693951 : Int64)) + (3 : Int64)) / (4 : Int64))))), .second]) rfl ?_
      show Steps p.tables e below (s₁.setTop (mkF m 37 #[.val (.long q1), .second, .val (.long (q1 &&& (2305843009213693951 : Int64))), .second, .val (.long ((40 : Int64) + ((8 : Int64) * (((q1 &&& (2305843009213693951 : Int64)) + (3 : Int64)) / (4 : Int64))))), .second] [])) _
      refine XS.lloadN X0.here hx rfl (hb hby at_37) rfl ?_
      exact kt
    obtain ⟨_, _, ⟨T4, L4, k4, n4⟩, -, X4, ⟨Lc4, hQ4, l4, y4, z4⟩, st4⟩ := Jvm.LawKit.callS X0 hx (y := (⟨"com/example/auscult/auscult/HeapShare", "string", "(J)J"⟩ : MethodName)) hown (mvT hZ (hw _ (List.mem_of_getElem? (i := 5) rfl))) (mvT hZ (hw _ (List.mem_of_getElem? (i := 6) rfl))) (mvT hZ (hw _ (List.mem_of_getElem? (i := 7) rfl))) (mvT hZ (hw _ (List.mem_of_getElem? (i := 8) rfl))) (by decide) (backOf (W := 0) (rm1 l Z a0 hw [] (q1 &&& (2305843009213693951 : Int64)) h0 n0 Z0) hZ (hw _ (List.mem_of_getElem? (i := 8) rfl)) (hw _ (List.mem_of_getElem? (i := 7) rfl)) (by decide) (by decide)) (g := (mkF m 38 #[.val (.long q1), .second, .val (.long (q1 &&& (2305843009213693951 : Int64))), .second, .val (.long ((40 : Int64) + ((8 : Int64) * (((q1 &&& (2305843009213693951 : Int64)) + (3 : Int64)) / (4 : Int64))))), .second] [(.long (q1 &&& (2305843009213693951 : Int64)))])) rfl (by rw [hml]; rfl) (argsL := [(.long (q1 &&& (2305843009213693951 : Int64)))]) (rest := []) (lenOf pd_0 rfl) rfl (by show 2 * 0 + _ ≤ _; exact Nat.le_of_eq rfl) (hb hby at_38) (fun _ _ => ⟨rfl, e0, (by decide : 0 + 0 ≤ _), (by decide : 0 + 0 ≤ _)⟩)
    dsimp only [Pt.U, Pt.locs, Pt.cells, Pt.slots] at X4 l4 y4 z4 st4 hQ4
    subst l4 y4 z4
    obtain ⟨rfl, N4q, e4⟩ := hQ4
    have N4 := Fr.app N0 N4q
    refine own_go (B := T4.setTop (mkF m 41 #[.val (.long q1), .second, .val (.long (q1 &&& (2305843009213693951 : Int64))), .second, .val (.long ((40 : Int64) + ((8 : Int64) * (((q1 &&& (2305843009213693951 : Int64)) + (3 : Int64)) / (4 : Int64))))), .second] [(.long (own_str (q1 &&& (2305843009213693951 : Int64))))])) (fun t kt => st4 t kt) ?_
    refine own_go (B := T4.setTop (mkF m 52 #[.val (.long q1), .second, .val (.long (q1 &&& (2305843009213693951 : Int64))), .second, .val (.long ((40 : Int64) + ((8 : Int64) * (((q1 &&& (2305843009213693951 : Int64)) + (3 : Int64)) / (4 : Int64))))), .second] [(.int (1 : Int32))])) (fun t kt => ?_) ?_
    · show Steps p.tables e below (T4.setTop (mkF m 41 #[.val (.long q1), .second, .val (.long (q1 &&& (2305843009213693951 : Int64))), .second, .val (.long ((40 : Int64) + ((8 : Int64) * (((q1 &&& (2305843009213693951 : Int64)) + (3 : Int64)) / (4 : Int64))))), .second] [(.long (own_str (q1 &&& (2305843009213693951 : Int64))))])) _
      refine XS.lload X4.here hx rfl (hb hby at_41) rfl ?_
      show Steps p.tables e below (T4.setTop (mkF m 43 #[.val (.long q1), .second, .val (.long (q1 &&& (2305843009213693951 : Int64))), .second, .val (.long ((40 : Int64) + ((8 : Int64) * (((q1 &&& (2305843009213693951 : Int64)) + (3 : Int64)) / (4 : Int64))))), .second] [(.long ((40 : Int64) + ((8 : Int64) * (((q1 &&& (2305843009213693951 : Int64)) + (3 : Int64)) / (4 : Int64))))), (.long (own_str (q1 &&& (2305843009213693951 : Int64))))])) _
      refine XS.lcmp X4.here hx rfl (hb hby at_43) rfl ?_
      show Steps p.tables e below (T4.setTop (mkF m 44 #[.val (.long q1), .second, .val (.long (q1 &&& (2305843009213693951 : Int64))), .second, .val (.long ((40 : Int64) + ((8 : Int64) * (((q1 &&& (2305843009213693951 : Int64)) + (3 : Int64)) / (4 : Int64))))), .second] [(.int (lcmpW (own_str (q1 &&& (2305843009213693951 : Int64))) ((40 : Int64) + ((8 : Int64) * (((q1 &&& (2305843009213693951 : Int64)) + (3 : Int64)) / (4 : Int64))))))])) _
      refine XS.ifNo X4.here hx rfl (hb hby at_44) rfl ((if0 _ _).trans (teq ((lw_eq _ _).mpr (own_pos q1 rfl hc9))).2) ?_
      show Steps p.tables e below (T4.setTop (mkF m 47 #[.val (.long q1), .second, .val (.long (q1 &&& (2305843009213693951 : Int64))), .second, .val (.long ((40 : Int64) + ((8 : Int64) * (((q1 &&& (2305843009213693951 : Int64)) + (3 : Int64)) / (4 : Int64))))), .second] [])) _
      refine XS.iconst X4.here hx rfl (hb hby at_47) ?_
      show Steps p.tables e below (T4.setTop (mkF m 48 #[.val (.long q1), .second, .val (.long (q1 &&& (2305843009213693951 : Int64))), .second, .val (.long ((40 : Int64) + ((8 : Int64) * (((q1 &&& (2305843009213693951 : Int64)) + (3 : Int64)) / (4 : Int64))))), .second] [(.int (1 : Int32))])) _
      refine XS.goto X4.here hx rfl (pc0 := 48) (pc' := 52) rfl (hb hby at_48) (by decide) (by decide) ?_
      exact kt
    obtain ⟨fs, hr, hrun, hended, hW, hsame⟩ := X4.leave (v := some (.int (1 : Int32))) (fun h => by rw [Bd.returns] at h; cases h)
    refine ⟨_, _, ?_, hrun, hended, _, _, rfl, ?_, ⟨_, rfl⟩, hW, hsame.mono (by decide) (by decide)⟩
    · show Steps p.tables e below (T4.setTop (mkF m 52 #[.val (.long q1), .second, .val (.long (q1 &&& (2305843009213693951 : Int64))), .second, .val (.long ((40 : Int64) + ((8 : Int64) * (((q1 &&& (2305843009213693951 : Int64)) + (3 : Int64)) / (4 : Int64))))), .second] [(.int (1 : Int32))])) _
      exact retN X4 hx (t := .boolean) Bd.returns (by simp) (hb hby at_52) hr
    · show Q0 Z q1 h0 n0 _ T4.heap _
      rw [e4]
      exact ⟨rfl, N4⟩
set_option maxRecDepth 65536 in
set_option maxHeartbeats 40000000 in
theorem comes_1 {Post : Tables → Env → Array Value → State → Outcome → State → Prop} (hpost : ∀ tb e args s v u, (limb_1_1.after args s (.returned v) u = true ∧ limb_1_2.after args s (.returned v) u = true ∧ True) → FrameEnd s (.returned v) u (Jvm.fieldLocs frame_1_writes args s ++ Jvm.arrayLocs frame_1_arrays args s ++ Jvm.staticLocs frame_1_statics s) 0 0 → Post tb e args s (.returned v) u) :
    ArmFor flags0 classFile x code maxLocals ret World_1 tables_1 room_1 Calls_1 rest_1 Pre_1 Post := by
  intro l hfl _ _ p e ha hc hk s m args below hf hA hF happ hP
  obtain ⟨hcalls, hrest, hpre⟩ := hP
  obtain ⟨-, -, -, hnamed, -, -, -, hat⟩ := (Spec.applies_iff hf).mp happ
  obtain ⟨hg, hn⟩ := and_e (Cond.before_iff.mp (show (Jvm.Cond.and given_1 narrow_1).before args s = true from hpre))
  obtain ⟨gg1, gg2⟩ := and_e hg
  obtain ⟨w0, rfl⟩ : ∃ w0 : Value, args = #[w0] := by
    have hs : args.size = 1 := by simpa [Cond.value, given_1] using gg1
    obtain ⟨L⟩ := args
    match L, hs with
    | [w0], _ => exact ⟨w0, rfl⟩
  have hw := fun d (hd : d ∈ tables_1) => atoms_spec (ws := Jvm.Cond.code x code maxLocals ret :: tables_1) hat d (List.mem_cons_of_mem _ hd)
  obtain ⟨i0, ei0⟩ := isL_v gg2
  obtain rfl : w0 = (.long i0) := Option.some.inj ei0
  obtain ⟨n, o, h1, h2, h3, _, L, rfl, ⟨rfl, N⟩, hq⟩ := rm0 l s _ hw tables_1 i0  s.heap s.heap.size (Nat.le_refl _)  p e ha hc hk s m _ below hf ((Spec.applies_iff_loose hf).mp happ).1 ⟨rfl, State.Warmed39.refl s, rfl⟩ trivial
  refine ⟨n, _, h1, h2, h3, hpost _ _ _ _ _ _ ⟨Cond.after_iff.mpr rfl, Cond.after_iff.mpr (eq_i res_at (Term.int_eval (1)) rfl), trivial⟩ ⟨hq.1, hq.2.1, (hq.2.2.sift fun y hy => Or.inr (N y hy)).mono (by decide) (by decide)⟩⟩
theorem main_1_1 : Claimed_1_1 := comes_1 fun _ _ _ _ _ _ h hF => ⟨h.1, hF⟩
theorem main_1_2 : Claimed_1_2 := comes_1 fun _ _ _ _ _ _ h hF => ⟨h.2.1, hF⟩
end Jvm.Pilot.@@N@@
namespace Jvm.Pilot.@@N@@
open Jvm Jvm.ClassFile Sem Op Lib Jvm.Free Jvm.Stand Jvm.Pilot.@@N@@.Jvm.D
/-! MADE BY PROGRAM (witnessworld.py) out of the Statement's table words and the real class files: 9 classes; the members and pool entries that the words name. The judged class is class 1, her method 1. -/
namespace start1
open Jvm.ClassFile
def u (s : String) : CpInfo := .utf8 (stringToUtf16 s)
/-- a pool by its gaps: so many unusable entries, then the entry; so many at the end -/
def gap : Nat → List CpInfo → List CpInfo
  | 0, r => r
  | n + 1, r => .unusable :: gap n r
def poolList (es : List (Nat × CpInfo)) (last : Nat) : List CpInfo := es.foldr (fun e r => gap e.1 (e.2 :: r)) (gap last [])
def pool (es : List (Nat × CpInfo)) (last : Nat) : Array CpInfo := ⟨poolList es last⟩
def fileOf (pool : Array CpInfo) (this : Nat) (attrs : Array Attribute := #[]) (ms : Array MethodInfo := #[]) (fl : Nat := 33) (sup : Nat := 0) (ifs : Array Nat := #[]) (fds : Array FieldInfo := #[]) : ClassFile where
  minorVersion := 0
  majorVersion := 65
  constantPool := pool
  accessFlags := fl
  thisClass := this
  superClass := sup
  interfaces := ifs
  fields := fds
  methods := ms
  attributes := attrs
def plain (name : String) (sup : Option ClassId) : Class where
  name := name
  kind := .ordinary
  loader := none
  accessFlags := 33
  super := sup
  interfaces := #[]
  cf := none
  fields := #[]
  methods := #[]
  instanceTypes := #[]
  staticTypes := #[]
  resolved := #[]
  callSites := []
  init := .initialized
  statics := none
  mirror := none

def pool0 : Array CpInfo := pool [(5, u "<init>"), (0, u "()V"), (1, .class_ 10), (1, u "java/lang/Object")] 113

def k0m0 : Method := { name := "<init>", desc := "()V", sig := { parameters := [], returnType := none }, accessFlags := 1, code := none }
/-- java/lang/Object -/
def k0 : Class := { plain "java/lang/Object" none with
  accessFlags := 33
  interfaces := #[]
  cf := some (fileOf pool0 8 #[] #[{ accessFlags := 1, nameIndex := 5, descriptorIndex := 6, attributes := #[] }] 33 0 #[] #[])
  fields := #[]
  methods := #[k0m0]
  instanceTypes := #[]
  staticTypes := #[]
  resolved := Array.replicate 124 none
  statics := none }

def pool1 : Array CpInfo := pool [(2, .class_ 4), (1, u "java/lang/Object"), (0, u "<init>"), (0, u "()V"), (0, .long 2305843009213693951), (1, .long 40), (1, .long 8), (1, .long 3), (1, .long 4), (1, .methodref 18 19), (0, .class_ 20), (0, .nameAndType 21 22), (0, u "com/example/auscult/auscult/HeapShare"), (0, u "string"), (0, u "(J)J"), (0, .class_ 24), (0, u "com/example/auscult/auscult/HeapShareStringPinLaw"), (2, u "law"), (0, u "(J)Z")] 3

def k1m0 : Method := { name := "<init>", desc := "()V", sig := { parameters := [], returnType := none }, accessFlags := 1, code := none }
def k1c1 : Code := { maxStack := 8, maxLocals := 6, code := code, exceptionTable := #[], attributes := #[] }
def k1m1 : Method := { name := "law", desc := "(J)Z", sig := { parameters := [.long], returnType := some .boolean }, accessFlags := 9, code := some k1c1 }
/-- com/example/auscult/auscult/HeapShareStringPinLaw -/
def k1 : Class := { plain "com/example/auscult/auscult/HeapShareStringPinLaw" (some 0) with
  accessFlags := 49
  interfaces := #[]
  cf := some (fileOf pool1 23 #[] #[{ accessFlags := 1, nameIndex := 5, descriptorIndex := 6, attributes := #[] }, { accessFlags := 9, nameIndex := 27, descriptorIndex := 28, attributes := #[] }] 49 2 #[] #[])
  fields := #[]
  methods := #[k1m0, k1m1]
  instanceTypes := #[]
  staticTypes := #[]
  resolved := Array.replicate 32 none
  statics := none }

def pool2 : Array CpInfo := pool [(1, .class_ 2), (0, u "com/example/auscult/auscult/HeapShare"), (1, .class_ 6), (1, u "java/lang/Object"), (7, u "held"), (0, u "Ljava/util/concurrent/atomic/AtomicLong;"), (5, u "refused"), (0, u "Ljava/util/concurrent/atomic/AtomicBoolean;"), (2, u "holders"), (0, u "Ljava/lang/String;"), (2, u "limit"), (0, u "J"), (8, u "string"), (0, u "(J)J"), (0, .long 24), (1, .methodref 1 44), (0, .nameAndType 45 40), (0, u "align"), (0, .long 16), (1, .long 2), (1, .long 7), (1, .long 18446744073709551608), (17, .class_ 71), (0, u "com/example/auscult/auscult/HeapShare$Full"), (32, u "REFERENCE"), (0, u "I"), (2, u "HEADER"), (1, u "MAP_ENTRY"), (1, u "LISTED")] 33

def k2c0 : Code := { maxStack := 8, maxLocals := 2, code := prog_36_method_3_code, exceptionTable := #[], attributes := #[] }
def k2m0 : Method := { name := "string", desc := "(J)J", sig := { parameters := [.long], returnType := some .long }, accessFlags := 8, code := some k2c0 }
def k2c1 : Code := { maxStack := 4, maxLocals := 2, code := prog_36_method_4_code, exceptionTable := #[], attributes := #[] }
def k2m1 : Method := { name := "align", desc := "(J)J", sig := { parameters := [.long], returnType := some .long }, accessFlags := 8, code := some k2c1 }
/-- com/example/auscult/auscult/HeapShare -/
def k2 : Class := { plain "com/example/auscult/auscult/HeapShare" (some 0) with
  accessFlags := 48
  interfaces := #[]
  cf := some (fileOf pool2 1 #[.nestMembers #[70]] #[{ accessFlags := 8, nameIndex := 39, descriptorIndex := 40, attributes := #[] }, { accessFlags := 8, nameIndex := 45, descriptorIndex := 40, attributes := #[] }] 48 4 #[] #[{ accessFlags := 24, nameIndex := 104, descriptorIndex := 105, attributes := #[] }, { accessFlags := 24, nameIndex := 108, descriptorIndex := 105, attributes := #[] }, { accessFlags := 24, nameIndex := 110, descriptorIndex := 105, attributes := #[] }, { accessFlags := 24, nameIndex := 112, descriptorIndex := 105, attributes := #[] }, { accessFlags := 18, nameIndex := 25, descriptorIndex := 26, attributes := #[] }, { accessFlags := 18, nameIndex := 29, descriptorIndex := 30, attributes := #[] }, { accessFlags := 18, nameIndex := 14, descriptorIndex := 15, attributes := #[] }, { accessFlags := 18, nameIndex := 21, descriptorIndex := 22, attributes := #[] }])
  fields := #[{ name := "REFERENCE", type := .int, accessFlags := 24, slot := 0, constantValue := 0 }, { name := "HEADER", type := .int, accessFlags := 24, slot := 1, constantValue := 0 }, { name := "MAP_ENTRY", type := .int, accessFlags := 24, slot := 2, constantValue := 0 }, { name := "LISTED", type := .int, accessFlags := 24, slot := 3, constantValue := 0 }, { name := "holders", type := (.object "java/lang/String"), accessFlags := 18, slot := 0, constantValue := 0 }, { name := "limit", type := .long, accessFlags := 18, slot := 1, constantValue := 0 }, { name := "held", type := (.object "java/util/concurrent/atomic/AtomicLong"), accessFlags := 18, slot := 2, constantValue := 0 }, { name := "refused", type := (.object "java/util/concurrent/atomic/AtomicBoolean"), accessFlags := 18, slot := 3, constantValue := 0 }]
  methods := #[k2m0, k2m1]
  instanceTypes := #[(.object "java/lang/String"), .long, (.object "java/util/concurrent/atomic/AtomicLong"), (.object "java/util/concurrent/atomic/AtomicBoolean")]
  staticTypes := #[.int, .int, .int, .int]
  resolved := Array.replicate 146 none
  statics := none }

def pool3 : Array CpInfo := pool [(1, u "java/lang/Cloneable"), (0, .class_ 1), (0, u "java/lang/Object"), (0, .class_ 3)] 3

/-- java/lang/Cloneable -/
def k3 : Class := { plain "java/lang/Cloneable" (some 0) with
  accessFlags := 1537
  interfaces := #[]
  cf := some (fileOf pool3 2 #[] #[] 1537 4 #[] #[])
  fields := #[]
  methods := #[]
  instanceTypes := #[]
  staticTypes := #[]
  resolved := Array.replicate 8 none
  statics := none }

def pool4 : Array CpInfo := pool [(1, u "java/io/Serializable"), (0, .class_ 1), (0, u "java/lang/Object"), (0, .class_ 3)] 3

/-- java/io/Serializable -/
def k4 : Class := { plain "java/io/Serializable" (some 0) with
  accessFlags := 1537
  interfaces := #[]
  cf := some (fileOf pool4 2 #[] #[] 1537 4 #[] #[])
  fields := #[]
  methods := #[]
  instanceTypes := #[]
  staticTypes := #[]
  resolved := Array.replicate 8 none
  statics := none }

/-- the primitive byte -/
def k5 : Class := { plain "byte" none with kind := .primitive 'B', accessFlags := 0x411 }
/-- [B -/
def k6 : Class := { plain "[B" (some 0) with kind := .array 5 .byte, interfaces := #[3, 4], accessFlags := 1041 }

/-- the primitive int -/
def k7 : Class := { plain "int" none with kind := .primitive 'I', accessFlags := 0x411 }
/-- [I -/
def k8 : Class := { plain "[I" (some 0) with kind := .array 7 .int, interfaces := #[3, 4], accessFlags := 1041 }

def heap : Heap := #[]
def classes : Array Class := #[k0, k1, k2, k3, k4, k5, k6, k7, k8]
def interned : List (Array UInt16 × Addr) := []
def slotsUsed : Nat := 0
def theMethod : MethodId := ⟨1, 1⟩
def args0 : Array Value := #[.long 5]
def aboutOver (below : List Frame) : State where
  vm := { classes := classes, interned := interned.toArray }
  heap := heap
  slotsUsed := slotsUsed
  threads := #[{ frames := .invoking theMethod args0 :: below }]
def below0 : List Frame := [.native { method := ⟨0, 0⟩, args := #[] }]
def about1 : State := aboutOver below0
def p0 : Program := .bare "" "" ""
def e0 : Env := launch0.env 0 0 0
theorem w_frames : about1.frames = Frame.invoking theMethod args0 :: below0 := rfl
set_option maxRecDepth 65536 in
theorem w_args : argsFit about1.vm theMethod args0 = true := by decide +kernel
set_option maxRecDepth 65536 in
theorem w_heap : heapFits about1 = true := by decide +kernel
set_option maxRecDepth 65536 in
theorem w_runnable : about1.curStatus? = some .runnable := by decide +kernel
set_option maxRecDepth 65536 in
theorem w_alone : about1.alone = true := by decide +kernel
set_option maxRecDepth 65536 in
theorem w_named : about1.methodNamed? x = some theMethod := by decide +kernel
set_option maxRecDepth 65536 in
theorem w_hears : about1.hears theMethod below0 = true := by decide +kernel
set_option maxRecDepth 65536 in
theorem w_ripe : about1.ripe theMethod args0 below0 = true := by decide +kernel
theorem w_running : about1.status = .running := rfl
set_option maxRecDepth 65536 in
theorem w_room : about1.hasRoom e0.platform room_1 = true :=
  launch0.hasRoom_least _ room_1 (by decide +kernel) (by decide +kernel) (by decide +kernel) (by decide +kernel) (by decide +kernel) (by decide +kernel)
theorem allAtoms_all (ts : List Jvm.Cond) (a : Array Jvm.Value) (st : Jvm.State) : (allAtoms ts).before a st = ts.all (fun c => c.before a st) := by
  induction ts with
  | nil => rfl
  | cons c t ih =>
    show (Jvm.Cond.and c (allAtoms t)).before a st = _
    rw [Jvm.Cond.before_and, ih, List.all_cons]
def words1 : List Jvm.Cond := Jvm.Cond.code x code maxLocals ret :: tables_1
/-- a 'code' word, met by the world's own term for the bytes: nothing is compared byte by byte -/
theorem code_word {y : MethodName} {bytes : ByteArray} {mx : Nat} {rt : Option FieldType} {a : Array Value} {s : State} {m : MethodId} {meth : Method} {c : Code} (h1 : s.methodNamed? y = some m) (h2 : s.vm.method? m = some meth) (h3 : meth.code = some c) (h4 : c.code = bytes)
    (h5 : (c.maxLocals == mx && c.exceptionTable.isEmpty && decide (c.maxStack ≤ mostOperands) && decide (meth.sig.returnType = rt) && !meth.locks && decide (parseMethodDescriptor y.desc = some meth.sig)) = true) : (Jvm.Cond.code y bytes mx rt).before a s = true := by
  simp only [Bool.and_eq_true, beq_iff_eq, Bool.not_eq_true', decide_eq_true_eq] at h5
  obtain ⟨⟨⟨⟨⟨g1, g2⟩, g3⟩, g4⟩, g5⟩, g6⟩ := h5
  simp [Cond.before, Cond.holds, Cond.value, h1, h2, h3, h4, g1, g2, g3, g4, g5, g6]
def isCode : Jvm.Cond → Bool
  | .code _ _ _ _ => true
  | _ => false
theorem all_split {L : List Jvm.Cond} {P : Jvm.Cond → Bool} (h1 : L.all (fun c => isCode c || P c) = true) (h2 : ∀ c ∈ L.filter isCode, P c = true) : L.all P = true := by
  refine List.all_eq_true.mpr fun c hc => ?_
  have h := List.all_eq_true.mp h1 c hc
  rcases Bool.eq_false_or_eq_true (isCode c) with hi | hi
  · exact h2 c (List.mem_filter.mpr ⟨hc, hi⟩)
  · simpa [hi] using h
set_option maxRecDepth 65536 in
theorem w_c0 : (Jvm.Cond.code x code maxLocals ret).before args0 about1 = true := code_word (m := ⟨1, 1⟩) (meth := k1m1) (c := k1c1) (by decide +kernel) rfl rfl rfl (by decide +kernel)
set_option maxRecDepth 65536 in
theorem w_c1 : (Jvm.Cond.code ({ cls := "com/example/auscult/auscult/HeapShare", name := "string", desc := "(J)J" } : Jvm.MethodName) prog_36_method_3_code (2 : Nat) (Option.some Jvm.ClassFile.FieldType.long)).before args0 about1 = true := code_word (m := ⟨2, 0⟩) (meth := k2m0) (c := k2c0) (by decide +kernel) rfl rfl rfl (by decide +kernel)
set_option maxRecDepth 65536 in
theorem w_c2 : (Jvm.Cond.code ({ cls := "com/example/auscult/auscult/HeapShare", name := "align", desc := "(J)J" } : Jvm.MethodName) prog_36_method_4_code (2 : Nat) (Option.some Jvm.ClassFile.FieldType.long)).before args0 about1 = true := code_word (m := ⟨2, 1⟩) (meth := k2m1) (c := k2c1) (by decide +kernel) rfl rfl rfl (by decide +kernel)
def codes1 : List Jvm.Cond := [Jvm.Cond.code x code maxLocals ret, Jvm.Cond.code ({ cls := "com/example/auscult/auscult/HeapShare", name := "string", desc := "(J)J" } : Jvm.MethodName) prog_36_method_3_code (2 : Nat) (Option.some Jvm.ClassFile.FieldType.long), Jvm.Cond.code ({ cls := "com/example/auscult/auscult/HeapShare", name := "align", desc := "(J)J" } : Jvm.MethodName) prog_36_method_4_code (2 : Nat) (Option.some Jvm.ClassFile.FieldType.long)]
set_option maxRecDepth 65536 in
theorem codes_eq : words1.filter isCode = codes1 := rfl
theorem w_codes : ∀ c ∈ words1.filter isCode, c.before args0 about1 = true := by
  rw [codes_eq]
  intro c hc
  simp only [codes1, List.mem_cons, List.not_mem_nil, or_false] at hc
  rcases hc with rfl | rfl | rfl
  · exact w_c0
  · exact w_c1
  · exact w_c2
set_option maxRecDepth 65536 in
theorem w_t1 : words1.all (fun c => isCode c || c.before args0 about1) = true := by decide +kernel
theorem w_tables : (allAtoms (Jvm.Cond.code x code maxLocals ret :: tables_1)).before args0 about1 = true := by
  rw [allAtoms_all]
  show words1.all (fun c => c.before args0 about1) = true
  refine all_split ?_ w_codes
  rw [w_t1]
set_option maxRecDepth 65536 in
theorem w_case : (Jvm.Cond.and given_1 narrow_1).before args0 about1 = true := by decide +kernel
theorem w_applies : (headSpec (Jvm.Cond.code x code maxLocals ret :: tables_1) room_1).applies x e0.platform about1 = true :=
  (Spec.applies_iff w_frames).mpr ⟨w_running, w_runnable, w_alone, w_named, w_hears, w_ripe, w_room, w_tables⟩
theorem atStart : AtStart classFile x code maxLocals ret World_1 tables_1 room_1 Calls_1 rest_1 Pre_1 launch0 p0 e0 about1 theMethod args0 below0 :=
  ⟨lists_1, trivial, launch0.admits_env _ _ _, launch0.least_env, fairChoices_fair.cas, fairChoices_fair.clock, w_frames, w_args, w_heap, w_applies, trivial, trivial, w_case⟩
end start1
theorem witness_1 : WitnessClaimed_1 := ⟨start1.p0, start1.e0, start1.about1, start1.theMethod, start1.args0, start1.below0, start1.atStart⟩
end Jvm.Pilot.@@N@@
