import JvmDerived
import JvmDerived.Pilot.@@N@@Statement
import JvmDerived.Pilot.@@N@@Code
set_option linter.unusedVariables false
set_option linter.unusedSimpArgs false
namespace Jvm.RoadKit
open Sem ClassFile Op Lib Jvm.Stand Jvm.Free Jvm.LawKit
section New
variable {p : Program} {l : Launch} {e : Env} {R : Room} {s : State} {m : MethodId} {args : Array Value} {below : List Frame} {meth : Method} {c : Code} {T : State} {locs : List Loc} {cells slots : Nat}
theorem retI (X : Stand p l e R s m args below meth c T locs cells slots) (hx : p.tables.exec = Jvm.exec) {pc : Nat} {Ls : Array Slot} {z : Int32} {rest : List Value} (hret : meth.sig.returnType = some .int) (hd : decode c.code pc = .ok (.ireturn, 1)) {fs : List Frame}
    (hl : ∀ (f : JFrame) (acts : List Action), f.method = m → f.locked = none → f.entered = [] → (doReturn e (T.setTop f) acts (some (.int z))).1 = T.setFrames fs) : Steps p.tables e below (T.setTop (mkF m pc Ls (.int z :: rest))) (T.setFrames fs) := by
  have hm' : T.vm.method? m = some meth := X.method'
  have hn : narrow .int (.int z) = .int z := rfl
  show Steps p.tables e below (T.setTop { method := m, pc := pc, locals := Ls, stack := _ :: rest, locked := none }) _
  jvm_step X.here [X.here.top, hx, hd, hm', hret, hn]
  first | (intro acts; rw [hl _ acts rfl rfl rfl]) | rw [hl _ _ rfl rfl rfl]
  exact Steps.refl _
end New
end Jvm.RoadKit
namespace Jvm.Pilot.@@N@@
open Jvm Jvm.ClassFile Sem Op Lib Jvm.Free Jvm.Stand Jvm.LawKit Jvm.RoadKit Bundle Jvm.Pilot.@@N@@.Jvm.D
/-- the goal of a walk, carried over a piece of it -/
theorem own_go {tb : Tables} {e : Env} {below : List Frame} {A B : State} {P : State → Outcome → Prop} (st : ∀ t, Steps tb e below B t → Steps tb e below A t) (h : ∃ s₂ o, Steps tb e below B s₂ ∧ P s₂ o) : ∃ s₂ o, Steps tb e below A s₂ ∧ P s₂ o := by
  obtain ⟨s₂, o, h1, h2⟩ := h
  exact ⟨s₂, o, st _ h1, h2⟩
/-- a boolean as the int that the machine holds -/
def own_i (b : Bool) : Int32 := if b = true then 1 else 0
theorem own_i1 {b : Bool} (h : b = true) : ¬ (own_i b = 0) := by subst h; decide
theorem own_i0 {b : Bool} (h : ¬ b = true) : own_i b = 0 := by cases b; · rfl
                                                               · exact absurd rfl h
theorem own_it {b : Bool} (h : b = true) : own_i b = 1 := by subst h; rfl
theorem own_nb (b : Bool) : nar .boolean (own_i b) = own_i b := by cases b <;> decide
theorem own_lt {i n : Nat} (h : i < n) (hn : n ≤ 255) : Int32.ofNat i < Int32.ofNat n := by
  rw [Int32.lt_iff_toInt_lt, Int32.toInt_ofNat_of_lt (by omega), Int32.toInt_ofNat_of_lt (by omega)]
  omega
theorem own_nn {n : Nat} (hn : n ≤ 255) : ¬ Int32.ofNat n < 0 := by
  rw [Int32.lt_iff_toInt_lt, Int32.toInt_ofNat_of_lt (by omega), show (0 : Int32).toInt = 0 from rfl]
  omega
theorem own_n32 {n : Nat} (hn : n ≤ 255) : (Int32.ofNat n).toNatClampNeg = n := by
  rw [Int32.toNatClampNeg, Int32.toInt_ofNat_of_lt (by omega)]; rfl
theorem own_one (i : Nat) : Int32.ofNat i + (1 : Int32) = Int32.ofNat (i + 1) := (Int32.ofNat_add i 1).symm
theorem own_gt13 {w : Int32} (h : (13 : Int32) < w) : ¬ w = (13 : Int32) := fun e => by rw [e] at h; exact absurd h (by decide)
theorem own_gt10 {w : Int32} (h : (13 : Int32) < w) : ¬ w = (10 : Int32) := fun e => by rw [e] at h; exact absurd h (by decide)
theorem own_nc (x : Int32) : nar .char (nar .char x) = nar .char x := by
  show ((x.toUInt32.toUInt16.toUInt32.toInt32).toUInt32.toUInt16.toUInt32.toInt32) = x.toUInt32.toUInt16.toUInt32.toInt32
  apply Int32.toBitVec_inj.mp
  apply BitVec.eq_of_toNat_eq
  show ((x.toUInt32.toUInt16.toUInt32.toInt32).toUInt32.toUInt16.toUInt32).toNat = (x.toUInt32.toUInt16.toUInt32).toNat
  rw [UInt16.toNat_toUInt32, UInt16.toNat_toUInt32, UInt32.toNat_toUInt16]
  show (x.toUInt32.toUInt16.toUInt32).toNat % 2 ^ 16 = _
  rw [UInt16.toNat_toUInt32]
  exact Nat.mod_eq_of_lt x.toUInt32.toUInt16.toNat_lt
/-- the line behind a sign: pc: the sign before was a carriage return; cr, lf: this one is one, is a line feed -/
def own_ln (l : Int32) (pc cr lf : Bool) : Int32 := if (cr || (lf && !pc)) = true then l + (1 : Int32) else l
def own_cl (c : Int32) (pc cr lf : Bool) : Int32 := if (cr || (lf && !pc)) = true then (0 : Int32) else if lf = true then c else c + (1 : Int32)
def own_step (st : Int32 × Int32 × Int32) (y : Int32) : Int32 × Int32 × Int32 := (own_ln st.1 (decide (st.2.2 = (13 : Int32))) (decide (y = (13 : Int32))) (decide (y = (10 : Int32))), own_cl st.2.1 (decide (st.2.2 = (13 : Int32))) (decide (y = (13 : Int32))) (decide (y = (10 : Int32))), y)
def own_run (st : Int32 × Int32 × Int32) : List Int32 → Int32 × Int32 × Int32
  | [] => st
  | y :: ys => own_run (own_step st y) ys
theorem own_ex (y : Int32) : (decide (y = (13 : Int32)) && decide (y = (10 : Int32))) = false := by
  by_cases h : y = (13 : Int32)
  · subst h; decide
  · simp [h]
theorem own_len (x : Int32) : ((x &&& (2147483647 : Int32)) % (5 : Int32)) = (0 : Int32) ∨ ((x &&& (2147483647 : Int32)) % (5 : Int32)) = (1 : Int32) ∨ ((x &&& (2147483647 : Int32)) % (5 : Int32)) = (2 : Int32) ∨ ((x &&& (2147483647 : Int32)) % (5 : Int32)) = (3 : Int32) ∨ ((x &&& (2147483647 : Int32)) % (5 : Int32)) = (4 : Int32) := by
  have e : (x &&& (2147483647 : Int32)).toBitVec.toNat ≤ 2147483647 := by
    rw [Int32.toBitVec_and, BitVec.toNat_and]
    exact Nat.and_le_right
  have h0 : 0 ≤ (x &&& (2147483647 : Int32)).toInt := by
    show 0 ≤ BitVec.toInt _
    rw [BitVec.toInt_eq_toNat_cond, if_pos (by omega)]
    omega
  have h1 : ((x &&& (2147483647 : Int32)) % (5 : Int32)).toInt = (x &&& (2147483647 : Int32)).toInt % 5 := by
    rw [Int32.toInt_mod, show (5 : Int32).toInt = 5 from rfl, Int.tmod_eq_emod_of_nonneg h0]
  simp only [← Int32.toInt_inj, h1, show (0 : Int32).toInt = 0 from rfl, show (1 : Int32).toInt = 1 from rfl, show (2 : Int32).toInt = 2 from rfl, show (3 : Int32).toInt = 3 from rfl, show (4 : Int32).toInt = 4 from rfl]
  omega
/-- what the law's own helpers say -/
def own_lines (p2 y0 y1 y2 y3 : Int32) : Int32 := ((((1 : Int32) + ((((own_i (decide ((0 : Int32) < p2) && decide (y0 = (13 : Int32)))) + (own_i (decide ((1 : Int32) < p2) && decide (y1 = (13 : Int32))))) + (own_i (decide ((2 : Int32) < p2) && decide (y2 = (13 : Int32))))) + (own_i (decide ((3 : Int32) < p2) && decide (y3 = (13 : Int32)))))) + ((((own_i (decide ((0 : Int32) < p2) && decide (y0 = (10 : Int32)))) + (own_i (decide ((1 : Int32) < p2) && decide (y1 = (10 : Int32))))) + (own_i (decide ((2 : Int32) < p2) && decide (y2 = (10 : Int32))))) + (own_i (decide ((3 : Int32) < p2) && decide (y3 = (10 : Int32)))))) - (((own_i (decide (((0 : Int32) + (1 : Int32)) < p2) && (decide (y0 = (13 : Int32)) && decide (y1 = (10 : Int32))))) + (own_i (decide (((1 : Int32) + (1 : Int32)) < p2) && (decide (y1 = (13 : Int32)) && decide (y2 = (10 : Int32)))))) + (own_i (decide (((2 : Int32) + (1 : Int32)) < p2) && (decide (y2 = (13 : Int32)) && decide (y3 = (10 : Int32)))))))
def own_col (p2 y0 y1 y2 y3 : Int32) : Int32 := ((p2 - (1 : Int32)) - (if (decide ((3 : Int32) < p2) && (decide (y3 = (13 : Int32)) || decide (y3 = (10 : Int32)))) = true then (3 : Int32) else (if (decide ((2 : Int32) < p2) && (decide (y2 = (13 : Int32)) || decide (y2 = (10 : Int32)))) = true then (2 : Int32) else (if (decide ((1 : Int32) < p2) && (decide (y1 = (13 : Int32)) || decide (y1 = (10 : Int32)))) = true then (1 : Int32) else (if (decide ((0 : Int32) < p2) && (decide (y0 = (13 : Int32)) || decide (y0 = (10 : Int32)))) = true then (0 : Int32) else (-1 : Int32))))))
set_option maxRecDepth 65536 in
theorem own_A0 (y0 y1 y2 y3 : Int32) : (own_run ((1 : Int32), (0 : Int32), (0 : Int32)) []).1 = own_lines (0 : Int32) y0 y1 y2 y3 := by
  have e0 := own_ex y0
  have e1 := own_ex y1
  have e2 := own_ex y2
  have e3 := own_ex y3
  have hz : decide ((0 : Int32) = (13 : Int32)) = false := by decide
  simp only [own_run, own_step, own_lines, own_col, hz]
  revert e0 e1 e2 e3
  generalize decide (y0 = (13 : Int32)) = a0
  generalize decide (y0 = (10 : Int32)) = b0
  generalize decide (y1 = (13 : Int32)) = a1
  generalize decide (y1 = (10 : Int32)) = b1
  generalize decide (y2 = (13 : Int32)) = a2
  generalize decide (y2 = (10 : Int32)) = b2
  generalize decide (y3 = (13 : Int32)) = a3
  generalize decide (y3 = (10 : Int32)) = b3
  revert a0 b0 a1 b1 a2 b2 a3 b3
  decide +kernel
set_option maxRecDepth 65536 in
theorem own_B0 (y0 y1 y2 y3 : Int32) : (own_run ((1 : Int32), (0 : Int32), (0 : Int32)) []).2.1 = own_col (0 : Int32) y0 y1 y2 y3 := by
  have e0 := own_ex y0
  have e1 := own_ex y1
  have e2 := own_ex y2
  have e3 := own_ex y3
  have hz : decide ((0 : Int32) = (13 : Int32)) = false := by decide
  simp only [own_run, own_step, own_lines, own_col, hz]
  revert e0 e1 e2 e3
  generalize decide (y0 = (13 : Int32)) = a0
  generalize decide (y0 = (10 : Int32)) = b0
  generalize decide (y1 = (13 : Int32)) = a1
  generalize decide (y1 = (10 : Int32)) = b1
  generalize decide (y2 = (13 : Int32)) = a2
  generalize decide (y2 = (10 : Int32)) = b2
  generalize decide (y3 = (13 : Int32)) = a3
  generalize decide (y3 = (10 : Int32)) = b3
  revert a0 b0 a1 b1 a2 b2 a3 b3
  decide +kernel
set_option maxRecDepth 65536 in
theorem own_A1 (y0 y1 y2 y3 : Int32) : (own_run ((1 : Int32), (0 : Int32), (0 : Int32)) [y0]).1 = own_lines (1 : Int32) y0 y1 y2 y3 := by
  have e0 := own_ex y0
  have e1 := own_ex y1
  have e2 := own_ex y2
  have e3 := own_ex y3
  have hz : decide ((0 : Int32) = (13 : Int32)) = false := by decide
  simp only [own_run, own_step, own_lines, own_col, hz]
  revert e0 e1 e2 e3
  generalize decide (y0 = (13 : Int32)) = a0
  generalize decide (y0 = (10 : Int32)) = b0
  generalize decide (y1 = (13 : Int32)) = a1
  generalize decide (y1 = (10 : Int32)) = b1
  generalize decide (y2 = (13 : Int32)) = a2
  generalize decide (y2 = (10 : Int32)) = b2
  generalize decide (y3 = (13 : Int32)) = a3
  generalize decide (y3 = (10 : Int32)) = b3
  revert a0 b0 a1 b1 a2 b2 a3 b3
  decide +kernel
set_option maxRecDepth 65536 in
theorem own_B1 (y0 y1 y2 y3 : Int32) : (own_run ((1 : Int32), (0 : Int32), (0 : Int32)) [y0]).2.1 = own_col (1 : Int32) y0 y1 y2 y3 := by
  have e0 := own_ex y0
  have e1 := own_ex y1
  have e2 := own_ex y2
  have e3 := own_ex y3
  have hz : decide ((0 : Int32) = (13 : Int32)) = false := by decide
  simp only [own_run, own_step, own_lines, own_col, hz]
  revert e0 e1 e2 e3
  generalize decide (y0 = (13 : Int32)) = a0
  generalize decide (y0 = (10 : Int32)) = b0
  generalize decide (y1 = (13 : Int32)) = a1
  generalize decide (y1 = (10 : Int32)) = b1
  generalize decide (y2 = (13 : Int32)) = a2
  generalize decide (y2 = (10 : Int32)) = b2
  generalize decide (y3 = (13 : Int32)) = a3
  generalize decide (y3 = (10 : Int32)) = b3
  revert a0 b0 a1 b1 a2 b2 a3 b3
  decide +kernel
set_option maxRecDepth 65536 in
theorem own_A2 (y0 y1 y2 y3 : Int32) : (own_run ((1 : Int32), (0 : Int32), (0 : Int32)) [y0, y1]).1 = own_lines (2 : Int32) y0 y1 y2 y3 := by
  have e0 := own_ex y0
  have e1 := own_ex y1
  have e2 := own_ex y2
  have e3 := own_ex y3
  have hz : decide ((0 : Int32) = (13 : Int32)) = false := by decide
  simp only [own_run, own_step, own_lines, own_col, hz]
  revert e0 e1 e2 e3
  generalize decide (y0 = (13 : Int32)) = a0
  generalize decide (y0 = (10 : Int32)) = b0
  generalize decide (y1 = (13 : Int32)) = a1
  generalize decide (y1 = (10 : Int32)) = b1
  generalize decide (y2 = (13 : Int32)) = a2
  generalize decide (y2 = (10 : Int32)) = b2
  generalize decide (y3 = (13 : Int32)) = a3
  generalize decide (y3 = (10 : Int32)) = b3
  revert a0 b0 a1 b1 a2 b2 a3 b3
  decide +kernel
set_option maxRecDepth 65536 in
theorem own_B2 (y0 y1 y2 y3 : Int32) : (own_run ((1 : Int32), (0 : Int32), (0 : Int32)) [y0, y1]).2.1 = own_col (2 : Int32) y0 y1 y2 y3 := by
  have e0 := own_ex y0
  have e1 := own_ex y1
  have e2 := own_ex y2
  have e3 := own_ex y3
  have hz : decide ((0 : Int32) = (13 : Int32)) = false := by decide
  simp only [own_run, own_step, own_lines, own_col, hz]
  revert e0 e1 e2 e3
  generalize decide (y0 = (13 : Int32)) = a0
  generalize decide (y0 = (10 : Int32)) = b0
  generalize decide (y1 = (13 : Int32)) = a1
  generalize decide (y1 = (10 : Int32)) = b1
  generalize decide (y2 = (13 : Int32)) = a2
  generalize decide (y2 = (10 : Int32)) = b2
  generalize decide (y3 = (13 : Int32)) = a3
  generalize decide (y3 = (10 : Int32)) = b3
  revert a0 b0 a1 b1 a2 b2 a3 b3
  decide +kernel
set_option maxRecDepth 65536 in
theorem own_A3 (y0 y1 y2 y3 : Int32) : (own_run ((1 : Int32), (0 : Int32), (0 : Int32)) [y0, y1, y2]).1 = own_lines (3 : Int32) y0 y1 y2 y3 := by
  have e0 := own_ex y0
  have e1 := own_ex y1
  have e2 := own_ex y2
  have e3 := own_ex y3
  have hz : decide ((0 : Int32) = (13 : Int32)) = false := by decide
  simp only [own_run, own_step, own_lines, own_col, hz]
  revert e0 e1 e2 e3
  generalize decide (y0 = (13 : Int32)) = a0
  generalize decide (y0 = (10 : Int32)) = b0
  generalize decide (y1 = (13 : Int32)) = a1
  generalize decide (y1 = (10 : Int32)) = b1
  generalize decide (y2 = (13 : Int32)) = a2
  generalize decide (y2 = (10 : Int32)) = b2
  generalize decide (y3 = (13 : Int32)) = a3
  generalize decide (y3 = (10 : Int32)) = b3
  revert a0 b0 a1 b1 a2 b2 a3 b3
  decide +kernel
set_option maxRecDepth 65536 in
theorem own_B3 (y0 y1 y2 y3 : Int32) : (own_run ((1 : Int32), (0 : Int32), (0 : Int32)) [y0, y1, y2]).2.1 = own_col (3 : Int32) y0 y1 y2 y3 := by
  have e0 := own_ex y0
  have e1 := own_ex y1
  have e2 := own_ex y2
  have e3 := own_ex y3
  have hz : decide ((0 : Int32) = (13 : Int32)) = false := by decide
  simp only [own_run, own_step, own_lines, own_col, hz]
  revert e0 e1 e2 e3
  generalize decide (y0 = (13 : Int32)) = a0
  generalize decide (y0 = (10 : Int32)) = b0
  generalize decide (y1 = (13 : Int32)) = a1
  generalize decide (y1 = (10 : Int32)) = b1
  generalize decide (y2 = (13 : Int32)) = a2
  generalize decide (y2 = (10 : Int32)) = b2
  generalize decide (y3 = (13 : Int32)) = a3
  generalize decide (y3 = (10 : Int32)) = b3
  revert a0 b0 a1 b1 a2 b2 a3 b3
  decide +kernel
set_option maxRecDepth 65536 in
theorem own_A4 (y0 y1 y2 y3 : Int32) : (own_run ((1 : Int32), (0 : Int32), (0 : Int32)) [y0, y1, y2, y3]).1 = own_lines (4 : Int32) y0 y1 y2 y3 := by
  have e0 := own_ex y0
  have e1 := own_ex y1
  have e2 := own_ex y2
  have e3 := own_ex y3
  have hz : decide ((0 : Int32) = (13 : Int32)) = false := by decide
  simp only [own_run, own_step, own_lines, own_col, hz]
  revert e0 e1 e2 e3
  generalize decide (y0 = (13 : Int32)) = a0
  generalize decide (y0 = (10 : Int32)) = b0
  generalize decide (y1 = (13 : Int32)) = a1
  generalize decide (y1 = (10 : Int32)) = b1
  generalize decide (y2 = (13 : Int32)) = a2
  generalize decide (y2 = (10 : Int32)) = b2
  generalize decide (y3 = (13 : Int32)) = a3
  generalize decide (y3 = (10 : Int32)) = b3
  revert a0 b0 a1 b1 a2 b2 a3 b3
  decide +kernel
set_option maxRecDepth 65536 in
theorem own_B4 (y0 y1 y2 y3 : Int32) : (own_run ((1 : Int32), (0 : Int32), (0 : Int32)) [y0, y1, y2, y3]).2.1 = own_col (4 : Int32) y0 y1 y2 y3 := by
  have e0 := own_ex y0
  have e1 := own_ex y1
  have e2 := own_ex y2
  have e3 := own_ex y3
  have hz : decide ((0 : Int32) = (13 : Int32)) = false := by decide
  simp only [own_run, own_step, own_lines, own_col, hz]
  revert e0 e1 e2 e3
  generalize decide (y0 = (13 : Int32)) = a0
  generalize decide (y0 = (10 : Int32)) = b0
  generalize decide (y1 = (13 : Int32)) = a1
  generalize decide (y1 = (10 : Int32)) = b1
  generalize decide (y2 = (13 : Int32)) = a2
  generalize decide (y2 = (10 : Int32)) = b2
  generalize decide (y3 = (13 : Int32)) = a3
  generalize decide (y3 = (10 : Int32)) = b3
  revert a0 b0 a1 b1 a2 b2 a3 b3
  decide +kernel
theorem own_in0_0 (y0 y1 y2 y3 : Int32) : ∀ k, k < ([] : List Int32).length → ([(.int y0), (.int y1), (.int y2), (.int y3)] : List Value).getD (0 + k) (.int (0 : Int32)) = .int (([] : List Int32).getD k (0 : Int32))
  | k + 0, hk => absurd hk (by simp)
theorem own_in0_1 (y0 y1 y2 y3 : Int32) : ∀ k, k < ([y0] : List Int32).length → ([(.int y0), (.int y1), (.int y2), (.int y3)] : List Value).getD (0 + k) (.int (0 : Int32)) = .int (([y0] : List Int32).getD k (0 : Int32))
  | 0, _ => rfl
  | k + 1, hk => absurd hk (by simp)
theorem own_in0_2 (y0 y1 y2 y3 : Int32) : ∀ k, k < ([y0, y1] : List Int32).length → ([(.int y0), (.int y1), (.int y2), (.int y3)] : List Value).getD (0 + k) (.int (0 : Int32)) = .int (([y0, y1] : List Int32).getD k (0 : Int32))
  | 0, _ => rfl
  | 1, _ => rfl
  | k + 2, hk => absurd hk (by simp)
theorem own_in0_3 (y0 y1 y2 y3 : Int32) : ∀ k, k < ([y0, y1, y2] : List Int32).length → ([(.int y0), (.int y1), (.int y2), (.int y3)] : List Value).getD (0 + k) (.int (0 : Int32)) = .int (([y0, y1, y2] : List Int32).getD k (0 : Int32))
  | 0, _ => rfl
  | 1, _ => rfl
  | 2, _ => rfl
  | k + 3, hk => absurd hk (by simp)
theorem own_in0_4 (y0 y1 y2 y3 : Int32) : ∀ k, k < ([y0, y1, y2, y3] : List Int32).length → ([(.int y0), (.int y1), (.int y2), (.int y3)] : List Value).getD (0 + k) (.int (0 : Int32)) = .int (([y0, y1, y2, y3] : List Int32).getD k (0 : Int32))
  | 0, _ => rfl
  | 1, _ => rfl
  | 2, _ => rfl
  | 3, _ => rfl
  | k + 4, hk => absurd hk (by simp)
theorem own_in1_4 (y0 y1 y2 y3 : Int32) : ∀ k, k < ([y1, y2, y3] : List Int32).length → ([(.int y0), (.int y1), (.int y2), (.int y3)] : List Value).getD (1 + k) (.int (0 : Int32)) = .int (([y1, y2, y3] : List Int32).getD k (0 : Int32))
  | 0, _ => rfl
  | 1, _ => rfl
  | 2, _ => rfl
  | k + 3, hk => absurd hk (by simp)
theorem own_in2_4 (y0 y1 y2 y3 : Int32) : ∀ k, k < ([y2, y3] : List Int32).length → ([(.int y0), (.int y1), (.int y2), (.int y3)] : List Value).getD (2 + k) (.int (0 : Int32)) = .int (([y2, y3] : List Int32).getD k (0 : Int32))
  | 0, _ => rfl
  | 1, _ => rfl
  | k + 2, hk => absurd hk (by simp)
theorem own_in3_4 (y0 y1 y2 y3 : Int32) : ∀ k, k < ([y3] : List Int32).length → ([(.int y0), (.int y1), (.int y2), (.int y3)] : List Value).getD (3 + k) (.int (0 : Int32)) = .int (([y3] : List Int32).getD k (0 : Int32))
  | 0, _ => rfl
  | k + 1, hk => absurd hk (by simp)
theorem own_in4_4 (y0 y1 y2 y3 : Int32) : ∀ k, k < ([] : List Int32).length → ([(.int y0), (.int y1), (.int y2), (.int y3)] : List Value).getD (4 + k) (.int (0 : Int32)) = .int (([] : List Int32).getD k (0 : Int32))
  | k + 0, hk => absurd hk (by simp)
theorem d1_0 : decode method_2_code 0 = .ok (.iload_n 0, 1) := by decide +kernel
theorem d1_1 : decode method_2_code 1 = .ok (.iconst 3, 1) := by decide +kernel
theorem d1_2 : decode method_2_code 2 = .ok (.iand, 1) := by decide +kernel
theorem d1_3 : decode method_2_code 3 = .ok (.istore_n 1, 1) := by decide +kernel
theorem d1_4 : decode method_2_code 4 = .ok (.iload_n 1, 1) := by decide +kernel
theorem d1_5 : decode method_2_code 5 = .ok (.ifCond .ne 6, 3) := by decide +kernel
theorem d1_8 : decode method_2_code 8 = .ok (.bipush 13, 2) := by decide +kernel
theorem d1_10 : decode method_2_code 10 = .ok (.ireturn, 1) := by decide +kernel
theorem d1_11 : decode method_2_code 11 = .ok (.iload_n 1, 1) := by decide +kernel
theorem d1_12 : decode method_2_code 12 = .ok (.iconst 1, 1) := by decide +kernel
theorem d1_13 : decode method_2_code 13 = .ok (.if_icmp .ne 6, 3) := by decide +kernel
theorem d1_16 : decode method_2_code 16 = .ok (.bipush 10, 2) := by decide +kernel
theorem d1_18 : decode method_2_code 18 = .ok (.ireturn, 1) := by decide +kernel
theorem d1_19 : decode method_2_code 19 = .ok (.iload_n 1, 1) := by decide +kernel
theorem d1_20 : decode method_2_code 20 = .ok (.iconst 2, 1) := by decide +kernel
theorem d1_21 : decode method_2_code 21 = .ok (.if_icmp .ne 11, 3) := by decide +kernel
theorem d1_24 : decode method_2_code 24 = .ok (.iload_n 0, 1) := by decide +kernel
theorem d1_25 : decode method_2_code 25 = .ok (.iconst 2, 1) := by decide +kernel
theorem d1_26 : decode method_2_code 26 = .ok (.iushr, 1) := by decide +kernel
theorem d1_27 : decode method_2_code 27 = .ok (.bipush 13, 2) := by decide +kernel
theorem d1_29 : decode method_2_code 29 = .ok (.irem, 1) := by decide +kernel
theorem d1_30 : decode method_2_code 30 = .ok (.i2c, 1) := by decide +kernel
theorem d1_31 : decode method_2_code 31 = .ok (.ireturn, 1) := by decide +kernel
theorem d1_32 : decode method_2_code 32 = .ok (.iload_n 0, 1) := by decide +kernel
theorem d1_33 : decode method_2_code 33 = .ok (.iconst 2, 1) := by decide +kernel
theorem d1_34 : decode method_2_code 34 = .ok (.iushr, 1) := by decide +kernel
theorem d1_35 : decode method_2_code 35 = .ok (.i2c, 1) := by decide +kernel
theorem d1_36 : decode method_2_code 36 = .ok (.ireturn, 1) := by decide +kernel
theorem d2_0 : decode prog_62_method_1_code 0 = .ok (.aload_n 0, 1) := by decide +kernel
theorem d2_1 : decode prog_62_method_1_code 1 = .ok (.invokespecial 1, 3) := by decide +kernel
theorem d2_4 : decode prog_62_method_1_code 4 = .ok (.aload_n 0, 1) := by decide +kernel
theorem d2_5 : decode prog_62_method_1_code 5 = .ok (.iconst 1, 1) := by decide +kernel
theorem d2_6 : decode prog_62_method_1_code 6 = .ok (.putfield 7, 3) := by decide +kernel
theorem d2_9 : decode prog_62_method_1_code 9 = .ok (.return_, 1) := by decide +kernel
theorem d4_0 : decode prog_62_method_2_code 0 = .ok (.aload_n 0, 1) := by decide +kernel
theorem d4_1 : decode prog_62_method_2_code 1 = .ok (.getfield 7, 3) := by decide +kernel
theorem d4_4 : decode prog_62_method_2_code 4 = .ok (.istore 4, 2) := by decide +kernel
theorem d4_6 : decode prog_62_method_2_code 6 = .ok (.aload_n 0, 1) := by decide +kernel
theorem d4_7 : decode prog_62_method_2_code 7 = .ok (.getfield 13, 3) := by decide +kernel
theorem d4_10 : decode prog_62_method_2_code 10 = .ok (.istore 5, 2) := by decide +kernel
theorem d4_12 : decode prog_62_method_2_code 12 = .ok (.aload_n 0, 1) := by decide +kernel
theorem d4_13 : decode prog_62_method_2_code 13 = .ok (.getfield 16, 3) := by decide +kernel
theorem d4_16 : decode prog_62_method_2_code 16 = .ok (.istore 6, 2) := by decide +kernel
theorem d4_18 : decode prog_62_method_2_code 18 = .ok (.iload_n 2, 1) := by decide +kernel
theorem d4_19 : decode prog_62_method_2_code 19 = .ok (.istore 7, 2) := by decide +kernel
theorem d4_21 : decode prog_62_method_2_code 21 = .ok (.iload 7, 2) := by decide +kernel
theorem d4_23 : decode prog_62_method_2_code 23 = .ok (.iload_n 3, 1) := by decide +kernel
theorem d4_24 : decode prog_62_method_2_code 24 = .ok (.if_icmp .ge 72, 3) := by decide +kernel
theorem d4_27 : decode prog_62_method_2_code 27 = .ok (.aload_n 1, 1) := by decide +kernel
theorem d4_28 : decode prog_62_method_2_code 28 = .ok (.iload 7, 2) := by decide +kernel
theorem d4_30 : decode prog_62_method_2_code 30 = .ok (.caload, 1) := by decide +kernel
theorem d4_31 : decode prog_62_method_2_code 31 = .ok (.istore 8, 2) := by decide +kernel
theorem d4_33 : decode prog_62_method_2_code 33 = .ok (.iload 8, 2) := by decide +kernel
theorem d4_35 : decode prog_62_method_2_code 35 = .ok (.bipush 13, 2) := by decide +kernel
theorem d4_37 : decode prog_62_method_2_code 37 = .ok (.if_icmp .le 9, 3) := by decide +kernel
theorem d4_40 : decode prog_62_method_2_code 40 = .ok (.iinc 5 1, 3) := by decide +kernel
theorem d4_43 : decode prog_62_method_2_code 43 = .ok (.goto 43, 3) := by decide +kernel
theorem d4_46 : decode prog_62_method_2_code 46 = .ok (.iload 8, 2) := by decide +kernel
theorem d4_48 : decode prog_62_method_2_code 48 = .ok (.bipush 13, 2) := by decide +kernel
theorem d4_50 : decode prog_62_method_2_code 50 = .ok (.if_icmp .eq 17, 3) := by decide +kernel
theorem d4_53 : decode prog_62_method_2_code 53 = .ok (.iload 8, 2) := by decide +kernel
theorem d4_55 : decode prog_62_method_2_code 55 = .ok (.bipush 10, 2) := by decide +kernel
theorem d4_57 : decode prog_62_method_2_code 57 = .ok (.if_icmp .ne 19, 3) := by decide +kernel
theorem d4_60 : decode prog_62_method_2_code 60 = .ok (.iload 6, 2) := by decide +kernel
theorem d4_62 : decode prog_62_method_2_code 62 = .ok (.bipush 13, 2) := by decide +kernel
theorem d4_64 : decode prog_62_method_2_code 64 = .ok (.if_icmp .eq 12, 3) := by decide +kernel
theorem d4_67 : decode prog_62_method_2_code 67 = .ok (.iinc 4 1, 3) := by decide +kernel
theorem d4_70 : decode prog_62_method_2_code 70 = .ok (.iconst 0, 1) := by decide +kernel
theorem d4_71 : decode prog_62_method_2_code 71 = .ok (.istore 5, 2) := by decide +kernel
theorem d4_73 : decode prog_62_method_2_code 73 = .ok (.goto 13, 3) := by decide +kernel
theorem d4_76 : decode prog_62_method_2_code 76 = .ok (.iload 8, 2) := by decide +kernel
theorem d4_78 : decode prog_62_method_2_code 78 = .ok (.bipush 10, 2) := by decide +kernel
theorem d4_80 : decode prog_62_method_2_code 80 = .ok (.if_icmp .eq 6, 3) := by decide +kernel
theorem d4_83 : decode prog_62_method_2_code 83 = .ok (.iinc 5 1, 3) := by decide +kernel
theorem d4_86 : decode prog_62_method_2_code 86 = .ok (.iload 8, 2) := by decide +kernel
theorem d4_88 : decode prog_62_method_2_code 88 = .ok (.istore 6, 2) := by decide +kernel
theorem d4_90 : decode prog_62_method_2_code 90 = .ok (.iinc 7 1, 3) := by decide +kernel
theorem d4_93 : decode prog_62_method_2_code 93 = .ok (.goto (-72), 3) := by decide +kernel
theorem d4_96 : decode prog_62_method_2_code 96 = .ok (.aload_n 0, 1) := by decide +kernel
theorem d4_97 : decode prog_62_method_2_code 97 = .ok (.iload 4, 2) := by decide +kernel
theorem d4_99 : decode prog_62_method_2_code 99 = .ok (.putfield 7, 3) := by decide +kernel
theorem d4_102 : decode prog_62_method_2_code 102 = .ok (.aload_n 0, 1) := by decide +kernel
theorem d4_103 : decode prog_62_method_2_code 103 = .ok (.iload 5, 2) := by decide +kernel
theorem d4_105 : decode prog_62_method_2_code 105 = .ok (.putfield 13, 3) := by decide +kernel
theorem d4_108 : decode prog_62_method_2_code 108 = .ok (.aload_n 0, 1) := by decide +kernel
theorem d4_109 : decode prog_62_method_2_code 109 = .ok (.iload 6, 2) := by decide +kernel
theorem d4_111 : decode prog_62_method_2_code 111 = .ok (.putfield 16, 3) := by decide +kernel
theorem d4_114 : decode prog_62_method_2_code 114 = .ok (.return_, 1) := by decide +kernel
theorem d5_0 : decode prog_62_method_3_code 0 = .ok (.aload_n 0, 1) := by decide +kernel
theorem d5_1 : decode prog_62_method_3_code 1 = .ok (.getfield 7, 3) := by decide +kernel
theorem d5_4 : decode prog_62_method_3_code 4 = .ok (.ireturn, 1) := by decide +kernel
theorem d6_0 : decode method_7_code 0 = .ok (.aload_n 0, 1) := by decide +kernel
theorem d6_1 : decode method_7_code 1 = .ok (.iconst 0, 1) := by decide +kernel
theorem d6_2 : decode method_7_code 2 = .ok (.iload_n 1, 1) := by decide +kernel
theorem d6_3 : decode method_7_code 3 = .ok (.invokestatic 7, 3) := by decide +kernel
theorem d6_6 : decode method_7_code 6 = .ok (.aload_n 0, 1) := by decide +kernel
theorem d6_7 : decode method_7_code 7 = .ok (.iconst 1, 1) := by decide +kernel
theorem d6_8 : decode method_7_code 8 = .ok (.iload_n 1, 1) := by decide +kernel
theorem d6_9 : decode method_7_code 9 = .ok (.invokestatic 7, 3) := by decide +kernel
theorem d6_12 : decode method_7_code 12 = .ok (.iadd, 1) := by decide +kernel
theorem d6_13 : decode method_7_code 13 = .ok (.aload_n 0, 1) := by decide +kernel
theorem d6_14 : decode method_7_code 14 = .ok (.iconst 2, 1) := by decide +kernel
theorem d6_15 : decode method_7_code 15 = .ok (.iload_n 1, 1) := by decide +kernel
theorem d6_16 : decode method_7_code 16 = .ok (.invokestatic 7, 3) := by decide +kernel
theorem d6_19 : decode method_7_code 19 = .ok (.iadd, 1) := by decide +kernel
theorem d6_20 : decode method_7_code 20 = .ok (.aload_n 0, 1) := by decide +kernel
theorem d6_21 : decode method_7_code 21 = .ok (.iconst 3, 1) := by decide +kernel
theorem d6_22 : decode method_7_code 22 = .ok (.iload_n 1, 1) := by decide +kernel
theorem d6_23 : decode method_7_code 23 = .ok (.invokestatic 7, 3) := by decide +kernel
theorem d6_26 : decode method_7_code 26 = .ok (.iadd, 1) := by decide +kernel
theorem d6_27 : decode method_7_code 27 = .ok (.istore_n 2, 1) := by decide +kernel
theorem d6_28 : decode method_7_code 28 = .ok (.aload_n 0, 1) := by decide +kernel
theorem d6_29 : decode method_7_code 29 = .ok (.iconst 0, 1) := by decide +kernel
theorem d6_30 : decode method_7_code 30 = .ok (.iload_n 1, 1) := by decide +kernel
theorem d6_31 : decode method_7_code 31 = .ok (.invokestatic 13, 3) := by decide +kernel
theorem d6_34 : decode method_7_code 34 = .ok (.aload_n 0, 1) := by decide +kernel
theorem d6_35 : decode method_7_code 35 = .ok (.iconst 1, 1) := by decide +kernel
theorem d6_36 : decode method_7_code 36 = .ok (.iload_n 1, 1) := by decide +kernel
theorem d6_37 : decode method_7_code 37 = .ok (.invokestatic 13, 3) := by decide +kernel
theorem d6_40 : decode method_7_code 40 = .ok (.iadd, 1) := by decide +kernel
theorem d6_41 : decode method_7_code 41 = .ok (.aload_n 0, 1) := by decide +kernel
theorem d6_42 : decode method_7_code 42 = .ok (.iconst 2, 1) := by decide +kernel
theorem d6_43 : decode method_7_code 43 = .ok (.iload_n 1, 1) := by decide +kernel
theorem d6_44 : decode method_7_code 44 = .ok (.invokestatic 13, 3) := by decide +kernel
theorem d6_47 : decode method_7_code 47 = .ok (.iadd, 1) := by decide +kernel
theorem d6_48 : decode method_7_code 48 = .ok (.aload_n 0, 1) := by decide +kernel
theorem d6_49 : decode method_7_code 49 = .ok (.iconst 3, 1) := by decide +kernel
theorem d6_50 : decode method_7_code 50 = .ok (.iload_n 1, 1) := by decide +kernel
theorem d6_51 : decode method_7_code 51 = .ok (.invokestatic 13, 3) := by decide +kernel
theorem d6_54 : decode method_7_code 54 = .ok (.iadd, 1) := by decide +kernel
theorem d6_55 : decode method_7_code 55 = .ok (.istore_n 3, 1) := by decide +kernel
theorem d6_56 : decode method_7_code 56 = .ok (.aload_n 0, 1) := by decide +kernel
theorem d6_57 : decode method_7_code 57 = .ok (.iconst 0, 1) := by decide +kernel
theorem d6_58 : decode method_7_code 58 = .ok (.iload_n 1, 1) := by decide +kernel
theorem d6_59 : decode method_7_code 59 = .ok (.invokestatic 16, 3) := by decide +kernel
theorem d6_62 : decode method_7_code 62 = .ok (.aload_n 0, 1) := by decide +kernel
theorem d6_63 : decode method_7_code 63 = .ok (.iconst 1, 1) := by decide +kernel
theorem d6_64 : decode method_7_code 64 = .ok (.iload_n 1, 1) := by decide +kernel
theorem d6_65 : decode method_7_code 65 = .ok (.invokestatic 16, 3) := by decide +kernel
theorem d6_68 : decode method_7_code 68 = .ok (.iadd, 1) := by decide +kernel
theorem d6_69 : decode method_7_code 69 = .ok (.aload_n 0, 1) := by decide +kernel
theorem d6_70 : decode method_7_code 70 = .ok (.iconst 2, 1) := by decide +kernel
theorem d6_71 : decode method_7_code 71 = .ok (.iload_n 1, 1) := by decide +kernel
theorem d6_72 : decode method_7_code 72 = .ok (.invokestatic 16, 3) := by decide +kernel
theorem d6_75 : decode method_7_code 75 = .ok (.iadd, 1) := by decide +kernel
theorem d6_76 : decode method_7_code 76 = .ok (.istore 4, 2) := by decide +kernel
theorem d6_78 : decode method_7_code 78 = .ok (.iconst 1, 1) := by decide +kernel
theorem d6_79 : decode method_7_code 79 = .ok (.iload_n 2, 1) := by decide +kernel
theorem d6_80 : decode method_7_code 80 = .ok (.iadd, 1) := by decide +kernel
theorem d6_81 : decode method_7_code 81 = .ok (.iload_n 3, 1) := by decide +kernel
theorem d6_82 : decode method_7_code 82 = .ok (.iadd, 1) := by decide +kernel
theorem d6_83 : decode method_7_code 83 = .ok (.iload 4, 2) := by decide +kernel
theorem d6_85 : decode method_7_code 85 = .ok (.isub, 1) := by decide +kernel
theorem d6_86 : decode method_7_code 86 = .ok (.ireturn, 1) := by decide +kernel
theorem d7_0 : decode method_3_code 0 = .ok (.iload_n 1, 1) := by decide +kernel
theorem d7_1 : decode method_3_code 1 = .ok (.iload_n 2, 1) := by decide +kernel
theorem d7_2 : decode method_3_code 2 = .ok (.if_icmp .ge 15, 3) := by decide +kernel
theorem d7_5 : decode method_3_code 5 = .ok (.aload_n 0, 1) := by decide +kernel
theorem d7_6 : decode method_3_code 6 = .ok (.iload_n 1, 1) := by decide +kernel
theorem d7_7 : decode method_3_code 7 = .ok (.caload, 1) := by decide +kernel
theorem d7_8 : decode method_3_code 8 = .ok (.bipush 13, 2) := by decide +kernel
theorem d7_10 : decode method_3_code 10 = .ok (.if_icmp .ne 7, 3) := by decide +kernel
theorem d7_13 : decode method_3_code 13 = .ok (.iconst 1, 1) := by decide +kernel
theorem d7_14 : decode method_3_code 14 = .ok (.goto 4, 3) := by decide +kernel
theorem d7_17 : decode method_3_code 17 = .ok (.iconst 0, 1) := by decide +kernel
theorem d7_18 : decode method_3_code 18 = .ok (.ireturn, 1) := by decide +kernel
theorem d8_0 : decode method_4_code 0 = .ok (.iload_n 1, 1) := by decide +kernel
theorem d8_1 : decode method_4_code 1 = .ok (.iload_n 2, 1) := by decide +kernel
theorem d8_2 : decode method_4_code 2 = .ok (.if_icmp .ge 15, 3) := by decide +kernel
theorem d8_5 : decode method_4_code 5 = .ok (.aload_n 0, 1) := by decide +kernel
theorem d8_6 : decode method_4_code 6 = .ok (.iload_n 1, 1) := by decide +kernel
theorem d8_7 : decode method_4_code 7 = .ok (.caload, 1) := by decide +kernel
theorem d8_8 : decode method_4_code 8 = .ok (.bipush 10, 2) := by decide +kernel
theorem d8_10 : decode method_4_code 10 = .ok (.if_icmp .ne 7, 3) := by decide +kernel
theorem d8_13 : decode method_4_code 13 = .ok (.iconst 1, 1) := by decide +kernel
theorem d8_14 : decode method_4_code 14 = .ok (.goto 4, 3) := by decide +kernel
theorem d8_17 : decode method_4_code 17 = .ok (.iconst 0, 1) := by decide +kernel
theorem d8_18 : decode method_4_code 18 = .ok (.ireturn, 1) := by decide +kernel
theorem d9_0 : decode method_5_code 0 = .ok (.iload_n 1, 1) := by decide +kernel
theorem d9_1 : decode method_5_code 1 = .ok (.iconst 1, 1) := by decide +kernel
theorem d9_2 : decode method_5_code 2 = .ok (.iadd, 1) := by decide +kernel
theorem d9_3 : decode method_5_code 3 = .ok (.iload_n 2, 1) := by decide +kernel
theorem d9_4 : decode method_5_code 4 = .ok (.if_icmp .ge 25, 3) := by decide +kernel
theorem d9_7 : decode method_5_code 7 = .ok (.aload_n 0, 1) := by decide +kernel
theorem d9_8 : decode method_5_code 8 = .ok (.iload_n 1, 1) := by decide +kernel
theorem d9_9 : decode method_5_code 9 = .ok (.caload, 1) := by decide +kernel
theorem d9_10 : decode method_5_code 10 = .ok (.bipush 13, 2) := by decide +kernel
theorem d9_12 : decode method_5_code 12 = .ok (.if_icmp .ne 17, 3) := by decide +kernel
theorem d9_15 : decode method_5_code 15 = .ok (.aload_n 0, 1) := by decide +kernel
theorem d9_16 : decode method_5_code 16 = .ok (.iload_n 1, 1) := by decide +kernel
theorem d9_17 : decode method_5_code 17 = .ok (.iconst 1, 1) := by decide +kernel
theorem d9_18 : decode method_5_code 18 = .ok (.iadd, 1) := by decide +kernel
theorem d9_19 : decode method_5_code 19 = .ok (.caload, 1) := by decide +kernel
theorem d9_20 : decode method_5_code 20 = .ok (.bipush 10, 2) := by decide +kernel
theorem d9_22 : decode method_5_code 22 = .ok (.if_icmp .ne 7, 3) := by decide +kernel
theorem d9_25 : decode method_5_code 25 = .ok (.iconst 1, 1) := by decide +kernel
theorem d9_26 : decode method_5_code 26 = .ok (.goto 4, 3) := by decide +kernel
theorem d9_29 : decode method_5_code 29 = .ok (.iconst 0, 1) := by decide +kernel
theorem d9_30 : decode method_5_code 30 = .ok (.ireturn, 1) := by decide +kernel
theorem d10_0 : decode prog_62_method_4_code 0 = .ok (.aload_n 0, 1) := by decide +kernel
theorem d10_1 : decode prog_62_method_4_code 1 = .ok (.getfield 13, 3) := by decide +kernel
theorem d10_4 : decode prog_62_method_4_code 4 = .ok (.ireturn, 1) := by decide +kernel
theorem d11_0 : decode method_8_code 0 = .ok (.iconst (-1), 1) := by decide +kernel
theorem d11_1 : decode method_8_code 1 = .ok (.istore_n 2, 1) := by decide +kernel
theorem d11_2 : decode method_8_code 2 = .ok (.aload_n 0, 1) := by decide +kernel
theorem d11_3 : decode method_8_code 3 = .ok (.iconst 0, 1) := by decide +kernel
theorem d11_4 : decode method_8_code 4 = .ok (.iload_n 1, 1) := by decide +kernel
theorem d11_5 : decode method_8_code 5 = .ok (.invokestatic 19, 3) := by decide +kernel
theorem d11_8 : decode method_8_code 8 = .ok (.ifCond .eq 5, 3) := by decide +kernel
theorem d11_11 : decode method_8_code 11 = .ok (.iconst 0, 1) := by decide +kernel
theorem d11_12 : decode method_8_code 12 = .ok (.istore_n 2, 1) := by decide +kernel
theorem d11_13 : decode method_8_code 13 = .ok (.aload_n 0, 1) := by decide +kernel
theorem d11_14 : decode method_8_code 14 = .ok (.iconst 1, 1) := by decide +kernel
theorem d11_15 : decode method_8_code 15 = .ok (.iload_n 1, 1) := by decide +kernel
theorem d11_16 : decode method_8_code 16 = .ok (.invokestatic 19, 3) := by decide +kernel
theorem d11_19 : decode method_8_code 19 = .ok (.ifCond .eq 5, 3) := by decide +kernel
theorem d11_22 : decode method_8_code 22 = .ok (.iconst 1, 1) := by decide +kernel
theorem d11_23 : decode method_8_code 23 = .ok (.istore_n 2, 1) := by decide +kernel
theorem d11_24 : decode method_8_code 24 = .ok (.aload_n 0, 1) := by decide +kernel
theorem d11_25 : decode method_8_code 25 = .ok (.iconst 2, 1) := by decide +kernel
theorem d11_26 : decode method_8_code 26 = .ok (.iload_n 1, 1) := by decide +kernel
theorem d11_27 : decode method_8_code 27 = .ok (.invokestatic 19, 3) := by decide +kernel
theorem d11_30 : decode method_8_code 30 = .ok (.ifCond .eq 5, 3) := by decide +kernel
theorem d11_33 : decode method_8_code 33 = .ok (.iconst 2, 1) := by decide +kernel
theorem d11_34 : decode method_8_code 34 = .ok (.istore_n 2, 1) := by decide +kernel
theorem d11_35 : decode method_8_code 35 = .ok (.aload_n 0, 1) := by decide +kernel
theorem d11_36 : decode method_8_code 36 = .ok (.iconst 3, 1) := by decide +kernel
theorem d11_37 : decode method_8_code 37 = .ok (.iload_n 1, 1) := by decide +kernel
theorem d11_38 : decode method_8_code 38 = .ok (.invokestatic 19, 3) := by decide +kernel
theorem d11_41 : decode method_8_code 41 = .ok (.ifCond .eq 5, 3) := by decide +kernel
theorem d11_44 : decode method_8_code 44 = .ok (.iconst 3, 1) := by decide +kernel
theorem d11_45 : decode method_8_code 45 = .ok (.istore_n 2, 1) := by decide +kernel
theorem d11_46 : decode method_8_code 46 = .ok (.iload_n 1, 1) := by decide +kernel
theorem d11_47 : decode method_8_code 47 = .ok (.iconst 1, 1) := by decide +kernel
theorem d11_48 : decode method_8_code 48 = .ok (.isub, 1) := by decide +kernel
theorem d11_49 : decode method_8_code 49 = .ok (.iload_n 2, 1) := by decide +kernel
theorem d11_50 : decode method_8_code 50 = .ok (.isub, 1) := by decide +kernel
theorem d11_51 : decode method_8_code 51 = .ok (.ireturn, 1) := by decide +kernel
theorem d12_0 : decode method_6_code 0 = .ok (.iload_n 1, 1) := by decide +kernel
theorem d12_1 : decode method_6_code 1 = .ok (.iload_n 2, 1) := by decide +kernel
theorem d12_2 : decode method_6_code 2 = .ok (.if_icmp .ge 23, 3) := by decide +kernel
theorem d12_5 : decode method_6_code 5 = .ok (.aload_n 0, 1) := by decide +kernel
theorem d12_6 : decode method_6_code 6 = .ok (.iload_n 1, 1) := by decide +kernel
theorem d12_7 : decode method_6_code 7 = .ok (.caload, 1) := by decide +kernel
theorem d12_8 : decode method_6_code 8 = .ok (.bipush 13, 2) := by decide +kernel
theorem d12_10 : decode method_6_code 10 = .ok (.if_icmp .eq 11, 3) := by decide +kernel
theorem d12_13 : decode method_6_code 13 = .ok (.aload_n 0, 1) := by decide +kernel
theorem d12_14 : decode method_6_code 14 = .ok (.iload_n 1, 1) := by decide +kernel
theorem d12_15 : decode method_6_code 15 = .ok (.caload, 1) := by decide +kernel
theorem d12_16 : decode method_6_code 16 = .ok (.bipush 10, 2) := by decide +kernel
theorem d12_18 : decode method_6_code 18 = .ok (.if_icmp .ne 7, 3) := by decide +kernel
theorem d12_21 : decode method_6_code 21 = .ok (.iconst 1, 1) := by decide +kernel
theorem d12_22 : decode method_6_code 22 = .ok (.goto 4, 3) := by decide +kernel
theorem d12_25 : decode method_6_code 25 = .ok (.iconst 0, 1) := by decide +kernel
theorem d12_26 : decode method_6_code 26 = .ok (.ireturn, 1) := by decide +kernel
theorem pd_0 : parseMethodDescriptor "([CII)I" = some ⟨[(.array .char), .int, .int], some .int⟩ := by decide +kernel
theorem pd_1 : parseMethodDescriptor "([CII)Z" = some ⟨[(.array .char), .int, .int], some .boolean⟩ := by decide +kernel
theorem pd_2 : parseMethodDescriptor "(I)C" = some ⟨[.int], some .char⟩ := by decide +kernel
theorem pd_3 : parseMethodDescriptor "()V" = some ⟨[], none⟩ := by decide +kernel
theorem pd_4 : parseMethodDescriptor "([CII)V" = some ⟨[(.array .char), .int, .int], none⟩ := by decide +kernel
theorem pd_5 : parseMethodDescriptor "()I" = some ⟨[], some .int⟩ := by decide +kernel
theorem pd_6 : parseMethodDescriptor "([CI)I" = some ⟨[(.array .char), .int], some .int⟩ := by decide +kernel
theorem pn_0 : plainName "com/example/brokn/brokn/TextPositionAdvancePinLaw" = true := by first | (simp [plainName, overriddenIn]; done) | decide +kernel
theorem pn_1 : plainName "com/example/brokn/brokn/TextPosition" = true := by first | (simp [plainName, overriddenIn]; done) | decide +kernel
theorem os4_31 {z0 : Value} {z1 : Value} {z2 : Value} {z3 : Value} {z4 : Value} {z5 : Value} {z6 : Value} {z7 : Value} {s8 : Slot} {v : Int32} (h : One s8) : storeLocals #[.val z0, .val z1, .val z2, .val z3, .val z4, .val z5, .val z6, .val z7, s8] 8 (.int v) = some #[.val z0, .val z1, .val z2, .val z3, .val z4, .val z5, .val z6, .val z7, .val (.int v)] := by
  rcases h with rfl | ⟨w, rfl, hw⟩
  · rfl
  · cases w <;> first | rfl | (simp [Value.category] at hw)
theorem ef_1 (m : MethodId) (x0 : Int32) : entryFrame m #[(.int x0)] 2 = mkF m 0 #[.val (.int x0), .unset] [] := by first | (simp [entryFrame, mkF, argsToLocals, Value.category]; done) | rfl
def Q1 (Z : State) (p1 : Int32) (h0 : Heap) (n0 : Nat) (v : Option Value) (h : Heap) (L : List Loc) : Prop := ∃ z : Int32, v = some (.int z) ∧ Fr n0 L ∧ h = h0
set_option maxRecDepth 65536 in
set_option maxHeartbeats 40000000 in
theorem rm1 (l : Launch) (Z : State) (a0 : Array Value) (hw : ∀ d ∈ tables_1, d.before a0 Z = true) (ws : List Jvm.Cond) (p1 : Int32)  (h0 : Heap) (n0 : Nat) (Z0 : n0 ≤ h0.size)  :
    MetFree l (⟨"com/example/brokn/brokn/TextPositionAdvancePinLaw", "draw", "(I)C"⟩ : MethodName) (head1 (Jvm.Cond.code (⟨"com/example/brokn/brokn/TextPositionAdvancePinLaw", "draw", "(I)C"⟩ : MethodName) method_2_code 2 (some .char) :: ws) ({ frames := 0, cells := 0, slots := 0, locals := 0 } : Room)) (fun a U => a = #[(.int p1)] ∧ Z.Warmed39 U.vm ∧ U.heap = h0) (fun _ _ _ _ _ => True) (fun _ U o U' => ∃ v L, o = .returned v ∧ Q1 Z p1 h0 n0 v U'.heap L ∧ FrameEnd U o U' L ({ frames := 0, cells := 0, slots := 0, locals := 0 } : Room).cells ({ frames := 0, cells := 0, slots := 0, locals := 0 } : Room).slots) := by
  refine MetFree.of_bodySF (plainFor_of_name pn_0) hisR ?_
  intro p e s m args below meth c s₁ Bd hml0 hP hK
  obtain ⟨rfl, hZ, hh⟩ := hP
  have hx := Bd.exec
  have hby := Bd.bytes
  have hml : c.maxLocals = 2 := hml0
  have hown : s.vm.findClass "com/example/brokn/brokn/TextPositionAdvancePinLaw" = some m.cls := findClass_of_methodNamed Bd.named
  have hnm := (name_of_methodNamed Bd.named Bd.method).1
  have X0 : Stand p l e ({ frames := 0, cells := 0, slots := 0, locals := 0 } : Room) s m #[(.int p1)] below meth c s₁ [] 0 0 := Stand.of_body Bd
  have e0 : s₁.heap = h0 := by rw [← hh, Bd.state]; rfl
  have N0 := Fr.nil n0
  refine own_go (B := s₁.setTop (mkF m 0 #[.val (.int p1), .unset] [])) (fun t kt => castTop (ef_1 m p1) kt) ?_
  refine own_go (B := s₁.setTop (mkF m 5 #[.val (.int p1), .val (.int (p1 &&& (3 : Int32)))] [(.int (p1 &&& (3 : Int32)))])) (fun t kt => ?_) ?_
  · show Steps p.tables e below (s₁.setTop (mkF m 0 #[.val (.int p1), .unset] [])) _
    refine XS.iloadN X0.here hx rfl (hb hby d1_0) rfl ?_
    show Steps p.tables e below (s₁.setTop (mkF m 1 #[.val (.int p1), .unset] [(.int p1)])) _
    refine XS.iconst X0.here hx rfl (hb hby d1_1) ?_
    show Steps p.tables e below (s₁.setTop (mkF m 2 #[.val (.int p1), .unset] [(.int (3 : Int32)), (.int p1)])) _
    refine XS.iand X0.here hx rfl (hb hby d1_2) rfl ?_
    show Steps p.tables e below (s₁.setTop (mkF m 3 #[.val (.int p1), .unset] [(.int (p1 &&& (3 : Int32)))])) _
    refine XS.istoreN X0.here hx rfl (hb hby d1_3) rfl (l' := #[.val (.int p1), .val (.int (p1 &&& (3 : Int32)))]) rfl ?_
    show Steps p.tables e below (s₁.setTop (mkF m 4 #[.val (.int p1), .val (.int (p1 &&& (3 : Int32)))] [])) _
    refine XS.iloadN X0.here hx rfl (hb hby d1_4) rfl ?_
    exact kt
  by_cases hc5 : (p1 &&& (3 : Int32)) = (0 : Int32)
  · refine own_go (B := s₁.setTop (mkF m 10 #[.val (.int p1), .val (.int (p1 &&& (3 : Int32)))] [(.int (13 : Int32))])) (fun t kt => ?_) ?_
    · show Steps p.tables e below (s₁.setTop (mkF m 5 #[.val (.int p1), .val (.int (p1 &&& (3 : Int32)))] [(.int (p1 &&& (3 : Int32)))])) _
      refine XS.ifNo X0.here hx rfl (hb hby d1_5) rfl ((if0 _ _).trans (teq hc5).2) ?_
      show Steps p.tables e below (s₁.setTop (mkF m 8 #[.val (.int p1), .val (.int (p1 &&& (3 : Int32)))] [])) _
      refine XS.bipush X0.here hx rfl (hb hby d1_8) ?_
      exact kt
    obtain ⟨fs, hr, hrun, hended, hW, hsame⟩ := X0.leave (v := some (.int (13 : Int32))) (fun h => by rw [Bd.returns] at h; cases h)
    refine ⟨_, _, ?_, hrun, hended, _, _, rfl, ?_, ⟨_, rfl⟩, hW, hsame.mono (by decide) (by decide)⟩
    · show Steps p.tables e below (s₁.setTop (mkF m 10 #[.val (.int p1), .val (.int (p1 &&& (3 : Int32)))] [(.int (13 : Int32))])) _
      exact retN X0 hx (t := .char) Bd.returns (by simp) (hb hby d1_10) hr
    · show Q1 Z p1 h0 n0 _ s₁.heap _
      rw [e0]
      exact ⟨_, rfl, N0, rfl⟩
  · refine own_go (B := s₁.setTop (mkF m 13 #[.val (.int p1), .val (.int (p1 &&& (3 : Int32)))] [(.int (1 : Int32)), (.int (p1 &&& (3 : Int32)))])) (fun t kt => ?_) ?_
    · show Steps p.tables e below (s₁.setTop (mkF m 5 #[.val (.int p1), .val (.int (p1 &&& (3 : Int32)))] [(.int (p1 &&& (3 : Int32)))])) _
      refine XS.ifYes X0.here hx rfl (pc0 := 5) (pc' := 11) rfl (hb hby d1_5) rfl ((if0 _ _).trans (feq hc5).2) (by decide) (by decide) ?_
      show Steps p.tables e below (s₁.setTop (mkF m 11 #[.val (.int p1), .val (.int (p1 &&& (3 : Int32)))] [])) _
      refine XS.iloadN X0.here hx rfl (hb hby d1_11) rfl ?_
      show Steps p.tables e below (s₁.setTop (mkF m 12 #[.val (.int p1), .val (.int (p1 &&& (3 : Int32)))] [(.int (p1 &&& (3 : Int32)))])) _
      refine XS.iconst X0.here hx rfl (hb hby d1_12) ?_
      exact kt
    by_cases hc13 : (p1 &&& (3 : Int32)) = (1 : Int32)
    · refine own_go (B := s₁.setTop (mkF m 18 #[.val (.int p1), .val (.int (p1 &&& (3 : Int32)))] [(.int (10 : Int32))])) (fun t kt => ?_) ?_
      · show Steps p.tables e below (s₁.setTop (mkF m 13 #[.val (.int p1), .val (.int (p1 &&& (3 : Int32)))] [(.int (1 : Int32)), (.int (p1 &&& (3 : Int32)))])) _
        refine XS.icmpNo X0.here hx rfl (hb hby d1_13) rfl (teq hc13).2 ?_
        show Steps p.tables e below (s₁.setTop (mkF m 16 #[.val (.int p1), .val (.int (p1 &&& (3 : Int32)))] [])) _
        refine XS.bipush X0.here hx rfl (hb hby d1_16) ?_
        exact kt
      obtain ⟨fs, hr, hrun, hended, hW, hsame⟩ := X0.leave (v := some (.int (10 : Int32))) (fun h => by rw [Bd.returns] at h; cases h)
      refine ⟨_, _, ?_, hrun, hended, _, _, rfl, ?_, ⟨_, rfl⟩, hW, hsame.mono (by decide) (by decide)⟩
      · show Steps p.tables e below (s₁.setTop (mkF m 18 #[.val (.int p1), .val (.int (p1 &&& (3 : Int32)))] [(.int (10 : Int32))])) _
        exact retN X0 hx (t := .char) Bd.returns (by simp) (hb hby d1_18) hr
      · show Q1 Z p1 h0 n0 _ s₁.heap _
        rw [e0]
        exact ⟨_, rfl, N0, rfl⟩
    · refine own_go (B := s₁.setTop (mkF m 21 #[.val (.int p1), .val (.int (p1 &&& (3 : Int32)))] [(.int (2 : Int32)), (.int (p1 &&& (3 : Int32)))])) (fun t kt => ?_) ?_
      · show Steps p.tables e below (s₁.setTop (mkF m 13 #[.val (.int p1), .val (.int (p1 &&& (3 : Int32)))] [(.int (1 : Int32)), (.int (p1 &&& (3 : Int32)))])) _
        refine XS.icmpYes X0.here hx rfl (pc0 := 13) (pc' := 19) rfl (hb hby d1_13) rfl (feq hc13).2 (by decide) (by decide) ?_
        show Steps p.tables e below (s₁.setTop (mkF m 19 #[.val (.int p1), .val (.int (p1 &&& (3 : Int32)))] [])) _
        refine XS.iloadN X0.here hx rfl (hb hby d1_19) rfl ?_
        show Steps p.tables e below (s₁.setTop (mkF m 20 #[.val (.int p1), .val (.int (p1 &&& (3 : Int32)))] [(.int (p1 &&& (3 : Int32)))])) _
        refine XS.iconst X0.here hx rfl (hb hby d1_20) ?_
        exact kt
      by_cases hc21 : (p1 &&& (3 : Int32)) = (2 : Int32)
      · refine own_go (B := s₁.setTop (mkF m 31 #[.val (.int p1), .val (.int (p1 &&& (3 : Int32)))] [(.int ((((p1.toUInt32 >>> ((2 : Int32) &&& 31).toUInt32).toInt32) % (13 : Int32)).toUInt32.toUInt16.toUInt32.toInt32))])) (fun t kt => ?_) ?_
        · show Steps p.tables e below (s₁.setTop (mkF m 21 #[.val (.int p1), .val (.int (p1 &&& (3 : Int32)))] [(.int (2 : Int32)), (.int (p1 &&& (3 : Int32)))])) _
          refine XS.icmpNo X0.here hx rfl (hb hby d1_21) rfl (teq hc21).2 ?_
          show Steps p.tables e below (s₁.setTop (mkF m 24 #[.val (.int p1), .val (.int (p1 &&& (3 : Int32)))] [])) _
          refine XS.iloadN X0.here hx rfl (hb hby d1_24) rfl ?_
          show Steps p.tables e below (s₁.setTop (mkF m 25 #[.val (.int p1), .val (.int (p1 &&& (3 : Int32)))] [(.int p1)])) _
          refine XS.iconst X0.here hx rfl (hb hby d1_25) ?_
          show Steps p.tables e below (s₁.setTop (mkF m 26 #[.val (.int p1), .val (.int (p1 &&& (3 : Int32)))] [(.int (2 : Int32)), (.int p1)])) _
          refine XS.iushr X0.here hx rfl (hb hby d1_26) rfl ?_
          show Steps p.tables e below (s₁.setTop (mkF m 27 #[.val (.int p1), .val (.int (p1 &&& (3 : Int32)))] [(.int ((p1.toUInt32 >>> ((2 : Int32) &&& 31).toUInt32).toInt32))])) _
          refine XS.bipush X0.here hx rfl (hb hby d1_27) ?_
          show Steps p.tables e below (s₁.setTop (mkF m 29 #[.val (.int p1), .val (.int (p1 &&& (3 : Int32)))] [(.int (13 : Int32)), (.int ((p1.toUInt32 >>> ((2 : Int32) &&& 31).toUInt32).toInt32))])) _
          refine iremM X0 hx rfl (hb hby d1_29) rfl (by decide) ?_
          show Steps p.tables e below (s₁.setTop (mkF m 30 #[.val (.int p1), .val (.int (p1 &&& (3 : Int32)))] [(.int (((p1.toUInt32 >>> ((2 : Int32) &&& 31).toUInt32).toInt32) % (13 : Int32)))])) _
          refine XS.i2c X0.here hx rfl (hb hby d1_30) rfl ?_
          exact kt
        obtain ⟨fs, hr, hrun, hended, hW, hsame⟩ := X0.leave (v := some (.int (nar .char ((((p1.toUInt32 >>> ((2 : Int32) &&& 31).toUInt32).toInt32) % (13 : Int32)).toUInt32.toUInt16.toUInt32.toInt32)))) (fun h => by rw [Bd.returns] at h; cases h)
        refine ⟨_, _, ?_, hrun, hended, _, _, rfl, ?_, ⟨_, rfl⟩, hW, hsame.mono (by decide) (by decide)⟩
        · show Steps p.tables e below (s₁.setTop (mkF m 31 #[.val (.int p1), .val (.int (p1 &&& (3 : Int32)))] [(.int ((((p1.toUInt32 >>> ((2 : Int32) &&& 31).toUInt32).toInt32) % (13 : Int32)).toUInt32.toUInt16.toUInt32.toInt32))])) _
          exact retN X0 hx (t := .char) Bd.returns (by simp) (hb hby d1_31) hr
        · show Q1 Z p1 h0 n0 _ s₁.heap _
          rw [e0]
          exact ⟨_, rfl, N0, rfl⟩
      · refine own_go (B := s₁.setTop (mkF m 36 #[.val (.int p1), .val (.int (p1 &&& (3 : Int32)))] [(.int (((p1.toUInt32 >>> ((2 : Int32) &&& 31).toUInt32).toInt32).toUInt32.toUInt16.toUInt32.toInt32))])) (fun t kt => ?_) ?_
        · show Steps p.tables e below (s₁.setTop (mkF m 21 #[.val (.int p1), .val (.int (p1 &&& (3 : Int32)))] [(.int (2 : Int32)), (.int (p1 &&& (3 : Int32)))])) _
          refine XS.icmpYes X0.here hx rfl (pc0 := 21) (pc' := 32) rfl (hb hby d1_21) rfl (feq hc21).2 (by decide) (by decide) ?_
          show Steps p.tables e below (s₁.setTop (mkF m 32 #[.val (.int p1), .val (.int (p1 &&& (3 : Int32)))] [])) _
          refine XS.iloadN X0.here hx rfl (hb hby d1_32) rfl ?_
          show Steps p.tables e below (s₁.setTop (mkF m 33 #[.val (.int p1), .val (.int (p1 &&& (3 : Int32)))] [(.int p1)])) _
          refine XS.iconst X0.here hx rfl (hb hby d1_33) ?_
          show Steps p.tables e below (s₁.setTop (mkF m 34 #[.val (.int p1), .val (.int (p1 &&& (3 : Int32)))] [(.int (2 : Int32)), (.int p1)])) _
          refine XS.iushr X0.here hx rfl (hb hby d1_34) rfl ?_
          show Steps p.tables e below (s₁.setTop (mkF m 35 #[.val (.int p1), .val (.int (p1 &&& (3 : Int32)))] [(.int ((p1.toUInt32 >>> ((2 : Int32) &&& 31).toUInt32).toInt32))])) _
          refine XS.i2c X0.here hx rfl (hb hby d1_35) rfl ?_
          exact kt
        obtain ⟨fs, hr, hrun, hended, hW, hsame⟩ := X0.leave (v := some (.int (nar .char (((p1.toUInt32 >>> ((2 : Int32) &&& 31).toUInt32).toInt32).toUInt32.toUInt16.toUInt32.toInt32)))) (fun h => by rw [Bd.returns] at h; cases h)
        refine ⟨_, _, ?_, hrun, hended, _, _, rfl, ?_, ⟨_, rfl⟩, hW, hsame.mono (by decide) (by decide)⟩
        · show Steps p.tables e below (s₁.setTop (mkF m 36 #[.val (.int p1), .val (.int (p1 &&& (3 : Int32)))] [(.int (((p1.toUInt32 >>> ((2 : Int32) &&& 31).toUInt32).toInt32).toUInt32.toUInt16.toUInt32.toInt32))])) _
          exact retN X0 hx (t := .char) Bd.returns (by simp) (hb hby d1_36) hr
        · show Q1 Z p1 h0 n0 _ s₁.heap _
          rw [e0]
          exact ⟨_, rfl, N0, rfl⟩
theorem ef_7 (m : MethodId) (x0 : Addr) (x1 : Int32) (x2 : Int32) : entryFrame m #[(.ref x0), (.int x1), (.int x2)] 3 = mkF m 0 #[.val (.ref x0), .val (.int x1), .val (.int x2)] [] := by first | (simp [entryFrame, mkF, argsToLocals, Value.category]; done) | rfl
def Q7 (Z : State) (p2 p3 y : Int32) (h0 : Heap) (n0 : Nat) (v : Option Value) (h : Heap) (L : List Loc) : Prop := v = some (.int (own_i (decide (p2 < p3) && decide (y = (13 : Int32))))) ∧ Fr n0 L ∧ h = h0
set_option maxRecDepth 65536 in
set_option maxHeartbeats 40000000 in
theorem rm7 (l : Launch) (Z : State) (a0 : Array Value) (hw : ∀ d ∈ tables_1, d.before a0 Z = true) (ws : List Jvm.Cond) (a1 : Addr) (p2 : Int32) (p3 : Int32) (y : Int32) (cl : Cell) (h0 : Heap) (n0 : Nat) (Z0 : n0 ≤ h0.size) (Ar : Arr Z h0 a1 cl .char) (hin : ¬ (p2 < 0 ∨ cl.slots.size ≤ (p2).toNatClampNeg)) (hat : cl.slots[(p2).toNatClampNeg]? = some (.int y)) :
    MetFree l (⟨"com/example/brokn/brokn/TextPositionAdvancePinLaw", "isCr", "([CII)I"⟩ : MethodName) (head1 (Jvm.Cond.code (⟨"com/example/brokn/brokn/TextPositionAdvancePinLaw", "isCr", "([CII)I"⟩ : MethodName) method_3_code 3 (some .int) :: ws) ({ frames := 0, cells := 0, slots := 0, locals := 0 } : Room)) (fun a U => a = #[(.ref a1), (.int p2), (.int p3)] ∧ Z.Warmed39 U.vm ∧ U.heap = h0) (fun _ _ _ _ _ => True) (fun _ U o U' => ∃ v L, o = .returned v ∧ Q7 Z p2 p3 y h0 n0 v U'.heap L ∧ FrameEnd U o U' L ({ frames := 0, cells := 0, slots := 0, locals := 0 } : Room).cells ({ frames := 0, cells := 0, slots := 0, locals := 0 } : Room).slots) := by
  refine MetFree.of_bodySF (plainFor_of_name pn_0) hisR ?_
  intro p e s m args below meth c s₁ Bd hml0 hP hK
  obtain ⟨rfl, hZ, hh⟩ := hP
  have hx := Bd.exec
  have hby := Bd.bytes
  have hml : c.maxLocals = 3 := hml0
  have hown : s.vm.findClass "com/example/brokn/brokn/TextPositionAdvancePinLaw" = some m.cls := findClass_of_methodNamed Bd.named
  have hnm := (name_of_methodNamed Bd.named Bd.method).1
  have X0 : Stand p l e ({ frames := 0, cells := 0, slots := 0, locals := 0 } : Room) s m #[(.ref a1), (.int p2), (.int p3)] below meth c s₁ [] 0 0 := Stand.of_body Bd
  have e0 : s₁.heap = h0 := by rw [← hh, Bd.state]; rfl
  have N0 := Fr.nil n0
  refine own_go (B := s₁.setTop (mkF m 0 #[.val (.ref a1), .val (.int p2), .val (.int p3)] [])) (fun t kt => castTop (ef_7 m a1 p2 p3) kt) ?_
  refine own_go (B := s₁.setTop (mkF m 18 #[.val (.ref a1), .val (.int p2), .val (.int p3)] [(.int (own_i (decide (p2 < p3) && decide (y = (13 : Int32)))))])) (fun t kt => ?_) ?_
  · show Steps p.tables e below (s₁.setTop (mkF m 0 #[.val (.ref a1), .val (.int p2), .val (.int p3)] [])) _
    refine XS.iloadN X0.here hx rfl (hb hby d7_0) rfl ?_
    show Steps p.tables e below (s₁.setTop (mkF m 1 #[.val (.ref a1), .val (.int p2), .val (.int p3)] [(.int p2)])) _
    refine XS.iloadN X0.here hx rfl (hb hby d7_1) rfl ?_
    show Steps p.tables e below (s₁.setTop (mkF m 2 #[.val (.ref a1), .val (.int p2), .val (.int p3)] [(.int p3), (.int p2)])) _
    by_cases hc2 : p2 < p3
    · refine XS.icmpNo X0.here hx rfl (hb hby d7_2) rfl (tlt hc2).2.1 ?_
      show Steps p.tables e below (s₁.setTop (mkF m 5 #[.val (.ref a1), .val (.int p2), .val (.int p3)] [])) _
      refine XS.aloadN X0.here hx rfl (hb hby d7_5) rfl rfl ?_
      show Steps p.tables e below (s₁.setTop (mkF m 6 #[.val (.ref a1), .val (.int p2), .val (.int p3)] [(.ref a1)])) _
      refine XS.iloadN X0.here hx rfl (hb hby d7_6) rfl ?_
      show Steps p.tables e below (s₁.setTop (mkF m 7 #[.val (.ref a1), .val (.int p2), .val (.int p3)] [(.int p2), (.ref a1)])) _
      refine X0.caload hx (j := p2) (v := (.int y)) (by rw [e0]; exact Ar.1) (State.isArrayOf_alike hZ.alike Ar.2.1) Ar.2.2 hin hat (g := (mkF m 7 #[.val (.ref a1), .val (.int p2), .val (.int p3)] [(.int p2), (.ref a1)])) rfl rfl (hb hby d7_7) _ ?_
      show Steps p.tables e below (s₁.setTop (mkF m 8 #[.val (.ref a1), .val (.int p2), .val (.int p3)] [(.int y)])) _
      refine XS.bipush X0.here hx rfl (hb hby d7_8) ?_
      show Steps p.tables e below (s₁.setTop (mkF m 10 #[.val (.ref a1), .val (.int p2), .val (.int p3)] [(.int (13 : Int32)), (.int y)])) _
      by_cases hc10 : y = (13 : Int32)
      · refine XS.icmpNo X0.here hx rfl (hb hby d7_10) rfl (teq hc10).2 ?_
        show Steps p.tables e below (s₁.setTop (mkF m 13 #[.val (.ref a1), .val (.int p2), .val (.int p3)] [])) _
        refine XS.iconst X0.here hx rfl (hb hby d7_13) ?_
        show Steps p.tables e below (s₁.setTop (mkF m 14 #[.val (.ref a1), .val (.int p2), .val (.int p3)] [(.int (1 : Int32))])) _
        refine XS.goto X0.here hx rfl (pc0 := 14) (pc' := 18) rfl (hb hby d7_14) (by decide) (by decide) ?_
        exact (castTop (congrArg (fun z__ => ((mkF m 18 #[.val (.ref a1), .val (.int p2), .val (.int p3)] [(.int z__)]) : JFrame)) (show (own_i (decide (p2 < p3) && decide (y = (13 : Int32)))) = (1 : Int32) from by simp [own_i, hc2, hc10]).symm) kt)
      · refine XS.icmpYes X0.here hx rfl (pc0 := 10) (pc' := 17) rfl (hb hby d7_10) rfl (feq hc10).2 (by decide) (by decide) ?_
        show Steps p.tables e below (s₁.setTop (mkF m 17 #[.val (.ref a1), .val (.int p2), .val (.int p3)] [])) _
        refine XS.iconst X0.here hx rfl (hb hby d7_17) ?_
        exact (castTop (congrArg (fun z__ => ((mkF m 18 #[.val (.ref a1), .val (.int p2), .val (.int p3)] [(.int z__)]) : JFrame)) (show (own_i (decide (p2 < p3) && decide (y = (13 : Int32)))) = (0 : Int32) from by simp [own_i, hc2, hc10]).symm) kt)
    · refine XS.icmpYes X0.here hx rfl (pc0 := 2) (pc' := 17) rfl (hb hby d7_2) rfl (flt hc2).2.1 (by decide) (by decide) ?_
      show Steps p.tables e below (s₁.setTop (mkF m 17 #[.val (.ref a1), .val (.int p2), .val (.int p3)] [])) _
      refine XS.iconst X0.here hx rfl (hb hby d7_17) ?_
      exact (castTop (congrArg (fun z__ => ((mkF m 18 #[.val (.ref a1), .val (.int p2), .val (.int p3)] [(.int z__)]) : JFrame)) (show (own_i (decide (p2 < p3) && decide (y = (13 : Int32)))) = (0 : Int32) from by simp [own_i, hc2]).symm) kt)
  obtain ⟨fs, hr, hrun, hended, hW, hsame⟩ := X0.leave (v := some (.int (own_i (decide (p2 < p3) && decide (y = (13 : Int32)))))) (fun h => by rw [Bd.returns] at h; cases h)
  refine ⟨_, _, ?_, hrun, hended, _, _, rfl, ?_, ⟨_, rfl⟩, hW, hsame.mono (by decide) (by decide)⟩
  · show Steps p.tables e below (s₁.setTop (mkF m 18 #[.val (.ref a1), .val (.int p2), .val (.int p3)] [(.int (own_i (decide (p2 < p3) && decide (y = (13 : Int32)))))])) _
    exact retI X0 hx Bd.returns (hb hby d7_18) hr
  · show Q7 Z p2 p3 y h0 n0 _ s₁.heap _
    rw [e0]
    exact ⟨rfl, N0, rfl⟩
theorem ef_8 (m : MethodId) (x0 : Addr) (x1 : Int32) (x2 : Int32) : entryFrame m #[(.ref x0), (.int x1), (.int x2)] 3 = mkF m 0 #[.val (.ref x0), .val (.int x1), .val (.int x2)] [] := by first | (simp [entryFrame, mkF, argsToLocals, Value.category]; done) | rfl
def Q8 (Z : State) (p2 p3 y : Int32) (h0 : Heap) (n0 : Nat) (v : Option Value) (h : Heap) (L : List Loc) : Prop := v = some (.int (own_i (decide (p2 < p3) && decide (y = (10 : Int32))))) ∧ Fr n0 L ∧ h = h0
set_option maxRecDepth 65536 in
set_option maxHeartbeats 40000000 in
theorem rm8 (l : Launch) (Z : State) (a0 : Array Value) (hw : ∀ d ∈ tables_1, d.before a0 Z = true) (ws : List Jvm.Cond) (a1 : Addr) (p2 : Int32) (p3 : Int32) (y : Int32) (cl : Cell) (h0 : Heap) (n0 : Nat) (Z0 : n0 ≤ h0.size) (Ar : Arr Z h0 a1 cl .char) (hin : ¬ (p2 < 0 ∨ cl.slots.size ≤ (p2).toNatClampNeg)) (hat : cl.slots[(p2).toNatClampNeg]? = some (.int y)) :
    MetFree l (⟨"com/example/brokn/brokn/TextPositionAdvancePinLaw", "isLf", "([CII)I"⟩ : MethodName) (head1 (Jvm.Cond.code (⟨"com/example/brokn/brokn/TextPositionAdvancePinLaw", "isLf", "([CII)I"⟩ : MethodName) method_4_code 3 (some .int) :: ws) ({ frames := 0, cells := 0, slots := 0, locals := 0 } : Room)) (fun a U => a = #[(.ref a1), (.int p2), (.int p3)] ∧ Z.Warmed39 U.vm ∧ U.heap = h0) (fun _ _ _ _ _ => True) (fun _ U o U' => ∃ v L, o = .returned v ∧ Q8 Z p2 p3 y h0 n0 v U'.heap L ∧ FrameEnd U o U' L ({ frames := 0, cells := 0, slots := 0, locals := 0 } : Room).cells ({ frames := 0, cells := 0, slots := 0, locals := 0 } : Room).slots) := by
  refine MetFree.of_bodySF (plainFor_of_name pn_0) hisR ?_
  intro p e s m args below meth c s₁ Bd hml0 hP hK
  obtain ⟨rfl, hZ, hh⟩ := hP
  have hx := Bd.exec
  have hby := Bd.bytes
  have hml : c.maxLocals = 3 := hml0
  have hown : s.vm.findClass "com/example/brokn/brokn/TextPositionAdvancePinLaw" = some m.cls := findClass_of_methodNamed Bd.named
  have hnm := (name_of_methodNamed Bd.named Bd.method).1
  have X0 : Stand p l e ({ frames := 0, cells := 0, slots := 0, locals := 0 } : Room) s m #[(.ref a1), (.int p2), (.int p3)] below meth c s₁ [] 0 0 := Stand.of_body Bd
  have e0 : s₁.heap = h0 := by rw [← hh, Bd.state]; rfl
  have N0 := Fr.nil n0
  refine own_go (B := s₁.setTop (mkF m 0 #[.val (.ref a1), .val (.int p2), .val (.int p3)] [])) (fun t kt => castTop (ef_8 m a1 p2 p3) kt) ?_
  refine own_go (B := s₁.setTop (mkF m 18 #[.val (.ref a1), .val (.int p2), .val (.int p3)] [(.int (own_i (decide (p2 < p3) && decide (y = (10 : Int32)))))])) (fun t kt => ?_) ?_
  · show Steps p.tables e below (s₁.setTop (mkF m 0 #[.val (.ref a1), .val (.int p2), .val (.int p3)] [])) _
    refine XS.iloadN X0.here hx rfl (hb hby d8_0) rfl ?_
    show Steps p.tables e below (s₁.setTop (mkF m 1 #[.val (.ref a1), .val (.int p2), .val (.int p3)] [(.int p2)])) _
    refine XS.iloadN X0.here hx rfl (hb hby d8_1) rfl ?_
    show Steps p.tables e below (s₁.setTop (mkF m 2 #[.val (.ref a1), .val (.int p2), .val (.int p3)] [(.int p3), (.int p2)])) _
    by_cases hc2 : p2 < p3
    · refine XS.icmpNo X0.here hx rfl (hb hby d8_2) rfl (tlt hc2).2.1 ?_
      show Steps p.tables e below (s₁.setTop (mkF m 5 #[.val (.ref a1), .val (.int p2), .val (.int p3)] [])) _
      refine XS.aloadN X0.here hx rfl (hb hby d8_5) rfl rfl ?_
      show Steps p.tables e below (s₁.setTop (mkF m 6 #[.val (.ref a1), .val (.int p2), .val (.int p3)] [(.ref a1)])) _
      refine XS.iloadN X0.here hx rfl (hb hby d8_6) rfl ?_
      show Steps p.tables e below (s₁.setTop (mkF m 7 #[.val (.ref a1), .val (.int p2), .val (.int p3)] [(.int p2), (.ref a1)])) _
      refine X0.caload hx (j := p2) (v := (.int y)) (by rw [e0]; exact Ar.1) (State.isArrayOf_alike hZ.alike Ar.2.1) Ar.2.2 hin hat (g := (mkF m 7 #[.val (.ref a1), .val (.int p2), .val (.int p3)] [(.int p2), (.ref a1)])) rfl rfl (hb hby d8_7) _ ?_
      show Steps p.tables e below (s₁.setTop (mkF m 8 #[.val (.ref a1), .val (.int p2), .val (.int p3)] [(.int y)])) _
      refine XS.bipush X0.here hx rfl (hb hby d8_8) ?_
      show Steps p.tables e below (s₁.setTop (mkF m 10 #[.val (.ref a1), .val (.int p2), .val (.int p3)] [(.int (10 : Int32)), (.int y)])) _
      by_cases hc10 : y = (10 : Int32)
      · refine XS.icmpNo X0.here hx rfl (hb hby d8_10) rfl (teq hc10).2 ?_
        show Steps p.tables e below (s₁.setTop (mkF m 13 #[.val (.ref a1), .val (.int p2), .val (.int p3)] [])) _
        refine XS.iconst X0.here hx rfl (hb hby d8_13) ?_
        show Steps p.tables e below (s₁.setTop (mkF m 14 #[.val (.ref a1), .val (.int p2), .val (.int p3)] [(.int (1 : Int32))])) _
        refine XS.goto X0.here hx rfl (pc0 := 14) (pc' := 18) rfl (hb hby d8_14) (by decide) (by decide) ?_
        exact (castTop (congrArg (fun z__ => ((mkF m 18 #[.val (.ref a1), .val (.int p2), .val (.int p3)] [(.int z__)]) : JFrame)) (show (own_i (decide (p2 < p3) && decide (y = (10 : Int32)))) = (1 : Int32) from by simp [own_i, hc2, hc10]).symm) kt)
      · refine XS.icmpYes X0.here hx rfl (pc0 := 10) (pc' := 17) rfl (hb hby d8_10) rfl (feq hc10).2 (by decide) (by decide) ?_
        show Steps p.tables e below (s₁.setTop (mkF m 17 #[.val (.ref a1), .val (.int p2), .val (.int p3)] [])) _
        refine XS.iconst X0.here hx rfl (hb hby d8_17) ?_
        exact (castTop (congrArg (fun z__ => ((mkF m 18 #[.val (.ref a1), .val (.int p2), .val (.int p3)] [(.int z__)]) : JFrame)) (show (own_i (decide (p2 < p3) && decide (y = (10 : Int32)))) = (0 : Int32) from by simp [own_i, hc2, hc10]).symm) kt)
    · refine XS.icmpYes X0.here hx rfl (pc0 := 2) (pc' := 17) rfl (hb hby d8_2) rfl (flt hc2).2.1 (by decide) (by decide) ?_
      show Steps p.tables e below (s₁.setTop (mkF m 17 #[.val (.ref a1), .val (.int p2), .val (.int p3)] [])) _
      refine XS.iconst X0.here hx rfl (hb hby d8_17) ?_
      exact (castTop (congrArg (fun z__ => ((mkF m 18 #[.val (.ref a1), .val (.int p2), .val (.int p3)] [(.int z__)]) : JFrame)) (show (own_i (decide (p2 < p3) && decide (y = (10 : Int32)))) = (0 : Int32) from by simp [own_i, hc2]).symm) kt)
  obtain ⟨fs, hr, hrun, hended, hW, hsame⟩ := X0.leave (v := some (.int (own_i (decide (p2 < p3) && decide (y = (10 : Int32)))))) (fun h => by rw [Bd.returns] at h; cases h)
  refine ⟨_, _, ?_, hrun, hended, _, _, rfl, ?_, ⟨_, rfl⟩, hW, hsame.mono (by decide) (by decide)⟩
  · show Steps p.tables e below (s₁.setTop (mkF m 18 #[.val (.ref a1), .val (.int p2), .val (.int p3)] [(.int (own_i (decide (p2 < p3) && decide (y = (10 : Int32)))))])) _
    exact retI X0 hx Bd.returns (hb hby d8_18) hr
  · show Q8 Z p2 p3 y h0 n0 _ s₁.heap _
    rw [e0]
    exact ⟨rfl, N0, rfl⟩
theorem ef_9 (m : MethodId) (x0 : Addr) (x1 : Int32) (x2 : Int32) : entryFrame m #[(.ref x0), (.int x1), (.int x2)] 3 = mkF m 0 #[.val (.ref x0), .val (.int x1), .val (.int x2)] [] := by first | (simp [entryFrame, mkF, argsToLocals, Value.category]; done) | rfl
def Q9 (Z : State) (p2 p3 y y' : Int32) (h0 : Heap) (n0 : Nat) (v : Option Value) (h : Heap) (L : List Loc) : Prop := v = some (.int (own_i (decide ((p2 + (1 : Int32)) < p3) && (decide (y = (13 : Int32)) && decide (y' = (10 : Int32)))))) ∧ Fr n0 L ∧ h = h0
set_option maxRecDepth 65536 in
set_option maxHeartbeats 40000000 in
theorem rm9 (l : Launch) (Z : State) (a0 : Array Value) (hw : ∀ d ∈ tables_1, d.before a0 Z = true) (ws : List Jvm.Cond) (a1 : Addr) (p2 : Int32) (p3 : Int32) (y y' : Int32) (cl : Cell) (h0 : Heap) (n0 : Nat) (Z0 : n0 ≤ h0.size) (Ar : Arr Z h0 a1 cl .char) (hin : ¬ (p2 < 0 ∨ cl.slots.size ≤ (p2).toNatClampNeg)) (hat : cl.slots[(p2).toNatClampNeg]? = some (.int y)) (hin' : ¬ ((p2 + (1 : Int32)) < 0 ∨ cl.slots.size ≤ ((p2 + (1 : Int32))).toNatClampNeg)) (hat' : cl.slots[((p2 + (1 : Int32))).toNatClampNeg]? = some (.int y')) :
    MetFree l (⟨"com/example/brokn/brokn/TextPositionAdvancePinLaw", "isPair", "([CII)I"⟩ : MethodName) (head1 (Jvm.Cond.code (⟨"com/example/brokn/brokn/TextPositionAdvancePinLaw", "isPair", "([CII)I"⟩ : MethodName) method_5_code 3 (some .int) :: ws) ({ frames := 0, cells := 0, slots := 0, locals := 0 } : Room)) (fun a U => a = #[(.ref a1), (.int p2), (.int p3)] ∧ Z.Warmed39 U.vm ∧ U.heap = h0) (fun _ _ _ _ _ => True) (fun _ U o U' => ∃ v L, o = .returned v ∧ Q9 Z p2 p3 y y' h0 n0 v U'.heap L ∧ FrameEnd U o U' L ({ frames := 0, cells := 0, slots := 0, locals := 0 } : Room).cells ({ frames := 0, cells := 0, slots := 0, locals := 0 } : Room).slots) := by
  refine MetFree.of_bodySF (plainFor_of_name pn_0) hisR ?_
  intro p e s m args below meth c s₁ Bd hml0 hP hK
  obtain ⟨rfl, hZ, hh⟩ := hP
  have hx := Bd.exec
  have hby := Bd.bytes
  have hml : c.maxLocals = 3 := hml0
  have hown : s.vm.findClass "com/example/brokn/brokn/TextPositionAdvancePinLaw" = some m.cls := findClass_of_methodNamed Bd.named
  have hnm := (name_of_methodNamed Bd.named Bd.method).1
  have X0 : Stand p l e ({ frames := 0, cells := 0, slots := 0, locals := 0 } : Room) s m #[(.ref a1), (.int p2), (.int p3)] below meth c s₁ [] 0 0 := Stand.of_body Bd
  have e0 : s₁.heap = h0 := by rw [← hh, Bd.state]; rfl
  have N0 := Fr.nil n0
  refine own_go (B := s₁.setTop (mkF m 0 #[.val (.ref a1), .val (.int p2), .val (.int p3)] [])) (fun t kt => castTop (ef_9 m a1 p2 p3) kt) ?_
  refine own_go (B := s₁.setTop (mkF m 30 #[.val (.ref a1), .val (.int p2), .val (.int p3)] [(.int (own_i (decide ((p2 + (1 : Int32)) < p3) && (decide (y = (13 : Int32)) && decide (y' = (10 : Int32))))))])) (fun t kt => ?_) ?_
  · show Steps p.tables e below (s₁.setTop (mkF m 0 #[.val (.ref a1), .val (.int p2), .val (.int p3)] [])) _
    refine XS.iloadN X0.here hx rfl (hb hby d9_0) rfl ?_
    show Steps p.tables e below (s₁.setTop (mkF m 1 #[.val (.ref a1), .val (.int p2), .val (.int p3)] [(.int p2)])) _
    refine XS.iconst X0.here hx rfl (hb hby d9_1) ?_
    show Steps p.tables e below (s₁.setTop (mkF m 2 #[.val (.ref a1), .val (.int p2), .val (.int p3)] [(.int (1 : Int32)), (.int p2)])) _
    refine XS.iadd X0.here hx rfl (hb hby d9_2) rfl ?_
    show Steps p.tables e below (s₁.setTop (mkF m 3 #[.val (.ref a1), .val (.int p2), .val (.int p3)] [(.int (p2 + (1 : Int32)))])) _
    refine XS.iloadN X0.here hx rfl (hb hby d9_3) rfl ?_
    show Steps p.tables e below (s₁.setTop (mkF m 4 #[.val (.ref a1), .val (.int p2), .val (.int p3)] [(.int p3), (.int (p2 + (1 : Int32)))])) _
    by_cases hc4 : (p2 + (1 : Int32)) < p3
    · refine XS.icmpNo X0.here hx rfl (hb hby d9_4) rfl (tlt hc4).2.1 ?_
      show Steps p.tables e below (s₁.setTop (mkF m 7 #[.val (.ref a1), .val (.int p2), .val (.int p3)] [])) _
      refine XS.aloadN X0.here hx rfl (hb hby d9_7) rfl rfl ?_
      show Steps p.tables e below (s₁.setTop (mkF m 8 #[.val (.ref a1), .val (.int p2), .val (.int p3)] [(.ref a1)])) _
      refine XS.iloadN X0.here hx rfl (hb hby d9_8) rfl ?_
      show Steps p.tables e below (s₁.setTop (mkF m 9 #[.val (.ref a1), .val (.int p2), .val (.int p3)] [(.int p2), (.ref a1)])) _
      refine X0.caload hx (j := p2) (v := (.int y)) (by rw [e0]; exact Ar.1) (State.isArrayOf_alike hZ.alike Ar.2.1) Ar.2.2 hin hat (g := (mkF m 9 #[.val (.ref a1), .val (.int p2), .val (.int p3)] [(.int p2), (.ref a1)])) rfl rfl (hb hby d9_9) _ ?_
      show Steps p.tables e below (s₁.setTop (mkF m 10 #[.val (.ref a1), .val (.int p2), .val (.int p3)] [(.int y)])) _
      refine XS.bipush X0.here hx rfl (hb hby d9_10) ?_
      show Steps p.tables e below (s₁.setTop (mkF m 12 #[.val (.ref a1), .val (.int p2), .val (.int p3)] [(.int (13 : Int32)), (.int y)])) _
      by_cases hc12 : y = (13 : Int32)
      · refine XS.icmpNo X0.here hx rfl (hb hby d9_12) rfl (teq hc12).2 ?_
        show Steps p.tables e below (s₁.setTop (mkF m 15 #[.val (.ref a1), .val (.int p2), .val (.int p3)] [])) _
        refine XS.aloadN X0.here hx rfl (hb hby d9_15) rfl rfl ?_
        show Steps p.tables e below (s₁.setTop (mkF m 16 #[.val (.ref a1), .val (.int p2), .val (.int p3)] [(.ref a1)])) _
        refine XS.iloadN X0.here hx rfl (hb hby d9_16) rfl ?_
        show Steps p.tables e below (s₁.setTop (mkF m 17 #[.val (.ref a1), .val (.int p2), .val (.int p3)] [(.int p2), (.ref a1)])) _
        refine XS.iconst X0.here hx rfl (hb hby d9_17) ?_
        show Steps p.tables e below (s₁.setTop (mkF m 18 #[.val (.ref a1), .val (.int p2), .val (.int p3)] [(.int (1 : Int32)), (.int p2), (.ref a1)])) _
        refine XS.iadd X0.here hx rfl (hb hby d9_18) rfl ?_
        show Steps p.tables e below (s₁.setTop (mkF m 19 #[.val (.ref a1), .val (.int p2), .val (.int p3)] [(.int (p2 + (1 : Int32))), (.ref a1)])) _
        refine X0.caload hx (j := (p2 + (1 : Int32))) (v := (.int y')) (by rw [e0]; exact Ar.1) (State.isArrayOf_alike hZ.alike Ar.2.1) Ar.2.2 hin' hat' (g := (mkF m 19 #[.val (.ref a1), .val (.int p2), .val (.int p3)] [(.int (p2 + (1 : Int32))), (.ref a1)])) rfl rfl (hb hby d9_19) _ ?_
        show Steps p.tables e below (s₁.setTop (mkF m 20 #[.val (.ref a1), .val (.int p2), .val (.int p3)] [(.int y')])) _
        refine XS.bipush X0.here hx rfl (hb hby d9_20) ?_
        show Steps p.tables e below (s₁.setTop (mkF m 22 #[.val (.ref a1), .val (.int p2), .val (.int p3)] [(.int (10 : Int32)), (.int y')])) _
        by_cases hc22 : y' = (10 : Int32)
        · refine XS.icmpNo X0.here hx rfl (hb hby d9_22) rfl (teq hc22).2 ?_
          show Steps p.tables e below (s₁.setTop (mkF m 25 #[.val (.ref a1), .val (.int p2), .val (.int p3)] [])) _
          refine XS.iconst X0.here hx rfl (hb hby d9_25) ?_
          show Steps p.tables e below (s₁.setTop (mkF m 26 #[.val (.ref a1), .val (.int p2), .val (.int p3)] [(.int (1 : Int32))])) _
          refine XS.goto X0.here hx rfl (pc0 := 26) (pc' := 30) rfl (hb hby d9_26) (by decide) (by decide) ?_
          exact (castTop (congrArg (fun z__ => ((mkF m 30 #[.val (.ref a1), .val (.int p2), .val (.int p3)] [(.int z__)]) : JFrame)) (show (own_i (decide ((p2 + (1 : Int32)) < p3) && (decide (y = (13 : Int32)) && decide (y' = (10 : Int32))))) = (1 : Int32) from by simp [own_i, hc4, hc12, hc22]).symm) kt)
        · refine XS.icmpYes X0.here hx rfl (pc0 := 22) (pc' := 29) rfl (hb hby d9_22) rfl (feq hc22).2 (by decide) (by decide) ?_
          show Steps p.tables e below (s₁.setTop (mkF m 29 #[.val (.ref a1), .val (.int p2), .val (.int p3)] [])) _
          refine XS.iconst X0.here hx rfl (hb hby d9_29) ?_
          exact (castTop (congrArg (fun z__ => ((mkF m 30 #[.val (.ref a1), .val (.int p2), .val (.int p3)] [(.int z__)]) : JFrame)) (show (own_i (decide ((p2 + (1 : Int32)) < p3) && (decide (y = (13 : Int32)) && decide (y' = (10 : Int32))))) = (0 : Int32) from by simp [own_i, hc4, hc12, hc22]).symm) kt)
      · refine XS.icmpYes X0.here hx rfl (pc0 := 12) (pc' := 29) rfl (hb hby d9_12) rfl (feq hc12).2 (by decide) (by decide) ?_
        show Steps p.tables e below (s₁.setTop (mkF m 29 #[.val (.ref a1), .val (.int p2), .val (.int p3)] [])) _
        refine XS.iconst X0.here hx rfl (hb hby d9_29) ?_
        exact (castTop (congrArg (fun z__ => ((mkF m 30 #[.val (.ref a1), .val (.int p2), .val (.int p3)] [(.int z__)]) : JFrame)) (show (own_i (decide ((p2 + (1 : Int32)) < p3) && (decide (y = (13 : Int32)) && decide (y' = (10 : Int32))))) = (0 : Int32) from by simp [own_i, hc4, hc12]).symm) kt)
    · refine XS.icmpYes X0.here hx rfl (pc0 := 4) (pc' := 29) rfl (hb hby d9_4) rfl (flt hc4).2.1 (by decide) (by decide) ?_
      show Steps p.tables e below (s₁.setTop (mkF m 29 #[.val (.ref a1), .val (.int p2), .val (.int p3)] [])) _
      refine XS.iconst X0.here hx rfl (hb hby d9_29) ?_
      exact (castTop (congrArg (fun z__ => ((mkF m 30 #[.val (.ref a1), .val (.int p2), .val (.int p3)] [(.int z__)]) : JFrame)) (show (own_i (decide ((p2 + (1 : Int32)) < p3) && (decide (y = (13 : Int32)) && decide (y' = (10 : Int32))))) = (0 : Int32) from by simp [own_i, hc4]).symm) kt)
  obtain ⟨fs, hr, hrun, hended, hW, hsame⟩ := X0.leave (v := some (.int (own_i (decide ((p2 + (1 : Int32)) < p3) && (decide (y = (13 : Int32)) && decide (y' = (10 : Int32))))))) (fun h => by rw [Bd.returns] at h; cases h)
  refine ⟨_, _, ?_, hrun, hended, _, _, rfl, ?_, ⟨_, rfl⟩, hW, hsame.mono (by decide) (by decide)⟩
  · show Steps p.tables e below (s₁.setTop (mkF m 30 #[.val (.ref a1), .val (.int p2), .val (.int p3)] [(.int (own_i (decide ((p2 + (1 : Int32)) < p3) && (decide (y = (13 : Int32)) && decide (y' = (10 : Int32))))))])) _
    exact retI X0 hx Bd.returns (hb hby d9_30) hr
  · show Q9 Z p2 p3 y y' h0 n0 _ s₁.heap _
    rw [e0]
    exact ⟨rfl, N0, rfl⟩
theorem ef_12 (m : MethodId) (x0 : Addr) (x1 : Int32) (x2 : Int32) : entryFrame m #[(.ref x0), (.int x1), (.int x2)] 3 = mkF m 0 #[.val (.ref x0), .val (.int x1), .val (.int x2)] [] := by first | (simp [entryFrame, mkF, argsToLocals, Value.category]; done) | rfl
def Q12 (Z : State) (p2 p3 y : Int32) (h0 : Heap) (n0 : Nat) (v : Option Value) (h : Heap) (L : List Loc) : Prop := v = some (.int (own_i (decide (p2 < p3) && (decide (y = (13 : Int32)) || decide (y = (10 : Int32)))))) ∧ Fr n0 L ∧ h = h0
set_option maxRecDepth 65536 in
set_option maxHeartbeats 40000000 in
theorem rm12 (l : Launch) (Z : State) (a0 : Array Value) (hw : ∀ d ∈ tables_1, d.before a0 Z = true) (ws : List Jvm.Cond) (a1 : Addr) (p2 : Int32) (p3 : Int32) (y : Int32) (cl : Cell) (h0 : Heap) (n0 : Nat) (Z0 : n0 ≤ h0.size) (Ar : Arr Z h0 a1 cl .char) (hin : ¬ (p2 < 0 ∨ cl.slots.size ≤ (p2).toNatClampNeg)) (hat : cl.slots[(p2).toNatClampNeg]? = some (.int y)) :
    MetFree l (⟨"com/example/brokn/brokn/TextPositionAdvancePinLaw", "isBreak", "([CII)Z"⟩ : MethodName) (head1 (Jvm.Cond.code (⟨"com/example/brokn/brokn/TextPositionAdvancePinLaw", "isBreak", "([CII)Z"⟩ : MethodName) method_6_code 3 (some .boolean) :: ws) ({ frames := 0, cells := 0, slots := 0, locals := 0 } : Room)) (fun a U => a = #[(.ref a1), (.int p2), (.int p3)] ∧ Z.Warmed39 U.vm ∧ U.heap = h0) (fun _ _ _ _ _ => True) (fun _ U o U' => ∃ v L, o = .returned v ∧ Q12 Z p2 p3 y h0 n0 v U'.heap L ∧ FrameEnd U o U' L ({ frames := 0, cells := 0, slots := 0, locals := 0 } : Room).cells ({ frames := 0, cells := 0, slots := 0, locals := 0 } : Room).slots) := by
  refine MetFree.of_bodySF (plainFor_of_name pn_0) hisR ?_
  intro p e s m args below meth c s₁ Bd hml0 hP hK
  obtain ⟨rfl, hZ, hh⟩ := hP
  have hx := Bd.exec
  have hby := Bd.bytes
  have hml : c.maxLocals = 3 := hml0
  have hown : s.vm.findClass "com/example/brokn/brokn/TextPositionAdvancePinLaw" = some m.cls := findClass_of_methodNamed Bd.named
  have hnm := (name_of_methodNamed Bd.named Bd.method).1
  have X0 : Stand p l e ({ frames := 0, cells := 0, slots := 0, locals := 0 } : Room) s m #[(.ref a1), (.int p2), (.int p3)] below meth c s₁ [] 0 0 := Stand.of_body Bd
  have e0 : s₁.heap = h0 := by rw [← hh, Bd.state]; rfl
  have N0 := Fr.nil n0
  refine own_go (B := s₁.setTop (mkF m 0 #[.val (.ref a1), .val (.int p2), .val (.int p3)] [])) (fun t kt => castTop (ef_12 m a1 p2 p3) kt) ?_
  refine own_go (B := s₁.setTop (mkF m 26 #[.val (.ref a1), .val (.int p2), .val (.int p3)] [(.int (own_i (decide (p2 < p3) && (decide (y = (13 : Int32)) || decide (y = (10 : Int32))))))])) (fun t kt => ?_) ?_
  · show Steps p.tables e below (s₁.setTop (mkF m 0 #[.val (.ref a1), .val (.int p2), .val (.int p3)] [])) _
    refine XS.iloadN X0.here hx rfl (hb hby d12_0) rfl ?_
    show Steps p.tables e below (s₁.setTop (mkF m 1 #[.val (.ref a1), .val (.int p2), .val (.int p3)] [(.int p2)])) _
    refine XS.iloadN X0.here hx rfl (hb hby d12_1) rfl ?_
    show Steps p.tables e below (s₁.setTop (mkF m 2 #[.val (.ref a1), .val (.int p2), .val (.int p3)] [(.int p3), (.int p2)])) _
    by_cases hc2 : p2 < p3
    · refine XS.icmpNo X0.here hx rfl (hb hby d12_2) rfl (tlt hc2).2.1 ?_
      show Steps p.tables e below (s₁.setTop (mkF m 5 #[.val (.ref a1), .val (.int p2), .val (.int p3)] [])) _
      refine XS.aloadN X0.here hx rfl (hb hby d12_5) rfl rfl ?_
      show Steps p.tables e below (s₁.setTop (mkF m 6 #[.val (.ref a1), .val (.int p2), .val (.int p3)] [(.ref a1)])) _
      refine XS.iloadN X0.here hx rfl (hb hby d12_6) rfl ?_
      show Steps p.tables e below (s₁.setTop (mkF m 7 #[.val (.ref a1), .val (.int p2), .val (.int p3)] [(.int p2), (.ref a1)])) _
      refine X0.caload hx (j := p2) (v := (.int y)) (by rw [e0]; exact Ar.1) (State.isArrayOf_alike hZ.alike Ar.2.1) Ar.2.2 hin hat (g := (mkF m 7 #[.val (.ref a1), .val (.int p2), .val (.int p3)] [(.int p2), (.ref a1)])) rfl rfl (hb hby d12_7) _ ?_
      show Steps p.tables e below (s₁.setTop (mkF m 8 #[.val (.ref a1), .val (.int p2), .val (.int p3)] [(.int y)])) _
      refine XS.bipush X0.here hx rfl (hb hby d12_8) ?_
      show Steps p.tables e below (s₁.setTop (mkF m 10 #[.val (.ref a1), .val (.int p2), .val (.int p3)] [(.int (13 : Int32)), (.int y)])) _
      by_cases hc10 : y = (13 : Int32)
      · refine XS.icmpYes X0.here hx rfl (pc0 := 10) (pc' := 21) rfl (hb hby d12_10) rfl (teq hc10).1 (by decide) (by decide) ?_
        show Steps p.tables e below (s₁.setTop (mkF m 21 #[.val (.ref a1), .val (.int p2), .val (.int p3)] [])) _
        refine XS.iconst X0.here hx rfl (hb hby d12_21) ?_
        show Steps p.tables e below (s₁.setTop (mkF m 22 #[.val (.ref a1), .val (.int p2), .val (.int p3)] [(.int (1 : Int32))])) _
        refine XS.goto X0.here hx rfl (pc0 := 22) (pc' := 26) rfl (hb hby d12_22) (by decide) (by decide) ?_
        exact (castTop (congrArg (fun z__ => ((mkF m 26 #[.val (.ref a1), .val (.int p2), .val (.int p3)] [(.int z__)]) : JFrame)) (show (own_i (decide (p2 < p3) && (decide (y = (13 : Int32)) || decide (y = (10 : Int32))))) = (1 : Int32) from by simp [own_i, hc2, hc10]).symm) kt)
      · refine XS.icmpNo X0.here hx rfl (hb hby d12_10) rfl (feq hc10).1 ?_
        show Steps p.tables e below (s₁.setTop (mkF m 13 #[.val (.ref a1), .val (.int p2), .val (.int p3)] [])) _
        refine XS.aloadN X0.here hx rfl (hb hby d12_13) rfl rfl ?_
        show Steps p.tables e below (s₁.setTop (mkF m 14 #[.val (.ref a1), .val (.int p2), .val (.int p3)] [(.ref a1)])) _
        refine XS.iloadN X0.here hx rfl (hb hby d12_14) rfl ?_
        show Steps p.tables e below (s₁.setTop (mkF m 15 #[.val (.ref a1), .val (.int p2), .val (.int p3)] [(.int p2), (.ref a1)])) _
        refine X0.caload hx (j := p2) (v := (.int y)) (by rw [e0]; exact Ar.1) (State.isArrayOf_alike hZ.alike Ar.2.1) Ar.2.2 hin hat (g := (mkF m 15 #[.val (.ref a1), .val (.int p2), .val (.int p3)] [(.int p2), (.ref a1)])) rfl rfl (hb hby d12_15) _ ?_
        show Steps p.tables e below (s₁.setTop (mkF m 16 #[.val (.ref a1), .val (.int p2), .val (.int p3)] [(.int y)])) _
        refine XS.bipush X0.here hx rfl (hb hby d12_16) ?_
        show Steps p.tables e below (s₁.setTop (mkF m 18 #[.val (.ref a1), .val (.int p2), .val (.int p3)] [(.int (10 : Int32)), (.int y)])) _
        by_cases hc18 : y = (10 : Int32)
        · refine XS.icmpNo X0.here hx rfl (hb hby d12_18) rfl (teq hc18).2 ?_
          show Steps p.tables e below (s₁.setTop (mkF m 21 #[.val (.ref a1), .val (.int p2), .val (.int p3)] [])) _
          refine XS.iconst X0.here hx rfl (hb hby d12_21) ?_
          show Steps p.tables e below (s₁.setTop (mkF m 22 #[.val (.ref a1), .val (.int p2), .val (.int p3)] [(.int (1 : Int32))])) _
          refine XS.goto X0.here hx rfl (pc0 := 22) (pc' := 26) rfl (hb hby d12_22) (by decide) (by decide) ?_
          exact (castTop (congrArg (fun z__ => ((mkF m 26 #[.val (.ref a1), .val (.int p2), .val (.int p3)] [(.int z__)]) : JFrame)) (show (own_i (decide (p2 < p3) && (decide (y = (13 : Int32)) || decide (y = (10 : Int32))))) = (1 : Int32) from by simp [own_i, hc2, hc10, hc18]).symm) kt)
        · refine XS.icmpYes X0.here hx rfl (pc0 := 18) (pc' := 25) rfl (hb hby d12_18) rfl (feq hc18).2 (by decide) (by decide) ?_
          show Steps p.tables e below (s₁.setTop (mkF m 25 #[.val (.ref a1), .val (.int p2), .val (.int p3)] [])) _
          refine XS.iconst X0.here hx rfl (hb hby d12_25) ?_
          exact (castTop (congrArg (fun z__ => ((mkF m 26 #[.val (.ref a1), .val (.int p2), .val (.int p3)] [(.int z__)]) : JFrame)) (show (own_i (decide (p2 < p3) && (decide (y = (13 : Int32)) || decide (y = (10 : Int32))))) = (0 : Int32) from by simp [own_i, hc2, hc10, hc18]).symm) kt)
    · refine XS.icmpYes X0.here hx rfl (pc0 := 2) (pc' := 25) rfl (hb hby d12_2) rfl (flt hc2).2.1 (by decide) (by decide) ?_
      show Steps p.tables e below (s₁.setTop (mkF m 25 #[.val (.ref a1), .val (.int p2), .val (.int p3)] [])) _
      refine XS.iconst X0.here hx rfl (hb hby d12_25) ?_
      exact (castTop (congrArg (fun z__ => ((mkF m 26 #[.val (.ref a1), .val (.int p2), .val (.int p3)] [(.int z__)]) : JFrame)) (show (own_i (decide (p2 < p3) && (decide (y = (13 : Int32)) || decide (y = (10 : Int32))))) = (0 : Int32) from by simp [own_i, hc2]).symm) kt)
  obtain ⟨fs, hr, hrun, hended, hW, hsame⟩ := X0.leave (v := some (.int (own_i (decide (p2 < p3) && (decide (y = (13 : Int32)) || decide (y = (10 : Int32))))))) (fun h => by rw [Bd.returns] at h; cases h)
  refine ⟨_, _, ?_, hrun, hended, _, _, rfl, ?_, ⟨_, rfl⟩, hW, hsame.mono (by decide) (by decide)⟩
  · show Steps p.tables e below (s₁.setTop (mkF m 26 #[.val (.ref a1), .val (.int p2), .val (.int p3)] [(.int (own_i (decide (p2 < p3) && (decide (y = (13 : Int32)) || decide (y = (10 : Int32))))))])) _
    exact retN X0 hx (t := .boolean) Bd.returns (by simp) (hb hby d12_26) (by rw [own_nb]; exact hr)
  · show Q12 Z p2 p3 y h0 n0 _ s₁.heap _
    rw [e0]
    exact ⟨rfl, N0, rfl⟩
theorem ef_6 (m : MethodId) (x0 : Addr) (x1 : Int32) : entryFrame m #[(.ref x0), (.int x1)] 5 = mkF m 0 #[.val (.ref x0), .val (.int x1), .unset, .unset, .unset] [] := by first | (simp [entryFrame, mkF, argsToLocals, Value.category]; done) | rfl
def Q6 (Z : State) (p2 : Int32) (y0 y1 y2 y3 : Int32) (h0 : Heap) (n0 : Nat) (v : Option Value) (h : Heap) (L : List Loc) : Prop := v = some (.int (own_lines p2 y0 y1 y2 y3)) ∧ Fr n0 L ∧ h = h0
set_option maxRecDepth 65536 in
set_option maxHeartbeats 40000000 in
theorem rm6 (l : Launch) (Z : State) (a0 : Array Value) (hw : ∀ d ∈ tables_1, d.before a0 Z = true) (ws : List Jvm.Cond) (a1 : Addr) (p2 : Int32) (ka : ClassId) (y0 y1 y2 y3 : Int32) (h0 : Heap) (n0 : Nat) (Z0 : n0 ≤ h0.size) (Va : Arv Z h0 a1 ka .char (4 : Int32) [(.int y0), (.int y1), (.int y2), (.int y3)] (.int (0 : Int32))) :
    MetFree l (⟨"com/example/brokn/brokn/TextPositionAdvancePinLaw", "lines", "([CI)I"⟩ : MethodName) (head1 (Jvm.Cond.code (⟨"com/example/brokn/brokn/TextPositionAdvancePinLaw", "lines", "([CI)I"⟩ : MethodName) method_7_code 5 (some .int) :: ws) ({ frames := 1, cells := 0, slots := 0, locals := 40 } : Room)) (fun a U => a = #[(.ref a1), (.int p2)] ∧ Z.Warmed39 U.vm ∧ U.heap = h0) (fun _ _ _ _ _ => True) (fun _ U o U' => ∃ v L, o = .returned v ∧ Q6 Z p2 y0 y1 y2 y3 h0 n0 v U'.heap L ∧ FrameEnd U o U' L ({ frames := 1, cells := 0, slots := 0, locals := 40 } : Room).cells ({ frames := 1, cells := 0, slots := 0, locals := 40 } : Room).slots) := by
  refine MetFree.of_bodySF (plainFor_of_name pn_0) hisR ?_
  intro p e s m args below meth c s₁ Bd hml0 hP hK
  obtain ⟨rfl, hZ, hh⟩ := hP
  have hx := Bd.exec
  have hby := Bd.bytes
  have hml : c.maxLocals = 5 := hml0
  have hown : s.vm.findClass "com/example/brokn/brokn/TextPositionAdvancePinLaw" = some m.cls := findClass_of_methodNamed Bd.named
  have hnm := (name_of_methodNamed Bd.named Bd.method).1
  have X0 : Stand p l e ({ frames := 1, cells := 0, slots := 0, locals := 40 } : Room) s m #[(.ref a1), (.int p2)] below meth c s₁ [] 0 0 := Stand.of_body Bd
  have e0 : s₁.heap = h0 := by rw [← hh, Bd.state]; rfl
  have N0 := Fr.nil n0
  refine own_go (B := s₁.setTop (mkF m 0 #[.val (.ref a1), .val (.int p2), .unset, .unset, .unset] [])) (fun t kt => castTop (ef_6 m a1 p2) kt) ?_
  obtain ⟨cl, Ar, qa, S, M, H, U⟩ := Va
  refine own_go (B := s₁.setTop (mkF m 3 #[.val (.ref a1), .val (.int p2), .unset, .unset, .unset] [(.int p2), (.int (0 : Int32)), (.ref a1)])) (fun t kt => ?_) ?_
  · show Steps p.tables e below (s₁.setTop (mkF m 0 #[.val (.ref a1), .val (.int p2), .unset, .unset, .unset] [])) _
    refine XS.aloadN X0.here hx rfl (hb hby d6_0) rfl rfl ?_
    show Steps p.tables e below (s₁.setTop (mkF m 1 #[.val (.ref a1), .val (.int p2), .unset, .unset, .unset] [(.ref a1)])) _
    refine XS.iconst X0.here hx rfl (hb hby d6_1) ?_
    show Steps p.tables e below (s₁.setTop (mkF m 2 #[.val (.ref a1), .val (.int p2), .unset, .unset, .unset] [(.int (0 : Int32)), (.ref a1)])) _
    refine XS.iloadN X0.here hx rfl (hb hby d6_2) rfl ?_
    exact kt
  obtain ⟨_, _, ⟨T1, L1, k1, n1⟩, -, X1, ⟨Lc1, hQ1, l1, y1, z1⟩, st1⟩ := Jvm.LawKit.callS X0 hx (y := (⟨"com/example/brokn/brokn/TextPositionAdvancePinLaw", "isCr", "([CII)I"⟩ : MethodName)) hown (mvT hZ (hw _ (List.mem_of_getElem? (i := 34) rfl))) (mvT hZ (hw _ (List.mem_of_getElem? (i := 35) rfl))) (mvT hZ (hw _ (List.mem_of_getElem? (i := 3) rfl))) (mvT hZ (hw _ (List.mem_of_getElem? (i := 36) rfl))) (by decide) (backOf (W := 0) (rm7 l Z a0 hw [] a1 (0 : Int32) p2 y0 cl h0 n0 Z0 Ar (inb_of S ⟨by decide, by decide⟩) (H.at (inb_of S ⟨by decide, by decide⟩) rfl)) hZ (hw _ (List.mem_of_getElem? (i := 36) rfl)) (hw _ (List.mem_of_getElem? (i := 3) rfl)) (by decide) (by decide)) (g := (mkF m 3 #[.val (.ref a1), .val (.int p2), .unset, .unset, .unset] [(.int p2), (.int (0 : Int32)), (.ref a1)])) rfl (by rw [hml]; rfl) (argsL := [(.ref a1), (.int (0 : Int32)), (.int p2)]) (rest := []) (lenOf pd_0 rfl) rfl (by show 2 * 0 + _ ≤ _; exact Nat.le_of_eq rfl) (hb hby d6_3) (fun _ _ => ⟨rfl, e0, (by decide : 0 + 0 ≤ _), (by decide : 0 + 0 ≤ _)⟩)
  dsimp only [Pt.U, Pt.locs, Pt.cells, Pt.slots] at X1 l1 y1 z1 st1 hQ1
  subst l1 y1 z1
  obtain ⟨rfl, N1q, e1⟩ := hQ1
  have N1 := Fr.app N0 N1q
  refine own_go (B := T1.setTop (mkF m 6 #[.val (.ref a1), .val (.int p2), .unset, .unset, .unset] [(.int (own_i (decide ((0 : Int32) < p2) && decide (y0 = (13 : Int32)))))])) (fun t kt => st1 t kt) ?_
  refine own_go (B := T1.setTop (mkF m 9 #[.val (.ref a1), .val (.int p2), .unset, .unset, .unset] [(.int p2), (.int (1 : Int32)), (.ref a1), (.int (own_i (decide ((0 : Int32) < p2) && decide (y0 = (13 : Int32)))))])) (fun t kt => ?_) ?_
  · show Steps p.tables e below (T1.setTop (mkF m 6 #[.val (.ref a1), .val (.int p2), .unset, .unset, .unset] [(.int (own_i (decide ((0 : Int32) < p2) && decide (y0 = (13 : Int32)))))])) _
    refine XS.aloadN X1.here hx rfl (hb hby d6_6) rfl rfl ?_
    show Steps p.tables e below (T1.setTop (mkF m 7 #[.val (.ref a1), .val (.int p2), .unset, .unset, .unset] [(.ref a1), (.int (own_i (decide ((0 : Int32) < p2) && decide (y0 = (13 : Int32)))))])) _
    refine XS.iconst X1.here hx rfl (hb hby d6_7) ?_
    show Steps p.tables e below (T1.setTop (mkF m 8 #[.val (.ref a1), .val (.int p2), .unset, .unset, .unset] [(.int (1 : Int32)), (.ref a1), (.int (own_i (decide ((0 : Int32) < p2) && decide (y0 = (13 : Int32)))))])) _
    refine XS.iloadN X1.here hx rfl (hb hby d6_8) rfl ?_
    exact kt
  obtain ⟨_, _, ⟨T2, L2, k2, n2⟩, -, X2, ⟨Lc2, hQ2, l2, y2, z2⟩, st2⟩ := Jvm.LawKit.callS X1 hx (y := (⟨"com/example/brokn/brokn/TextPositionAdvancePinLaw", "isCr", "([CII)I"⟩ : MethodName)) hown (mvT hZ (hw _ (List.mem_of_getElem? (i := 34) rfl))) (mvT hZ (hw _ (List.mem_of_getElem? (i := 35) rfl))) (mvT hZ (hw _ (List.mem_of_getElem? (i := 3) rfl))) (mvT hZ (hw _ (List.mem_of_getElem? (i := 36) rfl))) (by decide) (backOf (W := 1) (rm7 l Z a0 hw [] a1 (1 : Int32) p2 y1 cl h0 n0 Z0 Ar (inb_of S ⟨by decide, by decide⟩) (H.at (inb_of S ⟨by decide, by decide⟩) rfl)) hZ (hw _ (List.mem_of_getElem? (i := 36) rfl)) (hw _ (List.mem_of_getElem? (i := 3) rfl)) (by decide) (by decide)) (g := (mkF m 9 #[.val (.ref a1), .val (.int p2), .unset, .unset, .unset] [(.int p2), (.int (1 : Int32)), (.ref a1), (.int (own_i (decide ((0 : Int32) < p2) && decide (y0 = (13 : Int32)))))])) rfl (by rw [hml]; rfl) (argsL := [(.ref a1), (.int (1 : Int32)), (.int p2)]) (rest := [(.int (own_i (decide ((0 : Int32) < p2) && decide (y0 = (13 : Int32)))))]) (lenOf pd_0 rfl) rfl (by show 2 * 0 + _ ≤ _; exact Nat.le_of_eq rfl) (hb hby d6_9) (fun _ _ => ⟨rfl, e1, (by decide : (0 + 0) + 0 ≤ _), (by decide : (0 + 0) + 0 ≤ _)⟩)
  dsimp only [Pt.U, Pt.locs, Pt.cells, Pt.slots] at X2 l2 y2 z2 st2 hQ2
  subst l2 y2 z2
  obtain ⟨rfl, N2q, e2⟩ := hQ2
  have N2 := Fr.app N1 N2q
  refine own_go (B := T2.setTop (mkF m 12 #[.val (.ref a1), .val (.int p2), .unset, .unset, .unset] [(.int (own_i (decide ((1 : Int32) < p2) && decide (y1 = (13 : Int32))))), (.int (own_i (decide ((0 : Int32) < p2) && decide (y0 = (13 : Int32)))))])) (fun t kt => st2 t kt) ?_
  refine own_go (B := T2.setTop (mkF m 16 #[.val (.ref a1), .val (.int p2), .unset, .unset, .unset] [(.int p2), (.int (2 : Int32)), (.ref a1), (.int ((own_i (decide ((0 : Int32) < p2) && decide (y0 = (13 : Int32)))) + (own_i (decide ((1 : Int32) < p2) && decide (y1 = (13 : Int32))))))])) (fun t kt => ?_) ?_
  · show Steps p.tables e below (T2.setTop (mkF m 12 #[.val (.ref a1), .val (.int p2), .unset, .unset, .unset] [(.int (own_i (decide ((1 : Int32) < p2) && decide (y1 = (13 : Int32))))), (.int (own_i (decide ((0 : Int32) < p2) && decide (y0 = (13 : Int32)))))])) _
    refine XS.iadd X2.here hx rfl (hb hby d6_12) rfl ?_
    show Steps p.tables e below (T2.setTop (mkF m 13 #[.val (.ref a1), .val (.int p2), .unset, .unset, .unset] [(.int ((own_i (decide ((0 : Int32) < p2) && decide (y0 = (13 : Int32)))) + (own_i (decide ((1 : Int32) < p2) && decide (y1 = (13 : Int32))))))])) _
    refine XS.aloadN X2.here hx rfl (hb hby d6_13) rfl rfl ?_
    show Steps p.tables e below (T2.setTop (mkF m 14 #[.val (.ref a1), .val (.int p2), .unset, .unset, .unset] [(.ref a1), (.int ((own_i (decide ((0 : Int32) < p2) && decide (y0 = (13 : Int32)))) + (own_i (decide ((1 : Int32) < p2) && decide (y1 = (13 : Int32))))))])) _
    refine XS.iconst X2.here hx rfl (hb hby d6_14) ?_
    show Steps p.tables e below (T2.setTop (mkF m 15 #[.val (.ref a1), .val (.int p2), .unset, .unset, .unset] [(.int (2 : Int32)), (.ref a1), (.int ((own_i (decide ((0 : Int32) < p2) && decide (y0 = (13 : Int32)))) + (own_i (decide ((1 : Int32) < p2) && decide (y1 = (13 : Int32))))))])) _
    refine XS.iloadN X2.here hx rfl (hb hby d6_15) rfl ?_
    exact kt
  obtain ⟨_, _, ⟨T3, L3, k3, n3⟩, -, X3, ⟨Lc3, hQ3, l3, y3, z3⟩, st3⟩ := Jvm.LawKit.callS X2 hx (y := (⟨"com/example/brokn/brokn/TextPositionAdvancePinLaw", "isCr", "([CII)I"⟩ : MethodName)) hown (mvT hZ (hw _ (List.mem_of_getElem? (i := 34) rfl))) (mvT hZ (hw _ (List.mem_of_getElem? (i := 35) rfl))) (mvT hZ (hw _ (List.mem_of_getElem? (i := 3) rfl))) (mvT hZ (hw _ (List.mem_of_getElem? (i := 36) rfl))) (by decide) (backOf (W := 1) (rm7 l Z a0 hw [] a1 (2 : Int32) p2 y2 cl h0 n0 Z0 Ar (inb_of S ⟨by decide, by decide⟩) (H.at (inb_of S ⟨by decide, by decide⟩) rfl)) hZ (hw _ (List.mem_of_getElem? (i := 36) rfl)) (hw _ (List.mem_of_getElem? (i := 3) rfl)) (by decide) (by decide)) (g := (mkF m 16 #[.val (.ref a1), .val (.int p2), .unset, .unset, .unset] [(.int p2), (.int (2 : Int32)), (.ref a1), (.int ((own_i (decide ((0 : Int32) < p2) && decide (y0 = (13 : Int32)))) + (own_i (decide ((1 : Int32) < p2) && decide (y1 = (13 : Int32))))))])) rfl (by rw [hml]; rfl) (argsL := [(.ref a1), (.int (2 : Int32)), (.int p2)]) (rest := [(.int ((own_i (decide ((0 : Int32) < p2) && decide (y0 = (13 : Int32)))) + (own_i (decide ((1 : Int32) < p2) && decide (y1 = (13 : Int32))))))]) (lenOf pd_0 rfl) rfl (by show 2 * 0 + _ ≤ _; exact Nat.le_of_eq rfl) (hb hby d6_16) (fun _ _ => ⟨rfl, e2, (by decide : ((0 + 0) + 0) + 0 ≤ _), (by decide : ((0 + 0) + 0) + 0 ≤ _)⟩)
  dsimp only [Pt.U, Pt.locs, Pt.cells, Pt.slots] at X3 l3 y3 z3 st3 hQ3
  subst l3 y3 z3
  obtain ⟨rfl, N3q, e3⟩ := hQ3
  have N3 := Fr.app N2 N3q
  refine own_go (B := T3.setTop (mkF m 19 #[.val (.ref a1), .val (.int p2), .unset, .unset, .unset] [(.int (own_i (decide ((2 : Int32) < p2) && decide (y2 = (13 : Int32))))), (.int ((own_i (decide ((0 : Int32) < p2) && decide (y0 = (13 : Int32)))) + (own_i (decide ((1 : Int32) < p2) && decide (y1 = (13 : Int32))))))])) (fun t kt => st3 t kt) ?_
  refine own_go (B := T3.setTop (mkF m 23 #[.val (.ref a1), .val (.int p2), .unset, .unset, .unset] [(.int p2), (.int (3 : Int32)), (.ref a1), (.int (((own_i (decide ((0 : Int32) < p2) && decide (y0 = (13 : Int32)))) + (own_i (decide ((1 : Int32) < p2) && decide (y1 = (13 : Int32))))) + (own_i (decide ((2 : Int32) < p2) && decide (y2 = (13 : Int32))))))])) (fun t kt => ?_) ?_
  · show Steps p.tables e below (T3.setTop (mkF m 19 #[.val (.ref a1), .val (.int p2), .unset, .unset, .unset] [(.int (own_i (decide ((2 : Int32) < p2) && decide (y2 = (13 : Int32))))), (.int ((own_i (decide ((0 : Int32) < p2) && decide (y0 = (13 : Int32)))) + (own_i (decide ((1 : Int32) < p2) && decide (y1 = (13 : Int32))))))])) _
    refine XS.iadd X3.here hx rfl (hb hby d6_19) rfl ?_
    show Steps p.tables e below (T3.setTop (mkF m 20 #[.val (.ref a1), .val (.int p2), .unset, .unset, .unset] [(.int (((own_i (decide ((0 : Int32) < p2) && decide (y0 = (13 : Int32)))) + (own_i (decide ((1 : Int32) < p2) && decide (y1 = (13 : Int32))))) + (own_i (decide ((2 : Int32) < p2) && decide (y2 = (13 : Int32))))))])) _
    refine XS.aloadN X3.here hx rfl (hb hby d6_20) rfl rfl ?_
    show Steps p.tables e below (T3.setTop (mkF m 21 #[.val (.ref a1), .val (.int p2), .unset, .unset, .unset] [(.ref a1), (.int (((own_i (decide ((0 : Int32) < p2) && decide (y0 = (13 : Int32)))) + (own_i (decide ((1 : Int32) < p2) && decide (y1 = (13 : Int32))))) + (own_i (decide ((2 : Int32) < p2) && decide (y2 = (13 : Int32))))))])) _
    refine XS.iconst X3.here hx rfl (hb hby d6_21) ?_
    show Steps p.tables e below (T3.setTop (mkF m 22 #[.val (.ref a1), .val (.int p2), .unset, .unset, .unset] [(.int (3 : Int32)), (.ref a1), (.int (((own_i (decide ((0 : Int32) < p2) && decide (y0 = (13 : Int32)))) + (own_i (decide ((1 : Int32) < p2) && decide (y1 = (13 : Int32))))) + (own_i (decide ((2 : Int32) < p2) && decide (y2 = (13 : Int32))))))])) _
    refine XS.iloadN X3.here hx rfl (hb hby d6_22) rfl ?_
    exact kt
  obtain ⟨_, _, ⟨T4, L4, k4, n4⟩, -, X4, ⟨Lc4, hQ4, l4, y4, z4⟩, st4⟩ := Jvm.LawKit.callS X3 hx (y := (⟨"com/example/brokn/brokn/TextPositionAdvancePinLaw", "isCr", "([CII)I"⟩ : MethodName)) hown (mvT hZ (hw _ (List.mem_of_getElem? (i := 34) rfl))) (mvT hZ (hw _ (List.mem_of_getElem? (i := 35) rfl))) (mvT hZ (hw _ (List.mem_of_getElem? (i := 3) rfl))) (mvT hZ (hw _ (List.mem_of_getElem? (i := 36) rfl))) (by decide) (backOf (W := 1) (rm7 l Z a0 hw [] a1 (3 : Int32) p2 y3 cl h0 n0 Z0 Ar (inb_of S ⟨by decide, by decide⟩) (H.at (inb_of S ⟨by decide, by decide⟩) rfl)) hZ (hw _ (List.mem_of_getElem? (i := 36) rfl)) (hw _ (List.mem_of_getElem? (i := 3) rfl)) (by decide) (by decide)) (g := (mkF m 23 #[.val (.ref a1), .val (.int p2), .unset, .unset, .unset] [(.int p2), (.int (3 : Int32)), (.ref a1), (.int (((own_i (decide ((0 : Int32) < p2) && decide (y0 = (13 : Int32)))) + (own_i (decide ((1 : Int32) < p2) && decide (y1 = (13 : Int32))))) + (own_i (decide ((2 : Int32) < p2) && decide (y2 = (13 : Int32))))))])) rfl (by rw [hml]; rfl) (argsL := [(.ref a1), (.int (3 : Int32)), (.int p2)]) (rest := [(.int (((own_i (decide ((0 : Int32) < p2) && decide (y0 = (13 : Int32)))) + (own_i (decide ((1 : Int32) < p2) && decide (y1 = (13 : Int32))))) + (own_i (decide ((2 : Int32) < p2) && decide (y2 = (13 : Int32))))))]) (lenOf pd_0 rfl) rfl (by show 2 * 0 + _ ≤ _; exact Nat.le_of_eq rfl) (hb hby d6_23) (fun _ _ => ⟨rfl, e3, (by decide : (((0 + 0) + 0) + 0) + 0 ≤ _), (by decide : (((0 + 0) + 0) + 0) + 0 ≤ _)⟩)
  dsimp only [Pt.U, Pt.locs, Pt.cells, Pt.slots] at X4 l4 y4 z4 st4 hQ4
  subst l4 y4 z4
  obtain ⟨rfl, N4q, e4⟩ := hQ4
  have N4 := Fr.app N3 N4q
  refine own_go (B := T4.setTop (mkF m 26 #[.val (.ref a1), .val (.int p2), .unset, .unset, .unset] [(.int (own_i (decide ((3 : Int32) < p2) && decide (y3 = (13 : Int32))))), (.int (((own_i (decide ((0 : Int32) < p2) && decide (y0 = (13 : Int32)))) + (own_i (decide ((1 : Int32) < p2) && decide (y1 = (13 : Int32))))) + (own_i (decide ((2 : Int32) < p2) && decide (y2 = (13 : Int32))))))])) (fun t kt => st4 t kt) ?_
  refine own_go (B := T4.setTop (mkF m 31 #[.val (.ref a1), .val (.int p2), .val (.int ((((own_i (decide ((0 : Int32) < p2) && decide (y0 = (13 : Int32)))) + (own_i (decide ((1 : Int32) < p2) && decide (y1 = (13 : Int32))))) + (own_i (decide ((2 : Int32) < p2) && decide (y2 = (13 : Int32))))) + (own_i (decide ((3 : Int32) < p2) && decide (y3 = (13 : Int32)))))), .unset, .unset] [(.int p2), (.int (0 : Int32)), (.ref a1)])) (fun t kt => ?_) ?_
  · show Steps p.tables e below (T4.setTop (mkF m 26 #[.val (.ref a1), .val (.int p2), .unset, .unset, .unset] [(.int (own_i (decide ((3 : Int32) < p2) && decide (y3 = (13 : Int32))))), (.int (((own_i (decide ((0 : Int32) < p2) && decide (y0 = (13 : Int32)))) + (own_i (decide ((1 : Int32) < p2) && decide (y1 = (13 : Int32))))) + (own_i (decide ((2 : Int32) < p2) && decide (y2 = (13 : Int32))))))])) _
    refine XS.iadd X4.here hx rfl (hb hby d6_26) rfl ?_
    show Steps p.tables e below (T4.setTop (mkF m 27 #[.val (.ref a1), .val (.int p2), .unset, .unset, .unset] [(.int ((((own_i (decide ((0 : Int32) < p2) && decide (y0 = (13 : Int32)))) + (own_i (decide ((1 : Int32) < p2) && decide (y1 = (13 : Int32))))) + (own_i (decide ((2 : Int32) < p2) && decide (y2 = (13 : Int32))))) + (own_i (decide ((3 : Int32) < p2) && decide (y3 = (13 : Int32))))))])) _
    refine XS.istoreN X4.here hx rfl (hb hby d6_27) rfl (l' := #[.val (.ref a1), .val (.int p2), .val (.int ((((own_i (decide ((0 : Int32) < p2) && decide (y0 = (13 : Int32)))) + (own_i (decide ((1 : Int32) < p2) && decide (y1 = (13 : Int32))))) + (own_i (decide ((2 : Int32) < p2) && decide (y2 = (13 : Int32))))) + (own_i (decide ((3 : Int32) < p2) && decide (y3 = (13 : Int32)))))), .unset, .unset]) rfl ?_
    show Steps p.tables e below (T4.setTop (mkF m 28 #[.val (.ref a1), .val (.int p2), .val (.int ((((own_i (decide ((0 : Int32) < p2) && decide (y0 = (13 : Int32)))) + (own_i (decide ((1 : Int32) < p2) && decide (y1 = (13 : Int32))))) + (own_i (decide ((2 : Int32) < p2) && decide (y2 = (13 : Int32))))) + (own_i (decide ((3 : Int32) < p2) && decide (y3 = (13 : Int32)))))), .unset, .unset] [])) _
    refine XS.aloadN X4.here hx rfl (hb hby d6_28) rfl rfl ?_
    show Steps p.tables e below (T4.setTop (mkF m 29 #[.val (.ref a1), .val (.int p2), .val (.int ((((own_i (decide ((0 : Int32) < p2) && decide (y0 = (13 : Int32)))) + (own_i (decide ((1 : Int32) < p2) && decide (y1 = (13 : Int32))))) + (own_i (decide ((2 : Int32) < p2) && decide (y2 = (13 : Int32))))) + (own_i (decide ((3 : Int32) < p2) && decide (y3 = (13 : Int32)))))), .unset, .unset] [(.ref a1)])) _
    refine XS.iconst X4.here hx rfl (hb hby d6_29) ?_
    show Steps p.tables e below (T4.setTop (mkF m 30 #[.val (.ref a1), .val (.int p2), .val (.int ((((own_i (decide ((0 : Int32) < p2) && decide (y0 = (13 : Int32)))) + (own_i (decide ((1 : Int32) < p2) && decide (y1 = (13 : Int32))))) + (own_i (decide ((2 : Int32) < p2) && decide (y2 = (13 : Int32))))) + (own_i (decide ((3 : Int32) < p2) && decide (y3 = (13 : Int32)))))), .unset, .unset] [(.int (0 : Int32)), (.ref a1)])) _
    refine XS.iloadN X4.here hx rfl (hb hby d6_30) rfl ?_
    exact kt
  obtain ⟨_, _, ⟨T5, L5, k5, n5⟩, -, X5, ⟨Lc5, hQ5, l5, y5, z5⟩, st5⟩ := Jvm.LawKit.callS X4 hx (y := (⟨"com/example/brokn/brokn/TextPositionAdvancePinLaw", "isLf", "([CII)I"⟩ : MethodName)) hown (mvT hZ (hw _ (List.mem_of_getElem? (i := 37) rfl))) (mvT hZ (hw _ (List.mem_of_getElem? (i := 38) rfl))) (mvT hZ (hw _ (List.mem_of_getElem? (i := 3) rfl))) (mvT hZ (hw _ (List.mem_of_getElem? (i := 39) rfl))) (by decide) (backOf (W := 0) (rm8 l Z a0 hw [] a1 (0 : Int32) p2 y0 cl h0 n0 Z0 Ar (inb_of S ⟨by decide, by decide⟩) (H.at (inb_of S ⟨by decide, by decide⟩) rfl)) hZ (hw _ (List.mem_of_getElem? (i := 39) rfl)) (hw _ (List.mem_of_getElem? (i := 3) rfl)) (by decide) (by decide)) (g := (mkF m 31 #[.val (.ref a1), .val (.int p2), .val (.int ((((own_i (decide ((0 : Int32) < p2) && decide (y0 = (13 : Int32)))) + (own_i (decide ((1 : Int32) < p2) && decide (y1 = (13 : Int32))))) + (own_i (decide ((2 : Int32) < p2) && decide (y2 = (13 : Int32))))) + (own_i (decide ((3 : Int32) < p2) && decide (y3 = (13 : Int32)))))), .unset, .unset] [(.int p2), (.int (0 : Int32)), (.ref a1)])) rfl (by rw [hml]; rfl) (argsL := [(.ref a1), (.int (0 : Int32)), (.int p2)]) (rest := []) (lenOf pd_0 rfl) rfl (by show 2 * 0 + _ ≤ _; exact Nat.le_of_eq rfl) (hb hby d6_31) (fun _ _ => ⟨rfl, e4, (by decide : ((((0 + 0) + 0) + 0) + 0) + 0 ≤ _), (by decide : ((((0 + 0) + 0) + 0) + 0) + 0 ≤ _)⟩)
  dsimp only [Pt.U, Pt.locs, Pt.cells, Pt.slots] at X5 l5 y5 z5 st5 hQ5
  subst l5 y5 z5
  obtain ⟨rfl, N5q, e5⟩ := hQ5
  have N5 := Fr.app N4 N5q
  refine own_go (B := T5.setTop (mkF m 34 #[.val (.ref a1), .val (.int p2), .val (.int ((((own_i (decide ((0 : Int32) < p2) && decide (y0 = (13 : Int32)))) + (own_i (decide ((1 : Int32) < p2) && decide (y1 = (13 : Int32))))) + (own_i (decide ((2 : Int32) < p2) && decide (y2 = (13 : Int32))))) + (own_i (decide ((3 : Int32) < p2) && decide (y3 = (13 : Int32)))))), .unset, .unset] [(.int (own_i (decide ((0 : Int32) < p2) && decide (y0 = (10 : Int32)))))])) (fun t kt => st5 t kt) ?_
  refine own_go (B := T5.setTop (mkF m 37 #[.val (.ref a1), .val (.int p2), .val (.int ((((own_i (decide ((0 : Int32) < p2) && decide (y0 = (13 : Int32)))) + (own_i (decide ((1 : Int32) < p2) && decide (y1 = (13 : Int32))))) + (own_i (decide ((2 : Int32) < p2) && decide (y2 = (13 : Int32))))) + (own_i (decide ((3 : Int32) < p2) && decide (y3 = (13 : Int32)))))), .unset, .unset] [(.int p2), (.int (1 : Int32)), (.ref a1), (.int (own_i (decide ((0 : Int32) < p2) && decide (y0 = (10 : Int32)))))])) (fun t kt => ?_) ?_
  · show Steps p.tables e below (T5.setTop (mkF m 34 #[.val (.ref a1), .val (.int p2), .val (.int ((((own_i (decide ((0 : Int32) < p2) && decide (y0 = (13 : Int32)))) + (own_i (decide ((1 : Int32) < p2) && decide (y1 = (13 : Int32))))) + (own_i (decide ((2 : Int32) < p2) && decide (y2 = (13 : Int32))))) + (own_i (decide ((3 : Int32) < p2) && decide (y3 = (13 : Int32)))))), .unset, .unset] [(.int (own_i (decide ((0 : Int32) < p2) && decide (y0 = (10 : Int32)))))])) _
    refine XS.aloadN X5.here hx rfl (hb hby d6_34) rfl rfl ?_
    show Steps p.tables e below (T5.setTop (mkF m 35 #[.val (.ref a1), .val (.int p2), .val (.int ((((own_i (decide ((0 : Int32) < p2) && decide (y0 = (13 : Int32)))) + (own_i (decide ((1 : Int32) < p2) && decide (y1 = (13 : Int32))))) + (own_i (decide ((2 : Int32) < p2) && decide (y2 = (13 : Int32))))) + (own_i (decide ((3 : Int32) < p2) && decide (y3 = (13 : Int32)))))), .unset, .unset] [(.ref a1), (.int (own_i (decide ((0 : Int32) < p2) && decide (y0 = (10 : Int32)))))])) _
    refine XS.iconst X5.here hx rfl (hb hby d6_35) ?_
    show Steps p.tables e below (T5.setTop (mkF m 36 #[.val (.ref a1), .val (.int p2), .val (.int ((((own_i (decide ((0 : Int32) < p2) && decide (y0 = (13 : Int32)))) + (own_i (decide ((1 : Int32) < p2) && decide (y1 = (13 : Int32))))) + (own_i (decide ((2 : Int32) < p2) && decide (y2 = (13 : Int32))))) + (own_i (decide ((3 : Int32) < p2) && decide (y3 = (13 : Int32)))))), .unset, .unset] [(.int (1 : Int32)), (.ref a1), (.int (own_i (decide ((0 : Int32) < p2) && decide (y0 = (10 : Int32)))))])) _
    refine XS.iloadN X5.here hx rfl (hb hby d6_36) rfl ?_
    exact kt
  obtain ⟨_, _, ⟨T6, L6, k6, n6⟩, -, X6, ⟨Lc6, hQ6, l6, y6, z6⟩, st6⟩ := Jvm.LawKit.callS X5 hx (y := (⟨"com/example/brokn/brokn/TextPositionAdvancePinLaw", "isLf", "([CII)I"⟩ : MethodName)) hown (mvT hZ (hw _ (List.mem_of_getElem? (i := 37) rfl))) (mvT hZ (hw _ (List.mem_of_getElem? (i := 38) rfl))) (mvT hZ (hw _ (List.mem_of_getElem? (i := 3) rfl))) (mvT hZ (hw _ (List.mem_of_getElem? (i := 39) rfl))) (by decide) (backOf (W := 1) (rm8 l Z a0 hw [] a1 (1 : Int32) p2 y1 cl h0 n0 Z0 Ar (inb_of S ⟨by decide, by decide⟩) (H.at (inb_of S ⟨by decide, by decide⟩) rfl)) hZ (hw _ (List.mem_of_getElem? (i := 39) rfl)) (hw _ (List.mem_of_getElem? (i := 3) rfl)) (by decide) (by decide)) (g := (mkF m 37 #[.val (.ref a1), .val (.int p2), .val (.int ((((own_i (decide ((0 : Int32) < p2) && decide (y0 = (13 : Int32)))) + (own_i (decide ((1 : Int32) < p2) && decide (y1 = (13 : Int32))))) + (own_i (decide ((2 : Int32) < p2) && decide (y2 = (13 : Int32))))) + (own_i (decide ((3 : Int32) < p2) && decide (y3 = (13 : Int32)))))), .unset, .unset] [(.int p2), (.int (1 : Int32)), (.ref a1), (.int (own_i (decide ((0 : Int32) < p2) && decide (y0 = (10 : Int32)))))])) rfl (by rw [hml]; rfl) (argsL := [(.ref a1), (.int (1 : Int32)), (.int p2)]) (rest := [(.int (own_i (decide ((0 : Int32) < p2) && decide (y0 = (10 : Int32)))))]) (lenOf pd_0 rfl) rfl (by show 2 * 0 + _ ≤ _; exact Nat.le_of_eq rfl) (hb hby d6_37) (fun _ _ => ⟨rfl, e5, (by decide : (((((0 + 0) + 0) + 0) + 0) + 0) + 0 ≤ _), (by decide : (((((0 + 0) + 0) + 0) + 0) + 0) + 0 ≤ _)⟩)
  dsimp only [Pt.U, Pt.locs, Pt.cells, Pt.slots] at X6 l6 y6 z6 st6 hQ6
  subst l6 y6 z6
  obtain ⟨rfl, N6q, e6⟩ := hQ6
  have N6 := Fr.app N5 N6q
  refine own_go (B := T6.setTop (mkF m 40 #[.val (.ref a1), .val (.int p2), .val (.int ((((own_i (decide ((0 : Int32) < p2) && decide (y0 = (13 : Int32)))) + (own_i (decide ((1 : Int32) < p2) && decide (y1 = (13 : Int32))))) + (own_i (decide ((2 : Int32) < p2) && decide (y2 = (13 : Int32))))) + (own_i (decide ((3 : Int32) < p2) && decide (y3 = (13 : Int32)))))), .unset, .unset] [(.int (own_i (decide ((1 : Int32) < p2) && decide (y1 = (10 : Int32))))), (.int (own_i (decide ((0 : Int32) < p2) && decide (y0 = (10 : Int32)))))])) (fun t kt => st6 t kt) ?_
  refine own_go (B := T6.setTop (mkF m 44 #[.val (.ref a1), .val (.int p2), .val (.int ((((own_i (decide ((0 : Int32) < p2) && decide (y0 = (13 : Int32)))) + (own_i (decide ((1 : Int32) < p2) && decide (y1 = (13 : Int32))))) + (own_i (decide ((2 : Int32) < p2) && decide (y2 = (13 : Int32))))) + (own_i (decide ((3 : Int32) < p2) && decide (y3 = (13 : Int32)))))), .unset, .unset] [(.int p2), (.int (2 : Int32)), (.ref a1), (.int ((own_i (decide ((0 : Int32) < p2) && decide (y0 = (10 : Int32)))) + (own_i (decide ((1 : Int32) < p2) && decide (y1 = (10 : Int32))))))])) (fun t kt => ?_) ?_
  · show Steps p.tables e below (T6.setTop (mkF m 40 #[.val (.ref a1), .val (.int p2), .val (.int ((((own_i (decide ((0 : Int32) < p2) && decide (y0 = (13 : Int32)))) + (own_i (decide ((1 : Int32) < p2) && decide (y1 = (13 : Int32))))) + (own_i (decide ((2 : Int32) < p2) && decide (y2 = (13 : Int32))))) + (own_i (decide ((3 : Int32) < p2) && decide (y3 = (13 : Int32)))))), .unset, .unset] [(.int (own_i (decide ((1 : Int32) < p2) && decide (y1 = (10 : Int32))))), (.int (own_i (decide ((0 : Int32) < p2) && decide (y0 = (10 : Int32)))))])) _
    refine XS.iadd X6.here hx rfl (hb hby d6_40) rfl ?_
    show Steps p.tables e below (T6.setTop (mkF m 41 #[.val (.ref a1), .val (.int p2), .val (.int ((((own_i (decide ((0 : Int32) < p2) && decide (y0 = (13 : Int32)))) + (own_i (decide ((1 : Int32) < p2) && decide (y1 = (13 : Int32))))) + (own_i (decide ((2 : Int32) < p2) && decide (y2 = (13 : Int32))))) + (own_i (decide ((3 : Int32) < p2) && decide (y3 = (13 : Int32)))))), .unset, .unset] [(.int ((own_i (decide ((0 : Int32) < p2) && decide (y0 = (10 : Int32)))) + (own_i (decide ((1 : Int32) < p2) && decide (y1 = (10 : Int32))))))])) _
    refine XS.aloadN X6.here hx rfl (hb hby d6_41) rfl rfl ?_
    show Steps p.tables e below (T6.setTop (mkF m 42 #[.val (.ref a1), .val (.int p2), .val (.int ((((own_i (decide ((0 : Int32) < p2) && decide (y0 = (13 : Int32)))) + (own_i (decide ((1 : Int32) < p2) && decide (y1 = (13 : Int32))))) + (own_i (decide ((2 : Int32) < p2) && decide (y2 = (13 : Int32))))) + (own_i (decide ((3 : Int32) < p2) && decide (y3 = (13 : Int32)))))), .unset, .unset] [(.ref a1), (.int ((own_i (decide ((0 : Int32) < p2) && decide (y0 = (10 : Int32)))) + (own_i (decide ((1 : Int32) < p2) && decide (y1 = (10 : Int32))))))])) _
    refine XS.iconst X6.here hx rfl (hb hby d6_42) ?_
    show Steps p.tables e below (T6.setTop (mkF m 43 #[.val (.ref a1), .val (.int p2), .val (.int ((((own_i (decide ((0 : Int32) < p2) && decide (y0 = (13 : Int32)))) + (own_i (decide ((1 : Int32) < p2) && decide (y1 = (13 : Int32))))) + (own_i (decide ((2 : Int32) < p2) && decide (y2 = (13 : Int32))))) + (own_i (decide ((3 : Int32) < p2) && decide (y3 = (13 : Int32)))))), .unset, .unset] [(.int (2 : Int32)), (.ref a1), (.int ((own_i (decide ((0 : Int32) < p2) && decide (y0 = (10 : Int32)))) + (own_i (decide ((1 : Int32) < p2) && decide (y1 = (10 : Int32))))))])) _
    refine XS.iloadN X6.here hx rfl (hb hby d6_43) rfl ?_
    exact kt
  obtain ⟨_, _, ⟨T7, L7, k7, n7⟩, -, X7, ⟨Lc7, hQ7, l7, y7, z7⟩, st7⟩ := Jvm.LawKit.callS X6 hx (y := (⟨"com/example/brokn/brokn/TextPositionAdvancePinLaw", "isLf", "([CII)I"⟩ : MethodName)) hown (mvT hZ (hw _ (List.mem_of_getElem? (i := 37) rfl))) (mvT hZ (hw _ (List.mem_of_getElem? (i := 38) rfl))) (mvT hZ (hw _ (List.mem_of_getElem? (i := 3) rfl))) (mvT hZ (hw _ (List.mem_of_getElem? (i := 39) rfl))) (by decide) (backOf (W := 1) (rm8 l Z a0 hw [] a1 (2 : Int32) p2 y2 cl h0 n0 Z0 Ar (inb_of S ⟨by decide, by decide⟩) (H.at (inb_of S ⟨by decide, by decide⟩) rfl)) hZ (hw _ (List.mem_of_getElem? (i := 39) rfl)) (hw _ (List.mem_of_getElem? (i := 3) rfl)) (by decide) (by decide)) (g := (mkF m 44 #[.val (.ref a1), .val (.int p2), .val (.int ((((own_i (decide ((0 : Int32) < p2) && decide (y0 = (13 : Int32)))) + (own_i (decide ((1 : Int32) < p2) && decide (y1 = (13 : Int32))))) + (own_i (decide ((2 : Int32) < p2) && decide (y2 = (13 : Int32))))) + (own_i (decide ((3 : Int32) < p2) && decide (y3 = (13 : Int32)))))), .unset, .unset] [(.int p2), (.int (2 : Int32)), (.ref a1), (.int ((own_i (decide ((0 : Int32) < p2) && decide (y0 = (10 : Int32)))) + (own_i (decide ((1 : Int32) < p2) && decide (y1 = (10 : Int32))))))])) rfl (by rw [hml]; rfl) (argsL := [(.ref a1), (.int (2 : Int32)), (.int p2)]) (rest := [(.int ((own_i (decide ((0 : Int32) < p2) && decide (y0 = (10 : Int32)))) + (own_i (decide ((1 : Int32) < p2) && decide (y1 = (10 : Int32))))))]) (lenOf pd_0 rfl) rfl (by show 2 * 0 + _ ≤ _; exact Nat.le_of_eq rfl) (hb hby d6_44) (fun _ _ => ⟨rfl, e6, (by decide : ((((((0 + 0) + 0) + 0) + 0) + 0) + 0) + 0 ≤ _), (by decide : ((((((0 + 0) + 0) + 0) + 0) + 0) + 0) + 0 ≤ _)⟩)
  dsimp only [Pt.U, Pt.locs, Pt.cells, Pt.slots] at X7 l7 y7 z7 st7 hQ7
  subst l7 y7 z7
  obtain ⟨rfl, N7q, e7⟩ := hQ7
  have N7 := Fr.app N6 N7q
  refine own_go (B := T7.setTop (mkF m 47 #[.val (.ref a1), .val (.int p2), .val (.int ((((own_i (decide ((0 : Int32) < p2) && decide (y0 = (13 : Int32)))) + (own_i (decide ((1 : Int32) < p2) && decide (y1 = (13 : Int32))))) + (own_i (decide ((2 : Int32) < p2) && decide (y2 = (13 : Int32))))) + (own_i (decide ((3 : Int32) < p2) && decide (y3 = (13 : Int32)))))), .unset, .unset] [(.int (own_i (decide ((2 : Int32) < p2) && decide (y2 = (10 : Int32))))), (.int ((own_i (decide ((0 : Int32) < p2) && decide (y0 = (10 : Int32)))) + (own_i (decide ((1 : Int32) < p2) && decide (y1 = (10 : Int32))))))])) (fun t kt => st7 t kt) ?_
  refine own_go (B := T7.setTop (mkF m 51 #[.val (.ref a1), .val (.int p2), .val (.int ((((own_i (decide ((0 : Int32) < p2) && decide (y0 = (13 : Int32)))) + (own_i (decide ((1 : Int32) < p2) && decide (y1 = (13 : Int32))))) + (own_i (decide ((2 : Int32) < p2) && decide (y2 = (13 : Int32))))) + (own_i (decide ((3 : Int32) < p2) && decide (y3 = (13 : Int32)))))), .unset, .unset] [(.int p2), (.int (3 : Int32)), (.ref a1), (.int (((own_i (decide ((0 : Int32) < p2) && decide (y0 = (10 : Int32)))) + (own_i (decide ((1 : Int32) < p2) && decide (y1 = (10 : Int32))))) + (own_i (decide ((2 : Int32) < p2) && decide (y2 = (10 : Int32))))))])) (fun t kt => ?_) ?_
  · show Steps p.tables e below (T7.setTop (mkF m 47 #[.val (.ref a1), .val (.int p2), .val (.int ((((own_i (decide ((0 : Int32) < p2) && decide (y0 = (13 : Int32)))) + (own_i (decide ((1 : Int32) < p2) && decide (y1 = (13 : Int32))))) + (own_i (decide ((2 : Int32) < p2) && decide (y2 = (13 : Int32))))) + (own_i (decide ((3 : Int32) < p2) && decide (y3 = (13 : Int32)))))), .unset, .unset] [(.int (own_i (decide ((2 : Int32) < p2) && decide (y2 = (10 : Int32))))), (.int ((own_i (decide ((0 : Int32) < p2) && decide (y0 = (10 : Int32)))) + (own_i (decide ((1 : Int32) < p2) && decide (y1 = (10 : Int32))))))])) _
    refine XS.iadd X7.here hx rfl (hb hby d6_47) rfl ?_
    show Steps p.tables e below (T7.setTop (mkF m 48 #[.val (.ref a1), .val (.int p2), .val (.int ((((own_i (decide ((0 : Int32) < p2) && decide (y0 = (13 : Int32)))) + (own_i (decide ((1 : Int32) < p2) && decide (y1 = (13 : Int32))))) + (own_i (decide ((2 : Int32) < p2) && decide (y2 = (13 : Int32))))) + (own_i (decide ((3 : Int32) < p2) && decide (y3 = (13 : Int32)))))), .unset, .unset] [(.int (((own_i (decide ((0 : Int32) < p2) && decide (y0 = (10 : Int32)))) + (own_i (decide ((1 : Int32) < p2) && decide (y1 = (10 : Int32))))) + (own_i (decide ((2 : Int32) < p2) && decide (y2 = (10 : Int32))))))])) _
    refine XS.aloadN X7.here hx rfl (hb hby d6_48) rfl rfl ?_
    show Steps p.tables e below (T7.setTop (mkF m 49 #[.val (.ref a1), .val (.int p2), .val (.int ((((own_i (decide ((0 : Int32) < p2) && decide (y0 = (13 : Int32)))) + (own_i (decide ((1 : Int32) < p2) && decide (y1 = (13 : Int32))))) + (own_i (decide ((2 : Int32) < p2) && decide (y2 = (13 : Int32))))) + (own_i (decide ((3 : Int32) < p2) && decide (y3 = (13 : Int32)))))), .unset, .unset] [(.ref a1), (.int (((own_i (decide ((0 : Int32) < p2) && decide (y0 = (10 : Int32)))) + (own_i (decide ((1 : Int32) < p2) && decide (y1 = (10 : Int32))))) + (own_i (decide ((2 : Int32) < p2) && decide (y2 = (10 : Int32))))))])) _
    refine XS.iconst X7.here hx rfl (hb hby d6_49) ?_
    show Steps p.tables e below (T7.setTop (mkF m 50 #[.val (.ref a1), .val (.int p2), .val (.int ((((own_i (decide ((0 : Int32) < p2) && decide (y0 = (13 : Int32)))) + (own_i (decide ((1 : Int32) < p2) && decide (y1 = (13 : Int32))))) + (own_i (decide ((2 : Int32) < p2) && decide (y2 = (13 : Int32))))) + (own_i (decide ((3 : Int32) < p2) && decide (y3 = (13 : Int32)))))), .unset, .unset] [(.int (3 : Int32)), (.ref a1), (.int (((own_i (decide ((0 : Int32) < p2) && decide (y0 = (10 : Int32)))) + (own_i (decide ((1 : Int32) < p2) && decide (y1 = (10 : Int32))))) + (own_i (decide ((2 : Int32) < p2) && decide (y2 = (10 : Int32))))))])) _
    refine XS.iloadN X7.here hx rfl (hb hby d6_50) rfl ?_
    exact kt
  obtain ⟨_, _, ⟨T8, L8, k8, n8⟩, -, X8, ⟨Lc8, hQ8, l8, y8, z8⟩, st8⟩ := Jvm.LawKit.callS X7 hx (y := (⟨"com/example/brokn/brokn/TextPositionAdvancePinLaw", "isLf", "([CII)I"⟩ : MethodName)) hown (mvT hZ (hw _ (List.mem_of_getElem? (i := 37) rfl))) (mvT hZ (hw _ (List.mem_of_getElem? (i := 38) rfl))) (mvT hZ (hw _ (List.mem_of_getElem? (i := 3) rfl))) (mvT hZ (hw _ (List.mem_of_getElem? (i := 39) rfl))) (by decide) (backOf (W := 1) (rm8 l Z a0 hw [] a1 (3 : Int32) p2 y3 cl h0 n0 Z0 Ar (inb_of S ⟨by decide, by decide⟩) (H.at (inb_of S ⟨by decide, by decide⟩) rfl)) hZ (hw _ (List.mem_of_getElem? (i := 39) rfl)) (hw _ (List.mem_of_getElem? (i := 3) rfl)) (by decide) (by decide)) (g := (mkF m 51 #[.val (.ref a1), .val (.int p2), .val (.int ((((own_i (decide ((0 : Int32) < p2) && decide (y0 = (13 : Int32)))) + (own_i (decide ((1 : Int32) < p2) && decide (y1 = (13 : Int32))))) + (own_i (decide ((2 : Int32) < p2) && decide (y2 = (13 : Int32))))) + (own_i (decide ((3 : Int32) < p2) && decide (y3 = (13 : Int32)))))), .unset, .unset] [(.int p2), (.int (3 : Int32)), (.ref a1), (.int (((own_i (decide ((0 : Int32) < p2) && decide (y0 = (10 : Int32)))) + (own_i (decide ((1 : Int32) < p2) && decide (y1 = (10 : Int32))))) + (own_i (decide ((2 : Int32) < p2) && decide (y2 = (10 : Int32))))))])) rfl (by rw [hml]; rfl) (argsL := [(.ref a1), (.int (3 : Int32)), (.int p2)]) (rest := [(.int (((own_i (decide ((0 : Int32) < p2) && decide (y0 = (10 : Int32)))) + (own_i (decide ((1 : Int32) < p2) && decide (y1 = (10 : Int32))))) + (own_i (decide ((2 : Int32) < p2) && decide (y2 = (10 : Int32))))))]) (lenOf pd_0 rfl) rfl (by show 2 * 0 + _ ≤ _; exact Nat.le_of_eq rfl) (hb hby d6_51) (fun _ _ => ⟨rfl, e7, (by decide : (((((((0 + 0) + 0) + 0) + 0) + 0) + 0) + 0) + 0 ≤ _), (by decide : (((((((0 + 0) + 0) + 0) + 0) + 0) + 0) + 0) + 0 ≤ _)⟩)
  dsimp only [Pt.U, Pt.locs, Pt.cells, Pt.slots] at X8 l8 y8 z8 st8 hQ8
  subst l8 y8 z8
  obtain ⟨rfl, N8q, e8⟩ := hQ8
  have N8 := Fr.app N7 N8q
  refine own_go (B := T8.setTop (mkF m 54 #[.val (.ref a1), .val (.int p2), .val (.int ((((own_i (decide ((0 : Int32) < p2) && decide (y0 = (13 : Int32)))) + (own_i (decide ((1 : Int32) < p2) && decide (y1 = (13 : Int32))))) + (own_i (decide ((2 : Int32) < p2) && decide (y2 = (13 : Int32))))) + (own_i (decide ((3 : Int32) < p2) && decide (y3 = (13 : Int32)))))), .unset, .unset] [(.int (own_i (decide ((3 : Int32) < p2) && decide (y3 = (10 : Int32))))), (.int (((own_i (decide ((0 : Int32) < p2) && decide (y0 = (10 : Int32)))) + (own_i (decide ((1 : Int32) < p2) && decide (y1 = (10 : Int32))))) + (own_i (decide ((2 : Int32) < p2) && decide (y2 = (10 : Int32))))))])) (fun t kt => st8 t kt) ?_
  refine own_go (B := T8.setTop (mkF m 59 #[.val (.ref a1), .val (.int p2), .val (.int ((((own_i (decide ((0 : Int32) < p2) && decide (y0 = (13 : Int32)))) + (own_i (decide ((1 : Int32) < p2) && decide (y1 = (13 : Int32))))) + (own_i (decide ((2 : Int32) < p2) && decide (y2 = (13 : Int32))))) + (own_i (decide ((3 : Int32) < p2) && decide (y3 = (13 : Int32)))))), .val (.int ((((own_i (decide ((0 : Int32) < p2) && decide (y0 = (10 : Int32)))) + (own_i (decide ((1 : Int32) < p2) && decide (y1 = (10 : Int32))))) + (own_i (decide ((2 : Int32) < p2) && decide (y2 = (10 : Int32))))) + (own_i (decide ((3 : Int32) < p2) && decide (y3 = (10 : Int32)))))), .unset] [(.int p2), (.int (0 : Int32)), (.ref a1)])) (fun t kt => ?_) ?_
  · show Steps p.tables e below (T8.setTop (mkF m 54 #[.val (.ref a1), .val (.int p2), .val (.int ((((own_i (decide ((0 : Int32) < p2) && decide (y0 = (13 : Int32)))) + (own_i (decide ((1 : Int32) < p2) && decide (y1 = (13 : Int32))))) + (own_i (decide ((2 : Int32) < p2) && decide (y2 = (13 : Int32))))) + (own_i (decide ((3 : Int32) < p2) && decide (y3 = (13 : Int32)))))), .unset, .unset] [(.int (own_i (decide ((3 : Int32) < p2) && decide (y3 = (10 : Int32))))), (.int (((own_i (decide ((0 : Int32) < p2) && decide (y0 = (10 : Int32)))) + (own_i (decide ((1 : Int32) < p2) && decide (y1 = (10 : Int32))))) + (own_i (decide ((2 : Int32) < p2) && decide (y2 = (10 : Int32))))))])) _
    refine XS.iadd X8.here hx rfl (hb hby d6_54) rfl ?_
    show Steps p.tables e below (T8.setTop (mkF m 55 #[.val (.ref a1), .val (.int p2), .val (.int ((((own_i (decide ((0 : Int32) < p2) && decide (y0 = (13 : Int32)))) + (own_i (decide ((1 : Int32) < p2) && decide (y1 = (13 : Int32))))) + (own_i (decide ((2 : Int32) < p2) && decide (y2 = (13 : Int32))))) + (own_i (decide ((3 : Int32) < p2) && decide (y3 = (13 : Int32)))))), .unset, .unset] [(.int ((((own_i (decide ((0 : Int32) < p2) && decide (y0 = (10 : Int32)))) + (own_i (decide ((1 : Int32) < p2) && decide (y1 = (10 : Int32))))) + (own_i (decide ((2 : Int32) < p2) && decide (y2 = (10 : Int32))))) + (own_i (decide ((3 : Int32) < p2) && decide (y3 = (10 : Int32))))))])) _
    refine XS.istoreN X8.here hx rfl (hb hby d6_55) rfl (l' := #[.val (.ref a1), .val (.int p2), .val (.int ((((own_i (decide ((0 : Int32) < p2) && decide (y0 = (13 : Int32)))) + (own_i (decide ((1 : Int32) < p2) && decide (y1 = (13 : Int32))))) + (own_i (decide ((2 : Int32) < p2) && decide (y2 = (13 : Int32))))) + (own_i (decide ((3 : Int32) < p2) && decide (y3 = (13 : Int32)))))), .val (.int ((((own_i (decide ((0 : Int32) < p2) && decide (y0 = (10 : Int32)))) + (own_i (decide ((1 : Int32) < p2) && decide (y1 = (10 : Int32))))) + (own_i (decide ((2 : Int32) < p2) && decide (y2 = (10 : Int32))))) + (own_i (decide ((3 : Int32) < p2) && decide (y3 = (10 : Int32)))))), .unset]) rfl ?_
    show Steps p.tables e below (T8.setTop (mkF m 56 #[.val (.ref a1), .val (.int p2), .val (.int ((((own_i (decide ((0 : Int32) < p2) && decide (y0 = (13 : Int32)))) + (own_i (decide ((1 : Int32) < p2) && decide (y1 = (13 : Int32))))) + (own_i (decide ((2 : Int32) < p2) && decide (y2 = (13 : Int32))))) + (own_i (decide ((3 : Int32) < p2) && decide (y3 = (13 : Int32)))))), .val (.int ((((own_i (decide ((0 : Int32) < p2) && decide (y0 = (10 : Int32)))) + (own_i (decide ((1 : Int32) < p2) && decide (y1 = (10 : Int32))))) + (own_i (decide ((2 : Int32) < p2) && decide (y2 = (10 : Int32))))) + (own_i (decide ((3 : Int32) < p2) && decide (y3 = (10 : Int32)))))), .unset] [])) _
    refine XS.aloadN X8.here hx rfl (hb hby d6_56) rfl rfl ?_
    show Steps p.tables e below (T8.setTop (mkF m 57 #[.val (.ref a1), .val (.int p2), .val (.int ((((own_i (decide ((0 : Int32) < p2) && decide (y0 = (13 : Int32)))) + (own_i (decide ((1 : Int32) < p2) && decide (y1 = (13 : Int32))))) + (own_i (decide ((2 : Int32) < p2) && decide (y2 = (13 : Int32))))) + (own_i (decide ((3 : Int32) < p2) && decide (y3 = (13 : Int32)))))), .val (.int ((((own_i (decide ((0 : Int32) < p2) && decide (y0 = (10 : Int32)))) + (own_i (decide ((1 : Int32) < p2) && decide (y1 = (10 : Int32))))) + (own_i (decide ((2 : Int32) < p2) && decide (y2 = (10 : Int32))))) + (own_i (decide ((3 : Int32) < p2) && decide (y3 = (10 : Int32)))))), .unset] [(.ref a1)])) _
    refine XS.iconst X8.here hx rfl (hb hby d6_57) ?_
    show Steps p.tables e below (T8.setTop (mkF m 58 #[.val (.ref a1), .val (.int p2), .val (.int ((((own_i (decide ((0 : Int32) < p2) && decide (y0 = (13 : Int32)))) + (own_i (decide ((1 : Int32) < p2) && decide (y1 = (13 : Int32))))) + (own_i (decide ((2 : Int32) < p2) && decide (y2 = (13 : Int32))))) + (own_i (decide ((3 : Int32) < p2) && decide (y3 = (13 : Int32)))))), .val (.int ((((own_i (decide ((0 : Int32) < p2) && decide (y0 = (10 : Int32)))) + (own_i (decide ((1 : Int32) < p2) && decide (y1 = (10 : Int32))))) + (own_i (decide ((2 : Int32) < p2) && decide (y2 = (10 : Int32))))) + (own_i (decide ((3 : Int32) < p2) && decide (y3 = (10 : Int32)))))), .unset] [(.int (0 : Int32)), (.ref a1)])) _
    refine XS.iloadN X8.here hx rfl (hb hby d6_58) rfl ?_
    exact kt
  obtain ⟨_, _, ⟨T9, L9, k9, n9⟩, -, X9, ⟨Lc9, hQ9, l9, y9, z9⟩, st9⟩ := Jvm.LawKit.callS X8 hx (y := (⟨"com/example/brokn/brokn/TextPositionAdvancePinLaw", "isPair", "([CII)I"⟩ : MethodName)) hown (mvT hZ (hw _ (List.mem_of_getElem? (i := 40) rfl))) (mvT hZ (hw _ (List.mem_of_getElem? (i := 41) rfl))) (mvT hZ (hw _ (List.mem_of_getElem? (i := 3) rfl))) (mvT hZ (hw _ (List.mem_of_getElem? (i := 42) rfl))) (by decide) (backOf (W := 0) (rm9 l Z a0 hw [] a1 (0 : Int32) p2 y0 y1 cl h0 n0 Z0 Ar (inb_of S ⟨by decide, by decide⟩) (H.at (inb_of S ⟨by decide, by decide⟩) rfl) (inb_of S ⟨by decide, by decide⟩) (H.at (inb_of S ⟨by decide, by decide⟩) rfl)) hZ (hw _ (List.mem_of_getElem? (i := 42) rfl)) (hw _ (List.mem_of_getElem? (i := 3) rfl)) (by decide) (by decide)) (g := (mkF m 59 #[.val (.ref a1), .val (.int p2), .val (.int ((((own_i (decide ((0 : Int32) < p2) && decide (y0 = (13 : Int32)))) + (own_i (decide ((1 : Int32) < p2) && decide (y1 = (13 : Int32))))) + (own_i (decide ((2 : Int32) < p2) && decide (y2 = (13 : Int32))))) + (own_i (decide ((3 : Int32) < p2) && decide (y3 = (13 : Int32)))))), .val (.int ((((own_i (decide ((0 : Int32) < p2) && decide (y0 = (10 : Int32)))) + (own_i (decide ((1 : Int32) < p2) && decide (y1 = (10 : Int32))))) + (own_i (decide ((2 : Int32) < p2) && decide (y2 = (10 : Int32))))) + (own_i (decide ((3 : Int32) < p2) && decide (y3 = (10 : Int32)))))), .unset] [(.int p2), (.int (0 : Int32)), (.ref a1)])) rfl (by rw [hml]; rfl) (argsL := [(.ref a1), (.int (0 : Int32)), (.int p2)]) (rest := []) (lenOf pd_0 rfl) rfl (by show 2 * 0 + _ ≤ _; exact Nat.le_of_eq rfl) (hb hby d6_59) (fun _ _ => ⟨rfl, e8, (by decide : ((((((((0 + 0) + 0) + 0) + 0) + 0) + 0) + 0) + 0) + 0 ≤ _), (by decide : ((((((((0 + 0) + 0) + 0) + 0) + 0) + 0) + 0) + 0) + 0 ≤ _)⟩)
  dsimp only [Pt.U, Pt.locs, Pt.cells, Pt.slots] at X9 l9 y9 z9 st9 hQ9
  subst l9 y9 z9
  obtain ⟨rfl, N9q, e9⟩ := hQ9
  have N9 := Fr.app N8 N9q
  refine own_go (B := T9.setTop (mkF m 62 #[.val (.ref a1), .val (.int p2), .val (.int ((((own_i (decide ((0 : Int32) < p2) && decide (y0 = (13 : Int32)))) + (own_i (decide ((1 : Int32) < p2) && decide (y1 = (13 : Int32))))) + (own_i (decide ((2 : Int32) < p2) && decide (y2 = (13 : Int32))))) + (own_i (decide ((3 : Int32) < p2) && decide (y3 = (13 : Int32)))))), .val (.int ((((own_i (decide ((0 : Int32) < p2) && decide (y0 = (10 : Int32)))) + (own_i (decide ((1 : Int32) < p2) && decide (y1 = (10 : Int32))))) + (own_i (decide ((2 : Int32) < p2) && decide (y2 = (10 : Int32))))) + (own_i (decide ((3 : Int32) < p2) && decide (y3 = (10 : Int32)))))), .unset] [(.int (own_i (decide (((0 : Int32) + (1 : Int32)) < p2) && (decide (y0 = (13 : Int32)) && decide (y1 = (10 : Int32))))))])) (fun t kt => st9 t kt) ?_
  refine own_go (B := T9.setTop (mkF m 65 #[.val (.ref a1), .val (.int p2), .val (.int ((((own_i (decide ((0 : Int32) < p2) && decide (y0 = (13 : Int32)))) + (own_i (decide ((1 : Int32) < p2) && decide (y1 = (13 : Int32))))) + (own_i (decide ((2 : Int32) < p2) && decide (y2 = (13 : Int32))))) + (own_i (decide ((3 : Int32) < p2) && decide (y3 = (13 : Int32)))))), .val (.int ((((own_i (decide ((0 : Int32) < p2) && decide (y0 = (10 : Int32)))) + (own_i (decide ((1 : Int32) < p2) && decide (y1 = (10 : Int32))))) + (own_i (decide ((2 : Int32) < p2) && decide (y2 = (10 : Int32))))) + (own_i (decide ((3 : Int32) < p2) && decide (y3 = (10 : Int32)))))), .unset] [(.int p2), (.int (1 : Int32)), (.ref a1), (.int (own_i (decide (((0 : Int32) + (1 : Int32)) < p2) && (decide (y0 = (13 : Int32)) && decide (y1 = (10 : Int32))))))])) (fun t kt => ?_) ?_
  · show Steps p.tables e below (T9.setTop (mkF m 62 #[.val (.ref a1), .val (.int p2), .val (.int ((((own_i (decide ((0 : Int32) < p2) && decide (y0 = (13 : Int32)))) + (own_i (decide ((1 : Int32) < p2) && decide (y1 = (13 : Int32))))) + (own_i (decide ((2 : Int32) < p2) && decide (y2 = (13 : Int32))))) + (own_i (decide ((3 : Int32) < p2) && decide (y3 = (13 : Int32)))))), .val (.int ((((own_i (decide ((0 : Int32) < p2) && decide (y0 = (10 : Int32)))) + (own_i (decide ((1 : Int32) < p2) && decide (y1 = (10 : Int32))))) + (own_i (decide ((2 : Int32) < p2) && decide (y2 = (10 : Int32))))) + (own_i (decide ((3 : Int32) < p2) && decide (y3 = (10 : Int32)))))), .unset] [(.int (own_i (decide (((0 : Int32) + (1 : Int32)) < p2) && (decide (y0 = (13 : Int32)) && decide (y1 = (10 : Int32))))))])) _
    refine XS.aloadN X9.here hx rfl (hb hby d6_62) rfl rfl ?_
    show Steps p.tables e below (T9.setTop (mkF m 63 #[.val (.ref a1), .val (.int p2), .val (.int ((((own_i (decide ((0 : Int32) < p2) && decide (y0 = (13 : Int32)))) + (own_i (decide ((1 : Int32) < p2) && decide (y1 = (13 : Int32))))) + (own_i (decide ((2 : Int32) < p2) && decide (y2 = (13 : Int32))))) + (own_i (decide ((3 : Int32) < p2) && decide (y3 = (13 : Int32)))))), .val (.int ((((own_i (decide ((0 : Int32) < p2) && decide (y0 = (10 : Int32)))) + (own_i (decide ((1 : Int32) < p2) && decide (y1 = (10 : Int32))))) + (own_i (decide ((2 : Int32) < p2) && decide (y2 = (10 : Int32))))) + (own_i (decide ((3 : Int32) < p2) && decide (y3 = (10 : Int32)))))), .unset] [(.ref a1), (.int (own_i (decide (((0 : Int32) + (1 : Int32)) < p2) && (decide (y0 = (13 : Int32)) && decide (y1 = (10 : Int32))))))])) _
    refine XS.iconst X9.here hx rfl (hb hby d6_63) ?_
    show Steps p.tables e below (T9.setTop (mkF m 64 #[.val (.ref a1), .val (.int p2), .val (.int ((((own_i (decide ((0 : Int32) < p2) && decide (y0 = (13 : Int32)))) + (own_i (decide ((1 : Int32) < p2) && decide (y1 = (13 : Int32))))) + (own_i (decide ((2 : Int32) < p2) && decide (y2 = (13 : Int32))))) + (own_i (decide ((3 : Int32) < p2) && decide (y3 = (13 : Int32)))))), .val (.int ((((own_i (decide ((0 : Int32) < p2) && decide (y0 = (10 : Int32)))) + (own_i (decide ((1 : Int32) < p2) && decide (y1 = (10 : Int32))))) + (own_i (decide ((2 : Int32) < p2) && decide (y2 = (10 : Int32))))) + (own_i (decide ((3 : Int32) < p2) && decide (y3 = (10 : Int32)))))), .unset] [(.int (1 : Int32)), (.ref a1), (.int (own_i (decide (((0 : Int32) + (1 : Int32)) < p2) && (decide (y0 = (13 : Int32)) && decide (y1 = (10 : Int32))))))])) _
    refine XS.iloadN X9.here hx rfl (hb hby d6_64) rfl ?_
    exact kt
  obtain ⟨_, _, ⟨T10, L10, k10, n10⟩, -, X10, ⟨Lc10, hQ10, l10, y10, z10⟩, st10⟩ := Jvm.LawKit.callS X9 hx (y := (⟨"com/example/brokn/brokn/TextPositionAdvancePinLaw", "isPair", "([CII)I"⟩ : MethodName)) hown (mvT hZ (hw _ (List.mem_of_getElem? (i := 40) rfl))) (mvT hZ (hw _ (List.mem_of_getElem? (i := 41) rfl))) (mvT hZ (hw _ (List.mem_of_getElem? (i := 3) rfl))) (mvT hZ (hw _ (List.mem_of_getElem? (i := 42) rfl))) (by decide) (backOf (W := 1) (rm9 l Z a0 hw [] a1 (1 : Int32) p2 y1 y2 cl h0 n0 Z0 Ar (inb_of S ⟨by decide, by decide⟩) (H.at (inb_of S ⟨by decide, by decide⟩) rfl) (inb_of S ⟨by decide, by decide⟩) (H.at (inb_of S ⟨by decide, by decide⟩) rfl)) hZ (hw _ (List.mem_of_getElem? (i := 42) rfl)) (hw _ (List.mem_of_getElem? (i := 3) rfl)) (by decide) (by decide)) (g := (mkF m 65 #[.val (.ref a1), .val (.int p2), .val (.int ((((own_i (decide ((0 : Int32) < p2) && decide (y0 = (13 : Int32)))) + (own_i (decide ((1 : Int32) < p2) && decide (y1 = (13 : Int32))))) + (own_i (decide ((2 : Int32) < p2) && decide (y2 = (13 : Int32))))) + (own_i (decide ((3 : Int32) < p2) && decide (y3 = (13 : Int32)))))), .val (.int ((((own_i (decide ((0 : Int32) < p2) && decide (y0 = (10 : Int32)))) + (own_i (decide ((1 : Int32) < p2) && decide (y1 = (10 : Int32))))) + (own_i (decide ((2 : Int32) < p2) && decide (y2 = (10 : Int32))))) + (own_i (decide ((3 : Int32) < p2) && decide (y3 = (10 : Int32)))))), .unset] [(.int p2), (.int (1 : Int32)), (.ref a1), (.int (own_i (decide (((0 : Int32) + (1 : Int32)) < p2) && (decide (y0 = (13 : Int32)) && decide (y1 = (10 : Int32))))))])) rfl (by rw [hml]; rfl) (argsL := [(.ref a1), (.int (1 : Int32)), (.int p2)]) (rest := [(.int (own_i (decide (((0 : Int32) + (1 : Int32)) < p2) && (decide (y0 = (13 : Int32)) && decide (y1 = (10 : Int32))))))]) (lenOf pd_0 rfl) rfl (by show 2 * 0 + _ ≤ _; exact Nat.le_of_eq rfl) (hb hby d6_65) (fun _ _ => ⟨rfl, e9, (by decide : (((((((((0 + 0) + 0) + 0) + 0) + 0) + 0) + 0) + 0) + 0) + 0 ≤ _), (by decide : (((((((((0 + 0) + 0) + 0) + 0) + 0) + 0) + 0) + 0) + 0) + 0 ≤ _)⟩)
  dsimp only [Pt.U, Pt.locs, Pt.cells, Pt.slots] at X10 l10 y10 z10 st10 hQ10
  subst l10 y10 z10
  obtain ⟨rfl, N10q, e10⟩ := hQ10
  have N10 := Fr.app N9 N10q
  refine own_go (B := T10.setTop (mkF m 68 #[.val (.ref a1), .val (.int p2), .val (.int ((((own_i (decide ((0 : Int32) < p2) && decide (y0 = (13 : Int32)))) + (own_i (decide ((1 : Int32) < p2) && decide (y1 = (13 : Int32))))) + (own_i (decide ((2 : Int32) < p2) && decide (y2 = (13 : Int32))))) + (own_i (decide ((3 : Int32) < p2) && decide (y3 = (13 : Int32)))))), .val (.int ((((own_i (decide ((0 : Int32) < p2) && decide (y0 = (10 : Int32)))) + (own_i (decide ((1 : Int32) < p2) && decide (y1 = (10 : Int32))))) + (own_i (decide ((2 : Int32) < p2) && decide (y2 = (10 : Int32))))) + (own_i (decide ((3 : Int32) < p2) && decide (y3 = (10 : Int32)))))), .unset] [(.int (own_i (decide (((1 : Int32) + (1 : Int32)) < p2) && (decide (y1 = (13 : Int32)) && decide (y2 = (10 : Int32)))))), (.int (own_i (decide (((0 : Int32) + (1 : Int32)) < p2) && (decide (y0 = (13 : Int32)) && decide (y1 = (10 : Int32))))))])) (fun t kt => st10 t kt) ?_
  refine own_go (B := T10.setTop (mkF m 72 #[.val (.ref a1), .val (.int p2), .val (.int ((((own_i (decide ((0 : Int32) < p2) && decide (y0 = (13 : Int32)))) + (own_i (decide ((1 : Int32) < p2) && decide (y1 = (13 : Int32))))) + (own_i (decide ((2 : Int32) < p2) && decide (y2 = (13 : Int32))))) + (own_i (decide ((3 : Int32) < p2) && decide (y3 = (13 : Int32)))))), .val (.int ((((own_i (decide ((0 : Int32) < p2) && decide (y0 = (10 : Int32)))) + (own_i (decide ((1 : Int32) < p2) && decide (y1 = (10 : Int32))))) + (own_i (decide ((2 : Int32) < p2) && decide (y2 = (10 : Int32))))) + (own_i (decide ((3 : Int32) < p2) && decide (y3 = (10 : Int32)))))), .unset] [(.int p2), (.int (2 : Int32)), (.ref a1), (.int ((own_i (decide (((0 : Int32) + (1 : Int32)) < p2) && (decide (y0 = (13 : Int32)) && decide (y1 = (10 : Int32))))) + (own_i (decide (((1 : Int32) + (1 : Int32)) < p2) && (decide (y1 = (13 : Int32)) && decide (y2 = (10 : Int32)))))))])) (fun t kt => ?_) ?_
  · show Steps p.tables e below (T10.setTop (mkF m 68 #[.val (.ref a1), .val (.int p2), .val (.int ((((own_i (decide ((0 : Int32) < p2) && decide (y0 = (13 : Int32)))) + (own_i (decide ((1 : Int32) < p2) && decide (y1 = (13 : Int32))))) + (own_i (decide ((2 : Int32) < p2) && decide (y2 = (13 : Int32))))) + (own_i (decide ((3 : Int32) < p2) && decide (y3 = (13 : Int32)))))), .val (.int ((((own_i (decide ((0 : Int32) < p2) && decide (y0 = (10 : Int32)))) + (own_i (decide ((1 : Int32) < p2) && decide (y1 = (10 : Int32))))) + (own_i (decide ((2 : Int32) < p2) && decide (y2 = (10 : Int32))))) + (own_i (decide ((3 : Int32) < p2) && decide (y3 = (10 : Int32)))))), .unset] [(.int (own_i (decide (((1 : Int32) + (1 : Int32)) < p2) && (decide (y1 = (13 : Int32)) && decide (y2 = (10 : Int32)))))), (.int (own_i (decide (((0 : Int32) + (1 : Int32)) < p2) && (decide (y0 = (13 : Int32)) && decide (y1 = (10 : Int32))))))])) _
    refine XS.iadd X10.here hx rfl (hb hby d6_68) rfl ?_
    show Steps p.tables e below (T10.setTop (mkF m 69 #[.val (.ref a1), .val (.int p2), .val (.int ((((own_i (decide ((0 : Int32) < p2) && decide (y0 = (13 : Int32)))) + (own_i (decide ((1 : Int32) < p2) && decide (y1 = (13 : Int32))))) + (own_i (decide ((2 : Int32) < p2) && decide (y2 = (13 : Int32))))) + (own_i (decide ((3 : Int32) < p2) && decide (y3 = (13 : Int32)))))), .val (.int ((((own_i (decide ((0 : Int32) < p2) && decide (y0 = (10 : Int32)))) + (own_i (decide ((1 : Int32) < p2) && decide (y1 = (10 : Int32))))) + (own_i (decide ((2 : Int32) < p2) && decide (y2 = (10 : Int32))))) + (own_i (decide ((3 : Int32) < p2) && decide (y3 = (10 : Int32)))))), .unset] [(.int ((own_i (decide (((0 : Int32) + (1 : Int32)) < p2) && (decide (y0 = (13 : Int32)) && decide (y1 = (10 : Int32))))) + (own_i (decide (((1 : Int32) + (1 : Int32)) < p2) && (decide (y1 = (13 : Int32)) && decide (y2 = (10 : Int32)))))))])) _
    refine XS.aloadN X10.here hx rfl (hb hby d6_69) rfl rfl ?_
    show Steps p.tables e below (T10.setTop (mkF m 70 #[.val (.ref a1), .val (.int p2), .val (.int ((((own_i (decide ((0 : Int32) < p2) && decide (y0 = (13 : Int32)))) + (own_i (decide ((1 : Int32) < p2) && decide (y1 = (13 : Int32))))) + (own_i (decide ((2 : Int32) < p2) && decide (y2 = (13 : Int32))))) + (own_i (decide ((3 : Int32) < p2) && decide (y3 = (13 : Int32)))))), .val (.int ((((own_i (decide ((0 : Int32) < p2) && decide (y0 = (10 : Int32)))) + (own_i (decide ((1 : Int32) < p2) && decide (y1 = (10 : Int32))))) + (own_i (decide ((2 : Int32) < p2) && decide (y2 = (10 : Int32))))) + (own_i (decide ((3 : Int32) < p2) && decide (y3 = (10 : Int32)))))), .unset] [(.ref a1), (.int ((own_i (decide (((0 : Int32) + (1 : Int32)) < p2) && (decide (y0 = (13 : Int32)) && decide (y1 = (10 : Int32))))) + (own_i (decide (((1 : Int32) + (1 : Int32)) < p2) && (decide (y1 = (13 : Int32)) && decide (y2 = (10 : Int32)))))))])) _
    refine XS.iconst X10.here hx rfl (hb hby d6_70) ?_
    show Steps p.tables e below (T10.setTop (mkF m 71 #[.val (.ref a1), .val (.int p2), .val (.int ((((own_i (decide ((0 : Int32) < p2) && decide (y0 = (13 : Int32)))) + (own_i (decide ((1 : Int32) < p2) && decide (y1 = (13 : Int32))))) + (own_i (decide ((2 : Int32) < p2) && decide (y2 = (13 : Int32))))) + (own_i (decide ((3 : Int32) < p2) && decide (y3 = (13 : Int32)))))), .val (.int ((((own_i (decide ((0 : Int32) < p2) && decide (y0 = (10 : Int32)))) + (own_i (decide ((1 : Int32) < p2) && decide (y1 = (10 : Int32))))) + (own_i (decide ((2 : Int32) < p2) && decide (y2 = (10 : Int32))))) + (own_i (decide ((3 : Int32) < p2) && decide (y3 = (10 : Int32)))))), .unset] [(.int (2 : Int32)), (.ref a1), (.int ((own_i (decide (((0 : Int32) + (1 : Int32)) < p2) && (decide (y0 = (13 : Int32)) && decide (y1 = (10 : Int32))))) + (own_i (decide (((1 : Int32) + (1 : Int32)) < p2) && (decide (y1 = (13 : Int32)) && decide (y2 = (10 : Int32)))))))])) _
    refine XS.iloadN X10.here hx rfl (hb hby d6_71) rfl ?_
    exact kt
  obtain ⟨_, _, ⟨T11, L11, k11, n11⟩, -, X11, ⟨Lc11, hQ11, l11, y11, z11⟩, st11⟩ := Jvm.LawKit.callS X10 hx (y := (⟨"com/example/brokn/brokn/TextPositionAdvancePinLaw", "isPair", "([CII)I"⟩ : MethodName)) hown (mvT hZ (hw _ (List.mem_of_getElem? (i := 40) rfl))) (mvT hZ (hw _ (List.mem_of_getElem? (i := 41) rfl))) (mvT hZ (hw _ (List.mem_of_getElem? (i := 3) rfl))) (mvT hZ (hw _ (List.mem_of_getElem? (i := 42) rfl))) (by decide) (backOf (W := 1) (rm9 l Z a0 hw [] a1 (2 : Int32) p2 y2 y3 cl h0 n0 Z0 Ar (inb_of S ⟨by decide, by decide⟩) (H.at (inb_of S ⟨by decide, by decide⟩) rfl) (inb_of S ⟨by decide, by decide⟩) (H.at (inb_of S ⟨by decide, by decide⟩) rfl)) hZ (hw _ (List.mem_of_getElem? (i := 42) rfl)) (hw _ (List.mem_of_getElem? (i := 3) rfl)) (by decide) (by decide)) (g := (mkF m 72 #[.val (.ref a1), .val (.int p2), .val (.int ((((own_i (decide ((0 : Int32) < p2) && decide (y0 = (13 : Int32)))) + (own_i (decide ((1 : Int32) < p2) && decide (y1 = (13 : Int32))))) + (own_i (decide ((2 : Int32) < p2) && decide (y2 = (13 : Int32))))) + (own_i (decide ((3 : Int32) < p2) && decide (y3 = (13 : Int32)))))), .val (.int ((((own_i (decide ((0 : Int32) < p2) && decide (y0 = (10 : Int32)))) + (own_i (decide ((1 : Int32) < p2) && decide (y1 = (10 : Int32))))) + (own_i (decide ((2 : Int32) < p2) && decide (y2 = (10 : Int32))))) + (own_i (decide ((3 : Int32) < p2) && decide (y3 = (10 : Int32)))))), .unset] [(.int p2), (.int (2 : Int32)), (.ref a1), (.int ((own_i (decide (((0 : Int32) + (1 : Int32)) < p2) && (decide (y0 = (13 : Int32)) && decide (y1 = (10 : Int32))))) + (own_i (decide (((1 : Int32) + (1 : Int32)) < p2) && (decide (y1 = (13 : Int32)) && decide (y2 = (10 : Int32)))))))])) rfl (by rw [hml]; rfl) (argsL := [(.ref a1), (.int (2 : Int32)), (.int p2)]) (rest := [(.int ((own_i (decide (((0 : Int32) + (1 : Int32)) < p2) && (decide (y0 = (13 : Int32)) && decide (y1 = (10 : Int32))))) + (own_i (decide (((1 : Int32) + (1 : Int32)) < p2) && (decide (y1 = (13 : Int32)) && decide (y2 = (10 : Int32)))))))]) (lenOf pd_0 rfl) rfl (by show 2 * 0 + _ ≤ _; exact Nat.le_of_eq rfl) (hb hby d6_72) (fun _ _ => ⟨rfl, e10, (by decide : ((((((((((0 + 0) + 0) + 0) + 0) + 0) + 0) + 0) + 0) + 0) + 0) + 0 ≤ _), (by decide : ((((((((((0 + 0) + 0) + 0) + 0) + 0) + 0) + 0) + 0) + 0) + 0) + 0 ≤ _)⟩)
  dsimp only [Pt.U, Pt.locs, Pt.cells, Pt.slots] at X11 l11 y11 z11 st11 hQ11
  subst l11 y11 z11
  obtain ⟨rfl, N11q, e11⟩ := hQ11
  have N11 := Fr.app N10 N11q
  refine own_go (B := T11.setTop (mkF m 75 #[.val (.ref a1), .val (.int p2), .val (.int ((((own_i (decide ((0 : Int32) < p2) && decide (y0 = (13 : Int32)))) + (own_i (decide ((1 : Int32) < p2) && decide (y1 = (13 : Int32))))) + (own_i (decide ((2 : Int32) < p2) && decide (y2 = (13 : Int32))))) + (own_i (decide ((3 : Int32) < p2) && decide (y3 = (13 : Int32)))))), .val (.int ((((own_i (decide ((0 : Int32) < p2) && decide (y0 = (10 : Int32)))) + (own_i (decide ((1 : Int32) < p2) && decide (y1 = (10 : Int32))))) + (own_i (decide ((2 : Int32) < p2) && decide (y2 = (10 : Int32))))) + (own_i (decide ((3 : Int32) < p2) && decide (y3 = (10 : Int32)))))), .unset] [(.int (own_i (decide (((2 : Int32) + (1 : Int32)) < p2) && (decide (y2 = (13 : Int32)) && decide (y3 = (10 : Int32)))))), (.int ((own_i (decide (((0 : Int32) + (1 : Int32)) < p2) && (decide (y0 = (13 : Int32)) && decide (y1 = (10 : Int32))))) + (own_i (decide (((1 : Int32) + (1 : Int32)) < p2) && (decide (y1 = (13 : Int32)) && decide (y2 = (10 : Int32)))))))])) (fun t kt => st11 t kt) ?_
  refine own_go (B := T11.setTop (mkF m 86 #[.val (.ref a1), .val (.int p2), .val (.int ((((own_i (decide ((0 : Int32) < p2) && decide (y0 = (13 : Int32)))) + (own_i (decide ((1 : Int32) < p2) && decide (y1 = (13 : Int32))))) + (own_i (decide ((2 : Int32) < p2) && decide (y2 = (13 : Int32))))) + (own_i (decide ((3 : Int32) < p2) && decide (y3 = (13 : Int32)))))), .val (.int ((((own_i (decide ((0 : Int32) < p2) && decide (y0 = (10 : Int32)))) + (own_i (decide ((1 : Int32) < p2) && decide (y1 = (10 : Int32))))) + (own_i (decide ((2 : Int32) < p2) && decide (y2 = (10 : Int32))))) + (own_i (decide ((3 : Int32) < p2) && decide (y3 = (10 : Int32)))))), .val (.int (((own_i (decide (((0 : Int32) + (1 : Int32)) < p2) && (decide (y0 = (13 : Int32)) && decide (y1 = (10 : Int32))))) + (own_i (decide (((1 : Int32) + (1 : Int32)) < p2) && (decide (y1 = (13 : Int32)) && decide (y2 = (10 : Int32)))))) + (own_i (decide (((2 : Int32) + (1 : Int32)) < p2) && (decide (y2 = (13 : Int32)) && decide (y3 = (10 : Int32)))))))] [(.int ((((1 : Int32) + ((((own_i (decide ((0 : Int32) < p2) && decide (y0 = (13 : Int32)))) + (own_i (decide ((1 : Int32) < p2) && decide (y1 = (13 : Int32))))) + (own_i (decide ((2 : Int32) < p2) && decide (y2 = (13 : Int32))))) + (own_i (decide ((3 : Int32) < p2) && decide (y3 = (13 : Int32)))))) + ((((own_i (decide ((0 : Int32) < p2) && decide (y0 = (10 : Int32)))) + (own_i (decide ((1 : Int32) < p2) && decide (y1 = (10 : Int32))))) + (own_i (decide ((2 : Int32) < p2) && decide (y2 = (10 : Int32))))) + (own_i (decide ((3 : Int32) < p2) && decide (y3 = (10 : Int32)))))) - (((own_i (decide (((0 : Int32) + (1 : Int32)) < p2) && (decide (y0 = (13 : Int32)) && decide (y1 = (10 : Int32))))) + (own_i (decide (((1 : Int32) + (1 : Int32)) < p2) && (decide (y1 = (13 : Int32)) && decide (y2 = (10 : Int32)))))) + (own_i (decide (((2 : Int32) + (1 : Int32)) < p2) && (decide (y2 = (13 : Int32)) && decide (y3 = (10 : Int32))))))))])) (fun t kt => ?_) ?_
  · show Steps p.tables e below (T11.setTop (mkF m 75 #[.val (.ref a1), .val (.int p2), .val (.int ((((own_i (decide ((0 : Int32) < p2) && decide (y0 = (13 : Int32)))) + (own_i (decide ((1 : Int32) < p2) && decide (y1 = (13 : Int32))))) + (own_i (decide ((2 : Int32) < p2) && decide (y2 = (13 : Int32))))) + (own_i (decide ((3 : Int32) < p2) && decide (y3 = (13 : Int32)))))), .val (.int ((((own_i (decide ((0 : Int32) < p2) && decide (y0 = (10 : Int32)))) + (own_i (decide ((1 : Int32) < p2) && decide (y1 = (10 : Int32))))) + (own_i (decide ((2 : Int32) < p2) && decide (y2 = (10 : Int32))))) + (own_i (decide ((3 : Int32) < p2) && decide (y3 = (10 : Int32)))))), .unset] [(.int (own_i (decide (((2 : Int32) + (1 : Int32)) < p2) && (decide (y2 = (13 : Int32)) && decide (y3 = (10 : Int32)))))), (.int ((own_i (decide (((0 : Int32) + (1 : Int32)) < p2) && (decide (y0 = (13 : Int32)) && decide (y1 = (10 : Int32))))) + (own_i (decide (((1 : Int32) + (1 : Int32)) < p2) && (decide (y1 = (13 : Int32)) && decide (y2 = (10 : Int32)))))))])) _
    refine XS.iadd X11.here hx rfl (hb hby d6_75) rfl ?_
    show Steps p.tables e below (T11.setTop (mkF m 76 #[.val (.ref a1), .val (.int p2), .val (.int ((((own_i (decide ((0 : Int32) < p2) && decide (y0 = (13 : Int32)))) + (own_i (decide ((1 : Int32) < p2) && decide (y1 = (13 : Int32))))) + (own_i (decide ((2 : Int32) < p2) && decide (y2 = (13 : Int32))))) + (own_i (decide ((3 : Int32) < p2) && decide (y3 = (13 : Int32)))))), .val (.int ((((own_i (decide ((0 : Int32) < p2) && decide (y0 = (10 : Int32)))) + (own_i (decide ((1 : Int32) < p2) && decide (y1 = (10 : Int32))))) + (own_i (decide ((2 : Int32) < p2) && decide (y2 = (10 : Int32))))) + (own_i (decide ((3 : Int32) < p2) && decide (y3 = (10 : Int32)))))), .unset] [(.int (((own_i (decide (((0 : Int32) + (1 : Int32)) < p2) && (decide (y0 = (13 : Int32)) && decide (y1 = (10 : Int32))))) + (own_i (decide (((1 : Int32) + (1 : Int32)) < p2) && (decide (y1 = (13 : Int32)) && decide (y2 = (10 : Int32)))))) + (own_i (decide (((2 : Int32) + (1 : Int32)) < p2) && (decide (y2 = (13 : Int32)) && decide (y3 = (10 : Int32)))))))])) _
    refine XS.istore X11.here hx rfl (hb hby d6_76) rfl (l' := #[.val (.ref a1), .val (.int p2), .val (.int ((((own_i (decide ((0 : Int32) < p2) && decide (y0 = (13 : Int32)))) + (own_i (decide ((1 : Int32) < p2) && decide (y1 = (13 : Int32))))) + (own_i (decide ((2 : Int32) < p2) && decide (y2 = (13 : Int32))))) + (own_i (decide ((3 : Int32) < p2) && decide (y3 = (13 : Int32)))))), .val (.int ((((own_i (decide ((0 : Int32) < p2) && decide (y0 = (10 : Int32)))) + (own_i (decide ((1 : Int32) < p2) && decide (y1 = (10 : Int32))))) + (own_i (decide ((2 : Int32) < p2) && decide (y2 = (10 : Int32))))) + (own_i (decide ((3 : Int32) < p2) && decide (y3 = (10 : Int32)))))), .val (.int (((own_i (decide (((0 : Int32) + (1 : Int32)) < p2) && (decide (y0 = (13 : Int32)) && decide (y1 = (10 : Int32))))) + (own_i (decide (((1 : Int32) + (1 : Int32)) < p2) && (decide (y1 = (13 : Int32)) && decide (y2 = (10 : Int32)))))) + (own_i (decide (((2 : Int32) + (1 : Int32)) < p2) && (decide (y2 = (13 : Int32)) && decide (y3 = (10 : Int32)))))))]) rfl ?_
    show Steps p.tables e below (T11.setTop (mkF m 78 #[.val (.ref a1), .val (.int p2), .val (.int ((((own_i (decide ((0 : Int32) < p2) && decide (y0 = (13 : Int32)))) + (own_i (decide ((1 : Int32) < p2) && decide (y1 = (13 : Int32))))) + (own_i (decide ((2 : Int32) < p2) && decide (y2 = (13 : Int32))))) + (own_i (decide ((3 : Int32) < p2) && decide (y3 = (13 : Int32)))))), .val (.int ((((own_i (decide ((0 : Int32) < p2) && decide (y0 = (10 : Int32)))) + (own_i (decide ((1 : Int32) < p2) && decide (y1 = (10 : Int32))))) + (own_i (decide ((2 : Int32) < p2) && decide (y2 = (10 : Int32))))) + (own_i (decide ((3 : Int32) < p2) && decide (y3 = (10 : Int32)))))), .val (.int (((own_i (decide (((0 : Int32) + (1 : Int32)) < p2) && (decide (y0 = (13 : Int32)) && decide (y1 = (10 : Int32))))) + (own_i (decide (((1 : Int32) + (1 : Int32)) < p2) && (decide (y1 = (13 : Int32)) && decide (y2 = (10 : Int32)))))) + (own_i (decide (((2 : Int32) + (1 : Int32)) < p2) && (decide (y2 = (13 : Int32)) && decide (y3 = (10 : Int32)))))))] [])) _
    refine XS.iconst X11.here hx rfl (hb hby d6_78) ?_
    show Steps p.tables e below (T11.setTop (mkF m 79 #[.val (.ref a1), .val (.int p2), .val (.int ((((own_i (decide ((0 : Int32) < p2) && decide (y0 = (13 : Int32)))) + (own_i (decide ((1 : Int32) < p2) && decide (y1 = (13 : Int32))))) + (own_i (decide ((2 : Int32) < p2) && decide (y2 = (13 : Int32))))) + (own_i (decide ((3 : Int32) < p2) && decide (y3 = (13 : Int32)))))), .val (.int ((((own_i (decide ((0 : Int32) < p2) && decide (y0 = (10 : Int32)))) + (own_i (decide ((1 : Int32) < p2) && decide (y1 = (10 : Int32))))) + (own_i (decide ((2 : Int32) < p2) && decide (y2 = (10 : Int32))))) + (own_i (decide ((3 : Int32) < p2) && decide (y3 = (10 : Int32)))))), .val (.int (((own_i (decide (((0 : Int32) + (1 : Int32)) < p2) && (decide (y0 = (13 : Int32)) && decide (y1 = (10 : Int32))))) + (own_i (decide (((1 : Int32) + (1 : Int32)) < p2) && (decide (y1 = (13 : Int32)) && decide (y2 = (10 : Int32)))))) + (own_i (decide (((2 : Int32) + (1 : Int32)) < p2) && (decide (y2 = (13 : Int32)) && decide (y3 = (10 : Int32)))))))] [(.int (1 : Int32))])) _
    refine XS.iloadN X11.here hx rfl (hb hby d6_79) rfl ?_
    show Steps p.tables e below (T11.setTop (mkF m 80 #[.val (.ref a1), .val (.int p2), .val (.int ((((own_i (decide ((0 : Int32) < p2) && decide (y0 = (13 : Int32)))) + (own_i (decide ((1 : Int32) < p2) && decide (y1 = (13 : Int32))))) + (own_i (decide ((2 : Int32) < p2) && decide (y2 = (13 : Int32))))) + (own_i (decide ((3 : Int32) < p2) && decide (y3 = (13 : Int32)))))), .val (.int ((((own_i (decide ((0 : Int32) < p2) && decide (y0 = (10 : Int32)))) + (own_i (decide ((1 : Int32) < p2) && decide (y1 = (10 : Int32))))) + (own_i (decide ((2 : Int32) < p2) && decide (y2 = (10 : Int32))))) + (own_i (decide ((3 : Int32) < p2) && decide (y3 = (10 : Int32)))))), .val (.int (((own_i (decide (((0 : Int32) + (1 : Int32)) < p2) && (decide (y0 = (13 : Int32)) && decide (y1 = (10 : Int32))))) + (own_i (decide (((1 : Int32) + (1 : Int32)) < p2) && (decide (y1 = (13 : Int32)) && decide (y2 = (10 : Int32)))))) + (own_i (decide (((2 : Int32) + (1 : Int32)) < p2) && (decide (y2 = (13 : Int32)) && decide (y3 = (10 : Int32)))))))] [(.int ((((own_i (decide ((0 : Int32) < p2) && decide (y0 = (13 : Int32)))) + (own_i (decide ((1 : Int32) < p2) && decide (y1 = (13 : Int32))))) + (own_i (decide ((2 : Int32) < p2) && decide (y2 = (13 : Int32))))) + (own_i (decide ((3 : Int32) < p2) && decide (y3 = (13 : Int32)))))), (.int (1 : Int32))])) _
    refine XS.iadd X11.here hx rfl (hb hby d6_80) rfl ?_
    show Steps p.tables e below (T11.setTop (mkF m 81 #[.val (.ref a1), .val (.int p2), .val (.int ((((own_i (decide ((0 : Int32) < p2) && decide (y0 = (13 : Int32)))) + (own_i (decide ((1 : Int32) < p2) && decide (y1 = (13 : Int32))))) + (own_i (decide ((2 : Int32) < p2) && decide (y2 = (13 : Int32))))) + (own_i (decide ((3 : Int32) < p2) && decide (y3 = (13 : Int32)))))), .val (.int ((((own_i (decide ((0 : Int32) < p2) && decide (y0 = (10 : Int32)))) + (own_i (decide ((1 : Int32) < p2) && decide (y1 = (10 : Int32))))) + (own_i (decide ((2 : Int32) < p2) && decide (y2 = (10 : Int32))))) + (own_i (decide ((3 : Int32) < p2) && decide (y3 = (10 : Int32)))))), .val (.int (((own_i (decide (((0 : Int32) + (1 : Int32)) < p2) && (decide (y0 = (13 : Int32)) && decide (y1 = (10 : Int32))))) + (own_i (decide (((1 : Int32) + (1 : Int32)) < p2) && (decide (y1 = (13 : Int32)) && decide (y2 = (10 : Int32)))))) + (own_i (decide (((2 : Int32) + (1 : Int32)) < p2) && (decide (y2 = (13 : Int32)) && decide (y3 = (10 : Int32)))))))] [(.int ((1 : Int32) + ((((own_i (decide ((0 : Int32) < p2) && decide (y0 = (13 : Int32)))) + (own_i (decide ((1 : Int32) < p2) && decide (y1 = (13 : Int32))))) + (own_i (decide ((2 : Int32) < p2) && decide (y2 = (13 : Int32))))) + (own_i (decide ((3 : Int32) < p2) && decide (y3 = (13 : Int32)))))))])) _
    refine XS.iloadN X11.here hx rfl (hb hby d6_81) rfl ?_
    show Steps p.tables e below (T11.setTop (mkF m 82 #[.val (.ref a1), .val (.int p2), .val (.int ((((own_i (decide ((0 : Int32) < p2) && decide (y0 = (13 : Int32)))) + (own_i (decide ((1 : Int32) < p2) && decide (y1 = (13 : Int32))))) + (own_i (decide ((2 : Int32) < p2) && decide (y2 = (13 : Int32))))) + (own_i (decide ((3 : Int32) < p2) && decide (y3 = (13 : Int32)))))), .val (.int ((((own_i (decide ((0 : Int32) < p2) && decide (y0 = (10 : Int32)))) + (own_i (decide ((1 : Int32) < p2) && decide (y1 = (10 : Int32))))) + (own_i (decide ((2 : Int32) < p2) && decide (y2 = (10 : Int32))))) + (own_i (decide ((3 : Int32) < p2) && decide (y3 = (10 : Int32)))))), .val (.int (((own_i (decide (((0 : Int32) + (1 : Int32)) < p2) && (decide (y0 = (13 : Int32)) && decide (y1 = (10 : Int32))))) + (own_i (decide (((1 : Int32) + (1 : Int32)) < p2) && (decide (y1 = (13 : Int32)) && decide (y2 = (10 : Int32)))))) + (own_i (decide (((2 : Int32) + (1 : Int32)) < p2) && (decide (y2 = (13 : Int32)) && decide (y3 = (10 : Int32)))))))] [(.int ((((own_i (decide ((0 : Int32) < p2) && decide (y0 = (10 : Int32)))) + (own_i (decide ((1 : Int32) < p2) && decide (y1 = (10 : Int32))))) + (own_i (decide ((2 : Int32) < p2) && decide (y2 = (10 : Int32))))) + (own_i (decide ((3 : Int32) < p2) && decide (y3 = (10 : Int32)))))), (.int ((1 : Int32) + ((((own_i (decide ((0 : Int32) < p2) && decide (y0 = (13 : Int32)))) + (own_i (decide ((1 : Int32) < p2) && decide (y1 = (13 : Int32))))) + (own_i (decide ((2 : Int32) < p2) && decide (y2 = (13 : Int32))))) + (own_i (decide ((3 : Int32) < p2) && decide (y3 = (13 : Int32)))))))])) _
    refine XS.iadd X11.here hx rfl (hb hby d6_82) rfl ?_
    show Steps p.tables e below (T11.setTop (mkF m 83 #[.val (.ref a1), .val (.int p2), .val (.int ((((own_i (decide ((0 : Int32) < p2) && decide (y0 = (13 : Int32)))) + (own_i (decide ((1 : Int32) < p2) && decide (y1 = (13 : Int32))))) + (own_i (decide ((2 : Int32) < p2) && decide (y2 = (13 : Int32))))) + (own_i (decide ((3 : Int32) < p2) && decide (y3 = (13 : Int32)))))), .val (.int ((((own_i (decide ((0 : Int32) < p2) && decide (y0 = (10 : Int32)))) + (own_i (decide ((1 : Int32) < p2) && decide (y1 = (10 : Int32))))) + (own_i (decide ((2 : Int32) < p2) && decide (y2 = (10 : Int32))))) + (own_i (decide ((3 : Int32) < p2) && decide (y3 = (10 : Int32)))))), .val (.int (((own_i (decide (((0 : Int32) + (1 : Int32)) < p2) && (decide (y0 = (13 : Int32)) && decide (y1 = (10 : Int32))))) + (own_i (decide (((1 : Int32) + (1 : Int32)) < p2) && (decide (y1 = (13 : Int32)) && decide (y2 = (10 : Int32)))))) + (own_i (decide (((2 : Int32) + (1 : Int32)) < p2) && (decide (y2 = (13 : Int32)) && decide (y3 = (10 : Int32)))))))] [(.int (((1 : Int32) + ((((own_i (decide ((0 : Int32) < p2) && decide (y0 = (13 : Int32)))) + (own_i (decide ((1 : Int32) < p2) && decide (y1 = (13 : Int32))))) + (own_i (decide ((2 : Int32) < p2) && decide (y2 = (13 : Int32))))) + (own_i (decide ((3 : Int32) < p2) && decide (y3 = (13 : Int32)))))) + ((((own_i (decide ((0 : Int32) < p2) && decide (y0 = (10 : Int32)))) + (own_i (decide ((1 : Int32) < p2) && decide (y1 = (10 : Int32))))) + (own_i (decide ((2 : Int32) < p2) && decide (y2 = (10 : Int32))))) + (own_i (decide ((3 : Int32) < p2) && decide (y3 = (10 : Int32)))))))])) _
    refine XS.iload X11.here hx rfl (hb hby d6_83) rfl ?_
    show Steps p.tables e below (T11.setTop (mkF m 85 #[.val (.ref a1), .val (.int p2), .val (.int ((((own_i (decide ((0 : Int32) < p2) && decide (y0 = (13 : Int32)))) + (own_i (decide ((1 : Int32) < p2) && decide (y1 = (13 : Int32))))) + (own_i (decide ((2 : Int32) < p2) && decide (y2 = (13 : Int32))))) + (own_i (decide ((3 : Int32) < p2) && decide (y3 = (13 : Int32)))))), .val (.int ((((own_i (decide ((0 : Int32) < p2) && decide (y0 = (10 : Int32)))) + (own_i (decide ((1 : Int32) < p2) && decide (y1 = (10 : Int32))))) + (own_i (decide ((2 : Int32) < p2) && decide (y2 = (10 : Int32))))) + (own_i (decide ((3 : Int32) < p2) && decide (y3 = (10 : Int32)))))), .val (.int (((own_i (decide (((0 : Int32) + (1 : Int32)) < p2) && (decide (y0 = (13 : Int32)) && decide (y1 = (10 : Int32))))) + (own_i (decide (((1 : Int32) + (1 : Int32)) < p2) && (decide (y1 = (13 : Int32)) && decide (y2 = (10 : Int32)))))) + (own_i (decide (((2 : Int32) + (1 : Int32)) < p2) && (decide (y2 = (13 : Int32)) && decide (y3 = (10 : Int32)))))))] [(.int (((own_i (decide (((0 : Int32) + (1 : Int32)) < p2) && (decide (y0 = (13 : Int32)) && decide (y1 = (10 : Int32))))) + (own_i (decide (((1 : Int32) + (1 : Int32)) < p2) && (decide (y1 = (13 : Int32)) && decide (y2 = (10 : Int32)))))) + (own_i (decide (((2 : Int32) + (1 : Int32)) < p2) && (decide (y2 = (13 : Int32)) && decide (y3 = (10 : Int32))))))), (.int (((1 : Int32) + ((((own_i (decide ((0 : Int32) < p2) && decide (y0 = (13 : Int32)))) + (own_i (decide ((1 : Int32) < p2) && decide (y1 = (13 : Int32))))) + (own_i (decide ((2 : Int32) < p2) && decide (y2 = (13 : Int32))))) + (own_i (decide ((3 : Int32) < p2) && decide (y3 = (13 : Int32)))))) + ((((own_i (decide ((0 : Int32) < p2) && decide (y0 = (10 : Int32)))) + (own_i (decide ((1 : Int32) < p2) && decide (y1 = (10 : Int32))))) + (own_i (decide ((2 : Int32) < p2) && decide (y2 = (10 : Int32))))) + (own_i (decide ((3 : Int32) < p2) && decide (y3 = (10 : Int32)))))))])) _
    refine XS.isub X11.here hx rfl (hb hby d6_85) rfl ?_
    exact kt
  have hv : own_lines p2 y0 y1 y2 y3 = ((((1 : Int32) + ((((own_i (decide ((0 : Int32) < p2) && decide (y0 = (13 : Int32)))) + (own_i (decide ((1 : Int32) < p2) && decide (y1 = (13 : Int32))))) + (own_i (decide ((2 : Int32) < p2) && decide (y2 = (13 : Int32))))) + (own_i (decide ((3 : Int32) < p2) && decide (y3 = (13 : Int32)))))) + ((((own_i (decide ((0 : Int32) < p2) && decide (y0 = (10 : Int32)))) + (own_i (decide ((1 : Int32) < p2) && decide (y1 = (10 : Int32))))) + (own_i (decide ((2 : Int32) < p2) && decide (y2 = (10 : Int32))))) + (own_i (decide ((3 : Int32) < p2) && decide (y3 = (10 : Int32)))))) - (((own_i (decide (((0 : Int32) + (1 : Int32)) < p2) && (decide (y0 = (13 : Int32)) && decide (y1 = (10 : Int32))))) + (own_i (decide (((1 : Int32) + (1 : Int32)) < p2) && (decide (y1 = (13 : Int32)) && decide (y2 = (10 : Int32)))))) + (own_i (decide (((2 : Int32) + (1 : Int32)) < p2) && (decide (y2 = (13 : Int32)) && decide (y3 = (10 : Int32))))))) := rfl
  obtain ⟨fs, hr, hrun, hended, hW, hsame⟩ := X11.leave (v := some (.int ((((1 : Int32) + ((((own_i (decide ((0 : Int32) < p2) && decide (y0 = (13 : Int32)))) + (own_i (decide ((1 : Int32) < p2) && decide (y1 = (13 : Int32))))) + (own_i (decide ((2 : Int32) < p2) && decide (y2 = (13 : Int32))))) + (own_i (decide ((3 : Int32) < p2) && decide (y3 = (13 : Int32)))))) + ((((own_i (decide ((0 : Int32) < p2) && decide (y0 = (10 : Int32)))) + (own_i (decide ((1 : Int32) < p2) && decide (y1 = (10 : Int32))))) + (own_i (decide ((2 : Int32) < p2) && decide (y2 = (10 : Int32))))) + (own_i (decide ((3 : Int32) < p2) && decide (y3 = (10 : Int32)))))) - (((own_i (decide (((0 : Int32) + (1 : Int32)) < p2) && (decide (y0 = (13 : Int32)) && decide (y1 = (10 : Int32))))) + (own_i (decide (((1 : Int32) + (1 : Int32)) < p2) && (decide (y1 = (13 : Int32)) && decide (y2 = (10 : Int32)))))) + (own_i (decide (((2 : Int32) + (1 : Int32)) < p2) && (decide (y2 = (13 : Int32)) && decide (y3 = (10 : Int32))))))))) (fun h => by rw [Bd.returns] at h; cases h)
  refine ⟨_, _, ?_, hrun, hended, _, _, rfl, ?_, ⟨_, rfl⟩, hW, hsame.mono (by decide) (by decide)⟩
  · show Steps p.tables e below (T11.setTop (mkF m 86 #[.val (.ref a1), .val (.int p2), .val (.int ((((own_i (decide ((0 : Int32) < p2) && decide (y0 = (13 : Int32)))) + (own_i (decide ((1 : Int32) < p2) && decide (y1 = (13 : Int32))))) + (own_i (decide ((2 : Int32) < p2) && decide (y2 = (13 : Int32))))) + (own_i (decide ((3 : Int32) < p2) && decide (y3 = (13 : Int32)))))), .val (.int ((((own_i (decide ((0 : Int32) < p2) && decide (y0 = (10 : Int32)))) + (own_i (decide ((1 : Int32) < p2) && decide (y1 = (10 : Int32))))) + (own_i (decide ((2 : Int32) < p2) && decide (y2 = (10 : Int32))))) + (own_i (decide ((3 : Int32) < p2) && decide (y3 = (10 : Int32)))))), .val (.int (((own_i (decide (((0 : Int32) + (1 : Int32)) < p2) && (decide (y0 = (13 : Int32)) && decide (y1 = (10 : Int32))))) + (own_i (decide (((1 : Int32) + (1 : Int32)) < p2) && (decide (y1 = (13 : Int32)) && decide (y2 = (10 : Int32)))))) + (own_i (decide (((2 : Int32) + (1 : Int32)) < p2) && (decide (y2 = (13 : Int32)) && decide (y3 = (10 : Int32)))))))] [(.int ((((1 : Int32) + ((((own_i (decide ((0 : Int32) < p2) && decide (y0 = (13 : Int32)))) + (own_i (decide ((1 : Int32) < p2) && decide (y1 = (13 : Int32))))) + (own_i (decide ((2 : Int32) < p2) && decide (y2 = (13 : Int32))))) + (own_i (decide ((3 : Int32) < p2) && decide (y3 = (13 : Int32)))))) + ((((own_i (decide ((0 : Int32) < p2) && decide (y0 = (10 : Int32)))) + (own_i (decide ((1 : Int32) < p2) && decide (y1 = (10 : Int32))))) + (own_i (decide ((2 : Int32) < p2) && decide (y2 = (10 : Int32))))) + (own_i (decide ((3 : Int32) < p2) && decide (y3 = (10 : Int32)))))) - (((own_i (decide (((0 : Int32) + (1 : Int32)) < p2) && (decide (y0 = (13 : Int32)) && decide (y1 = (10 : Int32))))) + (own_i (decide (((1 : Int32) + (1 : Int32)) < p2) && (decide (y1 = (13 : Int32)) && decide (y2 = (10 : Int32)))))) + (own_i (decide (((2 : Int32) + (1 : Int32)) < p2) && (decide (y2 = (13 : Int32)) && decide (y3 = (10 : Int32))))))))])) _
    exact retI X11 hx Bd.returns (hb hby d6_86) hr
  · show Q6 Z p2 y0 y1 y2 y3 h0 n0 _ T11.heap _
    rw [e11]
    exact ⟨by rw [hv], N11, rfl⟩
theorem ef_11 (m : MethodId) (x0 : Addr) (x1 : Int32) : entryFrame m #[(.ref x0), (.int x1)] 3 = mkF m 0 #[.val (.ref x0), .val (.int x1), .unset] [] := by first | (simp [entryFrame, mkF, argsToLocals, Value.category]; done) | rfl
def Q11 (Z : State) (p2 : Int32) (y0 y1 y2 y3 : Int32) (h0 : Heap) (n0 : Nat) (v : Option Value) (h : Heap) (L : List Loc) : Prop := v = some (.int (own_col p2 y0 y1 y2 y3)) ∧ Fr n0 L ∧ h = h0
set_option maxRecDepth 65536 in
set_option maxHeartbeats 40000000 in
theorem rm11 (l : Launch) (Z : State) (a0 : Array Value) (hw : ∀ d ∈ tables_1, d.before a0 Z = true) (ws : List Jvm.Cond) (a1 : Addr) (p2 : Int32) (ka : ClassId) (y0 y1 y2 y3 : Int32) (h0 : Heap) (n0 : Nat) (Z0 : n0 ≤ h0.size) (Va : Arv Z h0 a1 ka .char (4 : Int32) [(.int y0), (.int y1), (.int y2), (.int y3)] (.int (0 : Int32))) :
    MetFree l (⟨"com/example/brokn/brokn/TextPositionAdvancePinLaw", "column", "([CI)I"⟩ : MethodName) (head1 (Jvm.Cond.code (⟨"com/example/brokn/brokn/TextPositionAdvancePinLaw", "column", "([CI)I"⟩ : MethodName) method_8_code 3 (some .int) :: ws) ({ frames := 1, cells := 0, slots := 0, locals := 40 } : Room)) (fun a U => a = #[(.ref a1), (.int p2)] ∧ Z.Warmed39 U.vm ∧ U.heap = h0) (fun _ _ _ _ _ => True) (fun _ U o U' => ∃ v L, o = .returned v ∧ Q11 Z p2 y0 y1 y2 y3 h0 n0 v U'.heap L ∧ FrameEnd U o U' L ({ frames := 1, cells := 0, slots := 0, locals := 40 } : Room).cells ({ frames := 1, cells := 0, slots := 0, locals := 40 } : Room).slots) := by
  refine MetFree.of_bodySF (plainFor_of_name pn_0) hisR ?_
  intro p e s m args below meth c s₁ Bd hml0 hP hK
  obtain ⟨rfl, hZ, hh⟩ := hP
  have hx := Bd.exec
  have hby := Bd.bytes
  have hml : c.maxLocals = 3 := hml0
  have hown : s.vm.findClass "com/example/brokn/brokn/TextPositionAdvancePinLaw" = some m.cls := findClass_of_methodNamed Bd.named
  have hnm := (name_of_methodNamed Bd.named Bd.method).1
  have X0 : Stand p l e ({ frames := 1, cells := 0, slots := 0, locals := 40 } : Room) s m #[(.ref a1), (.int p2)] below meth c s₁ [] 0 0 := Stand.of_body Bd
  have e0 : s₁.heap = h0 := by rw [← hh, Bd.state]; rfl
  have N0 := Fr.nil n0
  refine own_go (B := s₁.setTop (mkF m 0 #[.val (.ref a1), .val (.int p2), .unset] [])) (fun t kt => castTop (ef_11 m a1 p2) kt) ?_
  obtain ⟨cl, Ar, qa, S, M, H, U⟩ := Va
  refine own_go (B := s₁.setTop (mkF m 2 #[.val (.ref a1), .val (.int p2), .val (.int (-1 : Int32))] [])) (fun t kt => ?_) ?_
  · show Steps p.tables e below (s₁.setTop (mkF m 0 #[.val (.ref a1), .val (.int p2), .unset] [])) _
    refine XS.iconst X0.here hx rfl (hb hby d11_0) ?_
    show Steps p.tables e below (s₁.setTop (mkF m 1 #[.val (.ref a1), .val (.int p2), .unset] [(.int (-1 : Int32))])) _
    refine XS.istoreN X0.here hx rfl (hb hby d11_1) rfl (l' := #[.val (.ref a1), .val (.int p2), .val (.int (-1 : Int32))]) rfl ?_
    exact kt
  refine own_go (B := s₁.setTop (mkF m 5 #[.val (.ref a1), .val (.int p2), .val (.int (-1 : Int32))] [(.int p2), (.int (0 : Int32)), (.ref a1)])) (fun t kt => ?_) ?_
  · show Steps p.tables e below (s₁.setTop (mkF m 2 #[.val (.ref a1), .val (.int p2), .val (.int (-1 : Int32))] [])) _
    refine XS.aloadN X0.here hx rfl (hb hby d11_2) rfl rfl ?_
    show Steps p.tables e below (s₁.setTop (mkF m 3 #[.val (.ref a1), .val (.int p2), .val (.int (-1 : Int32))] [(.ref a1)])) _
    refine XS.iconst X0.here hx rfl (hb hby d11_3) ?_
    show Steps p.tables e below (s₁.setTop (mkF m 4 #[.val (.ref a1), .val (.int p2), .val (.int (-1 : Int32))] [(.int (0 : Int32)), (.ref a1)])) _
    refine XS.iloadN X0.here hx rfl (hb hby d11_4) rfl ?_
    exact kt
  obtain ⟨_, _, ⟨T12, L12, k12, n12⟩, -, X12, ⟨Lc12, hQ12, l12, y12, z12⟩, st12⟩ := Jvm.LawKit.callS X0 hx (y := (⟨"com/example/brokn/brokn/TextPositionAdvancePinLaw", "isBreak", "([CII)Z"⟩ : MethodName)) hown (mvT hZ (hw _ (List.mem_of_getElem? (i := 51) rfl))) (mvT hZ (hw _ (List.mem_of_getElem? (i := 52) rfl))) (mvT hZ (hw _ (List.mem_of_getElem? (i := 3) rfl))) (mvT hZ (hw _ (List.mem_of_getElem? (i := 53) rfl))) (by decide) (backOf (W := 0) (rm12 l Z a0 hw [] a1 (0 : Int32) p2 y0 cl h0 n0 Z0 Ar (inb_of S ⟨by decide, by decide⟩) (H.at (inb_of S ⟨by decide, by decide⟩) rfl)) hZ (hw _ (List.mem_of_getElem? (i := 53) rfl)) (hw _ (List.mem_of_getElem? (i := 3) rfl)) (by decide) (by decide)) (g := (mkF m 5 #[.val (.ref a1), .val (.int p2), .val (.int (-1 : Int32))] [(.int p2), (.int (0 : Int32)), (.ref a1)])) rfl (by rw [hml]; rfl) (argsL := [(.ref a1), (.int (0 : Int32)), (.int p2)]) (rest := []) (lenOf pd_1 rfl) rfl (by show 2 * 0 + _ ≤ _; exact Nat.le_of_eq rfl) (hb hby d11_5) (fun _ _ => ⟨rfl, e0, (by decide : 0 + 0 ≤ _), (by decide : 0 + 0 ≤ _)⟩)
  dsimp only [Pt.U, Pt.locs, Pt.cells, Pt.slots] at X12 l12 y12 z12 st12 hQ12
  subst l12 y12 z12
  obtain ⟨rfl, N12q, e12⟩ := hQ12
  have N12 := Fr.app N0 N12q
  refine own_go (B := T12.setTop (mkF m 8 #[.val (.ref a1), .val (.int p2), .val (.int (-1 : Int32))] [(.int (own_i (decide ((0 : Int32) < p2) && (decide (y0 = (13 : Int32)) || decide (y0 = (10 : Int32))))))])) (fun t kt => st12 t kt) ?_
  refine own_go (B := T12.setTop (mkF m 13 #[.val (.ref a1), .val (.int p2), .val (.int (if (decide ((0 : Int32) < p2) && (decide (y0 = (13 : Int32)) || decide (y0 = (10 : Int32)))) = true then (0 : Int32) else (-1 : Int32)))] [])) (fun t kt => ?_) ?_
  · show Steps p.tables e below (T12.setTop (mkF m 8 #[.val (.ref a1), .val (.int p2), .val (.int (-1 : Int32))] [(.int (own_i (decide ((0 : Int32) < p2) && (decide (y0 = (13 : Int32)) || decide (y0 = (10 : Int32))))))])) _
    by_cases hc8 : (decide ((0 : Int32) < p2) && (decide (y0 = (13 : Int32)) || decide (y0 = (10 : Int32)))) = true
    · refine XS.ifNo X12.here hx rfl (hb hby d11_8) rfl ((if0 _ _).trans (feq (own_i1 hc8)).1) ?_
      show Steps p.tables e below (T12.setTop (mkF m 11 #[.val (.ref a1), .val (.int p2), .val (.int (-1 : Int32))] [])) _
      refine XS.iconst X12.here hx rfl (hb hby d11_11) ?_
      show Steps p.tables e below (T12.setTop (mkF m 12 #[.val (.ref a1), .val (.int p2), .val (.int (-1 : Int32))] [(.int (0 : Int32))])) _
      refine XS.istoreN X12.here hx rfl (hb hby d11_12) rfl (l' := #[.val (.ref a1), .val (.int p2), .val (.int (0 : Int32))]) rfl ?_
      exact (castTop (congrArg (fun z__ => ((mkF m 13 #[.val (.ref a1), .val (.int p2), .val (.int z__)] []) : JFrame)) (show (if (decide ((0 : Int32) < p2) && (decide (y0 = (13 : Int32)) || decide (y0 = (10 : Int32)))) = true then (0 : Int32) else (-1 : Int32)) = (0 : Int32) from by exact if_pos hc8).symm) kt)
    · refine XS.ifYes X12.here hx rfl (pc0 := 8) (pc' := 13) rfl (hb hby d11_8) rfl ((if0 _ _).trans (teq (own_i0 hc8)).1) (by decide) (by decide) ?_
      exact (castTop (congrArg (fun z__ => ((mkF m 13 #[.val (.ref a1), .val (.int p2), .val (.int z__)] []) : JFrame)) (show (if (decide ((0 : Int32) < p2) && (decide (y0 = (13 : Int32)) || decide (y0 = (10 : Int32)))) = true then (0 : Int32) else (-1 : Int32)) = (-1 : Int32) from by exact if_neg hc8).symm) kt)
  refine own_go (B := T12.setTop (mkF m 16 #[.val (.ref a1), .val (.int p2), .val (.int (if (decide ((0 : Int32) < p2) && (decide (y0 = (13 : Int32)) || decide (y0 = (10 : Int32)))) = true then (0 : Int32) else (-1 : Int32)))] [(.int p2), (.int (1 : Int32)), (.ref a1)])) (fun t kt => ?_) ?_
  · show Steps p.tables e below (T12.setTop (mkF m 13 #[.val (.ref a1), .val (.int p2), .val (.int (if (decide ((0 : Int32) < p2) && (decide (y0 = (13 : Int32)) || decide (y0 = (10 : Int32)))) = true then (0 : Int32) else (-1 : Int32)))] [])) _
    refine XS.aloadN X12.here hx rfl (hb hby d11_13) rfl rfl ?_
    show Steps p.tables e below (T12.setTop (mkF m 14 #[.val (.ref a1), .val (.int p2), .val (.int (if (decide ((0 : Int32) < p2) && (decide (y0 = (13 : Int32)) || decide (y0 = (10 : Int32)))) = true then (0 : Int32) else (-1 : Int32)))] [(.ref a1)])) _
    refine XS.iconst X12.here hx rfl (hb hby d11_14) ?_
    show Steps p.tables e below (T12.setTop (mkF m 15 #[.val (.ref a1), .val (.int p2), .val (.int (if (decide ((0 : Int32) < p2) && (decide (y0 = (13 : Int32)) || decide (y0 = (10 : Int32)))) = true then (0 : Int32) else (-1 : Int32)))] [(.int (1 : Int32)), (.ref a1)])) _
    refine XS.iloadN X12.here hx rfl (hb hby d11_15) rfl ?_
    exact kt
  obtain ⟨_, _, ⟨T13, L13, k13, n13⟩, -, X13, ⟨Lc13, hQ13, l13, y13, z13⟩, st13⟩ := Jvm.LawKit.callS X12 hx (y := (⟨"com/example/brokn/brokn/TextPositionAdvancePinLaw", "isBreak", "([CII)Z"⟩ : MethodName)) hown (mvT hZ (hw _ (List.mem_of_getElem? (i := 51) rfl))) (mvT hZ (hw _ (List.mem_of_getElem? (i := 52) rfl))) (mvT hZ (hw _ (List.mem_of_getElem? (i := 3) rfl))) (mvT hZ (hw _ (List.mem_of_getElem? (i := 53) rfl))) (by decide) (backOf (W := 0) (rm12 l Z a0 hw [] a1 (1 : Int32) p2 y1 cl h0 n0 Z0 Ar (inb_of S ⟨by decide, by decide⟩) (H.at (inb_of S ⟨by decide, by decide⟩) rfl)) hZ (hw _ (List.mem_of_getElem? (i := 53) rfl)) (hw _ (List.mem_of_getElem? (i := 3) rfl)) (by decide) (by decide)) (g := (mkF m 16 #[.val (.ref a1), .val (.int p2), .val (.int (if (decide ((0 : Int32) < p2) && (decide (y0 = (13 : Int32)) || decide (y0 = (10 : Int32)))) = true then (0 : Int32) else (-1 : Int32)))] [(.int p2), (.int (1 : Int32)), (.ref a1)])) rfl (by rw [hml]; rfl) (argsL := [(.ref a1), (.int (1 : Int32)), (.int p2)]) (rest := []) (lenOf pd_1 rfl) rfl (by show 2 * 0 + _ ≤ _; exact Nat.le_of_eq rfl) (hb hby d11_16) (fun _ _ => ⟨rfl, e12, (by decide : (0 + 0) + 0 ≤ _), (by decide : (0 + 0) + 0 ≤ _)⟩)
  dsimp only [Pt.U, Pt.locs, Pt.cells, Pt.slots] at X13 l13 y13 z13 st13 hQ13
  subst l13 y13 z13
  obtain ⟨rfl, N13q, e13⟩ := hQ13
  have N13 := Fr.app N12 N13q
  refine own_go (B := T13.setTop (mkF m 19 #[.val (.ref a1), .val (.int p2), .val (.int (if (decide ((0 : Int32) < p2) && (decide (y0 = (13 : Int32)) || decide (y0 = (10 : Int32)))) = true then (0 : Int32) else (-1 : Int32)))] [(.int (own_i (decide ((1 : Int32) < p2) && (decide (y1 = (13 : Int32)) || decide (y1 = (10 : Int32))))))])) (fun t kt => st13 t kt) ?_
  refine own_go (B := T13.setTop (mkF m 24 #[.val (.ref a1), .val (.int p2), .val (.int (if (decide ((1 : Int32) < p2) && (decide (y1 = (13 : Int32)) || decide (y1 = (10 : Int32)))) = true then (1 : Int32) else (if (decide ((0 : Int32) < p2) && (decide (y0 = (13 : Int32)) || decide (y0 = (10 : Int32)))) = true then (0 : Int32) else (-1 : Int32))))] [])) (fun t kt => ?_) ?_
  · show Steps p.tables e below (T13.setTop (mkF m 19 #[.val (.ref a1), .val (.int p2), .val (.int (if (decide ((0 : Int32) < p2) && (decide (y0 = (13 : Int32)) || decide (y0 = (10 : Int32)))) = true then (0 : Int32) else (-1 : Int32)))] [(.int (own_i (decide ((1 : Int32) < p2) && (decide (y1 = (13 : Int32)) || decide (y1 = (10 : Int32))))))])) _
    by_cases hc19 : (decide ((1 : Int32) < p2) && (decide (y1 = (13 : Int32)) || decide (y1 = (10 : Int32)))) = true
    · refine XS.ifNo X13.here hx rfl (hb hby d11_19) rfl ((if0 _ _).trans (feq (own_i1 hc19)).1) ?_
      show Steps p.tables e below (T13.setTop (mkF m 22 #[.val (.ref a1), .val (.int p2), .val (.int (if (decide ((0 : Int32) < p2) && (decide (y0 = (13 : Int32)) || decide (y0 = (10 : Int32)))) = true then (0 : Int32) else (-1 : Int32)))] [])) _
      refine XS.iconst X13.here hx rfl (hb hby d11_22) ?_
      show Steps p.tables e below (T13.setTop (mkF m 23 #[.val (.ref a1), .val (.int p2), .val (.int (if (decide ((0 : Int32) < p2) && (decide (y0 = (13 : Int32)) || decide (y0 = (10 : Int32)))) = true then (0 : Int32) else (-1 : Int32)))] [(.int (1 : Int32))])) _
      refine XS.istoreN X13.here hx rfl (hb hby d11_23) rfl (l' := #[.val (.ref a1), .val (.int p2), .val (.int (1 : Int32))]) rfl ?_
      exact (castTop (congrArg (fun z__ => ((mkF m 24 #[.val (.ref a1), .val (.int p2), .val (.int z__)] []) : JFrame)) (show (if (decide ((1 : Int32) < p2) && (decide (y1 = (13 : Int32)) || decide (y1 = (10 : Int32)))) = true then (1 : Int32) else (if (decide ((0 : Int32) < p2) && (decide (y0 = (13 : Int32)) || decide (y0 = (10 : Int32)))) = true then (0 : Int32) else (-1 : Int32))) = (1 : Int32) from by exact if_pos hc19).symm) kt)
    · refine XS.ifYes X13.here hx rfl (pc0 := 19) (pc' := 24) rfl (hb hby d11_19) rfl ((if0 _ _).trans (teq (own_i0 hc19)).1) (by decide) (by decide) ?_
      exact (castTop (congrArg (fun z__ => ((mkF m 24 #[.val (.ref a1), .val (.int p2), .val (.int z__)] []) : JFrame)) (show (if (decide ((1 : Int32) < p2) && (decide (y1 = (13 : Int32)) || decide (y1 = (10 : Int32)))) = true then (1 : Int32) else (if (decide ((0 : Int32) < p2) && (decide (y0 = (13 : Int32)) || decide (y0 = (10 : Int32)))) = true then (0 : Int32) else (-1 : Int32))) = (if (decide ((0 : Int32) < p2) && (decide (y0 = (13 : Int32)) || decide (y0 = (10 : Int32)))) = true then (0 : Int32) else (-1 : Int32)) from by exact if_neg hc19).symm) kt)
  refine own_go (B := T13.setTop (mkF m 27 #[.val (.ref a1), .val (.int p2), .val (.int (if (decide ((1 : Int32) < p2) && (decide (y1 = (13 : Int32)) || decide (y1 = (10 : Int32)))) = true then (1 : Int32) else (if (decide ((0 : Int32) < p2) && (decide (y0 = (13 : Int32)) || decide (y0 = (10 : Int32)))) = true then (0 : Int32) else (-1 : Int32))))] [(.int p2), (.int (2 : Int32)), (.ref a1)])) (fun t kt => ?_) ?_
  · show Steps p.tables e below (T13.setTop (mkF m 24 #[.val (.ref a1), .val (.int p2), .val (.int (if (decide ((1 : Int32) < p2) && (decide (y1 = (13 : Int32)) || decide (y1 = (10 : Int32)))) = true then (1 : Int32) else (if (decide ((0 : Int32) < p2) && (decide (y0 = (13 : Int32)) || decide (y0 = (10 : Int32)))) = true then (0 : Int32) else (-1 : Int32))))] [])) _
    refine XS.aloadN X13.here hx rfl (hb hby d11_24) rfl rfl ?_
    show Steps p.tables e below (T13.setTop (mkF m 25 #[.val (.ref a1), .val (.int p2), .val (.int (if (decide ((1 : Int32) < p2) && (decide (y1 = (13 : Int32)) || decide (y1 = (10 : Int32)))) = true then (1 : Int32) else (if (decide ((0 : Int32) < p2) && (decide (y0 = (13 : Int32)) || decide (y0 = (10 : Int32)))) = true then (0 : Int32) else (-1 : Int32))))] [(.ref a1)])) _
    refine XS.iconst X13.here hx rfl (hb hby d11_25) ?_
    show Steps p.tables e below (T13.setTop (mkF m 26 #[.val (.ref a1), .val (.int p2), .val (.int (if (decide ((1 : Int32) < p2) && (decide (y1 = (13 : Int32)) || decide (y1 = (10 : Int32)))) = true then (1 : Int32) else (if (decide ((0 : Int32) < p2) && (decide (y0 = (13 : Int32)) || decide (y0 = (10 : Int32)))) = true then (0 : Int32) else (-1 : Int32))))] [(.int (2 : Int32)), (.ref a1)])) _
    refine XS.iloadN X13.here hx rfl (hb hby d11_26) rfl ?_
    exact kt
  obtain ⟨_, _, ⟨T14, L14, k14, n14⟩, -, X14, ⟨Lc14, hQ14, l14, y14, z14⟩, st14⟩ := Jvm.LawKit.callS X13 hx (y := (⟨"com/example/brokn/brokn/TextPositionAdvancePinLaw", "isBreak", "([CII)Z"⟩ : MethodName)) hown (mvT hZ (hw _ (List.mem_of_getElem? (i := 51) rfl))) (mvT hZ (hw _ (List.mem_of_getElem? (i := 52) rfl))) (mvT hZ (hw _ (List.mem_of_getElem? (i := 3) rfl))) (mvT hZ (hw _ (List.mem_of_getElem? (i := 53) rfl))) (by decide) (backOf (W := 0) (rm12 l Z a0 hw [] a1 (2 : Int32) p2 y2 cl h0 n0 Z0 Ar (inb_of S ⟨by decide, by decide⟩) (H.at (inb_of S ⟨by decide, by decide⟩) rfl)) hZ (hw _ (List.mem_of_getElem? (i := 53) rfl)) (hw _ (List.mem_of_getElem? (i := 3) rfl)) (by decide) (by decide)) (g := (mkF m 27 #[.val (.ref a1), .val (.int p2), .val (.int (if (decide ((1 : Int32) < p2) && (decide (y1 = (13 : Int32)) || decide (y1 = (10 : Int32)))) = true then (1 : Int32) else (if (decide ((0 : Int32) < p2) && (decide (y0 = (13 : Int32)) || decide (y0 = (10 : Int32)))) = true then (0 : Int32) else (-1 : Int32))))] [(.int p2), (.int (2 : Int32)), (.ref a1)])) rfl (by rw [hml]; rfl) (argsL := [(.ref a1), (.int (2 : Int32)), (.int p2)]) (rest := []) (lenOf pd_1 rfl) rfl (by show 2 * 0 + _ ≤ _; exact Nat.le_of_eq rfl) (hb hby d11_27) (fun _ _ => ⟨rfl, e13, (by decide : ((0 + 0) + 0) + 0 ≤ _), (by decide : ((0 + 0) + 0) + 0 ≤ _)⟩)
  dsimp only [Pt.U, Pt.locs, Pt.cells, Pt.slots] at X14 l14 y14 z14 st14 hQ14
  subst l14 y14 z14
  obtain ⟨rfl, N14q, e14⟩ := hQ14
  have N14 := Fr.app N13 N14q
  refine own_go (B := T14.setTop (mkF m 30 #[.val (.ref a1), .val (.int p2), .val (.int (if (decide ((1 : Int32) < p2) && (decide (y1 = (13 : Int32)) || decide (y1 = (10 : Int32)))) = true then (1 : Int32) else (if (decide ((0 : Int32) < p2) && (decide (y0 = (13 : Int32)) || decide (y0 = (10 : Int32)))) = true then (0 : Int32) else (-1 : Int32))))] [(.int (own_i (decide ((2 : Int32) < p2) && (decide (y2 = (13 : Int32)) || decide (y2 = (10 : Int32))))))])) (fun t kt => st14 t kt) ?_
  refine own_go (B := T14.setTop (mkF m 35 #[.val (.ref a1), .val (.int p2), .val (.int (if (decide ((2 : Int32) < p2) && (decide (y2 = (13 : Int32)) || decide (y2 = (10 : Int32)))) = true then (2 : Int32) else (if (decide ((1 : Int32) < p2) && (decide (y1 = (13 : Int32)) || decide (y1 = (10 : Int32)))) = true then (1 : Int32) else (if (decide ((0 : Int32) < p2) && (decide (y0 = (13 : Int32)) || decide (y0 = (10 : Int32)))) = true then (0 : Int32) else (-1 : Int32)))))] [])) (fun t kt => ?_) ?_
  · show Steps p.tables e below (T14.setTop (mkF m 30 #[.val (.ref a1), .val (.int p2), .val (.int (if (decide ((1 : Int32) < p2) && (decide (y1 = (13 : Int32)) || decide (y1 = (10 : Int32)))) = true then (1 : Int32) else (if (decide ((0 : Int32) < p2) && (decide (y0 = (13 : Int32)) || decide (y0 = (10 : Int32)))) = true then (0 : Int32) else (-1 : Int32))))] [(.int (own_i (decide ((2 : Int32) < p2) && (decide (y2 = (13 : Int32)) || decide (y2 = (10 : Int32))))))])) _
    by_cases hc30 : (decide ((2 : Int32) < p2) && (decide (y2 = (13 : Int32)) || decide (y2 = (10 : Int32)))) = true
    · refine XS.ifNo X14.here hx rfl (hb hby d11_30) rfl ((if0 _ _).trans (feq (own_i1 hc30)).1) ?_
      show Steps p.tables e below (T14.setTop (mkF m 33 #[.val (.ref a1), .val (.int p2), .val (.int (if (decide ((1 : Int32) < p2) && (decide (y1 = (13 : Int32)) || decide (y1 = (10 : Int32)))) = true then (1 : Int32) else (if (decide ((0 : Int32) < p2) && (decide (y0 = (13 : Int32)) || decide (y0 = (10 : Int32)))) = true then (0 : Int32) else (-1 : Int32))))] [])) _
      refine XS.iconst X14.here hx rfl (hb hby d11_33) ?_
      show Steps p.tables e below (T14.setTop (mkF m 34 #[.val (.ref a1), .val (.int p2), .val (.int (if (decide ((1 : Int32) < p2) && (decide (y1 = (13 : Int32)) || decide (y1 = (10 : Int32)))) = true then (1 : Int32) else (if (decide ((0 : Int32) < p2) && (decide (y0 = (13 : Int32)) || decide (y0 = (10 : Int32)))) = true then (0 : Int32) else (-1 : Int32))))] [(.int (2 : Int32))])) _
      refine XS.istoreN X14.here hx rfl (hb hby d11_34) rfl (l' := #[.val (.ref a1), .val (.int p2), .val (.int (2 : Int32))]) rfl ?_
      exact (castTop (congrArg (fun z__ => ((mkF m 35 #[.val (.ref a1), .val (.int p2), .val (.int z__)] []) : JFrame)) (show (if (decide ((2 : Int32) < p2) && (decide (y2 = (13 : Int32)) || decide (y2 = (10 : Int32)))) = true then (2 : Int32) else (if (decide ((1 : Int32) < p2) && (decide (y1 = (13 : Int32)) || decide (y1 = (10 : Int32)))) = true then (1 : Int32) else (if (decide ((0 : Int32) < p2) && (decide (y0 = (13 : Int32)) || decide (y0 = (10 : Int32)))) = true then (0 : Int32) else (-1 : Int32)))) = (2 : Int32) from by exact if_pos hc30).symm) kt)
    · refine XS.ifYes X14.here hx rfl (pc0 := 30) (pc' := 35) rfl (hb hby d11_30) rfl ((if0 _ _).trans (teq (own_i0 hc30)).1) (by decide) (by decide) ?_
      exact (castTop (congrArg (fun z__ => ((mkF m 35 #[.val (.ref a1), .val (.int p2), .val (.int z__)] []) : JFrame)) (show (if (decide ((2 : Int32) < p2) && (decide (y2 = (13 : Int32)) || decide (y2 = (10 : Int32)))) = true then (2 : Int32) else (if (decide ((1 : Int32) < p2) && (decide (y1 = (13 : Int32)) || decide (y1 = (10 : Int32)))) = true then (1 : Int32) else (if (decide ((0 : Int32) < p2) && (decide (y0 = (13 : Int32)) || decide (y0 = (10 : Int32)))) = true then (0 : Int32) else (-1 : Int32)))) = (if (decide ((1 : Int32) < p2) && (decide (y1 = (13 : Int32)) || decide (y1 = (10 : Int32)))) = true then (1 : Int32) else (if (decide ((0 : Int32) < p2) && (decide (y0 = (13 : Int32)) || decide (y0 = (10 : Int32)))) = true then (0 : Int32) else (-1 : Int32))) from by exact if_neg hc30).symm) kt)
  refine own_go (B := T14.setTop (mkF m 38 #[.val (.ref a1), .val (.int p2), .val (.int (if (decide ((2 : Int32) < p2) && (decide (y2 = (13 : Int32)) || decide (y2 = (10 : Int32)))) = true then (2 : Int32) else (if (decide ((1 : Int32) < p2) && (decide (y1 = (13 : Int32)) || decide (y1 = (10 : Int32)))) = true then (1 : Int32) else (if (decide ((0 : Int32) < p2) && (decide (y0 = (13 : Int32)) || decide (y0 = (10 : Int32)))) = true then (0 : Int32) else (-1 : Int32)))))] [(.int p2), (.int (3 : Int32)), (.ref a1)])) (fun t kt => ?_) ?_
  · show Steps p.tables e below (T14.setTop (mkF m 35 #[.val (.ref a1), .val (.int p2), .val (.int (if (decide ((2 : Int32) < p2) && (decide (y2 = (13 : Int32)) || decide (y2 = (10 : Int32)))) = true then (2 : Int32) else (if (decide ((1 : Int32) < p2) && (decide (y1 = (13 : Int32)) || decide (y1 = (10 : Int32)))) = true then (1 : Int32) else (if (decide ((0 : Int32) < p2) && (decide (y0 = (13 : Int32)) || decide (y0 = (10 : Int32)))) = true then (0 : Int32) else (-1 : Int32)))))] [])) _
    refine XS.aloadN X14.here hx rfl (hb hby d11_35) rfl rfl ?_
    show Steps p.tables e below (T14.setTop (mkF m 36 #[.val (.ref a1), .val (.int p2), .val (.int (if (decide ((2 : Int32) < p2) && (decide (y2 = (13 : Int32)) || decide (y2 = (10 : Int32)))) = true then (2 : Int32) else (if (decide ((1 : Int32) < p2) && (decide (y1 = (13 : Int32)) || decide (y1 = (10 : Int32)))) = true then (1 : Int32) else (if (decide ((0 : Int32) < p2) && (decide (y0 = (13 : Int32)) || decide (y0 = (10 : Int32)))) = true then (0 : Int32) else (-1 : Int32)))))] [(.ref a1)])) _
    refine XS.iconst X14.here hx rfl (hb hby d11_36) ?_
    show Steps p.tables e below (T14.setTop (mkF m 37 #[.val (.ref a1), .val (.int p2), .val (.int (if (decide ((2 : Int32) < p2) && (decide (y2 = (13 : Int32)) || decide (y2 = (10 : Int32)))) = true then (2 : Int32) else (if (decide ((1 : Int32) < p2) && (decide (y1 = (13 : Int32)) || decide (y1 = (10 : Int32)))) = true then (1 : Int32) else (if (decide ((0 : Int32) < p2) && (decide (y0 = (13 : Int32)) || decide (y0 = (10 : Int32)))) = true then (0 : Int32) else (-1 : Int32)))))] [(.int (3 : Int32)), (.ref a1)])) _
    refine XS.iloadN X14.here hx rfl (hb hby d11_37) rfl ?_
    exact kt
  obtain ⟨_, _, ⟨T15, L15, k15, n15⟩, -, X15, ⟨Lc15, hQ15, l15, y15, z15⟩, st15⟩ := Jvm.LawKit.callS X14 hx (y := (⟨"com/example/brokn/brokn/TextPositionAdvancePinLaw", "isBreak", "([CII)Z"⟩ : MethodName)) hown (mvT hZ (hw _ (List.mem_of_getElem? (i := 51) rfl))) (mvT hZ (hw _ (List.mem_of_getElem? (i := 52) rfl))) (mvT hZ (hw _ (List.mem_of_getElem? (i := 3) rfl))) (mvT hZ (hw _ (List.mem_of_getElem? (i := 53) rfl))) (by decide) (backOf (W := 0) (rm12 l Z a0 hw [] a1 (3 : Int32) p2 y3 cl h0 n0 Z0 Ar (inb_of S ⟨by decide, by decide⟩) (H.at (inb_of S ⟨by decide, by decide⟩) rfl)) hZ (hw _ (List.mem_of_getElem? (i := 53) rfl)) (hw _ (List.mem_of_getElem? (i := 3) rfl)) (by decide) (by decide)) (g := (mkF m 38 #[.val (.ref a1), .val (.int p2), .val (.int (if (decide ((2 : Int32) < p2) && (decide (y2 = (13 : Int32)) || decide (y2 = (10 : Int32)))) = true then (2 : Int32) else (if (decide ((1 : Int32) < p2) && (decide (y1 = (13 : Int32)) || decide (y1 = (10 : Int32)))) = true then (1 : Int32) else (if (decide ((0 : Int32) < p2) && (decide (y0 = (13 : Int32)) || decide (y0 = (10 : Int32)))) = true then (0 : Int32) else (-1 : Int32)))))] [(.int p2), (.int (3 : Int32)), (.ref a1)])) rfl (by rw [hml]; rfl) (argsL := [(.ref a1), (.int (3 : Int32)), (.int p2)]) (rest := []) (lenOf pd_1 rfl) rfl (by show 2 * 0 + _ ≤ _; exact Nat.le_of_eq rfl) (hb hby d11_38) (fun _ _ => ⟨rfl, e14, (by decide : (((0 + 0) + 0) + 0) + 0 ≤ _), (by decide : (((0 + 0) + 0) + 0) + 0 ≤ _)⟩)
  dsimp only [Pt.U, Pt.locs, Pt.cells, Pt.slots] at X15 l15 y15 z15 st15 hQ15
  subst l15 y15 z15
  obtain ⟨rfl, N15q, e15⟩ := hQ15
  have N15 := Fr.app N14 N15q
  refine own_go (B := T15.setTop (mkF m 41 #[.val (.ref a1), .val (.int p2), .val (.int (if (decide ((2 : Int32) < p2) && (decide (y2 = (13 : Int32)) || decide (y2 = (10 : Int32)))) = true then (2 : Int32) else (if (decide ((1 : Int32) < p2) && (decide (y1 = (13 : Int32)) || decide (y1 = (10 : Int32)))) = true then (1 : Int32) else (if (decide ((0 : Int32) < p2) && (decide (y0 = (13 : Int32)) || decide (y0 = (10 : Int32)))) = true then (0 : Int32) else (-1 : Int32)))))] [(.int (own_i (decide ((3 : Int32) < p2) && (decide (y3 = (13 : Int32)) || decide (y3 = (10 : Int32))))))])) (fun t kt => st15 t kt) ?_
  refine own_go (B := T15.setTop (mkF m 46 #[.val (.ref a1), .val (.int p2), .val (.int (if (decide ((3 : Int32) < p2) && (decide (y3 = (13 : Int32)) || decide (y3 = (10 : Int32)))) = true then (3 : Int32) else (if (decide ((2 : Int32) < p2) && (decide (y2 = (13 : Int32)) || decide (y2 = (10 : Int32)))) = true then (2 : Int32) else (if (decide ((1 : Int32) < p2) && (decide (y1 = (13 : Int32)) || decide (y1 = (10 : Int32)))) = true then (1 : Int32) else (if (decide ((0 : Int32) < p2) && (decide (y0 = (13 : Int32)) || decide (y0 = (10 : Int32)))) = true then (0 : Int32) else (-1 : Int32))))))] [])) (fun t kt => ?_) ?_
  · show Steps p.tables e below (T15.setTop (mkF m 41 #[.val (.ref a1), .val (.int p2), .val (.int (if (decide ((2 : Int32) < p2) && (decide (y2 = (13 : Int32)) || decide (y2 = (10 : Int32)))) = true then (2 : Int32) else (if (decide ((1 : Int32) < p2) && (decide (y1 = (13 : Int32)) || decide (y1 = (10 : Int32)))) = true then (1 : Int32) else (if (decide ((0 : Int32) < p2) && (decide (y0 = (13 : Int32)) || decide (y0 = (10 : Int32)))) = true then (0 : Int32) else (-1 : Int32)))))] [(.int (own_i (decide ((3 : Int32) < p2) && (decide (y3 = (13 : Int32)) || decide (y3 = (10 : Int32))))))])) _
    by_cases hc41 : (decide ((3 : Int32) < p2) && (decide (y3 = (13 : Int32)) || decide (y3 = (10 : Int32)))) = true
    · refine XS.ifNo X15.here hx rfl (hb hby d11_41) rfl ((if0 _ _).trans (feq (own_i1 hc41)).1) ?_
      show Steps p.tables e below (T15.setTop (mkF m 44 #[.val (.ref a1), .val (.int p2), .val (.int (if (decide ((2 : Int32) < p2) && (decide (y2 = (13 : Int32)) || decide (y2 = (10 : Int32)))) = true then (2 : Int32) else (if (decide ((1 : Int32) < p2) && (decide (y1 = (13 : Int32)) || decide (y1 = (10 : Int32)))) = true then (1 : Int32) else (if (decide ((0 : Int32) < p2) && (decide (y0 = (13 : Int32)) || decide (y0 = (10 : Int32)))) = true then (0 : Int32) else (-1 : Int32)))))] [])) _
      refine XS.iconst X15.here hx rfl (hb hby d11_44) ?_
      show Steps p.tables e below (T15.setTop (mkF m 45 #[.val (.ref a1), .val (.int p2), .val (.int (if (decide ((2 : Int32) < p2) && (decide (y2 = (13 : Int32)) || decide (y2 = (10 : Int32)))) = true then (2 : Int32) else (if (decide ((1 : Int32) < p2) && (decide (y1 = (13 : Int32)) || decide (y1 = (10 : Int32)))) = true then (1 : Int32) else (if (decide ((0 : Int32) < p2) && (decide (y0 = (13 : Int32)) || decide (y0 = (10 : Int32)))) = true then (0 : Int32) else (-1 : Int32)))))] [(.int (3 : Int32))])) _
      refine XS.istoreN X15.here hx rfl (hb hby d11_45) rfl (l' := #[.val (.ref a1), .val (.int p2), .val (.int (3 : Int32))]) rfl ?_
      exact (castTop (congrArg (fun z__ => ((mkF m 46 #[.val (.ref a1), .val (.int p2), .val (.int z__)] []) : JFrame)) (show (if (decide ((3 : Int32) < p2) && (decide (y3 = (13 : Int32)) || decide (y3 = (10 : Int32)))) = true then (3 : Int32) else (if (decide ((2 : Int32) < p2) && (decide (y2 = (13 : Int32)) || decide (y2 = (10 : Int32)))) = true then (2 : Int32) else (if (decide ((1 : Int32) < p2) && (decide (y1 = (13 : Int32)) || decide (y1 = (10 : Int32)))) = true then (1 : Int32) else (if (decide ((0 : Int32) < p2) && (decide (y0 = (13 : Int32)) || decide (y0 = (10 : Int32)))) = true then (0 : Int32) else (-1 : Int32))))) = (3 : Int32) from by exact if_pos hc41).symm) kt)
    · refine XS.ifYes X15.here hx rfl (pc0 := 41) (pc' := 46) rfl (hb hby d11_41) rfl ((if0 _ _).trans (teq (own_i0 hc41)).1) (by decide) (by decide) ?_
      exact (castTop (congrArg (fun z__ => ((mkF m 46 #[.val (.ref a1), .val (.int p2), .val (.int z__)] []) : JFrame)) (show (if (decide ((3 : Int32) < p2) && (decide (y3 = (13 : Int32)) || decide (y3 = (10 : Int32)))) = true then (3 : Int32) else (if (decide ((2 : Int32) < p2) && (decide (y2 = (13 : Int32)) || decide (y2 = (10 : Int32)))) = true then (2 : Int32) else (if (decide ((1 : Int32) < p2) && (decide (y1 = (13 : Int32)) || decide (y1 = (10 : Int32)))) = true then (1 : Int32) else (if (decide ((0 : Int32) < p2) && (decide (y0 = (13 : Int32)) || decide (y0 = (10 : Int32)))) = true then (0 : Int32) else (-1 : Int32))))) = (if (decide ((2 : Int32) < p2) && (decide (y2 = (13 : Int32)) || decide (y2 = (10 : Int32)))) = true then (2 : Int32) else (if (decide ((1 : Int32) < p2) && (decide (y1 = (13 : Int32)) || decide (y1 = (10 : Int32)))) = true then (1 : Int32) else (if (decide ((0 : Int32) < p2) && (decide (y0 = (13 : Int32)) || decide (y0 = (10 : Int32)))) = true then (0 : Int32) else (-1 : Int32)))) from by exact if_neg hc41).symm) kt)
  refine own_go (B := T15.setTop (mkF m 51 #[.val (.ref a1), .val (.int p2), .val (.int (if (decide ((3 : Int32) < p2) && (decide (y3 = (13 : Int32)) || decide (y3 = (10 : Int32)))) = true then (3 : Int32) else (if (decide ((2 : Int32) < p2) && (decide (y2 = (13 : Int32)) || decide (y2 = (10 : Int32)))) = true then (2 : Int32) else (if (decide ((1 : Int32) < p2) && (decide (y1 = (13 : Int32)) || decide (y1 = (10 : Int32)))) = true then (1 : Int32) else (if (decide ((0 : Int32) < p2) && (decide (y0 = (13 : Int32)) || decide (y0 = (10 : Int32)))) = true then (0 : Int32) else (-1 : Int32))))))] [(.int ((p2 - (1 : Int32)) - (if (decide ((3 : Int32) < p2) && (decide (y3 = (13 : Int32)) || decide (y3 = (10 : Int32)))) = true then (3 : Int32) else (if (decide ((2 : Int32) < p2) && (decide (y2 = (13 : Int32)) || decide (y2 = (10 : Int32)))) = true then (2 : Int32) else (if (decide ((1 : Int32) < p2) && (decide (y1 = (13 : Int32)) || decide (y1 = (10 : Int32)))) = true then (1 : Int32) else (if (decide ((0 : Int32) < p2) && (decide (y0 = (13 : Int32)) || decide (y0 = (10 : Int32)))) = true then (0 : Int32) else (-1 : Int32)))))))])) (fun t kt => ?_) ?_
  · show Steps p.tables e below (T15.setTop (mkF m 46 #[.val (.ref a1), .val (.int p2), .val (.int (if (decide ((3 : Int32) < p2) && (decide (y3 = (13 : Int32)) || decide (y3 = (10 : Int32)))) = true then (3 : Int32) else (if (decide ((2 : Int32) < p2) && (decide (y2 = (13 : Int32)) || decide (y2 = (10 : Int32)))) = true then (2 : Int32) else (if (decide ((1 : Int32) < p2) && (decide (y1 = (13 : Int32)) || decide (y1 = (10 : Int32)))) = true then (1 : Int32) else (if (decide ((0 : Int32) < p2) && (decide (y0 = (13 : Int32)) || decide (y0 = (10 : Int32)))) = true then (0 : Int32) else (-1 : Int32))))))] [])) _
    refine XS.iloadN X15.here hx rfl (hb hby d11_46) rfl ?_
    show Steps p.tables e below (T15.setTop (mkF m 47 #[.val (.ref a1), .val (.int p2), .val (.int (if (decide ((3 : Int32) < p2) && (decide (y3 = (13 : Int32)) || decide (y3 = (10 : Int32)))) = true then (3 : Int32) else (if (decide ((2 : Int32) < p2) && (decide (y2 = (13 : Int32)) || decide (y2 = (10 : Int32)))) = true then (2 : Int32) else (if (decide ((1 : Int32) < p2) && (decide (y1 = (13 : Int32)) || decide (y1 = (10 : Int32)))) = true then (1 : Int32) else (if (decide ((0 : Int32) < p2) && (decide (y0 = (13 : Int32)) || decide (y0 = (10 : Int32)))) = true then (0 : Int32) else (-1 : Int32))))))] [(.int p2)])) _
    refine XS.iconst X15.here hx rfl (hb hby d11_47) ?_
    show Steps p.tables e below (T15.setTop (mkF m 48 #[.val (.ref a1), .val (.int p2), .val (.int (if (decide ((3 : Int32) < p2) && (decide (y3 = (13 : Int32)) || decide (y3 = (10 : Int32)))) = true then (3 : Int32) else (if (decide ((2 : Int32) < p2) && (decide (y2 = (13 : Int32)) || decide (y2 = (10 : Int32)))) = true then (2 : Int32) else (if (decide ((1 : Int32) < p2) && (decide (y1 = (13 : Int32)) || decide (y1 = (10 : Int32)))) = true then (1 : Int32) else (if (decide ((0 : Int32) < p2) && (decide (y0 = (13 : Int32)) || decide (y0 = (10 : Int32)))) = true then (0 : Int32) else (-1 : Int32))))))] [(.int (1 : Int32)), (.int p2)])) _
    refine XS.isub X15.here hx rfl (hb hby d11_48) rfl ?_
    show Steps p.tables e below (T15.setTop (mkF m 49 #[.val (.ref a1), .val (.int p2), .val (.int (if (decide ((3 : Int32) < p2) && (decide (y3 = (13 : Int32)) || decide (y3 = (10 : Int32)))) = true then (3 : Int32) else (if (decide ((2 : Int32) < p2) && (decide (y2 = (13 : Int32)) || decide (y2 = (10 : Int32)))) = true then (2 : Int32) else (if (decide ((1 : Int32) < p2) && (decide (y1 = (13 : Int32)) || decide (y1 = (10 : Int32)))) = true then (1 : Int32) else (if (decide ((0 : Int32) < p2) && (decide (y0 = (13 : Int32)) || decide (y0 = (10 : Int32)))) = true then (0 : Int32) else (-1 : Int32))))))] [(.int (p2 - (1 : Int32)))])) _
    refine XS.iloadN X15.here hx rfl (hb hby d11_49) rfl ?_
    show Steps p.tables e below (T15.setTop (mkF m 50 #[.val (.ref a1), .val (.int p2), .val (.int (if (decide ((3 : Int32) < p2) && (decide (y3 = (13 : Int32)) || decide (y3 = (10 : Int32)))) = true then (3 : Int32) else (if (decide ((2 : Int32) < p2) && (decide (y2 = (13 : Int32)) || decide (y2 = (10 : Int32)))) = true then (2 : Int32) else (if (decide ((1 : Int32) < p2) && (decide (y1 = (13 : Int32)) || decide (y1 = (10 : Int32)))) = true then (1 : Int32) else (if (decide ((0 : Int32) < p2) && (decide (y0 = (13 : Int32)) || decide (y0 = (10 : Int32)))) = true then (0 : Int32) else (-1 : Int32))))))] [(.int (if (decide ((3 : Int32) < p2) && (decide (y3 = (13 : Int32)) || decide (y3 = (10 : Int32)))) = true then (3 : Int32) else (if (decide ((2 : Int32) < p2) && (decide (y2 = (13 : Int32)) || decide (y2 = (10 : Int32)))) = true then (2 : Int32) else (if (decide ((1 : Int32) < p2) && (decide (y1 = (13 : Int32)) || decide (y1 = (10 : Int32)))) = true then (1 : Int32) else (if (decide ((0 : Int32) < p2) && (decide (y0 = (13 : Int32)) || decide (y0 = (10 : Int32)))) = true then (0 : Int32) else (-1 : Int32)))))), (.int (p2 - (1 : Int32)))])) _
    refine XS.isub X15.here hx rfl (hb hby d11_50) rfl ?_
    exact kt
  have hv : own_col p2 y0 y1 y2 y3 = ((p2 - (1 : Int32)) - (if (decide ((3 : Int32) < p2) && (decide (y3 = (13 : Int32)) || decide (y3 = (10 : Int32)))) = true then (3 : Int32) else (if (decide ((2 : Int32) < p2) && (decide (y2 = (13 : Int32)) || decide (y2 = (10 : Int32)))) = true then (2 : Int32) else (if (decide ((1 : Int32) < p2) && (decide (y1 = (13 : Int32)) || decide (y1 = (10 : Int32)))) = true then (1 : Int32) else (if (decide ((0 : Int32) < p2) && (decide (y0 = (13 : Int32)) || decide (y0 = (10 : Int32)))) = true then (0 : Int32) else (-1 : Int32)))))) := rfl
  obtain ⟨fs, hr, hrun, hended, hW, hsame⟩ := X15.leave (v := some (.int ((p2 - (1 : Int32)) - (if (decide ((3 : Int32) < p2) && (decide (y3 = (13 : Int32)) || decide (y3 = (10 : Int32)))) = true then (3 : Int32) else (if (decide ((2 : Int32) < p2) && (decide (y2 = (13 : Int32)) || decide (y2 = (10 : Int32)))) = true then (2 : Int32) else (if (decide ((1 : Int32) < p2) && (decide (y1 = (13 : Int32)) || decide (y1 = (10 : Int32)))) = true then (1 : Int32) else (if (decide ((0 : Int32) < p2) && (decide (y0 = (13 : Int32)) || decide (y0 = (10 : Int32)))) = true then (0 : Int32) else (-1 : Int32)))))))) (fun h => by rw [Bd.returns] at h; cases h)
  refine ⟨_, _, ?_, hrun, hended, _, _, rfl, ?_, ⟨_, rfl⟩, hW, hsame.mono (by decide) (by decide)⟩
  · show Steps p.tables e below (T15.setTop (mkF m 51 #[.val (.ref a1), .val (.int p2), .val (.int (if (decide ((3 : Int32) < p2) && (decide (y3 = (13 : Int32)) || decide (y3 = (10 : Int32)))) = true then (3 : Int32) else (if (decide ((2 : Int32) < p2) && (decide (y2 = (13 : Int32)) || decide (y2 = (10 : Int32)))) = true then (2 : Int32) else (if (decide ((1 : Int32) < p2) && (decide (y1 = (13 : Int32)) || decide (y1 = (10 : Int32)))) = true then (1 : Int32) else (if (decide ((0 : Int32) < p2) && (decide (y0 = (13 : Int32)) || decide (y0 = (10 : Int32)))) = true then (0 : Int32) else (-1 : Int32))))))] [(.int ((p2 - (1 : Int32)) - (if (decide ((3 : Int32) < p2) && (decide (y3 = (13 : Int32)) || decide (y3 = (10 : Int32)))) = true then (3 : Int32) else (if (decide ((2 : Int32) < p2) && (decide (y2 = (13 : Int32)) || decide (y2 = (10 : Int32)))) = true then (2 : Int32) else (if (decide ((1 : Int32) < p2) && (decide (y1 = (13 : Int32)) || decide (y1 = (10 : Int32)))) = true then (1 : Int32) else (if (decide ((0 : Int32) < p2) && (decide (y0 = (13 : Int32)) || decide (y0 = (10 : Int32)))) = true then (0 : Int32) else (-1 : Int32)))))))])) _
    exact retI X15 hx Bd.returns (hb hby d11_51) hr
  · show Q11 Z p2 y0 y1 y2 y3 h0 n0 _ T15.heap _
    rw [e15]
    exact ⟨by rw [hv], N15, rfl⟩
theorem ef_5 (m : MethodId) (x0 : Addr) : entryFrame m #[(.ref x0)] 1 = mkF m 0 #[.val (.ref x0)] [] := by first | (simp [entryFrame, mkF, argsToLocals, Value.category]; done) | rfl
def Q5 (Z : State) (z : Int32) (h0 : Heap) (n0 : Nat) (v : Option Value) (h : Heap) (L : List Loc) : Prop := v = some (.int z) ∧ Fr n0 L ∧ h = h0
set_option maxRecDepth 65536 in
set_option maxHeartbeats 40000000 in
theorem rm5 (l : Launch) (Z : State) (a0 : Array Value) (hw : ∀ d ∈ tables_1, d.before a0 Z = true) (ws : List Jvm.Cond) (a1 : Addr) (z : Int32) (h0 : Heap) (n0 : Nat) (Z0 : n0 ≤ h0.size) (F : Fld Z h0 a1 "com/example/brokn/brokn/TextPosition" "line" "I" (.int z)) :
    MetFree l (⟨"com/example/brokn/brokn/TextPosition", "line", "()I"⟩ : MethodName) (head1 (Jvm.Cond.code (⟨"com/example/brokn/brokn/TextPosition", "line", "()I"⟩ : MethodName) prog_62_method_3_code 1 (some .int) :: ws) ({ frames := 0, cells := 0, slots := 0, locals := 0 } : Room)) (fun a U => a = #[(.ref a1)] ∧ Z.Warmed39 U.vm ∧ U.heap = h0) (fun _ _ _ _ _ => True) (fun _ U o U' => ∃ v L, o = .returned v ∧ Q5 Z z h0 n0 v U'.heap L ∧ FrameEnd U o U' L ({ frames := 0, cells := 0, slots := 0, locals := 0 } : Room).cells ({ frames := 0, cells := 0, slots := 0, locals := 0 } : Room).slots) := by
  refine MetFree.of_bodySF (plainFor_of_name pn_1) hisR ?_
  intro p e s m args below meth c s₁ Bd hml0 hP hK
  obtain ⟨rfl, hZ, hh⟩ := hP
  have hx := Bd.exec
  have hby := Bd.bytes
  have hml : c.maxLocals = 1 := hml0
  have hown : s.vm.findClass "com/example/brokn/brokn/TextPosition" = some m.cls := findClass_of_methodNamed Bd.named
  have hnm := (name_of_methodNamed Bd.named Bd.method).1
  have X0 : Stand p l e ({ frames := 0, cells := 0, slots := 0, locals := 0 } : Room) s m #[(.ref a1)] below meth c s₁ [] 0 0 := Stand.of_body Bd
  have e0 : s₁.heap = h0 := by rw [← hh, Bd.state]; rfl
  have N0 := Fr.nil n0
  refine own_go (B := s₁.setTop (mkF m 0 #[.val (.ref a1)] [])) (fun t kt => castTop (ef_5 m a1) kt) ?_
  refine own_go (B := s₁.setTop (mkF m 1 #[.val (.ref a1)] [(.ref a1)])) (fun t kt => ?_) ?_
  · show Steps p.tables e below (s₁.setTop (mkF m 0 #[.val (.ref a1)] [])) _
    refine XS.aloadN X0.here hx rfl (hb hby d5_0) rfl rfl ?_
    exact kt
  obtain ⟨T16, X16, e16, st16⟩ := getF X0 hx hZ hown (host := "") (Or.inl (hw _ (List.mem_of_getElem? (i := 15) rfl))) Via.refl e0 F (g := (mkF m 1 #[.val (.ref a1)] [(.ref a1)])) rfl rfl (hb hby d5_1)
  refine own_go (B := T16.setTop (mkF m 4 #[.val (.ref a1)] [(.int z)])) (fun t kt => st16 t kt) ?_
  obtain ⟨fs, hr, hrun, hended, hW, hsame⟩ := X16.leave (v := some (.int z)) (fun h => by rw [Bd.returns] at h; cases h)
  refine ⟨_, _, ?_, hrun, hended, _, _, rfl, ?_, ⟨_, rfl⟩, hW, hsame.mono (by decide) (by decide)⟩
  · show Steps p.tables e below (T16.setTop (mkF m 4 #[.val (.ref a1)] [(.int z)])) _
    exact retI X16 hx Bd.returns (hb hby d5_4) hr
  · show Q5 Z z h0 n0 _ T16.heap _
    rw [e16]
    exact ⟨rfl, N0, rfl⟩
theorem ef_10 (m : MethodId) (x0 : Addr) : entryFrame m #[(.ref x0)] 1 = mkF m 0 #[.val (.ref x0)] [] := by first | (simp [entryFrame, mkF, argsToLocals, Value.category]; done) | rfl
def Q10 (Z : State) (z : Int32) (h0 : Heap) (n0 : Nat) (v : Option Value) (h : Heap) (L : List Loc) : Prop := v = some (.int z) ∧ Fr n0 L ∧ h = h0
set_option maxRecDepth 65536 in
set_option maxHeartbeats 40000000 in
theorem rm10 (l : Launch) (Z : State) (a0 : Array Value) (hw : ∀ d ∈ tables_1, d.before a0 Z = true) (ws : List Jvm.Cond) (a1 : Addr) (z : Int32) (h0 : Heap) (n0 : Nat) (Z0 : n0 ≤ h0.size) (F : Fld Z h0 a1 "com/example/brokn/brokn/TextPosition" "column" "I" (.int z)) :
    MetFree l (⟨"com/example/brokn/brokn/TextPosition", "column", "()I"⟩ : MethodName) (head1 (Jvm.Cond.code (⟨"com/example/brokn/brokn/TextPosition", "column", "()I"⟩ : MethodName) prog_62_method_4_code 1 (some .int) :: ws) ({ frames := 0, cells := 0, slots := 0, locals := 0 } : Room)) (fun a U => a = #[(.ref a1)] ∧ Z.Warmed39 U.vm ∧ U.heap = h0) (fun _ _ _ _ _ => True) (fun _ U o U' => ∃ v L, o = .returned v ∧ Q10 Z z h0 n0 v U'.heap L ∧ FrameEnd U o U' L ({ frames := 0, cells := 0, slots := 0, locals := 0 } : Room).cells ({ frames := 0, cells := 0, slots := 0, locals := 0 } : Room).slots) := by
  refine MetFree.of_bodySF (plainFor_of_name pn_1) hisR ?_
  intro p e s m args below meth c s₁ Bd hml0 hP hK
  obtain ⟨rfl, hZ, hh⟩ := hP
  have hx := Bd.exec
  have hby := Bd.bytes
  have hml : c.maxLocals = 1 := hml0
  have hown : s.vm.findClass "com/example/brokn/brokn/TextPosition" = some m.cls := findClass_of_methodNamed Bd.named
  have hnm := (name_of_methodNamed Bd.named Bd.method).1
  have X0 : Stand p l e ({ frames := 0, cells := 0, slots := 0, locals := 0 } : Room) s m #[(.ref a1)] below meth c s₁ [] 0 0 := Stand.of_body Bd
  have e0 : s₁.heap = h0 := by rw [← hh, Bd.state]; rfl
  have N0 := Fr.nil n0
  refine own_go (B := s₁.setTop (mkF m 0 #[.val (.ref a1)] [])) (fun t kt => castTop (ef_10 m a1) kt) ?_
  refine own_go (B := s₁.setTop (mkF m 1 #[.val (.ref a1)] [(.ref a1)])) (fun t kt => ?_) ?_
  · show Steps p.tables e below (s₁.setTop (mkF m 0 #[.val (.ref a1)] [])) _
    refine XS.aloadN X0.here hx rfl (hb hby d10_0) rfl rfl ?_
    exact kt
  obtain ⟨T17, X17, e17, st17⟩ := getF X0 hx hZ hown (host := "") (Or.inl (hw _ (List.mem_of_getElem? (i := 22) rfl))) Via.refl e0 F (g := (mkF m 1 #[.val (.ref a1)] [(.ref a1)])) rfl rfl (hb hby d10_1)
  refine own_go (B := T17.setTop (mkF m 4 #[.val (.ref a1)] [(.int z)])) (fun t kt => st17 t kt) ?_
  obtain ⟨fs, hr, hrun, hended, hW, hsame⟩ := X17.leave (v := some (.int z)) (fun h => by rw [Bd.returns] at h; cases h)
  refine ⟨_, _, ?_, hrun, hended, _, _, rfl, ?_, ⟨_, rfl⟩, hW, hsame.mono (by decide) (by decide)⟩
  · show Steps p.tables e below (T17.setTop (mkF m 4 #[.val (.ref a1)] [(.int z)])) _
    exact retI X17 hx Bd.returns (hb hby d10_4) hr
  · show Q10 Z z h0 n0 _ T17.heap _
    rw [e17]
    exact ⟨rfl, N0, rfl⟩
theorem ef_2 (m : MethodId) (x0 : Addr) : entryFrame m #[(.ref x0)] 1 = mkF m 0 #[.val (.ref x0)] [] := by first | (simp [entryFrame, mkF, argsToLocals, Value.category]; done) | rfl
def Q2 (Z : State) (a1 : Addr) (h0 : Heap) (n0 : Nat) (v : Option Value) (h : Heap) (L : List Loc) : Prop := v = none ∧ Fr n0 L ∧ Keep h0 h [a1] ∧ Exa Z h a1 "com/example/brokn/brokn/TextPosition" ∧ Fld Z h a1 "com/example/brokn/brokn/TextPosition" "line" "I" (.int (1 : Int32)) ∧ Fld Z h a1 "com/example/brokn/brokn/TextPosition" "column" "I" (.int (0 : Int32)) ∧ Fld Z h a1 "com/example/brokn/brokn/TextPosition" "previous" "C" (.int (0 : Int32))
set_option maxRecDepth 65536 in
set_option maxHeartbeats 40000000 in
theorem rm2 (l : Launch) (Z : State) (a0 : Array Value) (hw : ∀ d ∈ tables_1, d.before a0 Z = true) (ws : List Jvm.Cond) (a1 : Addr)  (h0 : Heap) (n0 : Nat) (Z0 : n0 ≤ h0.size) (F_line : Fld Z h0 a1 "com/example/brokn/brokn/TextPosition" "line" "I" (.int (0 : Int32))) (F_column : Fld Z h0 a1 "com/example/brokn/brokn/TextPosition" "column" "I" (.int (0 : Int32))) (F_previous : Fld Z h0 a1 "com/example/brokn/brokn/TextPosition" "previous" "C" (.int (0 : Int32))) (E : Exa Z h0 a1 "com/example/brokn/brokn/TextPosition") (g : n0 ≤ a1) :
    MetFree l (⟨"com/example/brokn/brokn/TextPosition", "<init>", "()V"⟩ : MethodName) (head1 (Jvm.Cond.code (⟨"com/example/brokn/brokn/TextPosition", "<init>", "()V"⟩ : MethodName) prog_62_method_1_code 1 none :: ws) ({ frames := 1, cells := 0, slots := 0, locals := 12 } : Room)) (fun a U => a = #[(.ref a1)] ∧ Z.Warmed39 U.vm ∧ U.heap = h0) (fun _ _ _ _ _ => True) (fun _ U o U' => ∃ v L, o = .returned v ∧ Q2 Z a1 h0 n0 v U'.heap L ∧ FrameEnd U o U' L ({ frames := 1, cells := 0, slots := 0, locals := 12 } : Room).cells ({ frames := 1, cells := 0, slots := 0, locals := 12 } : Room).slots) := by
  refine MetFree.of_bodySF (plainFor_of_name pn_1) hisR ?_
  intro p e s m args below meth c s₁ Bd hml0 hP hK
  obtain ⟨rfl, hZ, hh⟩ := hP
  have hx := Bd.exec
  have hby := Bd.bytes
  have hml : c.maxLocals = 1 := hml0
  have hown : s.vm.findClass "com/example/brokn/brokn/TextPosition" = some m.cls := findClass_of_methodNamed Bd.named
  have hnm := (name_of_methodNamed Bd.named Bd.method).1
  have X0 : Stand p l e ({ frames := 1, cells := 0, slots := 0, locals := 12 } : Room) s m #[(.ref a1)] below meth c s₁ [] 0 0 := Stand.of_body Bd
  have e0 : s₁.heap = h0 := by rw [← hh, Bd.state]; rfl
  have N0 := Fr.nil n0
  refine own_go (B := s₁.setTop (mkF m 0 #[.val (.ref a1)] [])) (fun t kt => castTop (ef_2 m a1) kt) ?_
  refine own_go (B := s₁.setTop (mkF m 1 #[.val (.ref a1)] [(.ref a1)])) (fun t kt => ?_) ?_
  · show Steps p.tables e below (s₁.setTop (mkF m 0 #[.val (.ref a1)] [])) _
    refine XS.aloadN X0.here hx rfl (hb hby d2_0) rfl rfl ?_
    exact kt
  obtain ⟨T18, X18, e18, st18⟩ := initO X0 hx hZ hown (hw _ (List.mem_of_getElem? (i := 12) rfl)) (hw _ (List.mem_of_getElem? (i := 13) rfl)) (hw _ (List.mem_of_getElem? (i := 14) rfl)) e0 (g := (mkF m 1 #[.val (.ref a1)] [(.ref a1)])) rfl (by rw [hml]; rfl) rfl (hb hby d2_1) (by decide) (W := 0) (by show 2 * 0 + _ ≤ _; exact Nat.le_of_eq rfl) (by decide)
  refine own_go (B := T18.setTop (mkF m 4 #[.val (.ref a1)] [])) (fun t kt => st18 t kt) ?_
  refine own_go (B := T18.setTop (mkF m 6 #[.val (.ref a1)] [(.int (1 : Int32)), (.ref a1)])) (fun t kt => ?_) ?_
  · show Steps p.tables e below (T18.setTop (mkF m 4 #[.val (.ref a1)] [])) _
    refine XS.aloadN X18.here hx rfl (hb hby d2_4) rfl rfl ?_
    show Steps p.tables e below (T18.setTop (mkF m 5 #[.val (.ref a1)] [(.ref a1)])) _
    refine XS.iconst X18.here hx rfl (hb hby d2_5) ?_
    exact kt
  obtain ⟨T19, h19, X19, e19, W19, st19⟩ := putF X18 hx hZ hown (host := "") (Or.inl (hw _ (List.mem_of_getElem? (i := 15) rfl))) Via.refl e18 F_line E (Or.inl (hw _ (List.mem_of_getElem? (i := 16) rfl))) (hw _ (List.mem_of_getElem? (i := 7) rfl)) (ty := .int) (by decide) rfl rfl (g := (mkF m 6 #[.val (.ref a1)] [(.int (1 : Int32)), (.ref a1)])) rfl rfl (hb hby d2_6)
  have N19 := Fr.snoc X19 N0 g
  refine own_go (B := T19.setTop (mkF m 9 #[.val (.ref a1)] [])) (fun t kt => st19 t kt) ?_
  have K1 : Keep h0 h19 [a1] := (Keep.refl h0 [a1]).wr W19 (Or.inl (List.mem_of_getElem? (i := 0) rfl))
  obtain ⟨fs, hr, hrun, hended, hW, hsame⟩ := X19.leave (v := none) (fun _ => rfl)
  refine ⟨_, _, ?_, hrun, hended, _, _, rfl, ?_, ⟨_, rfl⟩, hW, hsame.mono (by decide) (by decide)⟩
  · show Steps p.tables e below (T19.setTop (mkF m 9 #[.val (.ref a1)] [])) _
    exact X19.returnOut hx Bd.returns (hb hby d2_9) hr
  · show Q2 Z a1 h0 n0 _ T19.heap _
    rw [e19]
    exact ⟨rfl, N19, K1, E.wr W19, F_line.same W19, (F_column.other W19 (Or.inr (slot_ne (Or.inl (hw _ (List.mem_of_getElem? (i := 23) rfl))) (Or.inl (hw _ (List.mem_of_getElem? (i := 16) rfl))) (by decide) (t := .int) (t' := .int) (by decide) (by decide)))), (F_previous.other W19 (Or.inr (slot_ne (Or.inl (hw _ (List.mem_of_getElem? (i := 25) rfl))) (Or.inl (hw _ (List.mem_of_getElem? (i := 16) rfl))) (by decide) (t := .char) (t' := .int) (by decide) (by decide))))⟩
set_option maxRecDepth 65536 in
set_option maxHeartbeats 40000000 in
theorem tnA {p : Program} {l : Launch} {e : Env} {R : Room} {s : State} {m : MethodId} {args : Array Value} {below : List Frame} {meth : Method} {c : Code} {T0 : State} {locs : List Loc} {cells slots : Nat} {Z : State} {a0 : Array Value} {h0 : Heap} (o0 o1 : Addr) (i2 i3 i4 i5 i6 i7 w : Int32) (s8 : Slot) (cl : Cell)
    (X0 : Stand p l e R s m args below meth c T0 locs cells slots) (hx : p.tables.exec = Jvm.exec) (hZ : Z.Warmed39 s.vm) (hw : ∀ d ∈ tables_1, d.before a0 Z = true) (hby : c.code = prog_62_method_2_code) (hml : c.maxLocals = 9) (hown : s.vm.findClass "com/example/brokn/brokn/TextPosition" = some m.cls) (e0 : T0.heap = h0) (Ar : Arr Z h0 o1 cl .char) (hc : i7 < i3) (hin : ¬ (i7 < 0 ∨ cl.slots.size ≤ (i7).toNatClampNeg)) (hat : cl.slots[(i7).toNatClampNeg]? = some (.int w)) (hs8 : One s8) (t : State)
    (kt : Steps p.tables e below (T0.setTop (mkF m 21 #[.val (.ref o0), .val (.ref o1), .val (.int i2), .val (.int i3), .val (.int (own_ln i4 (decide (i6 = (13 : Int32))) (decide (w = (13 : Int32))) (decide (w = (10 : Int32))))), .val (.int (own_cl i5 (decide (i6 = (13 : Int32))) (decide (w = (13 : Int32))) (decide (w = (10 : Int32))))), .val (.int w), .val (.int (i7 + (1 : Int32))), .val (.int w)] [])) t) : Steps p.tables e below (T0.setTop (mkF m 21 #[.val (.ref o0), .val (.ref o1), .val (.int i2), .val (.int i3), .val (.int i4), .val (.int i5), .val (.int i6), .val (.int i7), s8] [])) t := by
  show Steps p.tables e below (T0.setTop (mkF m 21 #[.val (.ref o0), .val (.ref o1), .val (.int i2), .val (.int i3), .val (.int i4), .val (.int i5), .val (.int i6), .val (.int i7), s8] [])) _
  refine XS.iload X0.here hx rfl (hb hby d4_21) rfl ?_
  show Steps p.tables e below (T0.setTop (mkF m 23 #[.val (.ref o0), .val (.ref o1), .val (.int i2), .val (.int i3), .val (.int i4), .val (.int i5), .val (.int i6), .val (.int i7), s8] [(.int i7)])) _
  refine XS.iloadN X0.here hx rfl (hb hby d4_23) rfl ?_
  show Steps p.tables e below (T0.setTop (mkF m 24 #[.val (.ref o0), .val (.ref o1), .val (.int i2), .val (.int i3), .val (.int i4), .val (.int i5), .val (.int i6), .val (.int i7), s8] [(.int i3), (.int i7)])) _
  refine XS.icmpNo X0.here hx rfl (hb hby d4_24) rfl (tlt hc).2.1 ?_
  show Steps p.tables e below (T0.setTop (mkF m 27 #[.val (.ref o0), .val (.ref o1), .val (.int i2), .val (.int i3), .val (.int i4), .val (.int i5), .val (.int i6), .val (.int i7), s8] [])) _
  refine XS.aloadN X0.here hx rfl (hb hby d4_27) rfl rfl ?_
  show Steps p.tables e below (T0.setTop (mkF m 28 #[.val (.ref o0), .val (.ref o1), .val (.int i2), .val (.int i3), .val (.int i4), .val (.int i5), .val (.int i6), .val (.int i7), s8] [(.ref o1)])) _
  refine XS.iload X0.here hx rfl (hb hby d4_28) rfl ?_
  show Steps p.tables e below (T0.setTop (mkF m 30 #[.val (.ref o0), .val (.ref o1), .val (.int i2), .val (.int i3), .val (.int i4), .val (.int i5), .val (.int i6), .val (.int i7), s8] [(.int i7), (.ref o1)])) _
  refine X0.caload hx (j := i7) (v := (.int w)) (by rw [e0]; exact Ar.1) (State.isArrayOf_alike hZ.alike Ar.2.1) Ar.2.2 hin hat (g := (mkF m 30 #[.val (.ref o0), .val (.ref o1), .val (.int i2), .val (.int i3), .val (.int i4), .val (.int i5), .val (.int i6), .val (.int i7), s8] [(.int i7), (.ref o1)])) rfl rfl (hb hby d4_30) _ ?_
  show Steps p.tables e below (T0.setTop (mkF m 31 #[.val (.ref o0), .val (.ref o1), .val (.int i2), .val (.int i3), .val (.int i4), .val (.int i5), .val (.int i6), .val (.int i7), s8] [(.int w)])) _
  refine XS.istore X0.here hx rfl (hb hby d4_31) rfl (l' := #[.val (.ref o0), .val (.ref o1), .val (.int i2), .val (.int i3), .val (.int i4), .val (.int i5), .val (.int i6), .val (.int i7), .val (.int w)]) (os4_31 hs8) ?_
  show Steps p.tables e below (T0.setTop (mkF m 33 #[.val (.ref o0), .val (.ref o1), .val (.int i2), .val (.int i3), .val (.int i4), .val (.int i5), .val (.int i6), .val (.int i7), .val (.int w)] [])) _
  refine XS.iload X0.here hx rfl (hb hby d4_33) rfl ?_
  show Steps p.tables e below (T0.setTop (mkF m 35 #[.val (.ref o0), .val (.ref o1), .val (.int i2), .val (.int i3), .val (.int i4), .val (.int i5), .val (.int i6), .val (.int i7), .val (.int w)] [(.int w)])) _
  refine XS.bipush X0.here hx rfl (hb hby d4_35) ?_
  show Steps p.tables e below (T0.setTop (mkF m 37 #[.val (.ref o0), .val (.ref o1), .val (.int i2), .val (.int i3), .val (.int i4), .val (.int i5), .val (.int i6), .val (.int i7), .val (.int w)] [(.int (13 : Int32)), (.int w)])) _
  by_cases hc37 : (13 : Int32) < w
  · refine XS.icmpNo X0.here hx rfl (hb hby d4_37) rfl (tlt hc37).2.2.2 ?_
    show Steps p.tables e below (T0.setTop (mkF m 40 #[.val (.ref o0), .val (.ref o1), .val (.int i2), .val (.int i3), .val (.int i4), .val (.int i5), .val (.int i6), .val (.int i7), .val (.int w)] [])) _
    refine XS.iinc X0.here hx rfl (hb hby d4_40) rfl (l' := #[.val (.ref o0), .val (.ref o1), .val (.int i2), .val (.int i3), .val (.int i4), .val (.int (i5 + (1 : Int32))), .val (.int i6), .val (.int i7), .val (.int w)]) rfl ?_
    show Steps p.tables e below (T0.setTop (mkF m 43 #[.val (.ref o0), .val (.ref o1), .val (.int i2), .val (.int i3), .val (.int i4), .val (.int (i5 + (1 : Int32))), .val (.int i6), .val (.int i7), .val (.int w)] [])) _
    refine XS.goto X0.here hx rfl (pc0 := 43) (pc' := 86) rfl (hb hby d4_43) (by decide) (by decide) ?_
    show Steps p.tables e below (T0.setTop (mkF m 86 #[.val (.ref o0), .val (.ref o1), .val (.int i2), .val (.int i3), .val (.int i4), .val (.int (i5 + (1 : Int32))), .val (.int i6), .val (.int i7), .val (.int w)] [])) _
    refine XS.iload X0.here hx rfl (hb hby d4_86) rfl ?_
    show Steps p.tables e below (T0.setTop (mkF m 88 #[.val (.ref o0), .val (.ref o1), .val (.int i2), .val (.int i3), .val (.int i4), .val (.int (i5 + (1 : Int32))), .val (.int i6), .val (.int i7), .val (.int w)] [(.int w)])) _
    refine XS.istore X0.here hx rfl (hb hby d4_88) rfl (l' := #[.val (.ref o0), .val (.ref o1), .val (.int i2), .val (.int i3), .val (.int i4), .val (.int (i5 + (1 : Int32))), .val (.int w), .val (.int i7), .val (.int w)]) rfl ?_
    show Steps p.tables e below (T0.setTop (mkF m 90 #[.val (.ref o0), .val (.ref o1), .val (.int i2), .val (.int i3), .val (.int i4), .val (.int (i5 + (1 : Int32))), .val (.int w), .val (.int i7), .val (.int w)] [])) _
    refine XS.iinc X0.here hx rfl (hb hby d4_90) rfl (l' := #[.val (.ref o0), .val (.ref o1), .val (.int i2), .val (.int i3), .val (.int i4), .val (.int (i5 + (1 : Int32))), .val (.int w), .val (.int (i7 + (1 : Int32))), .val (.int w)]) rfl ?_
    show Steps p.tables e below (T0.setTop (mkF m 93 #[.val (.ref o0), .val (.ref o1), .val (.int i2), .val (.int i3), .val (.int i4), .val (.int (i5 + (1 : Int32))), .val (.int w), .val (.int (i7 + (1 : Int32))), .val (.int w)] [])) _
    refine XS.goto X0.here hx rfl (pc0 := 93) (pc' := 21) rfl (hb hby d4_93) (by decide) (by decide) ?_
    exact (castTop (congrArg (fun z__ => ((mkF m 21 #[.val (.ref o0), .val (.ref o1), .val (.int i2), .val (.int i3), .val (.int i4), .val (.int z__), .val (.int w), .val (.int (i7 + (1 : Int32))), .val (.int w)] []) : JFrame)) (show (own_cl i5 (decide (i6 = (13 : Int32))) (decide (w = (13 : Int32))) (decide (w = (10 : Int32)))) = (i5 + (1 : Int32)) from by simp [own_ln, own_cl, hc37, own_gt13 hc37, own_gt10 hc37]).symm) (castTop (congrArg (fun z__ => ((mkF m 21 #[.val (.ref o0), .val (.ref o1), .val (.int i2), .val (.int i3), .val (.int z__), .val (.int (own_cl i5 (decide (i6 = (13 : Int32))) (decide (w = (13 : Int32))) (decide (w = (10 : Int32))))), .val (.int w), .val (.int (i7 + (1 : Int32))), .val (.int w)] []) : JFrame)) (show (own_ln i4 (decide (i6 = (13 : Int32))) (decide (w = (13 : Int32))) (decide (w = (10 : Int32)))) = i4 from by simp [own_ln, own_cl, hc37, own_gt13 hc37, own_gt10 hc37]).symm) kt))
  · refine XS.icmpYes X0.here hx rfl (pc0 := 37) (pc' := 46) rfl (hb hby d4_37) rfl (flt hc37).2.2.2 (by decide) (by decide) ?_
    show Steps p.tables e below (T0.setTop (mkF m 46 #[.val (.ref o0), .val (.ref o1), .val (.int i2), .val (.int i3), .val (.int i4), .val (.int i5), .val (.int i6), .val (.int i7), .val (.int w)] [])) _
    refine XS.iload X0.here hx rfl (hb hby d4_46) rfl ?_
    show Steps p.tables e below (T0.setTop (mkF m 48 #[.val (.ref o0), .val (.ref o1), .val (.int i2), .val (.int i3), .val (.int i4), .val (.int i5), .val (.int i6), .val (.int i7), .val (.int w)] [(.int w)])) _
    refine XS.bipush X0.here hx rfl (hb hby d4_48) ?_
    show Steps p.tables e below (T0.setTop (mkF m 50 #[.val (.ref o0), .val (.ref o1), .val (.int i2), .val (.int i3), .val (.int i4), .val (.int i5), .val (.int i6), .val (.int i7), .val (.int w)] [(.int (13 : Int32)), (.int w)])) _
    by_cases hc50 : w = (13 : Int32)
    · refine XS.icmpYes X0.here hx rfl (pc0 := 50) (pc' := 67) rfl (hb hby d4_50) rfl (teq hc50).1 (by decide) (by decide) ?_
      show Steps p.tables e below (T0.setTop (mkF m 67 #[.val (.ref o0), .val (.ref o1), .val (.int i2), .val (.int i3), .val (.int i4), .val (.int i5), .val (.int i6), .val (.int i7), .val (.int w)] [])) _
      refine XS.iinc X0.here hx rfl (hb hby d4_67) rfl (l' := #[.val (.ref o0), .val (.ref o1), .val (.int i2), .val (.int i3), .val (.int (i4 + (1 : Int32))), .val (.int i5), .val (.int i6), .val (.int i7), .val (.int w)]) rfl ?_
      show Steps p.tables e below (T0.setTop (mkF m 70 #[.val (.ref o0), .val (.ref o1), .val (.int i2), .val (.int i3), .val (.int (i4 + (1 : Int32))), .val (.int i5), .val (.int i6), .val (.int i7), .val (.int w)] [])) _
      refine XS.iconst X0.here hx rfl (hb hby d4_70) ?_
      show Steps p.tables e below (T0.setTop (mkF m 71 #[.val (.ref o0), .val (.ref o1), .val (.int i2), .val (.int i3), .val (.int (i4 + (1 : Int32))), .val (.int i5), .val (.int i6), .val (.int i7), .val (.int w)] [(.int (0 : Int32))])) _
      refine XS.istore X0.here hx rfl (hb hby d4_71) rfl (l' := #[.val (.ref o0), .val (.ref o1), .val (.int i2), .val (.int i3), .val (.int (i4 + (1 : Int32))), .val (.int (0 : Int32)), .val (.int i6), .val (.int i7), .val (.int w)]) rfl ?_
      show Steps p.tables e below (T0.setTop (mkF m 73 #[.val (.ref o0), .val (.ref o1), .val (.int i2), .val (.int i3), .val (.int (i4 + (1 : Int32))), .val (.int (0 : Int32)), .val (.int i6), .val (.int i7), .val (.int w)] [])) _
      refine XS.goto X0.here hx rfl (pc0 := 73) (pc' := 86) rfl (hb hby d4_73) (by decide) (by decide) ?_
      show Steps p.tables e below (T0.setTop (mkF m 86 #[.val (.ref o0), .val (.ref o1), .val (.int i2), .val (.int i3), .val (.int (i4 + (1 : Int32))), .val (.int (0 : Int32)), .val (.int i6), .val (.int i7), .val (.int w)] [])) _
      refine XS.iload X0.here hx rfl (hb hby d4_86) rfl ?_
      show Steps p.tables e below (T0.setTop (mkF m 88 #[.val (.ref o0), .val (.ref o1), .val (.int i2), .val (.int i3), .val (.int (i4 + (1 : Int32))), .val (.int (0 : Int32)), .val (.int i6), .val (.int i7), .val (.int w)] [(.int w)])) _
      refine XS.istore X0.here hx rfl (hb hby d4_88) rfl (l' := #[.val (.ref o0), .val (.ref o1), .val (.int i2), .val (.int i3), .val (.int (i4 + (1 : Int32))), .val (.int (0 : Int32)), .val (.int w), .val (.int i7), .val (.int w)]) rfl ?_
      show Steps p.tables e below (T0.setTop (mkF m 90 #[.val (.ref o0), .val (.ref o1), .val (.int i2), .val (.int i3), .val (.int (i4 + (1 : Int32))), .val (.int (0 : Int32)), .val (.int w), .val (.int i7), .val (.int w)] [])) _
      refine XS.iinc X0.here hx rfl (hb hby d4_90) rfl (l' := #[.val (.ref o0), .val (.ref o1), .val (.int i2), .val (.int i3), .val (.int (i4 + (1 : Int32))), .val (.int (0 : Int32)), .val (.int w), .val (.int (i7 + (1 : Int32))), .val (.int w)]) rfl ?_
      show Steps p.tables e below (T0.setTop (mkF m 93 #[.val (.ref o0), .val (.ref o1), .val (.int i2), .val (.int i3), .val (.int (i4 + (1 : Int32))), .val (.int (0 : Int32)), .val (.int w), .val (.int (i7 + (1 : Int32))), .val (.int w)] [])) _
      refine XS.goto X0.here hx rfl (pc0 := 93) (pc' := 21) rfl (hb hby d4_93) (by decide) (by decide) ?_
      exact (castTop (congrArg (fun z__ => ((mkF m 21 #[.val (.ref o0), .val (.ref o1), .val (.int i2), .val (.int i3), .val (.int (i4 + (1 : Int32))), .val (.int z__), .val (.int w), .val (.int (i7 + (1 : Int32))), .val (.int w)] []) : JFrame)) (show (own_cl i5 (decide (i6 = (13 : Int32))) (decide (w = (13 : Int32))) (decide (w = (10 : Int32)))) = (0 : Int32) from by simp [own_ln, own_cl, hc37, hc50]).symm) (castTop (congrArg (fun z__ => ((mkF m 21 #[.val (.ref o0), .val (.ref o1), .val (.int i2), .val (.int i3), .val (.int z__), .val (.int (own_cl i5 (decide (i6 = (13 : Int32))) (decide (w = (13 : Int32))) (decide (w = (10 : Int32))))), .val (.int w), .val (.int (i7 + (1 : Int32))), .val (.int w)] []) : JFrame)) (show (own_ln i4 (decide (i6 = (13 : Int32))) (decide (w = (13 : Int32))) (decide (w = (10 : Int32)))) = (i4 + (1 : Int32)) from by simp [own_ln, own_cl, hc37, hc50]).symm) kt))
    · refine XS.icmpNo X0.here hx rfl (hb hby d4_50) rfl (feq hc50).1 ?_
      show Steps p.tables e below (T0.setTop (mkF m 53 #[.val (.ref o0), .val (.ref o1), .val (.int i2), .val (.int i3), .val (.int i4), .val (.int i5), .val (.int i6), .val (.int i7), .val (.int w)] [])) _
      refine XS.iload X0.here hx rfl (hb hby d4_53) rfl ?_
      show Steps p.tables e below (T0.setTop (mkF m 55 #[.val (.ref o0), .val (.ref o1), .val (.int i2), .val (.int i3), .val (.int i4), .val (.int i5), .val (.int i6), .val (.int i7), .val (.int w)] [(.int w)])) _
      refine XS.bipush X0.here hx rfl (hb hby d4_55) ?_
      show Steps p.tables e below (T0.setTop (mkF m 57 #[.val (.ref o0), .val (.ref o1), .val (.int i2), .val (.int i3), .val (.int i4), .val (.int i5), .val (.int i6), .val (.int i7), .val (.int w)] [(.int (10 : Int32)), (.int w)])) _
      by_cases hc57 : w = (10 : Int32)
      · refine XS.icmpNo X0.here hx rfl (hb hby d4_57) rfl (teq hc57).2 ?_
        show Steps p.tables e below (T0.setTop (mkF m 60 #[.val (.ref o0), .val (.ref o1), .val (.int i2), .val (.int i3), .val (.int i4), .val (.int i5), .val (.int i6), .val (.int i7), .val (.int w)] [])) _
        refine XS.iload X0.here hx rfl (hb hby d4_60) rfl ?_
        show Steps p.tables e below (T0.setTop (mkF m 62 #[.val (.ref o0), .val (.ref o1), .val (.int i2), .val (.int i3), .val (.int i4), .val (.int i5), .val (.int i6), .val (.int i7), .val (.int w)] [(.int i6)])) _
        refine XS.bipush X0.here hx rfl (hb hby d4_62) ?_
        show Steps p.tables e below (T0.setTop (mkF m 64 #[.val (.ref o0), .val (.ref o1), .val (.int i2), .val (.int i3), .val (.int i4), .val (.int i5), .val (.int i6), .val (.int i7), .val (.int w)] [(.int (13 : Int32)), (.int i6)])) _
        by_cases hc64 : i6 = (13 : Int32)
        · refine XS.icmpYes X0.here hx rfl (pc0 := 64) (pc' := 76) rfl (hb hby d4_64) rfl (teq hc64).1 (by decide) (by decide) ?_
          show Steps p.tables e below (T0.setTop (mkF m 76 #[.val (.ref o0), .val (.ref o1), .val (.int i2), .val (.int i3), .val (.int i4), .val (.int i5), .val (.int i6), .val (.int i7), .val (.int w)] [])) _
          refine XS.iload X0.here hx rfl (hb hby d4_76) rfl ?_
          show Steps p.tables e below (T0.setTop (mkF m 78 #[.val (.ref o0), .val (.ref o1), .val (.int i2), .val (.int i3), .val (.int i4), .val (.int i5), .val (.int i6), .val (.int i7), .val (.int w)] [(.int w)])) _
          refine XS.bipush X0.here hx rfl (hb hby d4_78) ?_
          show Steps p.tables e below (T0.setTop (mkF m 80 #[.val (.ref o0), .val (.ref o1), .val (.int i2), .val (.int i3), .val (.int i4), .val (.int i5), .val (.int i6), .val (.int i7), .val (.int w)] [(.int (10 : Int32)), (.int w)])) _
          by_cases hc80 : w = (10 : Int32)
          · refine XS.icmpYes X0.here hx rfl (pc0 := 80) (pc' := 86) rfl (hb hby d4_80) rfl (teq hc80).1 (by decide) (by decide) ?_
            show Steps p.tables e below (T0.setTop (mkF m 86 #[.val (.ref o0), .val (.ref o1), .val (.int i2), .val (.int i3), .val (.int i4), .val (.int i5), .val (.int i6), .val (.int i7), .val (.int w)] [])) _
            refine XS.iload X0.here hx rfl (hb hby d4_86) rfl ?_
            show Steps p.tables e below (T0.setTop (mkF m 88 #[.val (.ref o0), .val (.ref o1), .val (.int i2), .val (.int i3), .val (.int i4), .val (.int i5), .val (.int i6), .val (.int i7), .val (.int w)] [(.int w)])) _
            refine XS.istore X0.here hx rfl (hb hby d4_88) rfl (l' := #[.val (.ref o0), .val (.ref o1), .val (.int i2), .val (.int i3), .val (.int i4), .val (.int i5), .val (.int w), .val (.int i7), .val (.int w)]) rfl ?_
            show Steps p.tables e below (T0.setTop (mkF m 90 #[.val (.ref o0), .val (.ref o1), .val (.int i2), .val (.int i3), .val (.int i4), .val (.int i5), .val (.int w), .val (.int i7), .val (.int w)] [])) _
            refine XS.iinc X0.here hx rfl (hb hby d4_90) rfl (l' := #[.val (.ref o0), .val (.ref o1), .val (.int i2), .val (.int i3), .val (.int i4), .val (.int i5), .val (.int w), .val (.int (i7 + (1 : Int32))), .val (.int w)]) rfl ?_
            show Steps p.tables e below (T0.setTop (mkF m 93 #[.val (.ref o0), .val (.ref o1), .val (.int i2), .val (.int i3), .val (.int i4), .val (.int i5), .val (.int w), .val (.int (i7 + (1 : Int32))), .val (.int w)] [])) _
            refine XS.goto X0.here hx rfl (pc0 := 93) (pc' := 21) rfl (hb hby d4_93) (by decide) (by decide) ?_
            exact (castTop (congrArg (fun z__ => ((mkF m 21 #[.val (.ref o0), .val (.ref o1), .val (.int i2), .val (.int i3), .val (.int i4), .val (.int z__), .val (.int w), .val (.int (i7 + (1 : Int32))), .val (.int w)] []) : JFrame)) (show (own_cl i5 (decide (i6 = (13 : Int32))) (decide (w = (13 : Int32))) (decide (w = (10 : Int32)))) = i5 from by simp [own_ln, own_cl, hc37, hc50, hc57, hc64, hc80]).symm) (castTop (congrArg (fun z__ => ((mkF m 21 #[.val (.ref o0), .val (.ref o1), .val (.int i2), .val (.int i3), .val (.int z__), .val (.int (own_cl i5 (decide (i6 = (13 : Int32))) (decide (w = (13 : Int32))) (decide (w = (10 : Int32))))), .val (.int w), .val (.int (i7 + (1 : Int32))), .val (.int w)] []) : JFrame)) (show (own_ln i4 (decide (i6 = (13 : Int32))) (decide (w = (13 : Int32))) (decide (w = (10 : Int32)))) = i4 from by simp [own_ln, own_cl, hc37, hc50, hc57, hc64, hc80]).symm) kt))
          · refine XS.icmpNo X0.here hx rfl (hb hby d4_80) rfl (feq hc80).1 ?_
            show Steps p.tables e below (T0.setTop (mkF m 83 #[.val (.ref o0), .val (.ref o1), .val (.int i2), .val (.int i3), .val (.int i4), .val (.int i5), .val (.int i6), .val (.int i7), .val (.int w)] [])) _
            refine XS.iinc X0.here hx rfl (hb hby d4_83) rfl (l' := #[.val (.ref o0), .val (.ref o1), .val (.int i2), .val (.int i3), .val (.int i4), .val (.int (i5 + (1 : Int32))), .val (.int i6), .val (.int i7), .val (.int w)]) rfl ?_
            show Steps p.tables e below (T0.setTop (mkF m 86 #[.val (.ref o0), .val (.ref o1), .val (.int i2), .val (.int i3), .val (.int i4), .val (.int (i5 + (1 : Int32))), .val (.int i6), .val (.int i7), .val (.int w)] [])) _
            refine XS.iload X0.here hx rfl (hb hby d4_86) rfl ?_
            show Steps p.tables e below (T0.setTop (mkF m 88 #[.val (.ref o0), .val (.ref o1), .val (.int i2), .val (.int i3), .val (.int i4), .val (.int (i5 + (1 : Int32))), .val (.int i6), .val (.int i7), .val (.int w)] [(.int w)])) _
            refine XS.istore X0.here hx rfl (hb hby d4_88) rfl (l' := #[.val (.ref o0), .val (.ref o1), .val (.int i2), .val (.int i3), .val (.int i4), .val (.int (i5 + (1 : Int32))), .val (.int w), .val (.int i7), .val (.int w)]) rfl ?_
            show Steps p.tables e below (T0.setTop (mkF m 90 #[.val (.ref o0), .val (.ref o1), .val (.int i2), .val (.int i3), .val (.int i4), .val (.int (i5 + (1 : Int32))), .val (.int w), .val (.int i7), .val (.int w)] [])) _
            refine XS.iinc X0.here hx rfl (hb hby d4_90) rfl (l' := #[.val (.ref o0), .val (.ref o1), .val (.int i2), .val (.int i3), .val (.int i4), .val (.int (i5 + (1 : Int32))), .val (.int w), .val (.int (i7 + (1 : Int32))), .val (.int w)]) rfl ?_
            show Steps p.tables e below (T0.setTop (mkF m 93 #[.val (.ref o0), .val (.ref o1), .val (.int i2), .val (.int i3), .val (.int i4), .val (.int (i5 + (1 : Int32))), .val (.int w), .val (.int (i7 + (1 : Int32))), .val (.int w)] [])) _
            refine XS.goto X0.here hx rfl (pc0 := 93) (pc' := 21) rfl (hb hby d4_93) (by decide) (by decide) ?_
            exact (castTop (congrArg (fun z__ => ((mkF m 21 #[.val (.ref o0), .val (.ref o1), .val (.int i2), .val (.int i3), .val (.int i4), .val (.int z__), .val (.int w), .val (.int (i7 + (1 : Int32))), .val (.int w)] []) : JFrame)) (show (own_cl i5 (decide (i6 = (13 : Int32))) (decide (w = (13 : Int32))) (decide (w = (10 : Int32)))) = (i5 + (1 : Int32)) from by exact absurd hc57 hc80).symm) (castTop (congrArg (fun z__ => ((mkF m 21 #[.val (.ref o0), .val (.ref o1), .val (.int i2), .val (.int i3), .val (.int z__), .val (.int (own_cl i5 (decide (i6 = (13 : Int32))) (decide (w = (13 : Int32))) (decide (w = (10 : Int32))))), .val (.int w), .val (.int (i7 + (1 : Int32))), .val (.int w)] []) : JFrame)) (show (own_ln i4 (decide (i6 = (13 : Int32))) (decide (w = (13 : Int32))) (decide (w = (10 : Int32)))) = i4 from by exact absurd hc57 hc80).symm) kt))
        · refine XS.icmpNo X0.here hx rfl (hb hby d4_64) rfl (feq hc64).1 ?_
          show Steps p.tables e below (T0.setTop (mkF m 67 #[.val (.ref o0), .val (.ref o1), .val (.int i2), .val (.int i3), .val (.int i4), .val (.int i5), .val (.int i6), .val (.int i7), .val (.int w)] [])) _
          refine XS.iinc X0.here hx rfl (hb hby d4_67) rfl (l' := #[.val (.ref o0), .val (.ref o1), .val (.int i2), .val (.int i3), .val (.int (i4 + (1 : Int32))), .val (.int i5), .val (.int i6), .val (.int i7), .val (.int w)]) rfl ?_
          show Steps p.tables e below (T0.setTop (mkF m 70 #[.val (.ref o0), .val (.ref o1), .val (.int i2), .val (.int i3), .val (.int (i4 + (1 : Int32))), .val (.int i5), .val (.int i6), .val (.int i7), .val (.int w)] [])) _
          refine XS.iconst X0.here hx rfl (hb hby d4_70) ?_
          show Steps p.tables e below (T0.setTop (mkF m 71 #[.val (.ref o0), .val (.ref o1), .val (.int i2), .val (.int i3), .val (.int (i4 + (1 : Int32))), .val (.int i5), .val (.int i6), .val (.int i7), .val (.int w)] [(.int (0 : Int32))])) _
          refine XS.istore X0.here hx rfl (hb hby d4_71) rfl (l' := #[.val (.ref o0), .val (.ref o1), .val (.int i2), .val (.int i3), .val (.int (i4 + (1 : Int32))), .val (.int (0 : Int32)), .val (.int i6), .val (.int i7), .val (.int w)]) rfl ?_
          show Steps p.tables e below (T0.setTop (mkF m 73 #[.val (.ref o0), .val (.ref o1), .val (.int i2), .val (.int i3), .val (.int (i4 + (1 : Int32))), .val (.int (0 : Int32)), .val (.int i6), .val (.int i7), .val (.int w)] [])) _
          refine XS.goto X0.here hx rfl (pc0 := 73) (pc' := 86) rfl (hb hby d4_73) (by decide) (by decide) ?_
          show Steps p.tables e below (T0.setTop (mkF m 86 #[.val (.ref o0), .val (.ref o1), .val (.int i2), .val (.int i3), .val (.int (i4 + (1 : Int32))), .val (.int (0 : Int32)), .val (.int i6), .val (.int i7), .val (.int w)] [])) _
          refine XS.iload X0.here hx rfl (hb hby d4_86) rfl ?_
          show Steps p.tables e below (T0.setTop (mkF m 88 #[.val (.ref o0), .val (.ref o1), .val (.int i2), .val (.int i3), .val (.int (i4 + (1 : Int32))), .val (.int (0 : Int32)), .val (.int i6), .val (.int i7), .val (.int w)] [(.int w)])) _
          refine XS.istore X0.here hx rfl (hb hby d4_88) rfl (l' := #[.val (.ref o0), .val (.ref o1), .val (.int i2), .val (.int i3), .val (.int (i4 + (1 : Int32))), .val (.int (0 : Int32)), .val (.int w), .val (.int i7), .val (.int w)]) rfl ?_
          show Steps p.tables e below (T0.setTop (mkF m 90 #[.val (.ref o0), .val (.ref o1), .val (.int i2), .val (.int i3), .val (.int (i4 + (1 : Int32))), .val (.int (0 : Int32)), .val (.int w), .val (.int i7), .val (.int w)] [])) _
          refine XS.iinc X0.here hx rfl (hb hby d4_90) rfl (l' := #[.val (.ref o0), .val (.ref o1), .val (.int i2), .val (.int i3), .val (.int (i4 + (1 : Int32))), .val (.int (0 : Int32)), .val (.int w), .val (.int (i7 + (1 : Int32))), .val (.int w)]) rfl ?_
          show Steps p.tables e below (T0.setTop (mkF m 93 #[.val (.ref o0), .val (.ref o1), .val (.int i2), .val (.int i3), .val (.int (i4 + (1 : Int32))), .val (.int (0 : Int32)), .val (.int w), .val (.int (i7 + (1 : Int32))), .val (.int w)] [])) _
          refine XS.goto X0.here hx rfl (pc0 := 93) (pc' := 21) rfl (hb hby d4_93) (by decide) (by decide) ?_
          exact (castTop (congrArg (fun z__ => ((mkF m 21 #[.val (.ref o0), .val (.ref o1), .val (.int i2), .val (.int i3), .val (.int (i4 + (1 : Int32))), .val (.int z__), .val (.int w), .val (.int (i7 + (1 : Int32))), .val (.int w)] []) : JFrame)) (show (own_cl i5 (decide (i6 = (13 : Int32))) (decide (w = (13 : Int32))) (decide (w = (10 : Int32)))) = (0 : Int32) from by simp [own_ln, own_cl, hc37, hc50, hc57, hc64]).symm) (castTop (congrArg (fun z__ => ((mkF m 21 #[.val (.ref o0), .val (.ref o1), .val (.int i2), .val (.int i3), .val (.int z__), .val (.int (own_cl i5 (decide (i6 = (13 : Int32))) (decide (w = (13 : Int32))) (decide (w = (10 : Int32))))), .val (.int w), .val (.int (i7 + (1 : Int32))), .val (.int w)] []) : JFrame)) (show (own_ln i4 (decide (i6 = (13 : Int32))) (decide (w = (13 : Int32))) (decide (w = (10 : Int32)))) = (i4 + (1 : Int32)) from by simp [own_ln, own_cl, hc37, hc50, hc57, hc64]).symm) kt))
      · refine XS.icmpYes X0.here hx rfl (pc0 := 57) (pc' := 76) rfl (hb hby d4_57) rfl (feq hc57).2 (by decide) (by decide) ?_
        show Steps p.tables e below (T0.setTop (mkF m 76 #[.val (.ref o0), .val (.ref o1), .val (.int i2), .val (.int i3), .val (.int i4), .val (.int i5), .val (.int i6), .val (.int i7), .val (.int w)] [])) _
        refine XS.iload X0.here hx rfl (hb hby d4_76) rfl ?_
        show Steps p.tables e below (T0.setTop (mkF m 78 #[.val (.ref o0), .val (.ref o1), .val (.int i2), .val (.int i3), .val (.int i4), .val (.int i5), .val (.int i6), .val (.int i7), .val (.int w)] [(.int w)])) _
        refine XS.bipush X0.here hx rfl (hb hby d4_78) ?_
        show Steps p.tables e below (T0.setTop (mkF m 80 #[.val (.ref o0), .val (.ref o1), .val (.int i2), .val (.int i3), .val (.int i4), .val (.int i5), .val (.int i6), .val (.int i7), .val (.int w)] [(.int (10 : Int32)), (.int w)])) _
        by_cases hc80 : w = (10 : Int32)
        · refine XS.icmpYes X0.here hx rfl (pc0 := 80) (pc' := 86) rfl (hb hby d4_80) rfl (teq hc80).1 (by decide) (by decide) ?_
          show Steps p.tables e below (T0.setTop (mkF m 86 #[.val (.ref o0), .val (.ref o1), .val (.int i2), .val (.int i3), .val (.int i4), .val (.int i5), .val (.int i6), .val (.int i7), .val (.int w)] [])) _
          refine XS.iload X0.here hx rfl (hb hby d4_86) rfl ?_
          show Steps p.tables e below (T0.setTop (mkF m 88 #[.val (.ref o0), .val (.ref o1), .val (.int i2), .val (.int i3), .val (.int i4), .val (.int i5), .val (.int i6), .val (.int i7), .val (.int w)] [(.int w)])) _
          refine XS.istore X0.here hx rfl (hb hby d4_88) rfl (l' := #[.val (.ref o0), .val (.ref o1), .val (.int i2), .val (.int i3), .val (.int i4), .val (.int i5), .val (.int w), .val (.int i7), .val (.int w)]) rfl ?_
          show Steps p.tables e below (T0.setTop (mkF m 90 #[.val (.ref o0), .val (.ref o1), .val (.int i2), .val (.int i3), .val (.int i4), .val (.int i5), .val (.int w), .val (.int i7), .val (.int w)] [])) _
          refine XS.iinc X0.here hx rfl (hb hby d4_90) rfl (l' := #[.val (.ref o0), .val (.ref o1), .val (.int i2), .val (.int i3), .val (.int i4), .val (.int i5), .val (.int w), .val (.int (i7 + (1 : Int32))), .val (.int w)]) rfl ?_
          show Steps p.tables e below (T0.setTop (mkF m 93 #[.val (.ref o0), .val (.ref o1), .val (.int i2), .val (.int i3), .val (.int i4), .val (.int i5), .val (.int w), .val (.int (i7 + (1 : Int32))), .val (.int w)] [])) _
          refine XS.goto X0.here hx rfl (pc0 := 93) (pc' := 21) rfl (hb hby d4_93) (by decide) (by decide) ?_
          exact (castTop (congrArg (fun z__ => ((mkF m 21 #[.val (.ref o0), .val (.ref o1), .val (.int i2), .val (.int i3), .val (.int i4), .val (.int z__), .val (.int w), .val (.int (i7 + (1 : Int32))), .val (.int w)] []) : JFrame)) (show (own_cl i5 (decide (i6 = (13 : Int32))) (decide (w = (13 : Int32))) (decide (w = (10 : Int32)))) = i5 from by exact absurd hc80 hc57).symm) (castTop (congrArg (fun z__ => ((mkF m 21 #[.val (.ref o0), .val (.ref o1), .val (.int i2), .val (.int i3), .val (.int z__), .val (.int (own_cl i5 (decide (i6 = (13 : Int32))) (decide (w = (13 : Int32))) (decide (w = (10 : Int32))))), .val (.int w), .val (.int (i7 + (1 : Int32))), .val (.int w)] []) : JFrame)) (show (own_ln i4 (decide (i6 = (13 : Int32))) (decide (w = (13 : Int32))) (decide (w = (10 : Int32)))) = i4 from by exact absurd hc80 hc57).symm) kt))
        · refine XS.icmpNo X0.here hx rfl (hb hby d4_80) rfl (feq hc80).1 ?_
          show Steps p.tables e below (T0.setTop (mkF m 83 #[.val (.ref o0), .val (.ref o1), .val (.int i2), .val (.int i3), .val (.int i4), .val (.int i5), .val (.int i6), .val (.int i7), .val (.int w)] [])) _
          refine XS.iinc X0.here hx rfl (hb hby d4_83) rfl (l' := #[.val (.ref o0), .val (.ref o1), .val (.int i2), .val (.int i3), .val (.int i4), .val (.int (i5 + (1 : Int32))), .val (.int i6), .val (.int i7), .val (.int w)]) rfl ?_
          show Steps p.tables e below (T0.setTop (mkF m 86 #[.val (.ref o0), .val (.ref o1), .val (.int i2), .val (.int i3), .val (.int i4), .val (.int (i5 + (1 : Int32))), .val (.int i6), .val (.int i7), .val (.int w)] [])) _
          refine XS.iload X0.here hx rfl (hb hby d4_86) rfl ?_
          show Steps p.tables e below (T0.setTop (mkF m 88 #[.val (.ref o0), .val (.ref o1), .val (.int i2), .val (.int i3), .val (.int i4), .val (.int (i5 + (1 : Int32))), .val (.int i6), .val (.int i7), .val (.int w)] [(.int w)])) _
          refine XS.istore X0.here hx rfl (hb hby d4_88) rfl (l' := #[.val (.ref o0), .val (.ref o1), .val (.int i2), .val (.int i3), .val (.int i4), .val (.int (i5 + (1 : Int32))), .val (.int w), .val (.int i7), .val (.int w)]) rfl ?_
          show Steps p.tables e below (T0.setTop (mkF m 90 #[.val (.ref o0), .val (.ref o1), .val (.int i2), .val (.int i3), .val (.int i4), .val (.int (i5 + (1 : Int32))), .val (.int w), .val (.int i7), .val (.int w)] [])) _
          refine XS.iinc X0.here hx rfl (hb hby d4_90) rfl (l' := #[.val (.ref o0), .val (.ref o1), .val (.int i2), .val (.int i3), .val (.int i4), .val (.int (i5 + (1 : Int32))), .val (.int w), .val (.int (i7 + (1 : Int32))), .val (.int w)]) rfl ?_
          show Steps p.tables e below (T0.setTop (mkF m 93 #[.val (.ref o0), .val (.ref o1), .val (.int i2), .val (.int i3), .val (.int i4), .val (.int (i5 + (1 : Int32))), .val (.int w), .val (.int (i7 + (1 : Int32))), .val (.int w)] [])) _
          refine XS.goto X0.here hx rfl (pc0 := 93) (pc' := 21) rfl (hb hby d4_93) (by decide) (by decide) ?_
          exact (castTop (congrArg (fun z__ => ((mkF m 21 #[.val (.ref o0), .val (.ref o1), .val (.int i2), .val (.int i3), .val (.int i4), .val (.int z__), .val (.int w), .val (.int (i7 + (1 : Int32))), .val (.int w)] []) : JFrame)) (show (own_cl i5 (decide (i6 = (13 : Int32))) (decide (w = (13 : Int32))) (decide (w = (10 : Int32)))) = (i5 + (1 : Int32)) from by simp [own_ln, own_cl, hc37, hc50, hc57, hc80]).symm) (castTop (congrArg (fun z__ => ((mkF m 21 #[.val (.ref o0), .val (.ref o1), .val (.int i2), .val (.int i3), .val (.int z__), .val (.int (own_cl i5 (decide (i6 = (13 : Int32))) (decide (w = (13 : Int32))) (decide (w = (10 : Int32))))), .val (.int w), .val (.int (i7 + (1 : Int32))), .val (.int w)] []) : JFrame)) (show (own_ln i4 (decide (i6 = (13 : Int32))) (decide (w = (13 : Int32))) (decide (w = (10 : Int32)))) = i4 from by simp [own_ln, own_cl, hc37, hc50, hc57, hc80]).symm) kt))
set_option maxRecDepth 65536 in
set_option maxHeartbeats 40000000 in
theorem tlA {p : Program} {l : Launch} {e : Env} {R : Room} {s : State} {m : MethodId} {args : Array Value} {below : List Frame} {meth : Method} {c : Code} {T0 : State} {locs : List Loc} {cells slots : Nat} {Z : State} {a0 : Array Value} {h0 : Heap} (o0 o1 : Addr) (i2 i3 i4 i5 i6 i7 : Int32) (s8 : Slot)
    (X0 : Stand p l e R s m args below meth c T0 locs cells slots) (hx : p.tables.exec = Jvm.exec) (hZ : Z.Warmed39 s.vm) (hw : ∀ d ∈ tables_1, d.before a0 Z = true) (hby : c.code = prog_62_method_2_code) (hml : c.maxLocals = 9) (hown : s.vm.findClass "com/example/brokn/brokn/TextPosition" = some m.cls) (e0 : T0.heap = h0) (hc : ¬ i7 < i3) (t : State)
    (kt : Steps p.tables e below (T0.setTop (mkF m 96 #[.val (.ref o0), .val (.ref o1), .val (.int i2), .val (.int i3), .val (.int i4), .val (.int i5), .val (.int i6), .val (.int i7), s8] [])) t) : Steps p.tables e below (T0.setTop (mkF m 21 #[.val (.ref o0), .val (.ref o1), .val (.int i2), .val (.int i3), .val (.int i4), .val (.int i5), .val (.int i6), .val (.int i7), s8] [])) t := by
  show Steps p.tables e below (T0.setTop (mkF m 21 #[.val (.ref o0), .val (.ref o1), .val (.int i2), .val (.int i3), .val (.int i4), .val (.int i5), .val (.int i6), .val (.int i7), s8] [])) _
  refine XS.iload X0.here hx rfl (hb hby d4_21) rfl ?_
  show Steps p.tables e below (T0.setTop (mkF m 23 #[.val (.ref o0), .val (.ref o1), .val (.int i2), .val (.int i3), .val (.int i4), .val (.int i5), .val (.int i6), .val (.int i7), s8] [(.int i7)])) _
  refine XS.iloadN X0.here hx rfl (hb hby d4_23) rfl ?_
  show Steps p.tables e below (T0.setTop (mkF m 24 #[.val (.ref o0), .val (.ref o1), .val (.int i2), .val (.int i3), .val (.int i4), .val (.int i5), .val (.int i6), .val (.int i7), s8] [(.int i3), (.int i7)])) _
  refine XS.icmpYes X0.here hx rfl (pc0 := 24) (pc' := 96) rfl (hb hby d4_24) rfl (flt hc).2.1 (by decide) (by decide) ?_
  exact kt
theorem loopA {p : Program} {l : Launch} {e : Env} {R : Room} {s : State} {m : MethodId} {args : Array Value} {below : List Frame} {meth : Method} {c : Code} {T0 : State} {locs : List Loc} {cells slots : Nat} {Z : State} {a0 : Array Value} {h0 : Heap} (o0 o1 : Addr) (i2 : Int32) (j : Nat) (hj : j ≤ 255) (cl : Cell) (X0 : Stand p l e R s m args below meth c T0 locs cells slots) (hx : p.tables.exec = Jvm.exec) (hZ : Z.Warmed39 s.vm) (hw : ∀ d ∈ tables_1, d.before a0 Z = true) (hby : c.code = prog_62_method_2_code) (hml : c.maxLocals = 9) (hown : s.vm.findClass "com/example/brokn/brokn/TextPosition" = some m.cls) (e0 : T0.heap = h0) (Ar : Arr Z h0 o1 cl .char) (hS : j ≤ cl.slots.size) :
    ∀ (cs : List Int32) (i : Nat) (st : Int32 × Int32 × Int32) (s8 : Slot), i + cs.length = j → One s8 → (∀ k, k < cs.length → cl.slots[i + k]? = some (.int (cs.getD k (0 : Int32)))) →
      ∃ s8' : Slot, ∀ t, Steps p.tables e below (T0.setTop (mkF m 96 #[.val (.ref o0), .val (.ref o1), .val (.int i2), .val (.int (Int32.ofNat j)), .val (.int (own_run st cs).1), .val (.int (own_run st cs).2.1), .val (.int (own_run st cs).2.2), .val (.int (Int32.ofNat j)), s8'] [])) t → Steps p.tables e below (T0.setTop (mkF m 21 #[.val (.ref o0), .val (.ref o1), .val (.int i2), .val (.int (Int32.ofNat j)), .val (.int st.1), .val (.int st.2.1), .val (.int st.2.2), .val (.int (Int32.ofNat i)), s8] [])) t := by
  intro cs
  induction cs with
  | nil =>
    intro i st s8 hi h8 hat
    have hi' : i = j := by simpa using hi
    subst hi'
    exact ⟨s8, fun t kt => tlA o0 o1 _ _ _ _ _ _ s8 X0 hx hZ hw hby hml hown e0 Int32.lt_irrefl t kt⟩
  | cons y cs ih =>
    intro i st s8 hi h8 hat
    have hl : i < j := by rw [List.length_cons] at hi; omega
    have hin : ¬ (Int32.ofNat i < 0 ∨ cl.slots.size ≤ (Int32.ofNat i).toNatClampNeg) := by
      rw [own_n32 (by omega)]
      exact fun q => q.elim (own_nn (by omega)) (fun q => by omega)
    have ha : cl.slots[(Int32.ofNat i).toNatClampNeg]? = some (.int y) := by
      rw [own_n32 (by omega)]
      exact hat 0 (by simp)
    obtain ⟨s8', hs⟩ := ih (i + 1) (own_step st y) (.val (.int y)) (by rw [List.length_cons] at hi; omega) (One.val rfl) (fun k hk => by
      have q := hat (k + 1) (by rw [List.length_cons]; omega)
      rw [show i + 1 + k = i + (k + 1) by omega, q]
      rfl)
    refine ⟨s8', fun t kt => tnA o0 o1 _ _ _ _ _ _ y s8 cl X0 hx hZ hw hby hml hown e0 Ar (own_lt hl hj) hin ha h8 t ?_⟩
    rw [own_one]
    exact hs t kt
theorem ef_4 (m : MethodId) (x0 : Addr) (x1 : Addr) (x2 : Int32) (x3 : Int32) : entryFrame m #[(.ref x0), (.ref x1), (.int x2), (.int x3)] 9 = mkF m 0 #[.val (.ref x0), .val (.ref x1), .val (.int x2), .val (.int x3), .unset, .unset, .unset, .unset, .unset] [] := by first | (simp [entryFrame, mkF, argsToLocals, Value.category]; done) | rfl
def Q4 (Z : State) (a1 : Addr) (l_ c_ p_ : Int32) (cs : List Int32) (h0 : Heap) (n0 : Nat) (v : Option Value) (h : Heap) (L : List Loc) : Prop := v = none ∧ Fr n0 L ∧ Keep h0 h [a1] ∧ Exa Z h a1 "com/example/brokn/brokn/TextPosition" ∧ Fld Z h a1 "com/example/brokn/brokn/TextPosition" "line" "I" (.int (own_run (l_, c_, p_) cs).1) ∧ Fld Z h a1 "com/example/brokn/brokn/TextPosition" "column" "I" (.int (own_run (l_, c_, p_) cs).2.1) ∧ Fld Z h a1 "com/example/brokn/brokn/TextPosition" "previous" "C" (.int (own_run (l_, c_, p_) cs).2.2)
set_option maxRecDepth 65536 in
set_option maxHeartbeats 40000000 in
theorem rm4 (l : Launch) (Z : State) (a0 : Array Value) (hw : ∀ d ∈ tables_1, d.before a0 Z = true) (ws : List Jvm.Cond) (a1 : Addr) (a2 : Addr) (p3 : Int32) (p4 : Int32) (l_ c_ p_ : Int32) (cs : List Int32) (h0 : Heap) (n0 : Nat) (Z0 : n0 ≤ h0.size) (i j : Nat) (hj : j ≤ 4) (hi : i + cs.length = j) (h3 : p3 = Int32.ofNat i) (h4 : p4 = Int32.ofNat j) (F_line : Fld Z h0 a1 "com/example/brokn/brokn/TextPosition" "line" "I" (.int l_)) (F_column : Fld Z h0 a1 "com/example/brokn/brokn/TextPosition" "column" "I" (.int c_)) (F_previous : Fld Z h0 a1 "com/example/brokn/brokn/TextPosition" "previous" "C" (.int p_)) (E : Exa Z h0 a1 "com/example/brokn/brokn/TextPosition") (g : n0 ≤ a1) (ka : ClassId) (vs : List Value) (V : Arv Z h0 a2 ka .char (4 : Int32) vs (.int (0 : Int32))) (hcs : ∀ k, k < cs.length → vs.getD (i + k) (.int (0 : Int32)) = .int (cs.getD k (0 : Int32))) (hnar : nar .char (own_run (l_, c_, p_) cs).2.2 = (own_run (l_, c_, p_) cs).2.2) :
    MetFree l (⟨"com/example/brokn/brokn/TextPosition", "advance", "([CII)V"⟩ : MethodName) (head1 (Jvm.Cond.code (⟨"com/example/brokn/brokn/TextPosition", "advance", "([CII)V"⟩ : MethodName) prog_62_method_2_code 9 none :: ws) ({ frames := 0, cells := 0, slots := 0, locals := 0 } : Room)) (fun a U => a = #[(.ref a1), (.ref a2), (.int p3), (.int p4)] ∧ Z.Warmed39 U.vm ∧ U.heap = h0) (fun _ _ _ _ _ => True) (fun _ U o U' => ∃ v L, o = .returned v ∧ Q4 Z a1 l_ c_ p_ cs h0 n0 v U'.heap L ∧ FrameEnd U o U' L ({ frames := 0, cells := 0, slots := 0, locals := 0 } : Room).cells ({ frames := 0, cells := 0, slots := 0, locals := 0 } : Room).slots) := by
  refine MetFree.of_bodySF (plainFor_of_name pn_1) hisR ?_
  intro p e s m args below meth c s₁ Bd hml0 hP hK
  obtain ⟨rfl, hZ, hh⟩ := hP
  have hx := Bd.exec
  have hby := Bd.bytes
  have hml : c.maxLocals = 9 := hml0
  have hown : s.vm.findClass "com/example/brokn/brokn/TextPosition" = some m.cls := findClass_of_methodNamed Bd.named
  have hnm := (name_of_methodNamed Bd.named Bd.method).1
  have X0 : Stand p l e ({ frames := 0, cells := 0, slots := 0, locals := 0 } : Room) s m #[(.ref a1), (.ref a2), (.int p3), (.int p4)] below meth c s₁ [] 0 0 := Stand.of_body Bd
  have e0 : s₁.heap = h0 := by rw [← hh, Bd.state]; rfl
  have N0 := Fr.nil n0
  refine own_go (B := s₁.setTop (mkF m 0 #[.val (.ref a1), .val (.ref a2), .val (.int p3), .val (.int p4), .unset, .unset, .unset, .unset, .unset] [])) (fun t kt => castTop (ef_4 m a1 a2 p3 p4) kt) ?_
  obtain ⟨cl, Ar, qa, S, M, H, U⟩ := V
  have S4 : cl.slots.size = 4 := by rw [S]; rfl
  refine own_go (B := s₁.setTop (mkF m 1 #[.val (.ref a1), .val (.ref a2), .val (.int p3), .val (.int p4), .unset, .unset, .unset, .unset, .unset] [(.ref a1)])) (fun t kt => ?_) ?_
  · show Steps p.tables e below (s₁.setTop (mkF m 0 #[.val (.ref a1), .val (.ref a2), .val (.int p3), .val (.int p4), .unset, .unset, .unset, .unset, .unset] [])) _
    refine XS.aloadN X0.here hx rfl (hb hby d4_0) rfl rfl ?_
    exact kt
  obtain ⟨T20, X20, e20, st20⟩ := getF X0 hx hZ hown (host := "") (Or.inl (hw _ (List.mem_of_getElem? (i := 15) rfl))) Via.refl e0 F_line (g := (mkF m 1 #[.val (.ref a1), .val (.ref a2), .val (.int p3), .val (.int p4), .unset, .unset, .unset, .unset, .unset] [(.ref a1)])) rfl rfl (hb hby d4_1)
  refine own_go (B := T20.setTop (mkF m 4 #[.val (.ref a1), .val (.ref a2), .val (.int p3), .val (.int p4), .unset, .unset, .unset, .unset, .unset] [(.int l_)])) (fun t kt => st20 t kt) ?_
  refine own_go (B := T20.setTop (mkF m 7 #[.val (.ref a1), .val (.ref a2), .val (.int p3), .val (.int p4), .val (.int l_), .unset, .unset, .unset, .unset] [(.ref a1)])) (fun t kt => ?_) ?_
  · show Steps p.tables e below (T20.setTop (mkF m 4 #[.val (.ref a1), .val (.ref a2), .val (.int p3), .val (.int p4), .unset, .unset, .unset, .unset, .unset] [(.int l_)])) _
    refine XS.istore X20.here hx rfl (hb hby d4_4) rfl (l' := #[.val (.ref a1), .val (.ref a2), .val (.int p3), .val (.int p4), .val (.int l_), .unset, .unset, .unset, .unset]) rfl ?_
    show Steps p.tables e below (T20.setTop (mkF m 6 #[.val (.ref a1), .val (.ref a2), .val (.int p3), .val (.int p4), .val (.int l_), .unset, .unset, .unset, .unset] [])) _
    refine XS.aloadN X20.here hx rfl (hb hby d4_6) rfl rfl ?_
    exact kt
  obtain ⟨T21, X21, e21, st21⟩ := getF X20 hx hZ hown (host := "") (Or.inl (hw _ (List.mem_of_getElem? (i := 22) rfl))) Via.refl e20 F_column (g := (mkF m 7 #[.val (.ref a1), .val (.ref a2), .val (.int p3), .val (.int p4), .val (.int l_), .unset, .unset, .unset, .unset] [(.ref a1)])) rfl rfl (hb hby d4_7)
  refine own_go (B := T21.setTop (mkF m 10 #[.val (.ref a1), .val (.ref a2), .val (.int p3), .val (.int p4), .val (.int l_), .unset, .unset, .unset, .unset] [(.int c_)])) (fun t kt => st21 t kt) ?_
  refine own_go (B := T21.setTop (mkF m 13 #[.val (.ref a1), .val (.ref a2), .val (.int p3), .val (.int p4), .val (.int l_), .val (.int c_), .unset, .unset, .unset] [(.ref a1)])) (fun t kt => ?_) ?_
  · show Steps p.tables e below (T21.setTop (mkF m 10 #[.val (.ref a1), .val (.ref a2), .val (.int p3), .val (.int p4), .val (.int l_), .unset, .unset, .unset, .unset] [(.int c_)])) _
    refine XS.istore X21.here hx rfl (hb hby d4_10) rfl (l' := #[.val (.ref a1), .val (.ref a2), .val (.int p3), .val (.int p4), .val (.int l_), .val (.int c_), .unset, .unset, .unset]) rfl ?_
    show Steps p.tables e below (T21.setTop (mkF m 12 #[.val (.ref a1), .val (.ref a2), .val (.int p3), .val (.int p4), .val (.int l_), .val (.int c_), .unset, .unset, .unset] [])) _
    refine XS.aloadN X21.here hx rfl (hb hby d4_12) rfl rfl ?_
    exact kt
  obtain ⟨T22, X22, e22, st22⟩ := getF X21 hx hZ hown (host := "") (Or.inl (hw _ (List.mem_of_getElem? (i := 24) rfl))) Via.refl e21 F_previous (g := (mkF m 13 #[.val (.ref a1), .val (.ref a2), .val (.int p3), .val (.int p4), .val (.int l_), .val (.int c_), .unset, .unset, .unset] [(.ref a1)])) rfl rfl (hb hby d4_13)
  refine own_go (B := T22.setTop (mkF m 16 #[.val (.ref a1), .val (.ref a2), .val (.int p3), .val (.int p4), .val (.int l_), .val (.int c_), .unset, .unset, .unset] [(.int p_)])) (fun t kt => st22 t kt) ?_
  refine own_go (B := T22.setTop (mkF m 21 #[.val (.ref a1), .val (.ref a2), .val (.int p3), .val (.int p4), .val (.int l_), .val (.int c_), .val (.int p_), .val (.int p3), .unset] [])) (fun t kt => ?_) ?_
  · show Steps p.tables e below (T22.setTop (mkF m 16 #[.val (.ref a1), .val (.ref a2), .val (.int p3), .val (.int p4), .val (.int l_), .val (.int c_), .unset, .unset, .unset] [(.int p_)])) _
    refine XS.istore X22.here hx rfl (hb hby d4_16) rfl (l' := #[.val (.ref a1), .val (.ref a2), .val (.int p3), .val (.int p4), .val (.int l_), .val (.int c_), .val (.int p_), .unset, .unset]) rfl ?_
    show Steps p.tables e below (T22.setTop (mkF m 18 #[.val (.ref a1), .val (.ref a2), .val (.int p3), .val (.int p4), .val (.int l_), .val (.int c_), .val (.int p_), .unset, .unset] [])) _
    refine XS.iloadN X22.here hx rfl (hb hby d4_18) rfl ?_
    show Steps p.tables e below (T22.setTop (mkF m 19 #[.val (.ref a1), .val (.ref a2), .val (.int p3), .val (.int p4), .val (.int l_), .val (.int c_), .val (.int p_), .unset, .unset] [(.int p3)])) _
    refine XS.istore X22.here hx rfl (hb hby d4_19) rfl (l' := #[.val (.ref a1), .val (.ref a2), .val (.int p3), .val (.int p4), .val (.int l_), .val (.int c_), .val (.int p_), .val (.int p3), .unset]) rfl ?_
    exact kt
  obtain ⟨s8, hloop⟩ := loopA a1 a2 p3 j (by omega) cl X22 hx hZ hw hby hml hown e22 Ar (by rw [S4]; exact hj) cs i (l_, c_, p_) .unset hi One.u (fun k hk => by rw [H (i + k) (by rw [S4]; omega), hcs k hk])
  rw [h3, h4]
  rw [h3] at hloop
  refine own_go (B := T22.setTop (mkF m 96 #[.val (.ref a1), .val (.ref a2), .val (.int (Int32.ofNat i)), .val (.int (Int32.ofNat j)), .val (.int (own_run (l_, c_, p_) cs).1), .val (.int (own_run (l_, c_, p_) cs).2.1), .val (.int (own_run (l_, c_, p_) cs).2.2), .val (.int (Int32.ofNat j)), s8] [])) (fun t kt => hloop t kt) ?_
  refine own_go (B := T22.setTop (mkF m 99 #[.val (.ref a1), .val (.ref a2), .val (.int (Int32.ofNat i)), .val (.int (Int32.ofNat j)), .val (.int (own_run (l_, c_, p_) cs).1), .val (.int (own_run (l_, c_, p_) cs).2.1), .val (.int (own_run (l_, c_, p_) cs).2.2), .val (.int (Int32.ofNat j)), s8] [(.int (own_run (l_, c_, p_) cs).1), (.ref a1)])) (fun t kt => ?_) ?_
  · show Steps p.tables e below (T22.setTop (mkF m 96 #[.val (.ref a1), .val (.ref a2), .val (.int (Int32.ofNat i)), .val (.int (Int32.ofNat j)), .val (.int (own_run (l_, c_, p_) cs).1), .val (.int (own_run (l_, c_, p_) cs).2.1), .val (.int (own_run (l_, c_, p_) cs).2.2), .val (.int (Int32.ofNat j)), s8] [])) _
    refine XS.aloadN X22.here hx rfl (hb hby d4_96) rfl rfl ?_
    show Steps p.tables e below (T22.setTop (mkF m 97 #[.val (.ref a1), .val (.ref a2), .val (.int (Int32.ofNat i)), .val (.int (Int32.ofNat j)), .val (.int (own_run (l_, c_, p_) cs).1), .val (.int (own_run (l_, c_, p_) cs).2.1), .val (.int (own_run (l_, c_, p_) cs).2.2), .val (.int (Int32.ofNat j)), s8] [(.ref a1)])) _
    refine XS.iload X22.here hx rfl (hb hby d4_97) rfl ?_
    exact kt
  obtain ⟨T23, h23, X23, e23, W23, st23⟩ := putF X22 hx hZ hown (host := "") (Or.inl (hw _ (List.mem_of_getElem? (i := 15) rfl))) Via.refl e22 F_line E (Or.inl (hw _ (List.mem_of_getElem? (i := 16) rfl))) (hw _ (List.mem_of_getElem? (i := 7) rfl)) (ty := .int) (by decide) rfl rfl (g := (mkF m 99 #[.val (.ref a1), .val (.ref a2), .val (.int (Int32.ofNat i)), .val (.int (Int32.ofNat j)), .val (.int (own_run (l_, c_, p_) cs).1), .val (.int (own_run (l_, c_, p_) cs).2.1), .val (.int (own_run (l_, c_, p_) cs).2.2), .val (.int (Int32.ofNat j)), s8] [(.int (own_run (l_, c_, p_) cs).1), (.ref a1)])) rfl rfl (hb hby d4_99)
  have N23 := Fr.snoc X23 N0 g
  refine own_go (B := T23.setTop (mkF m 102 #[.val (.ref a1), .val (.ref a2), .val (.int (Int32.ofNat i)), .val (.int (Int32.ofNat j)), .val (.int (own_run (l_, c_, p_) cs).1), .val (.int (own_run (l_, c_, p_) cs).2.1), .val (.int (own_run (l_, c_, p_) cs).2.2), .val (.int (Int32.ofNat j)), s8] [])) (fun t kt => st23 t kt) ?_
  have G_line := F_line.same W23
  have G_column := (F_column.other W23 (Or.inr (slot_ne (Or.inl (hw _ (List.mem_of_getElem? (i := 23) rfl))) (Or.inl (hw _ (List.mem_of_getElem? (i := 16) rfl))) (by decide) (t := .int) (t' := .int) (by decide) (by decide))))
  have G_previous := (F_previous.other W23 (Or.inr (slot_ne (Or.inl (hw _ (List.mem_of_getElem? (i := 25) rfl))) (Or.inl (hw _ (List.mem_of_getElem? (i := 16) rfl))) (by decide) (t := .char) (t' := .int) (by decide) (by decide))))
  have E1 := E.wr W23
  have K1 : Keep h0 h23 [a1] := (Keep.refl h0 [a1]).wr W23 (Or.inl (List.mem_of_getElem? (i := 0) rfl))
  refine own_go (B := T23.setTop (mkF m 105 #[.val (.ref a1), .val (.ref a2), .val (.int (Int32.ofNat i)), .val (.int (Int32.ofNat j)), .val (.int (own_run (l_, c_, p_) cs).1), .val (.int (own_run (l_, c_, p_) cs).2.1), .val (.int (own_run (l_, c_, p_) cs).2.2), .val (.int (Int32.ofNat j)), s8] [(.int (own_run (l_, c_, p_) cs).2.1), (.ref a1)])) (fun t kt => ?_) ?_
  · show Steps p.tables e below (T23.setTop (mkF m 102 #[.val (.ref a1), .val (.ref a2), .val (.int (Int32.ofNat i)), .val (.int (Int32.ofNat j)), .val (.int (own_run (l_, c_, p_) cs).1), .val (.int (own_run (l_, c_, p_) cs).2.1), .val (.int (own_run (l_, c_, p_) cs).2.2), .val (.int (Int32.ofNat j)), s8] [])) _
    refine XS.aloadN X23.here hx rfl (hb hby d4_102) rfl rfl ?_
    show Steps p.tables e below (T23.setTop (mkF m 103 #[.val (.ref a1), .val (.ref a2), .val (.int (Int32.ofNat i)), .val (.int (Int32.ofNat j)), .val (.int (own_run (l_, c_, p_) cs).1), .val (.int (own_run (l_, c_, p_) cs).2.1), .val (.int (own_run (l_, c_, p_) cs).2.2), .val (.int (Int32.ofNat j)), s8] [(.ref a1)])) _
    refine XS.iload X23.here hx rfl (hb hby d4_103) rfl ?_
    exact kt
  obtain ⟨T24, h24, X24, e24, W24, st24⟩ := putF X23 hx hZ hown (host := "") (Or.inl (hw _ (List.mem_of_getElem? (i := 22) rfl))) Via.refl e23 G_column E1 (Or.inl (hw _ (List.mem_of_getElem? (i := 23) rfl))) (hw _ (List.mem_of_getElem? (i := 7) rfl)) (ty := .int) (by decide) rfl rfl (g := (mkF m 105 #[.val (.ref a1), .val (.ref a2), .val (.int (Int32.ofNat i)), .val (.int (Int32.ofNat j)), .val (.int (own_run (l_, c_, p_) cs).1), .val (.int (own_run (l_, c_, p_) cs).2.1), .val (.int (own_run (l_, c_, p_) cs).2.2), .val (.int (Int32.ofNat j)), s8] [(.int (own_run (l_, c_, p_) cs).2.1), (.ref a1)])) rfl rfl (hb hby d4_105)
  have N24 := Fr.snoc X24 N23 g
  refine own_go (B := T24.setTop (mkF m 108 #[.val (.ref a1), .val (.ref a2), .val (.int (Int32.ofNat i)), .val (.int (Int32.ofNat j)), .val (.int (own_run (l_, c_, p_) cs).1), .val (.int (own_run (l_, c_, p_) cs).2.1), .val (.int (own_run (l_, c_, p_) cs).2.2), .val (.int (Int32.ofNat j)), s8] [])) (fun t kt => st24 t kt) ?_
  have I_column := G_column.same W24
  have I_line := (G_line.other W24 (Or.inr (slot_ne (Or.inl (hw _ (List.mem_of_getElem? (i := 16) rfl))) (Or.inl (hw _ (List.mem_of_getElem? (i := 23) rfl))) (by decide) (t := .int) (t' := .int) (by decide) (by decide))))
  have I_previous := (G_previous.other W24 (Or.inr (slot_ne (Or.inl (hw _ (List.mem_of_getElem? (i := 25) rfl))) (Or.inl (hw _ (List.mem_of_getElem? (i := 23) rfl))) (by decide) (t := .char) (t' := .int) (by decide) (by decide))))
  have E2 := E1.wr W24
  have K2 : Keep h0 h24 [a1] := K1.wr W24 (Or.inl (List.mem_of_getElem? (i := 0) rfl))
  refine own_go (B := T24.setTop (mkF m 111 #[.val (.ref a1), .val (.ref a2), .val (.int (Int32.ofNat i)), .val (.int (Int32.ofNat j)), .val (.int (own_run (l_, c_, p_) cs).1), .val (.int (own_run (l_, c_, p_) cs).2.1), .val (.int (own_run (l_, c_, p_) cs).2.2), .val (.int (Int32.ofNat j)), s8] [(.int (own_run (l_, c_, p_) cs).2.2), (.ref a1)])) (fun t kt => ?_) ?_
  · show Steps p.tables e below (T24.setTop (mkF m 108 #[.val (.ref a1), .val (.ref a2), .val (.int (Int32.ofNat i)), .val (.int (Int32.ofNat j)), .val (.int (own_run (l_, c_, p_) cs).1), .val (.int (own_run (l_, c_, p_) cs).2.1), .val (.int (own_run (l_, c_, p_) cs).2.2), .val (.int (Int32.ofNat j)), s8] [])) _
    refine XS.aloadN X24.here hx rfl (hb hby d4_108) rfl rfl ?_
    show Steps p.tables e below (T24.setTop (mkF m 109 #[.val (.ref a1), .val (.ref a2), .val (.int (Int32.ofNat i)), .val (.int (Int32.ofNat j)), .val (.int (own_run (l_, c_, p_) cs).1), .val (.int (own_run (l_, c_, p_) cs).2.1), .val (.int (own_run (l_, c_, p_) cs).2.2), .val (.int (Int32.ofNat j)), s8] [(.ref a1)])) _
    refine XS.iload X24.here hx rfl (hb hby d4_109) rfl ?_
    exact kt
  obtain ⟨T25, h25, X25, e25, W25, st25⟩ := putFN X24 hx hZ hown (hw _ (List.mem_of_getElem? (i := 24) rfl)) Via.refl e24 I_previous E2 (Or.inl (hw _ (List.mem_of_getElem? (i := 25) rfl))) (hw _ (List.mem_of_getElem? (i := 7) rfl)) (ty := .char) (v' := (.int (nar .char (own_run (l_, c_, p_) cs).2.2))) (by decide) rfl (fits_nar_char _) (g := (mkF m 111 #[.val (.ref a1), .val (.ref a2), .val (.int (Int32.ofNat i)), .val (.int (Int32.ofNat j)), .val (.int (own_run (l_, c_, p_) cs).1), .val (.int (own_run (l_, c_, p_) cs).2.1), .val (.int (own_run (l_, c_, p_) cs).2.2), .val (.int (Int32.ofNat j)), s8] [(.int (own_run (l_, c_, p_) cs).2.2), (.ref a1)])) rfl rfl (hb hby d4_111)
  have N25 := Fr.snoc X25 N24 g
  refine own_go (B := T25.setTop (mkF m 114 #[.val (.ref a1), .val (.ref a2), .val (.int (Int32.ofNat i)), .val (.int (Int32.ofNat j)), .val (.int (own_run (l_, c_, p_) cs).1), .val (.int (own_run (l_, c_, p_) cs).2.1), .val (.int (own_run (l_, c_, p_) cs).2.2), .val (.int (Int32.ofNat j)), s8] [])) (fun t kt => st25 t kt) ?_
  rw [hnar] at W25
  have J_previous := I_previous.same W25
  have J_line := (I_line.other W25 (Or.inr (slot_ne (Or.inl (hw _ (List.mem_of_getElem? (i := 16) rfl))) (Or.inl (hw _ (List.mem_of_getElem? (i := 25) rfl))) (by decide) (t := .int) (t' := .char) (by decide) (by decide))))
  have J_column := (I_column.other W25 (Or.inr (slot_ne (Or.inl (hw _ (List.mem_of_getElem? (i := 23) rfl))) (Or.inl (hw _ (List.mem_of_getElem? (i := 25) rfl))) (by decide) (t := .int) (t' := .char) (by decide) (by decide))))
  have K3 : Keep h0 h25 [a1] := K2.wr W25 (Or.inl (List.mem_of_getElem? (i := 0) rfl))
  obtain ⟨fs, hr, hrun, hended, hW, hsame⟩ := X25.leave (v := none) (fun _ => rfl)
  refine ⟨_, _, ?_, hrun, hended, _, _, rfl, ?_, ⟨_, rfl⟩, hW, hsame.mono (by decide) (by decide)⟩
  · show Steps p.tables e below (T25.setTop (mkF m 114 #[.val (.ref a1), .val (.ref a2), .val (.int (Int32.ofNat i)), .val (.int (Int32.ofNat j)), .val (.int (own_run (l_, c_, p_) cs).1), .val (.int (own_run (l_, c_, p_) cs).2.1), .val (.int (own_run (l_, c_, p_) cs).2.2), .val (.int (Int32.ofNat j)), s8] [])) _
    exact X25.returnOut hx Bd.returns (hb hby d4_114) hr
  · show Q4 Z a1 l_ c_ p_ cs h0 n0 _ T25.heap _
    rw [e25]
    exact ⟨rfl, N25, K3, E2.wr W25, J_line, J_column, J_previous⟩
theorem ef_0 (m : MethodId) (x0 : Int32) (x1 : Int32) (x2 : Int32) (x3 : Int32) (x4 : Int32) : entryFrame m #[(.int x0), (.int x1), (.int x2), (.int x3), (.int x4)] maxLocals = mkF m 0 #[.val (.int x0), .val (.int x1), .val (.int x2), .val (.int x3), .val (.int x4), .unset, .unset, .unset, .unset] [] := by first | (simp [entryFrame, mkF, argsToLocals, Value.category, maxLocals]; done) | rfl
def Q0 (Z : State) (p1 p2 p3 p4 p5 : Int32) (h0 : Heap) (n0 : Nat) (v : Option Value) (h : Heap) (L : List Loc) : Prop := v = some (.int (1 : Int32)) ∧ Fr n0 L
set_option maxRecDepth 65536 in
set_option maxHeartbeats 40000000 in
theorem rm0 (l : Launch) (Z : State) (a0 : Array Value) (hw : ∀ d ∈ tables_1, d.before a0 Z = true) (ws : List Jvm.Cond) (p1 : Int32) (p2 : Int32) (p3 : Int32) (p4 : Int32) (p5 : Int32)  (h0 : Heap) (n0 : Nat) (Z0 : n0 ≤ h0.size)  :
    MetFree l x (head1 (Jvm.Cond.code x code maxLocals ret :: ws) room_1) (fun a U => a = #[(.int p1), (.int p2), (.int p3), (.int p4), (.int p5)] ∧ Z.Warmed39 U.vm ∧ U.heap = h0) (fun _ _ _ _ _ => True) (fun _ U o U' => ∃ v L, o = .returned v ∧ Q0 Z p1 p2 p3 p4 p5 h0 n0 v U'.heap L ∧ FrameEnd U o U' L room_1.cells room_1.slots) := by
  refine MetFree.of_bodySF (plainFor_of_name pn_0) hisR ?_
  intro p e s m args below meth c s₁ Bd hml0 hP hK
  obtain ⟨rfl, hZ, hh⟩ := hP
  have hx := Bd.exec
  have hby := Bd.bytes
  have hml : c.maxLocals = 9 := hml0
  have hown : s.vm.findClass "com/example/brokn/brokn/TextPositionAdvancePinLaw" = some m.cls := findClass_of_methodNamed Bd.named
  have hnm := (name_of_methodNamed Bd.named Bd.method).1
  have X0 : Stand p l e room_1 s m #[(.int p1), (.int p2), (.int p3), (.int p4), (.int p5)] below meth c s₁ [] 0 0 := Stand.of_body Bd
  have e0 : s₁.heap = h0 := by rw [← hh, Bd.state]; rfl
  have N0 := Fr.nil n0
  refine own_go (B := s₁.setTop (mkF m 0 #[.val (.int p1), .val (.int p2), .val (.int p3), .val (.int p4), .val (.int p5), .unset, .unset, .unset, .unset] [])) (fun t kt => castTop (ef_0 m p1 p2 p3 p4 p5) kt) ?_
  refine own_go (B := s₁.setTop (mkF m 1 #[.val (.int p1), .val (.int p2), .val (.int p3), .val (.int p4), .val (.int p5), .unset, .unset, .unset, .unset] [(.int (4 : Int32))])) (fun t kt => ?_) ?_
  · show Steps p.tables e below (s₁.setTop (mkF m 0 #[.val (.int p1), .val (.int p2), .val (.int p3), .val (.int p4), .val (.int p5), .unset, .unset, .unset, .unset] [])) _
    refine XS.iconst X0.here hx rfl (hb hby at_0) ?_
    exact kt
  obtain ⟨T26, h26, k26, X26, e26, E26, A26, st26⟩ := newP X0 hx hZ (hw _ (List.mem_of_getElem? (i := 0) rfl)) e0 (g := (mkF m 1 #[.val (.int p1), .val (.int p2), .val (.int p3), .val (.int p4), .val (.int p5), .unset, .unset, .unset, .unset] [(.int (4 : Int32))])) rfl (hb hby at_1) rfl (by decide) (cap := 4) (by decide) (by decide) (by decide) (by decide)
  obtain ⟨b26, g26⟩ : ∃ z, z = h0.size := ⟨_, rfl⟩
  rw [← g26] at A26 st26
  refine own_go (B := T26.setTop (mkF m 3 #[.val (.int p1), .val (.int p2), .val (.int p3), .val (.int p4), .val (.int p5), .unset, .unset, .unset, .unset] [(.ref b26)])) (fun t kt => st26 t kt) ?_
  have gb : n0 ≤ b26 := Nat.le_trans Z0 (Nat.le_of_eq g26.symm)
  have Z1 : n0 ≤ h26.size := Nat.le_trans Z0 E26.1
  have V0 : Arv Z h26 b26 k26 .char (4 : Int32) [(.int (0 : Int32)), (.int (0 : Int32)), (.int (0 : Int32)), (.int (0 : Int32))] (.int (0 : Int32)) := (Arv.new A26 (by decide)).pad (pad_rep [] (.int (0 : Int32)) 4)
  refine own_go (B := T26.setTop (mkF m 9 #[.val (.int p1), .val (.int p2), .val (.int p3), .val (.int p4), .val (.int p5), .val (.ref b26), .unset, .unset, .unset] [(.int p1), (.int (0 : Int32)), (.ref b26)])) (fun t kt => ?_) ?_
  · show Steps p.tables e below (T26.setTop (mkF m 3 #[.val (.int p1), .val (.int p2), .val (.int p3), .val (.int p4), .val (.int p5), .unset, .unset, .unset, .unset] [(.ref b26)])) _
    refine XS.astore X26.here hx rfl (hb hby at_3) rfl rfl (l' := #[.val (.int p1), .val (.int p2), .val (.int p3), .val (.int p4), .val (.int p5), .val (.ref b26), .unset, .unset, .unset]) rfl ?_
    show Steps p.tables e below (T26.setTop (mkF m 5 #[.val (.int p1), .val (.int p2), .val (.int p3), .val (.int p4), .val (.int p5), .val (.ref b26), .unset, .unset, .unset] [])) _
    refine XS.aload X26.here hx rfl (hb hby at_5) rfl rfl ?_
    show Steps p.tables e below (T26.setTop (mkF m 7 #[.val (.int p1), .val (.int p2), .val (.int p3), .val (.int p4), .val (.int p5), .val (.ref b26), .unset, .unset, .unset] [(.ref b26)])) _
    refine XS.iconst X26.here hx rfl (hb hby at_7) ?_
    show Steps p.tables e below (T26.setTop (mkF m 8 #[.val (.int p1), .val (.int p2), .val (.int p3), .val (.int p4), .val (.int p5), .val (.ref b26), .unset, .unset, .unset] [(.int (0 : Int32)), (.ref b26)])) _
    refine XS.iloadN X26.here hx rfl (hb hby at_8) rfl ?_
    exact kt
  obtain ⟨_, _, ⟨T27, L27, k27, n27⟩, -, X27, ⟨Lc27, hQ27, l27, y27, z27⟩, st27⟩ := Jvm.LawKit.callS X26 hx (y := (⟨"com/example/brokn/brokn/TextPositionAdvancePinLaw", "draw", "(I)C"⟩ : MethodName)) hown (mvT hZ (hw _ (List.mem_of_getElem? (i := 1) rfl))) (mvT hZ (hw _ (List.mem_of_getElem? (i := 2) rfl))) (mvT hZ (hw _ (List.mem_of_getElem? (i := 3) rfl))) (mvT hZ (hw _ (List.mem_of_getElem? (i := 4) rfl))) (by decide) (backOf (W := 2) (rm1 l Z a0 hw [] p1 h26 n0 Z1) hZ (hw _ (List.mem_of_getElem? (i := 4) rfl)) (hw _ (List.mem_of_getElem? (i := 3) rfl)) (by decide) (by decide)) (g := (mkF m 9 #[.val (.int p1), .val (.int p2), .val (.int p3), .val (.int p4), .val (.int p5), .val (.ref b26), .unset, .unset, .unset] [(.int p1), (.int (0 : Int32)), (.ref b26)])) rfl (by rw [hml]; rfl) (argsL := [(.int p1)]) (rest := [(.int (0 : Int32)), (.ref b26)]) (lenOf pd_2 rfl) rfl (by show 2 * 0 + _ ≤ _; exact Nat.le_of_eq rfl) (hb hby at_9) (fun _ _ => ⟨rfl, e26, (by decide : (0 + 1) + 0 ≤ _), (by decide : (0 + 4) + 0 ≤ _)⟩)
  dsimp only [Pt.U, Pt.locs, Pt.cells, Pt.slots] at X27 l27 y27 z27 st27 hQ27
  subst l27 y27 z27
  obtain ⟨d27, rfl, N27q, e27⟩ := hQ27
  have N27 := Fr.app N0 N27q
  refine own_go (B := T27.setTop (mkF m 12 #[.val (.int p1), .val (.int p2), .val (.int p3), .val (.int p4), .val (.int p5), .val (.ref b26), .unset, .unset, .unset] [(.int d27), (.int (0 : Int32)), (.ref b26)])) (fun t kt => st27 t kt) ?_
  obtain ⟨cv0, Av0, qv0, Sv0, Mv0, Hv0, Uv0⟩ := V0
  obtain ⟨T28, h28, X28, e28, W28, st28⟩ := stC X27 hx hZ e27 Av0 (j := (0 : Int32)) (inb_of Sv0 ⟨by decide, by decide⟩) (g := (mkF m 12 #[.val (.int p1), .val (.int p2), .val (.int p3), .val (.int p4), .val (.int p5), .val (.ref b26), .unset, .unset, .unset] [(.int d27), (.int (0 : Int32)), (.ref b26)])) rfl rfl (hb hby at_12)
  have N28 := Fr.snoc X28 N27 gb
  refine own_go (B := T28.setTop (mkF m 13 #[.val (.int p1), .val (.int p2), .val (.int p3), .val (.int p4), .val (.int p5), .val (.ref b26), .unset, .unset, .unset] [])) (fun t kt => st28 t kt) ?_
  have V1 : Arv Z h28 b26 k26 .char (4 : Int32) [(.int (nar .char d27)), (.int (0 : Int32)), (.int (0 : Int32)), (.int (0 : Int32))] (.int (0 : Int32)) := Arv.set Av0 qv0 Sv0 Mv0 Hv0 Uv0 (fits_nar_char _) W28 0 rfl (Nat.le_of_ble_eq_true rfl)
  have Z2 : n0 ≤ h28.size := Nat.le_trans Z1 (Keep.of_wr W28).1
  refine own_go (B := T28.setTop (mkF m 17 #[.val (.int p1), .val (.int p2), .val (.int p3), .val (.int p4), .val (.int p5), .val (.ref b26), .unset, .unset, .unset] [(.int p2), (.int (1 : Int32)), (.ref b26)])) (fun t kt => ?_) ?_
  · show Steps p.tables e below (T28.setTop (mkF m 13 #[.val (.int p1), .val (.int p2), .val (.int p3), .val (.int p4), .val (.int p5), .val (.ref b26), .unset, .unset, .unset] [])) _
    refine XS.aload X28.here hx rfl (hb hby at_13) rfl rfl ?_
    show Steps p.tables e below (T28.setTop (mkF m 15 #[.val (.int p1), .val (.int p2), .val (.int p3), .val (.int p4), .val (.int p5), .val (.ref b26), .unset, .unset, .unset] [(.ref b26)])) _
    refine XS.iconst X28.here hx rfl (hb hby at_15) ?_
    show Steps p.tables e below (T28.setTop (mkF m 16 #[.val (.int p1), .val (.int p2), .val (.int p3), .val (.int p4), .val (.int p5), .val (.ref b26), .unset, .unset, .unset] [(.int (1 : Int32)), (.ref b26)])) _
    refine XS.iloadN X28.here hx rfl (hb hby at_16) rfl ?_
    exact kt
  obtain ⟨_, _, ⟨T29, L29, k29, n29⟩, -, X29, ⟨Lc29, hQ29, l29, y29, z29⟩, st29⟩ := Jvm.LawKit.callS X28 hx (y := (⟨"com/example/brokn/brokn/TextPositionAdvancePinLaw", "draw", "(I)C"⟩ : MethodName)) hown (mvT hZ (hw _ (List.mem_of_getElem? (i := 1) rfl))) (mvT hZ (hw _ (List.mem_of_getElem? (i := 2) rfl))) (mvT hZ (hw _ (List.mem_of_getElem? (i := 3) rfl))) (mvT hZ (hw _ (List.mem_of_getElem? (i := 4) rfl))) (by decide) (backOf (W := 2) (rm1 l Z a0 hw [] p2 h28 n0 Z2) hZ (hw _ (List.mem_of_getElem? (i := 4) rfl)) (hw _ (List.mem_of_getElem? (i := 3) rfl)) (by decide) (by decide)) (g := (mkF m 17 #[.val (.int p1), .val (.int p2), .val (.int p3), .val (.int p4), .val (.int p5), .val (.ref b26), .unset, .unset, .unset] [(.int p2), (.int (1 : Int32)), (.ref b26)])) rfl (by rw [hml]; rfl) (argsL := [(.int p2)]) (rest := [(.int (1 : Int32)), (.ref b26)]) (lenOf pd_2 rfl) rfl (by show 2 * 0 + _ ≤ _; exact Nat.le_of_eq rfl) (hb hby at_17) (fun _ _ => ⟨rfl, e28, (by decide : ((0 + 1) + 0) + 0 ≤ _), (by decide : ((0 + 4) + 0) + 0 ≤ _)⟩)
  dsimp only [Pt.U, Pt.locs, Pt.cells, Pt.slots] at X29 l29 y29 z29 st29 hQ29
  subst l29 y29 z29
  obtain ⟨d29, rfl, N29q, e29⟩ := hQ29
  have N29 := Fr.app N28 N29q
  refine own_go (B := T29.setTop (mkF m 20 #[.val (.int p1), .val (.int p2), .val (.int p3), .val (.int p4), .val (.int p5), .val (.ref b26), .unset, .unset, .unset] [(.int d29), (.int (1 : Int32)), (.ref b26)])) (fun t kt => st29 t kt) ?_
  obtain ⟨cv1, Av1, qv1, Sv1, Mv1, Hv1, Uv1⟩ := V1
  obtain ⟨T30, h30, X30, e30, W30, st30⟩ := stC X29 hx hZ e29 Av1 (j := (1 : Int32)) (inb_of Sv1 ⟨by decide, by decide⟩) (g := (mkF m 20 #[.val (.int p1), .val (.int p2), .val (.int p3), .val (.int p4), .val (.int p5), .val (.ref b26), .unset, .unset, .unset] [(.int d29), (.int (1 : Int32)), (.ref b26)])) rfl rfl (hb hby at_20)
  have N30 := Fr.snoc X30 N29 gb
  refine own_go (B := T30.setTop (mkF m 21 #[.val (.int p1), .val (.int p2), .val (.int p3), .val (.int p4), .val (.int p5), .val (.ref b26), .unset, .unset, .unset] [])) (fun t kt => st30 t kt) ?_
  have V2 : Arv Z h30 b26 k26 .char (4 : Int32) [(.int (nar .char d27)), (.int (nar .char d29)), (.int (0 : Int32)), (.int (0 : Int32))] (.int (0 : Int32)) := Arv.set Av1 qv1 Sv1 Mv1 Hv1 Uv1 (fits_nar_char _) W30 1 rfl (Nat.le_of_ble_eq_true rfl)
  have Z3 : n0 ≤ h30.size := Nat.le_trans Z2 (Keep.of_wr W30).1
  refine own_go (B := T30.setTop (mkF m 25 #[.val (.int p1), .val (.int p2), .val (.int p3), .val (.int p4), .val (.int p5), .val (.ref b26), .unset, .unset, .unset] [(.int p3), (.int (2 : Int32)), (.ref b26)])) (fun t kt => ?_) ?_
  · show Steps p.tables e below (T30.setTop (mkF m 21 #[.val (.int p1), .val (.int p2), .val (.int p3), .val (.int p4), .val (.int p5), .val (.ref b26), .unset, .unset, .unset] [])) _
    refine XS.aload X30.here hx rfl (hb hby at_21) rfl rfl ?_
    show Steps p.tables e below (T30.setTop (mkF m 23 #[.val (.int p1), .val (.int p2), .val (.int p3), .val (.int p4), .val (.int p5), .val (.ref b26), .unset, .unset, .unset] [(.ref b26)])) _
    refine XS.iconst X30.here hx rfl (hb hby at_23) ?_
    show Steps p.tables e below (T30.setTop (mkF m 24 #[.val (.int p1), .val (.int p2), .val (.int p3), .val (.int p4), .val (.int p5), .val (.ref b26), .unset, .unset, .unset] [(.int (2 : Int32)), (.ref b26)])) _
    refine XS.iloadN X30.here hx rfl (hb hby at_24) rfl ?_
    exact kt
  obtain ⟨_, _, ⟨T31, L31, k31, n31⟩, -, X31, ⟨Lc31, hQ31, l31, y31, z31⟩, st31⟩ := Jvm.LawKit.callS X30 hx (y := (⟨"com/example/brokn/brokn/TextPositionAdvancePinLaw", "draw", "(I)C"⟩ : MethodName)) hown (mvT hZ (hw _ (List.mem_of_getElem? (i := 1) rfl))) (mvT hZ (hw _ (List.mem_of_getElem? (i := 2) rfl))) (mvT hZ (hw _ (List.mem_of_getElem? (i := 3) rfl))) (mvT hZ (hw _ (List.mem_of_getElem? (i := 4) rfl))) (by decide) (backOf (W := 2) (rm1 l Z a0 hw [] p3 h30 n0 Z3) hZ (hw _ (List.mem_of_getElem? (i := 4) rfl)) (hw _ (List.mem_of_getElem? (i := 3) rfl)) (by decide) (by decide)) (g := (mkF m 25 #[.val (.int p1), .val (.int p2), .val (.int p3), .val (.int p4), .val (.int p5), .val (.ref b26), .unset, .unset, .unset] [(.int p3), (.int (2 : Int32)), (.ref b26)])) rfl (by rw [hml]; rfl) (argsL := [(.int p3)]) (rest := [(.int (2 : Int32)), (.ref b26)]) (lenOf pd_2 rfl) rfl (by show 2 * 0 + _ ≤ _; exact Nat.le_of_eq rfl) (hb hby at_25) (fun _ _ => ⟨rfl, e30, (by decide : (((0 + 1) + 0) + 0) + 0 ≤ _), (by decide : (((0 + 4) + 0) + 0) + 0 ≤ _)⟩)
  dsimp only [Pt.U, Pt.locs, Pt.cells, Pt.slots] at X31 l31 y31 z31 st31 hQ31
  subst l31 y31 z31
  obtain ⟨d31, rfl, N31q, e31⟩ := hQ31
  have N31 := Fr.app N30 N31q
  refine own_go (B := T31.setTop (mkF m 28 #[.val (.int p1), .val (.int p2), .val (.int p3), .val (.int p4), .val (.int p5), .val (.ref b26), .unset, .unset, .unset] [(.int d31), (.int (2 : Int32)), (.ref b26)])) (fun t kt => st31 t kt) ?_
  obtain ⟨cv2, Av2, qv2, Sv2, Mv2, Hv2, Uv2⟩ := V2
  obtain ⟨T32, h32, X32, e32, W32, st32⟩ := stC X31 hx hZ e31 Av2 (j := (2 : Int32)) (inb_of Sv2 ⟨by decide, by decide⟩) (g := (mkF m 28 #[.val (.int p1), .val (.int p2), .val (.int p3), .val (.int p4), .val (.int p5), .val (.ref b26), .unset, .unset, .unset] [(.int d31), (.int (2 : Int32)), (.ref b26)])) rfl rfl (hb hby at_28)
  have N32 := Fr.snoc X32 N31 gb
  refine own_go (B := T32.setTop (mkF m 29 #[.val (.int p1), .val (.int p2), .val (.int p3), .val (.int p4), .val (.int p5), .val (.ref b26), .unset, .unset, .unset] [])) (fun t kt => st32 t kt) ?_
  have V3 : Arv Z h32 b26 k26 .char (4 : Int32) [(.int (nar .char d27)), (.int (nar .char d29)), (.int (nar .char d31)), (.int (0 : Int32))] (.int (0 : Int32)) := Arv.set Av2 qv2 Sv2 Mv2 Hv2 Uv2 (fits_nar_char _) W32 2 rfl (Nat.le_of_ble_eq_true rfl)
  have Z4 : n0 ≤ h32.size := Nat.le_trans Z3 (Keep.of_wr W32).1
  refine own_go (B := T32.setTop (mkF m 33 #[.val (.int p1), .val (.int p2), .val (.int p3), .val (.int p4), .val (.int p5), .val (.ref b26), .unset, .unset, .unset] [(.int p4), (.int (3 : Int32)), (.ref b26)])) (fun t kt => ?_) ?_
  · show Steps p.tables e below (T32.setTop (mkF m 29 #[.val (.int p1), .val (.int p2), .val (.int p3), .val (.int p4), .val (.int p5), .val (.ref b26), .unset, .unset, .unset] [])) _
    refine XS.aload X32.here hx rfl (hb hby at_29) rfl rfl ?_
    show Steps p.tables e below (T32.setTop (mkF m 31 #[.val (.int p1), .val (.int p2), .val (.int p3), .val (.int p4), .val (.int p5), .val (.ref b26), .unset, .unset, .unset] [(.ref b26)])) _
    refine XS.iconst X32.here hx rfl (hb hby at_31) ?_
    show Steps p.tables e below (T32.setTop (mkF m 32 #[.val (.int p1), .val (.int p2), .val (.int p3), .val (.int p4), .val (.int p5), .val (.ref b26), .unset, .unset, .unset] [(.int (3 : Int32)), (.ref b26)])) _
    refine XS.iloadN X32.here hx rfl (hb hby at_32) rfl ?_
    exact kt
  obtain ⟨_, _, ⟨T33, L33, k33, n33⟩, -, X33, ⟨Lc33, hQ33, l33, y33, z33⟩, st33⟩ := Jvm.LawKit.callS X32 hx (y := (⟨"com/example/brokn/brokn/TextPositionAdvancePinLaw", "draw", "(I)C"⟩ : MethodName)) hown (mvT hZ (hw _ (List.mem_of_getElem? (i := 1) rfl))) (mvT hZ (hw _ (List.mem_of_getElem? (i := 2) rfl))) (mvT hZ (hw _ (List.mem_of_getElem? (i := 3) rfl))) (mvT hZ (hw _ (List.mem_of_getElem? (i := 4) rfl))) (by decide) (backOf (W := 2) (rm1 l Z a0 hw [] p4 h32 n0 Z4) hZ (hw _ (List.mem_of_getElem? (i := 4) rfl)) (hw _ (List.mem_of_getElem? (i := 3) rfl)) (by decide) (by decide)) (g := (mkF m 33 #[.val (.int p1), .val (.int p2), .val (.int p3), .val (.int p4), .val (.int p5), .val (.ref b26), .unset, .unset, .unset] [(.int p4), (.int (3 : Int32)), (.ref b26)])) rfl (by rw [hml]; rfl) (argsL := [(.int p4)]) (rest := [(.int (3 : Int32)), (.ref b26)]) (lenOf pd_2 rfl) rfl (by show 2 * 0 + _ ≤ _; exact Nat.le_of_eq rfl) (hb hby at_33) (fun _ _ => ⟨rfl, e32, (by decide : ((((0 + 1) + 0) + 0) + 0) + 0 ≤ _), (by decide : ((((0 + 4) + 0) + 0) + 0) + 0 ≤ _)⟩)
  dsimp only [Pt.U, Pt.locs, Pt.cells, Pt.slots] at X33 l33 y33 z33 st33 hQ33
  subst l33 y33 z33
  obtain ⟨d33, rfl, N33q, e33⟩ := hQ33
  have N33 := Fr.app N32 N33q
  refine own_go (B := T33.setTop (mkF m 36 #[.val (.int p1), .val (.int p2), .val (.int p3), .val (.int p4), .val (.int p5), .val (.ref b26), .unset, .unset, .unset] [(.int d33), (.int (3 : Int32)), (.ref b26)])) (fun t kt => st33 t kt) ?_
  obtain ⟨cv3, Av3, qv3, Sv3, Mv3, Hv3, Uv3⟩ := V3
  obtain ⟨T34, h34, X34, e34, W34, st34⟩ := stC X33 hx hZ e33 Av3 (j := (3 : Int32)) (inb_of Sv3 ⟨by decide, by decide⟩) (g := (mkF m 36 #[.val (.int p1), .val (.int p2), .val (.int p3), .val (.int p4), .val (.int p5), .val (.ref b26), .unset, .unset, .unset] [(.int d33), (.int (3 : Int32)), (.ref b26)])) rfl rfl (hb hby at_36)
  have N34 := Fr.snoc X34 N33 gb
  refine own_go (B := T34.setTop (mkF m 37 #[.val (.int p1), .val (.int p2), .val (.int p3), .val (.int p4), .val (.int p5), .val (.ref b26), .unset, .unset, .unset] [])) (fun t kt => st34 t kt) ?_
  have V4 : Arv Z h34 b26 k26 .char (4 : Int32) [(.int (nar .char d27)), (.int (nar .char d29)), (.int (nar .char d31)), (.int (nar .char d33))] (.int (0 : Int32)) := Arv.set Av3 qv3 Sv3 Mv3 Hv3 Uv3 (fits_nar_char _) W34 3 rfl (Nat.le_of_ble_eq_true rfl)
  have Z5 : n0 ≤ h34.size := Nat.le_trans Z4 (Keep.of_wr W34).1
  obtain ⟨y0, ey0⟩ : ∃ z, z = (nar .char d27) := ⟨_, rfl⟩
  obtain ⟨y1, ey1⟩ : ∃ z, z = (nar .char d29) := ⟨_, rfl⟩
  obtain ⟨y2, ey2⟩ : ∃ z, z = (nar .char d31) := ⟨_, rfl⟩
  obtain ⟨y3, ey3⟩ : ∃ z, z = (nar .char d33) := ⟨_, rfl⟩
  rw [← ey0, ← ey1, ← ey2, ← ey3] at V4
  have hy0 : nar .char y0 = y0 := by rw [ey0]; exact own_nc _
  have hy1 : nar .char y1 = y1 := by rw [ey1]; exact own_nc _
  have hy2 : nar .char y2 = y2 := by rw [ey2]; exact own_nc _
  have hy3 : nar .char y3 = y3 := by rw [ey3]; exact own_nc _
  refine own_go (B := T34.setTop (mkF m 44 #[.val (.int p1), .val (.int p2), .val (.int p3), .val (.int p4), .val (.int p5), .val (.ref b26), .unset, .unset, .unset] [(.int ((p5 &&& (2147483647 : Int32)) % (5 : Int32)))])) (fun t kt => ?_) ?_
  · show Steps p.tables e below (T34.setTop (mkF m 37 #[.val (.int p1), .val (.int p2), .val (.int p3), .val (.int p4), .val (.int p5), .val (.ref b26), .unset, .unset, .unset] [])) _
    refine XS.iload X34.here hx rfl (hb hby at_37) rfl ?_
    show Steps p.tables e below (T34.setTop (mkF m 39 #[.val (.int p1), .val (.int p2), .val (.int p3), .val (.int p4), .val (.int p5), .val (.ref b26), .unset, .unset, .unset] [(.int p5)])) _
    refine X34.ldcInt hx hown (mvT hZ (hw _ (List.mem_of_getElem? (i := 5) rfl))) (g := (mkF m 39 #[.val (.int p1), .val (.int p2), .val (.int p3), .val (.int p4), .val (.int p5), .val (.ref b26), .unset, .unset, .unset] [(.int p5)])) rfl (hb hby at_39) _ ?_
    show Steps p.tables e below (T34.setTop (mkF m 41 #[.val (.int p1), .val (.int p2), .val (.int p3), .val (.int p4), .val (.int p5), .val (.ref b26), .unset, .unset, .unset] [(.int (2147483647 : Int32)), (.int p5)])) _
    refine XS.iand X34.here hx rfl (hb hby at_41) rfl ?_
    show Steps p.tables e below (T34.setTop (mkF m 42 #[.val (.int p1), .val (.int p2), .val (.int p3), .val (.int p4), .val (.int p5), .val (.ref b26), .unset, .unset, .unset] [(.int (p5 &&& (2147483647 : Int32)))])) _
    refine XS.iconst X34.here hx rfl (hb hby at_42) ?_
    show Steps p.tables e below (T34.setTop (mkF m 43 #[.val (.int p1), .val (.int p2), .val (.int p3), .val (.int p4), .val (.int p5), .val (.ref b26), .unset, .unset, .unset] [(.int (5 : Int32)), (.int (p5 &&& (2147483647 : Int32)))])) _
    refine iremM X34 hx rfl (hb hby at_43) rfl (by decide) ?_
    exact kt
  rcases own_len p5 with hk | hk | hk | hk | hk
  · rw [hk]
    refine own_go (B := T34.setTop (mkF m 46 #[.val (.int p1), .val (.int p2), .val (.int p3), .val (.int p4), .val (.int p5), .val (.ref b26), .val (.int (0 : Int32)), .unset, .unset] [])) (fun t kt => ?_) ?_
    · show Steps p.tables e below (T34.setTop (mkF m 44 #[.val (.int p1), .val (.int p2), .val (.int p3), .val (.int p4), .val (.int p5), .val (.ref b26), .unset, .unset, .unset] [(.int (0 : Int32))])) _
      refine XS.istore X34.here hx rfl (hb hby at_44) rfl (l' := #[.val (.int p1), .val (.int p2), .val (.int p3), .val (.int p4), .val (.int p5), .val (.ref b26), .val (.int (0 : Int32)), .unset, .unset]) rfl ?_
      exact kt
    obtain ⟨T35, h35, X35, e35, E35, A35, D35, -, st35⟩ := newO X34 hx hZ hown (hw _ (List.mem_of_getElem? (i := 6) rfl)) (hw _ (List.mem_of_getElem? (i := 7) rfl)) (hw _ (List.mem_of_getElem? (i := 8) rfl)) e34 (g := (mkF m 46 #[.val (.int p1), .val (.int p2), .val (.int p3), .val (.int p4), .val (.int p5), .val (.ref b26), .val (.int (0 : Int32)), .unset, .unset] [])) rfl (hb hby at_46) (by decide) (by decide)
    obtain ⟨b35, g35⟩ : ∃ z, z = h34.size := ⟨_, rfl⟩
    rw [← g35] at A35 D35 st35
    have F35_line : Fld Z h35 b35 "com/example/brokn/brokn/TextPosition" "line" "I" (.int (0 : Int32)) := D35 (Or.inl (hw _ (List.mem_of_getElem? (i := 16) rfl))) (ty := .int) (by decide)
    have F35_column : Fld Z h35 b35 "com/example/brokn/brokn/TextPosition" "column" "I" (.int (0 : Int32)) := D35 (Or.inl (hw _ (List.mem_of_getElem? (i := 23) rfl))) (ty := .int) (by decide)
    have F35_previous : Fld Z h35 b35 "com/example/brokn/brokn/TextPosition" "previous" "C" (.int (0 : Int32)) := D35 (Or.inl (hw _ (List.mem_of_getElem? (i := 25) rfl))) (ty := .char) (by decide)
    refine own_go (B := T35.setTop (mkF m 49 #[.val (.int p1), .val (.int p2), .val (.int p3), .val (.int p4), .val (.int p5), .val (.ref b26), .val (.int (0 : Int32)), .unset, .unset] [(.ref b35)])) (fun t kt => st35 t kt) ?_
    have go : n0 ≤ b35 := Nat.le_trans Z5 (Nat.le_of_eq g35.symm)
    have Zo : n0 ≤ h35.size := Nat.le_trans Z5 E35.1
    have hne : b26 ≠ b35 := Nat.ne_of_lt (Nat.lt_of_lt_of_le V4.lt (Nat.le_of_eq g35.symm))
    have Va := V4.ext E35
    refine own_go (B := T35.setTop (mkF m 50 #[.val (.int p1), .val (.int p2), .val (.int p3), .val (.int p4), .val (.int p5), .val (.ref b26), .val (.int (0 : Int32)), .unset, .unset] [(.ref b35), (.ref b35)])) (fun t kt => ?_) ?_
    · show Steps p.tables e below (T35.setTop (mkF m 49 #[.val (.int p1), .val (.int p2), .val (.int p3), .val (.int p4), .val (.int p5), .val (.ref b26), .val (.int (0 : Int32)), .unset, .unset] [(.ref b35)])) _
      refine XS.dup X35.here hx rfl (hb hby at_49) rfl rfl ?_
      exact kt
    obtain ⟨_, _, ⟨T36, L36, k36, n36⟩, -, X36, ⟨Lc36, hQ36, l36, y36, z36⟩, st36⟩ := X35.specialBack hx (y := (⟨"com/example/brokn/brokn/TextPosition", "<init>", "()V"⟩ : MethodName)) rfl hown (mvT hZ (hw _ (List.mem_of_getElem? (i := 9) rfl))) (mvT hZ (hw _ (List.mem_of_getElem? (i := 10) rfl))) (mvT hZ (hw _ (List.mem_of_getElem? (i := 11) rfl))) (by decide) (backOf (W := 1) (rm2 l Z a0 hw [] b35 h35 n0 Zo F35_line F35_column F35_previous A35 go) hZ (hw _ (List.mem_of_getElem? (i := 11) rfl)) (hw _ (List.mem_of_getElem? (i := 8) rfl)) (by decide) (by decide)) (g := (mkF m 50 #[.val (.int p1), .val (.int p2), .val (.int p3), .val (.int p4), .val (.int p5), .val (.ref b26), .val (.int (0 : Int32)), .unset, .unset] [(.ref b35), (.ref b35)])) rfl (by rw [hml]; rfl) (Steps.refl _) (a := b35) (argsL := []) (rest := [(.ref b35)]) (lenOf pd_3 rfl) rfl (by show 2 * 0 + _ ≤ _; exact Nat.le_of_eq rfl) (hb hby at_50) (fun _ _ => ⟨rfl, e35, (by decide : ((((((0 + 1) + 0) + 0) + 0) + 0) + 1) + 0 ≤ _), (by decide : ((((((0 + 4) + 0) + 0) + 0) + 0) + 3) + 0 ≤ _)⟩)
    dsimp only [Pt.U, Pt.locs, Pt.cells, Pt.slots] at X36 l36 y36 z36 st36 hQ36
    subst l36 y36 z36
    obtain ⟨rfl, N36q, K36, E36, Fl36, Fc36, Fp36⟩ := hQ36
    have N36 := Fr.app N34 N36q
    refine own_go (B := T36.setTop (mkF m 53 #[.val (.int p1), .val (.int p2), .val (.int p3), .val (.int p4), .val (.int p5), .val (.ref b26), .val (.int (0 : Int32)), .unset, .unset] [(.ref b35)])) (fun t kt => st36.trans kt) ?_
    have Za : n0 ≤ T36.heap.size := Nat.le_trans Zo K36.1
    have Vb := Va.keep K36 (ninS hne nin0)
    refine own_go (B := T36.setTop (mkF m 62 #[.val (.int p1), .val (.int p2), .val (.int p3), .val (.int p4), .val (.int p5), .val (.ref b26), .val (.int (0 : Int32)), .val (.ref b35), .unset] [(.int (0 : Int32)), (.int (0 : Int32)), (.ref b26), (.ref b35)])) (fun t kt => ?_) ?_
    · show Steps p.tables e below (T36.setTop (mkF m 53 #[.val (.int p1), .val (.int p2), .val (.int p3), .val (.int p4), .val (.int p5), .val (.ref b26), .val (.int (0 : Int32)), .unset, .unset] [(.ref b35)])) _
      refine XS.astore X36.here hx rfl (hb hby at_53) rfl rfl (l' := #[.val (.int p1), .val (.int p2), .val (.int p3), .val (.int p4), .val (.int p5), .val (.ref b26), .val (.int (0 : Int32)), .val (.ref b35), .unset]) rfl ?_
      show Steps p.tables e below (T36.setTop (mkF m 55 #[.val (.int p1), .val (.int p2), .val (.int p3), .val (.int p4), .val (.int p5), .val (.ref b26), .val (.int (0 : Int32)), .val (.ref b35), .unset] [])) _
      refine XS.aload X36.here hx rfl (hb hby at_55) rfl rfl ?_
      show Steps p.tables e below (T36.setTop (mkF m 57 #[.val (.int p1), .val (.int p2), .val (.int p3), .val (.int p4), .val (.int p5), .val (.ref b26), .val (.int (0 : Int32)), .val (.ref b35), .unset] [(.ref b35)])) _
      refine XS.aload X36.here hx rfl (hb hby at_57) rfl rfl ?_
      show Steps p.tables e below (T36.setTop (mkF m 59 #[.val (.int p1), .val (.int p2), .val (.int p3), .val (.int p4), .val (.int p5), .val (.ref b26), .val (.int (0 : Int32)), .val (.ref b35), .unset] [(.ref b26), (.ref b35)])) _
      refine XS.iconst X36.here hx rfl (hb hby at_59) ?_
      show Steps p.tables e below (T36.setTop (mkF m 60 #[.val (.int p1), .val (.int p2), .val (.int p3), .val (.int p4), .val (.int p5), .val (.ref b26), .val (.int (0 : Int32)), .val (.ref b35), .unset] [(.int (0 : Int32)), (.ref b26), (.ref b35)])) _
      refine XS.iload X36.here hx rfl (hb hby at_60) rfl ?_
      exact kt
    obtain ⟨cq37, kq37, q37a, q37b, q37c⟩ := isOf hZ rfl E36
    obtain ⟨_, _, ⟨T37, L37, k37, n37⟩, -, X37, ⟨Lc37, hQ37, l37, y37, z37⟩, st37⟩ := X36.virtualBack hx (y := (⟨"com/example/brokn/brokn/TextPosition", "advance", "([CII)V"⟩ : MethodName)) (z := (⟨"com/example/brokn/brokn/TextPosition", "advance", "([CII)V"⟩ : MethodName)) hown (mvT hZ (hw _ (List.mem_of_getElem? (i := 17) rfl))) (mvT hZ (hw _ (List.mem_of_getElem? (i := 18) rfl))) (notFace_of_selects (args := #[]) (mvT hZ (hw _ (List.mem_of_getElem? (i := 20) rfl)))) (mvT hZ (hw _ (List.mem_of_getElem? (i := 20) rfl))) (mvT hZ (hw _ (List.mem_of_getElem? (i := 19) rfl))) (by decide) (backOf (W := 0) (rm4 l Z a0 hw [] b35 b26 (0 : Int32) (0 : Int32) (1 : Int32) (0 : Int32) (0 : Int32) [] T36.heap n0 Za 0 0 (by decide) rfl rfl rfl Fl36 Fc36 Fp36 E36 go k26 [(.int y0), (.int y1), (.int y2), (.int y3)] Vb (own_in0_0 y0 y1 y2 y3) (show nar .char (0 : Int32) = (0 : Int32) from by decide)) hZ (hw _ (List.mem_of_getElem? (i := 21) rfl)) (hw _ (List.mem_of_getElem? (i := 8) rfl)) (by decide) (by decide)) q37a q37c (g := (mkF m 62 #[.val (.int p1), .val (.int p2), .val (.int p3), .val (.int p4), .val (.int p5), .val (.ref b26), .val (.int (0 : Int32)), .val (.ref b35), .unset] [(.int (0 : Int32)), (.int (0 : Int32)), (.ref b26), (.ref b35)])) rfl (by rw [hml]; rfl) (Steps.refl _) (argsL := [(.ref b26), (.int (0 : Int32)), (.int (0 : Int32))]) (rest := []) (lenOf pd_4 rfl) rfl (by show 2 * 0 + _ ≤ _; exact Nat.le_of_eq rfl) (hb hby at_62) (fun _ _ => ⟨rfl, rfl, (by decide : (((((((0 + 1) + 0) + 0) + 0) + 0) + 1) + 0) + 0 ≤ _), (by decide : (((((((0 + 4) + 0) + 0) + 0) + 0) + 3) + 0) + 0 ≤ _)⟩)
    dsimp only [Pt.U, Pt.locs, Pt.cells, Pt.slots] at X37 l37 y37 z37 st37 hQ37
    subst l37 y37 z37
    obtain ⟨rfl, N37q, K37, E37, Fl37, Fc37, Fp37⟩ := hQ37
    have N37 := Fr.app N36 N37q
    refine own_go (B := T37.setTop (mkF m 65 #[.val (.int p1), .val (.int p2), .val (.int p3), .val (.int p4), .val (.int p5), .val (.ref b26), .val (.int (0 : Int32)), .val (.ref b35), .unset] [])) (fun t kt => st37.trans kt) ?_
    have Zb : n0 ≤ T37.heap.size := Nat.le_trans Za K37.1
    have Vc := Vb.keep K37 (ninS hne nin0)
    obtain ⟨hh37, ehh37⟩ : ∃ z : Heap, z = T37.heap := ⟨_, rfl⟩
    rw [← ehh37] at Zb Vc Fl37 Fc37 Fp37 E37
    refine own_go (B := T37.setTop (mkF m 67 #[.val (.int p1), .val (.int p2), .val (.int p3), .val (.int p4), .val (.int p5), .val (.ref b26), .val (.int (0 : Int32)), .val (.ref b35), .unset] [(.ref b35)])) (fun t kt => ?_) ?_
    · show Steps p.tables e below (T37.setTop (mkF m 65 #[.val (.int p1), .val (.int p2), .val (.int p3), .val (.int p4), .val (.int p5), .val (.ref b26), .val (.int (0 : Int32)), .val (.ref b35), .unset] [])) _
      refine XS.aload X37.here hx rfl (hb hby at_65) rfl rfl ?_
      exact kt
    obtain ⟨cq38, kq38, q38a, q38b, q38c⟩ := isOf hZ ehh37.symm E37
    obtain ⟨_, _, ⟨T38, L38, k38, n38⟩, -, X38, ⟨Lc38, hQ38, l38, y38, z38⟩, st38⟩ := X37.virtualBack hx (y := (⟨"com/example/brokn/brokn/TextPosition", "line", "()I"⟩ : MethodName)) (z := (⟨"com/example/brokn/brokn/TextPosition", "line", "()I"⟩ : MethodName)) hown (mvT hZ (hw _ (List.mem_of_getElem? (i := 26) rfl))) (mvT hZ (hw _ (List.mem_of_getElem? (i := 27) rfl))) (notFace_of_selects (args := #[]) (mvT hZ (hw _ (List.mem_of_getElem? (i := 29) rfl)))) (mvT hZ (hw _ (List.mem_of_getElem? (i := 29) rfl))) (mvT hZ (hw _ (List.mem_of_getElem? (i := 28) rfl))) (by decide) (backOf (W := 0) (rm5 l Z a0 hw [] b35 (own_run ((1 : Int32), (0 : Int32), (0 : Int32)) []).1 hh37 n0 Zb Fl37) hZ (hw _ (List.mem_of_getElem? (i := 30) rfl)) (hw _ (List.mem_of_getElem? (i := 8) rfl)) (by decide) (by decide)) q38a q38c (g := (mkF m 67 #[.val (.int p1), .val (.int p2), .val (.int p3), .val (.int p4), .val (.int p5), .val (.ref b26), .val (.int (0 : Int32)), .val (.ref b35), .unset] [(.ref b35)])) rfl (by rw [hml]; rfl) (Steps.refl _) (argsL := []) (rest := []) (lenOf pd_5 rfl) rfl (by show 2 * 0 + _ ≤ _; exact Nat.le_of_eq rfl) (hb hby at_67) (fun _ _ => ⟨rfl, ehh37.symm, (by decide : ((((((((0 + 1) + 0) + 0) + 0) + 0) + 1) + 0) + 0) + 0 ≤ _), (by decide : ((((((((0 + 4) + 0) + 0) + 0) + 0) + 3) + 0) + 0) + 0 ≤ _)⟩)
    dsimp only [Pt.U, Pt.locs, Pt.cells, Pt.slots] at X38 l38 y38 z38 st38 hQ38
    subst l38 y38 z38
    obtain ⟨rfl, N38q, e38⟩ := hQ38
    have N38 := Fr.app N37 N38q
    refine own_go (B := T38.setTop (mkF m 70 #[.val (.int p1), .val (.int p2), .val (.int p3), .val (.int p4), .val (.int p5), .val (.ref b26), .val (.int (0 : Int32)), .val (.ref b35), .unset] [(.int (own_run ((1 : Int32), (0 : Int32), (0 : Int32)) []).1)])) (fun t kt => st38.trans kt) ?_
    refine own_go (B := T38.setTop (mkF m 74 #[.val (.int p1), .val (.int p2), .val (.int p3), .val (.int p4), .val (.int p5), .val (.ref b26), .val (.int (0 : Int32)), .val (.ref b35), .unset] [(.int (0 : Int32)), (.ref b26), (.int (own_run ((1 : Int32), (0 : Int32), (0 : Int32)) []).1)])) (fun t kt => ?_) ?_
    · show Steps p.tables e below (T38.setTop (mkF m 70 #[.val (.int p1), .val (.int p2), .val (.int p3), .val (.int p4), .val (.int p5), .val (.ref b26), .val (.int (0 : Int32)), .val (.ref b35), .unset] [(.int (own_run ((1 : Int32), (0 : Int32), (0 : Int32)) []).1)])) _
      refine XS.aload X38.here hx rfl (hb hby at_70) rfl rfl ?_
      show Steps p.tables e below (T38.setTop (mkF m 72 #[.val (.int p1), .val (.int p2), .val (.int p3), .val (.int p4), .val (.int p5), .val (.ref b26), .val (.int (0 : Int32)), .val (.ref b35), .unset] [(.ref b26), (.int (own_run ((1 : Int32), (0 : Int32), (0 : Int32)) []).1)])) _
      refine XS.iload X38.here hx rfl (hb hby at_72) rfl ?_
      exact kt
    obtain ⟨_, _, ⟨T39, L39, k39, n39⟩, -, X39, ⟨Lc39, hQ39, l39, y39, z39⟩, st39⟩ := Jvm.LawKit.callS X38 hx (y := (⟨"com/example/brokn/brokn/TextPositionAdvancePinLaw", "lines", "([CI)I"⟩ : MethodName)) hown (mvT hZ (hw _ (List.mem_of_getElem? (i := 31) rfl))) (mvT hZ (hw _ (List.mem_of_getElem? (i := 32) rfl))) (mvT hZ (hw _ (List.mem_of_getElem? (i := 3) rfl))) (mvT hZ (hw _ (List.mem_of_getElem? (i := 33) rfl))) (by decide) (backOf (W := 1) (rm6 l Z a0 hw [] b26 (0 : Int32) k26 y0 y1 y2 y3 hh37 n0 Zb Vc) hZ (hw _ (List.mem_of_getElem? (i := 33) rfl)) (hw _ (List.mem_of_getElem? (i := 3) rfl)) (by decide) (by decide)) (g := (mkF m 74 #[.val (.int p1), .val (.int p2), .val (.int p3), .val (.int p4), .val (.int p5), .val (.ref b26), .val (.int (0 : Int32)), .val (.ref b35), .unset] [(.int (0 : Int32)), (.ref b26), (.int (own_run ((1 : Int32), (0 : Int32), (0 : Int32)) []).1)])) rfl (by rw [hml]; rfl) (argsL := [(.ref b26), (.int (0 : Int32))]) (rest := [(.int (own_run ((1 : Int32), (0 : Int32), (0 : Int32)) []).1)]) (lenOf pd_6 rfl) rfl (by show 2 * 0 + _ ≤ _; exact Nat.le_of_eq rfl) (hb hby at_74) (fun _ _ => ⟨rfl, e38, (by decide : (((((((((0 + 1) + 0) + 0) + 0) + 0) + 1) + 0) + 0) + 0) + 0 ≤ _), (by decide : (((((((((0 + 4) + 0) + 0) + 0) + 0) + 3) + 0) + 0) + 0) + 0 ≤ _)⟩)
    dsimp only [Pt.U, Pt.locs, Pt.cells, Pt.slots] at X39 l39 y39 z39 st39 hQ39
    subst l39 y39 z39
    obtain ⟨rfl, N39q, e39⟩ := hQ39
    have N39 := Fr.app N38 N39q
    refine own_go (B := T39.setTop (mkF m 77 #[.val (.int p1), .val (.int p2), .val (.int p3), .val (.int p4), .val (.int p5), .val (.ref b26), .val (.int (0 : Int32)), .val (.ref b35), .unset] [(.int (own_lines (0 : Int32) y0 y1 y2 y3)), (.int (own_run ((1 : Int32), (0 : Int32), (0 : Int32)) []).1)])) (fun t kt => st39 t kt) ?_
    refine own_go (B := T39.setTop (mkF m 82 #[.val (.int p1), .val (.int p2), .val (.int p3), .val (.int p4), .val (.int p5), .val (.ref b26), .val (.int (0 : Int32)), .val (.ref b35), .unset] [(.ref b35)])) (fun t kt => ?_) ?_
    · show Steps p.tables e below (T39.setTop (mkF m 77 #[.val (.int p1), .val (.int p2), .val (.int p3), .val (.int p4), .val (.int p5), .val (.ref b26), .val (.int (0 : Int32)), .val (.ref b35), .unset] [(.int (own_lines (0 : Int32) y0 y1 y2 y3)), (.int (own_run ((1 : Int32), (0 : Int32), (0 : Int32)) []).1)])) _
      refine XS.icmpNo X39.here hx rfl (hb hby at_77) rfl (teq (own_A0 y0 y1 y2 y3)).2 ?_
      show Steps p.tables e below (T39.setTop (mkF m 80 #[.val (.int p1), .val (.int p2), .val (.int p3), .val (.int p4), .val (.int p5), .val (.ref b26), .val (.int (0 : Int32)), .val (.ref b35), .unset] [])) _
      refine XS.aload X39.here hx rfl (hb hby at_80) rfl rfl ?_
      exact kt
    obtain ⟨cq40, kq40, q40a, q40b, q40c⟩ := isOf hZ e39 E37
    obtain ⟨_, _, ⟨T40, L40, k40, n40⟩, -, X40, ⟨Lc40, hQ40, l40, y40, z40⟩, st40⟩ := X39.virtualBack hx (y := (⟨"com/example/brokn/brokn/TextPosition", "column", "()I"⟩ : MethodName)) (z := (⟨"com/example/brokn/brokn/TextPosition", "column", "()I"⟩ : MethodName)) hown (mvT hZ (hw _ (List.mem_of_getElem? (i := 43) rfl))) (mvT hZ (hw _ (List.mem_of_getElem? (i := 44) rfl))) (notFace_of_selects (args := #[]) (mvT hZ (hw _ (List.mem_of_getElem? (i := 46) rfl)))) (mvT hZ (hw _ (List.mem_of_getElem? (i := 46) rfl))) (mvT hZ (hw _ (List.mem_of_getElem? (i := 45) rfl))) (by decide) (backOf (W := 0) (rm10 l Z a0 hw [] b35 (own_run ((1 : Int32), (0 : Int32), (0 : Int32)) []).2.1 hh37 n0 Zb Fc37) hZ (hw _ (List.mem_of_getElem? (i := 47) rfl)) (hw _ (List.mem_of_getElem? (i := 8) rfl)) (by decide) (by decide)) q40a q40c (g := (mkF m 82 #[.val (.int p1), .val (.int p2), .val (.int p3), .val (.int p4), .val (.int p5), .val (.ref b26), .val (.int (0 : Int32)), .val (.ref b35), .unset] [(.ref b35)])) rfl (by rw [hml]; rfl) (Steps.refl _) (argsL := []) (rest := []) (lenOf pd_5 rfl) rfl (by show 2 * 0 + _ ≤ _; exact Nat.le_of_eq rfl) (hb hby at_82) (fun _ _ => ⟨rfl, e39, (by decide : ((((((((((0 + 1) + 0) + 0) + 0) + 0) + 1) + 0) + 0) + 0) + 0) + 0 ≤ _), (by decide : ((((((((((0 + 4) + 0) + 0) + 0) + 0) + 3) + 0) + 0) + 0) + 0) + 0 ≤ _)⟩)
    dsimp only [Pt.U, Pt.locs, Pt.cells, Pt.slots] at X40 l40 y40 z40 st40 hQ40
    subst l40 y40 z40
    obtain ⟨rfl, N40q, e40⟩ := hQ40
    have N40 := Fr.app N39 N40q
    refine own_go (B := T40.setTop (mkF m 85 #[.val (.int p1), .val (.int p2), .val (.int p3), .val (.int p4), .val (.int p5), .val (.ref b26), .val (.int (0 : Int32)), .val (.ref b35), .unset] [(.int (own_run ((1 : Int32), (0 : Int32), (0 : Int32)) []).2.1)])) (fun t kt => st40.trans kt) ?_
    refine own_go (B := T40.setTop (mkF m 89 #[.val (.int p1), .val (.int p2), .val (.int p3), .val (.int p4), .val (.int p5), .val (.ref b26), .val (.int (0 : Int32)), .val (.ref b35), .unset] [(.int (0 : Int32)), (.ref b26), (.int (own_run ((1 : Int32), (0 : Int32), (0 : Int32)) []).2.1)])) (fun t kt => ?_) ?_
    · show Steps p.tables e below (T40.setTop (mkF m 85 #[.val (.int p1), .val (.int p2), .val (.int p3), .val (.int p4), .val (.int p5), .val (.ref b26), .val (.int (0 : Int32)), .val (.ref b35), .unset] [(.int (own_run ((1 : Int32), (0 : Int32), (0 : Int32)) []).2.1)])) _
      refine XS.aload X40.here hx rfl (hb hby at_85) rfl rfl ?_
      show Steps p.tables e below (T40.setTop (mkF m 87 #[.val (.int p1), .val (.int p2), .val (.int p3), .val (.int p4), .val (.int p5), .val (.ref b26), .val (.int (0 : Int32)), .val (.ref b35), .unset] [(.ref b26), (.int (own_run ((1 : Int32), (0 : Int32), (0 : Int32)) []).2.1)])) _
      refine XS.iload X40.here hx rfl (hb hby at_87) rfl ?_
      exact kt
    obtain ⟨_, _, ⟨T41, L41, k41, n41⟩, -, X41, ⟨Lc41, hQ41, l41, y41, z41⟩, st41⟩ := Jvm.LawKit.callS X40 hx (y := (⟨"com/example/brokn/brokn/TextPositionAdvancePinLaw", "column", "([CI)I"⟩ : MethodName)) hown (mvT hZ (hw _ (List.mem_of_getElem? (i := 48) rfl))) (mvT hZ (hw _ (List.mem_of_getElem? (i := 49) rfl))) (mvT hZ (hw _ (List.mem_of_getElem? (i := 3) rfl))) (mvT hZ (hw _ (List.mem_of_getElem? (i := 50) rfl))) (by decide) (backOf (W := 1) (rm11 l Z a0 hw [] b26 (0 : Int32) k26 y0 y1 y2 y3 hh37 n0 Zb Vc) hZ (hw _ (List.mem_of_getElem? (i := 50) rfl)) (hw _ (List.mem_of_getElem? (i := 3) rfl)) (by decide) (by decide)) (g := (mkF m 89 #[.val (.int p1), .val (.int p2), .val (.int p3), .val (.int p4), .val (.int p5), .val (.ref b26), .val (.int (0 : Int32)), .val (.ref b35), .unset] [(.int (0 : Int32)), (.ref b26), (.int (own_run ((1 : Int32), (0 : Int32), (0 : Int32)) []).2.1)])) rfl (by rw [hml]; rfl) (argsL := [(.ref b26), (.int (0 : Int32))]) (rest := [(.int (own_run ((1 : Int32), (0 : Int32), (0 : Int32)) []).2.1)]) (lenOf pd_6 rfl) rfl (by show 2 * 0 + _ ≤ _; exact Nat.le_of_eq rfl) (hb hby at_89) (fun _ _ => ⟨rfl, e40, (by decide : (((((((((((0 + 1) + 0) + 0) + 0) + 0) + 1) + 0) + 0) + 0) + 0) + 0) + 0 ≤ _), (by decide : (((((((((((0 + 4) + 0) + 0) + 0) + 0) + 3) + 0) + 0) + 0) + 0) + 0) + 0 ≤ _)⟩)
    dsimp only [Pt.U, Pt.locs, Pt.cells, Pt.slots] at X41 l41 y41 z41 st41 hQ41
    subst l41 y41 z41
    obtain ⟨rfl, N41q, e41⟩ := hQ41
    have N41 := Fr.app N40 N41q
    refine own_go (B := T41.setTop (mkF m 92 #[.val (.int p1), .val (.int p2), .val (.int p3), .val (.int p4), .val (.int p5), .val (.ref b26), .val (.int (0 : Int32)), .val (.ref b35), .unset] [(.int (own_col (0 : Int32) y0 y1 y2 y3)), (.int (own_run ((1 : Int32), (0 : Int32), (0 : Int32)) []).2.1)])) (fun t kt => st41 t kt) ?_
    refine own_go (B := T41.setTop (mkF m 109 #[.val (.int p1), .val (.int p2), .val (.int p3), .val (.int p4), .val (.int p5), .val (.ref b26), .val (.int (0 : Int32)), .val (.ref b35), .val (.int (1 : Int32))] [(.int (4 : Int32)), (.int (0 : Int32)), (.ref b26), (.ref b35)])) (fun t kt => ?_) ?_
    · show Steps p.tables e below (T41.setTop (mkF m 92 #[.val (.int p1), .val (.int p2), .val (.int p3), .val (.int p4), .val (.int p5), .val (.ref b26), .val (.int (0 : Int32)), .val (.ref b35), .unset] [(.int (own_col (0 : Int32) y0 y1 y2 y3)), (.int (own_run ((1 : Int32), (0 : Int32), (0 : Int32)) []).2.1)])) _
      refine XS.icmpNo X41.here hx rfl (hb hby at_92) rfl (teq (own_B0 y0 y1 y2 y3)).2 ?_
      show Steps p.tables e below (T41.setTop (mkF m 95 #[.val (.int p1), .val (.int p2), .val (.int p3), .val (.int p4), .val (.int p5), .val (.ref b26), .val (.int (0 : Int32)), .val (.ref b35), .unset] [])) _
      refine XS.iconst X41.here hx rfl (hb hby at_95) ?_
      show Steps p.tables e below (T41.setTop (mkF m 96 #[.val (.int p1), .val (.int p2), .val (.int p3), .val (.int p4), .val (.int p5), .val (.ref b26), .val (.int (0 : Int32)), .val (.ref b35), .unset] [(.int (1 : Int32))])) _
      refine XS.goto X41.here hx rfl (pc0 := 96) (pc' := 100) rfl (hb hby at_96) (by decide) (by decide) ?_
      show Steps p.tables e below (T41.setTop (mkF m 100 #[.val (.int p1), .val (.int p2), .val (.int p3), .val (.int p4), .val (.int p5), .val (.ref b26), .val (.int (0 : Int32)), .val (.ref b35), .unset] [(.int (1 : Int32))])) _
      refine XS.istore X41.here hx rfl (hb hby at_100) rfl (l' := #[.val (.int p1), .val (.int p2), .val (.int p3), .val (.int p4), .val (.int p5), .val (.ref b26), .val (.int (0 : Int32)), .val (.ref b35), .val (.int (1 : Int32))]) rfl ?_
      show Steps p.tables e below (T41.setTop (mkF m 102 #[.val (.int p1), .val (.int p2), .val (.int p3), .val (.int p4), .val (.int p5), .val (.ref b26), .val (.int (0 : Int32)), .val (.ref b35), .val (.int (1 : Int32))] [])) _
      refine XS.aload X41.here hx rfl (hb hby at_102) rfl rfl ?_
      show Steps p.tables e below (T41.setTop (mkF m 104 #[.val (.int p1), .val (.int p2), .val (.int p3), .val (.int p4), .val (.int p5), .val (.ref b26), .val (.int (0 : Int32)), .val (.ref b35), .val (.int (1 : Int32))] [(.ref b35)])) _
      refine XS.aload X41.here hx rfl (hb hby at_104) rfl rfl ?_
      show Steps p.tables e below (T41.setTop (mkF m 106 #[.val (.int p1), .val (.int p2), .val (.int p3), .val (.int p4), .val (.int p5), .val (.ref b26), .val (.int (0 : Int32)), .val (.ref b35), .val (.int (1 : Int32))] [(.ref b26), (.ref b35)])) _
      refine XS.iload X41.here hx rfl (hb hby at_106) rfl ?_
      show Steps p.tables e below (T41.setTop (mkF m 108 #[.val (.int p1), .val (.int p2), .val (.int p3), .val (.int p4), .val (.int p5), .val (.ref b26), .val (.int (0 : Int32)), .val (.ref b35), .val (.int (1 : Int32))] [(.int (0 : Int32)), (.ref b26), (.ref b35)])) _
      refine XS.iconst X41.here hx rfl (hb hby at_108) ?_
      exact kt
    obtain ⟨cq42, kq42, q42a, q42b, q42c⟩ := isOf hZ e41 E37
    obtain ⟨_, _, ⟨T42, L42, k42, n42⟩, -, X42, ⟨Lc42, hQ42, l42, y42, z42⟩, st42⟩ := X41.virtualBack hx (y := (⟨"com/example/brokn/brokn/TextPosition", "advance", "([CII)V"⟩ : MethodName)) (z := (⟨"com/example/brokn/brokn/TextPosition", "advance", "([CII)V"⟩ : MethodName)) hown (mvT hZ (hw _ (List.mem_of_getElem? (i := 17) rfl))) (mvT hZ (hw _ (List.mem_of_getElem? (i := 18) rfl))) (notFace_of_selects (args := #[]) (mvT hZ (hw _ (List.mem_of_getElem? (i := 20) rfl)))) (mvT hZ (hw _ (List.mem_of_getElem? (i := 20) rfl))) (mvT hZ (hw _ (List.mem_of_getElem? (i := 19) rfl))) (by decide) (backOf (W := 0) (rm4 l Z a0 hw [] b35 b26 (0 : Int32) (4 : Int32) (own_run ((1 : Int32), (0 : Int32), (0 : Int32)) []).1 (own_run ((1 : Int32), (0 : Int32), (0 : Int32)) []).2.1 (own_run ((1 : Int32), (0 : Int32), (0 : Int32)) []).2.2 [y0, y1, y2, y3] hh37 n0 Zb 0 4 (by decide) rfl rfl rfl Fl37 Fc37 Fp37 E37 go k26 [(.int y0), (.int y1), (.int y2), (.int y3)] Vc (own_in0_4 y0 y1 y2 y3) hy3) hZ (hw _ (List.mem_of_getElem? (i := 21) rfl)) (hw _ (List.mem_of_getElem? (i := 8) rfl)) (by decide) (by decide)) q42a q42c (g := (mkF m 109 #[.val (.int p1), .val (.int p2), .val (.int p3), .val (.int p4), .val (.int p5), .val (.ref b26), .val (.int (0 : Int32)), .val (.ref b35), .val (.int (1 : Int32))] [(.int (4 : Int32)), (.int (0 : Int32)), (.ref b26), (.ref b35)])) rfl (by rw [hml]; rfl) (Steps.refl _) (argsL := [(.ref b26), (.int (0 : Int32)), (.int (4 : Int32))]) (rest := []) (lenOf pd_4 rfl) rfl (by show 2 * 0 + _ ≤ _; exact Nat.le_of_eq rfl) (hb hby at_109) (fun _ _ => ⟨rfl, e41, (by decide : ((((((((((((0 + 1) + 0) + 0) + 0) + 0) + 1) + 0) + 0) + 0) + 0) + 0) + 0) + 0 ≤ _), (by decide : ((((((((((((0 + 4) + 0) + 0) + 0) + 0) + 3) + 0) + 0) + 0) + 0) + 0) + 0) + 0 ≤ _)⟩)
    dsimp only [Pt.U, Pt.locs, Pt.cells, Pt.slots] at X42 l42 y42 z42 st42 hQ42
    subst l42 y42 z42
    obtain ⟨rfl, N42q, K42, E42, Fl42, Fc42, Fp42⟩ := hQ42
    have N42 := Fr.app N41 N42q
    refine own_go (B := T42.setTop (mkF m 112 #[.val (.int p1), .val (.int p2), .val (.int p3), .val (.int p4), .val (.int p5), .val (.ref b26), .val (.int (0 : Int32)), .val (.ref b35), .val (.int (1 : Int32))] [])) (fun t kt => st42.trans kt) ?_
    have Zd : n0 ≤ T42.heap.size := Nat.le_trans Zb K42.1
    have Vd := Vc.keep K42 (ninS hne nin0)
    obtain ⟨hh42, ehh42⟩ : ∃ z : Heap, z = T42.heap := ⟨_, rfl⟩
    rw [← ehh42] at Zd Vd Fl42 Fc42 Fp42 E42
    refine own_go (B := T42.setTop (mkF m 119 #[.val (.int p1), .val (.int p2), .val (.int p3), .val (.int p4), .val (.int p5), .val (.ref b26), .val (.int (0 : Int32)), .val (.ref b35), .val (.int (1 : Int32))] [(.ref b35)])) (fun t kt => ?_) ?_
    · show Steps p.tables e below (T42.setTop (mkF m 112 #[.val (.int p1), .val (.int p2), .val (.int p3), .val (.int p4), .val (.int p5), .val (.ref b26), .val (.int (0 : Int32)), .val (.ref b35), .val (.int (1 : Int32))] [])) _
      refine XS.iload X42.here hx rfl (hb hby at_112) rfl ?_
      show Steps p.tables e below (T42.setTop (mkF m 114 #[.val (.int p1), .val (.int p2), .val (.int p3), .val (.int p4), .val (.int p5), .val (.ref b26), .val (.int (0 : Int32)), .val (.ref b35), .val (.int (1 : Int32))] [(.int (1 : Int32))])) _
      refine XS.ifNo X42.here hx rfl (hb hby at_114) rfl ((if0 _ _).trans (feq (by decide)).1) ?_
      show Steps p.tables e below (T42.setTop (mkF m 117 #[.val (.int p1), .val (.int p2), .val (.int p3), .val (.int p4), .val (.int p5), .val (.ref b26), .val (.int (0 : Int32)), .val (.ref b35), .val (.int (1 : Int32))] [])) _
      refine XS.aload X42.here hx rfl (hb hby at_117) rfl rfl ?_
      exact kt
    obtain ⟨cq43, kq43, q43a, q43b, q43c⟩ := isOf hZ ehh42.symm E42
    obtain ⟨_, _, ⟨T43, L43, k43, n43⟩, -, X43, ⟨Lc43, hQ43, l43, y43, z43⟩, st43⟩ := X42.virtualBack hx (y := (⟨"com/example/brokn/brokn/TextPosition", "line", "()I"⟩ : MethodName)) (z := (⟨"com/example/brokn/brokn/TextPosition", "line", "()I"⟩ : MethodName)) hown (mvT hZ (hw _ (List.mem_of_getElem? (i := 26) rfl))) (mvT hZ (hw _ (List.mem_of_getElem? (i := 27) rfl))) (notFace_of_selects (args := #[]) (mvT hZ (hw _ (List.mem_of_getElem? (i := 29) rfl)))) (mvT hZ (hw _ (List.mem_of_getElem? (i := 29) rfl))) (mvT hZ (hw _ (List.mem_of_getElem? (i := 28) rfl))) (by decide) (backOf (W := 0) (rm5 l Z a0 hw [] b35 (own_run ((own_run ((1 : Int32), (0 : Int32), (0 : Int32)) []).1, (own_run ((1 : Int32), (0 : Int32), (0 : Int32)) []).2.1, (own_run ((1 : Int32), (0 : Int32), (0 : Int32)) []).2.2) [y0, y1, y2, y3]).1 hh42 n0 Zd Fl42) hZ (hw _ (List.mem_of_getElem? (i := 30) rfl)) (hw _ (List.mem_of_getElem? (i := 8) rfl)) (by decide) (by decide)) q43a q43c (g := (mkF m 119 #[.val (.int p1), .val (.int p2), .val (.int p3), .val (.int p4), .val (.int p5), .val (.ref b26), .val (.int (0 : Int32)), .val (.ref b35), .val (.int (1 : Int32))] [(.ref b35)])) rfl (by rw [hml]; rfl) (Steps.refl _) (argsL := []) (rest := []) (lenOf pd_5 rfl) rfl (by show 2 * 0 + _ ≤ _; exact Nat.le_of_eq rfl) (hb hby at_119) (fun _ _ => ⟨rfl, ehh42.symm, (by decide : (((((((((((((0 + 1) + 0) + 0) + 0) + 0) + 1) + 0) + 0) + 0) + 0) + 0) + 0) + 0) + 0 ≤ _), (by decide : (((((((((((((0 + 4) + 0) + 0) + 0) + 0) + 3) + 0) + 0) + 0) + 0) + 0) + 0) + 0) + 0 ≤ _)⟩)
    dsimp only [Pt.U, Pt.locs, Pt.cells, Pt.slots] at X43 l43 y43 z43 st43 hQ43
    subst l43 y43 z43
    obtain ⟨rfl, N43q, e43⟩ := hQ43
    have N43 := Fr.app N42 N43q
    refine own_go (B := T43.setTop (mkF m 122 #[.val (.int p1), .val (.int p2), .val (.int p3), .val (.int p4), .val (.int p5), .val (.ref b26), .val (.int (0 : Int32)), .val (.ref b35), .val (.int (1 : Int32))] [(.int (own_run ((own_run ((1 : Int32), (0 : Int32), (0 : Int32)) []).1, (own_run ((1 : Int32), (0 : Int32), (0 : Int32)) []).2.1, (own_run ((1 : Int32), (0 : Int32), (0 : Int32)) []).2.2) [y0, y1, y2, y3]).1)])) (fun t kt => st43.trans kt) ?_
    refine own_go (B := T43.setTop (mkF m 125 #[.val (.int p1), .val (.int p2), .val (.int p3), .val (.int p4), .val (.int p5), .val (.ref b26), .val (.int (0 : Int32)), .val (.ref b35), .val (.int (1 : Int32))] [(.int (4 : Int32)), (.ref b26), (.int (own_run ((own_run ((1 : Int32), (0 : Int32), (0 : Int32)) []).1, (own_run ((1 : Int32), (0 : Int32), (0 : Int32)) []).2.1, (own_run ((1 : Int32), (0 : Int32), (0 : Int32)) []).2.2) [y0, y1, y2, y3]).1)])) (fun t kt => ?_) ?_
    · show Steps p.tables e below (T43.setTop (mkF m 122 #[.val (.int p1), .val (.int p2), .val (.int p3), .val (.int p4), .val (.int p5), .val (.ref b26), .val (.int (0 : Int32)), .val (.ref b35), .val (.int (1 : Int32))] [(.int (own_run ((own_run ((1 : Int32), (0 : Int32), (0 : Int32)) []).1, (own_run ((1 : Int32), (0 : Int32), (0 : Int32)) []).2.1, (own_run ((1 : Int32), (0 : Int32), (0 : Int32)) []).2.2) [y0, y1, y2, y3]).1)])) _
      refine XS.aload X43.here hx rfl (hb hby at_122) rfl rfl ?_
      show Steps p.tables e below (T43.setTop (mkF m 124 #[.val (.int p1), .val (.int p2), .val (.int p3), .val (.int p4), .val (.int p5), .val (.ref b26), .val (.int (0 : Int32)), .val (.ref b35), .val (.int (1 : Int32))] [(.ref b26), (.int (own_run ((own_run ((1 : Int32), (0 : Int32), (0 : Int32)) []).1, (own_run ((1 : Int32), (0 : Int32), (0 : Int32)) []).2.1, (own_run ((1 : Int32), (0 : Int32), (0 : Int32)) []).2.2) [y0, y1, y2, y3]).1)])) _
      refine XS.iconst X43.here hx rfl (hb hby at_124) ?_
      exact kt
    obtain ⟨_, _, ⟨T44, L44, k44, n44⟩, -, X44, ⟨Lc44, hQ44, l44, y44, z44⟩, st44⟩ := Jvm.LawKit.callS X43 hx (y := (⟨"com/example/brokn/brokn/TextPositionAdvancePinLaw", "lines", "([CI)I"⟩ : MethodName)) hown (mvT hZ (hw _ (List.mem_of_getElem? (i := 31) rfl))) (mvT hZ (hw _ (List.mem_of_getElem? (i := 32) rfl))) (mvT hZ (hw _ (List.mem_of_getElem? (i := 3) rfl))) (mvT hZ (hw _ (List.mem_of_getElem? (i := 33) rfl))) (by decide) (backOf (W := 1) (rm6 l Z a0 hw [] b26 (4 : Int32) k26 y0 y1 y2 y3 hh42 n0 Zd Vd) hZ (hw _ (List.mem_of_getElem? (i := 33) rfl)) (hw _ (List.mem_of_getElem? (i := 3) rfl)) (by decide) (by decide)) (g := (mkF m 125 #[.val (.int p1), .val (.int p2), .val (.int p3), .val (.int p4), .val (.int p5), .val (.ref b26), .val (.int (0 : Int32)), .val (.ref b35), .val (.int (1 : Int32))] [(.int (4 : Int32)), (.ref b26), (.int (own_run ((own_run ((1 : Int32), (0 : Int32), (0 : Int32)) []).1, (own_run ((1 : Int32), (0 : Int32), (0 : Int32)) []).2.1, (own_run ((1 : Int32), (0 : Int32), (0 : Int32)) []).2.2) [y0, y1, y2, y3]).1)])) rfl (by rw [hml]; rfl) (argsL := [(.ref b26), (.int (4 : Int32))]) (rest := [(.int (own_run ((own_run ((1 : Int32), (0 : Int32), (0 : Int32)) []).1, (own_run ((1 : Int32), (0 : Int32), (0 : Int32)) []).2.1, (own_run ((1 : Int32), (0 : Int32), (0 : Int32)) []).2.2) [y0, y1, y2, y3]).1)]) (lenOf pd_6 rfl) rfl (by show 2 * 0 + _ ≤ _; exact Nat.le_of_eq rfl) (hb hby at_125) (fun _ _ => ⟨rfl, e43, (by decide : ((((((((((((((0 + 1) + 0) + 0) + 0) + 0) + 1) + 0) + 0) + 0) + 0) + 0) + 0) + 0) + 0) + 0 ≤ _), (by decide : ((((((((((((((0 + 4) + 0) + 0) + 0) + 0) + 3) + 0) + 0) + 0) + 0) + 0) + 0) + 0) + 0) + 0 ≤ _)⟩)
    dsimp only [Pt.U, Pt.locs, Pt.cells, Pt.slots] at X44 l44 y44 z44 st44 hQ44
    subst l44 y44 z44
    obtain ⟨rfl, N44q, e44⟩ := hQ44
    have N44 := Fr.app N43 N44q
    refine own_go (B := T44.setTop (mkF m 128 #[.val (.int p1), .val (.int p2), .val (.int p3), .val (.int p4), .val (.int p5), .val (.ref b26), .val (.int (0 : Int32)), .val (.ref b35), .val (.int (1 : Int32))] [(.int (own_lines (4 : Int32) y0 y1 y2 y3)), (.int (own_run ((own_run ((1 : Int32), (0 : Int32), (0 : Int32)) []).1, (own_run ((1 : Int32), (0 : Int32), (0 : Int32)) []).2.1, (own_run ((1 : Int32), (0 : Int32), (0 : Int32)) []).2.2) [y0, y1, y2, y3]).1)])) (fun t kt => st44 t kt) ?_
    refine own_go (B := T44.setTop (mkF m 133 #[.val (.int p1), .val (.int p2), .val (.int p3), .val (.int p4), .val (.int p5), .val (.ref b26), .val (.int (0 : Int32)), .val (.ref b35), .val (.int (1 : Int32))] [(.ref b35)])) (fun t kt => ?_) ?_
    · show Steps p.tables e below (T44.setTop (mkF m 128 #[.val (.int p1), .val (.int p2), .val (.int p3), .val (.int p4), .val (.int p5), .val (.ref b26), .val (.int (0 : Int32)), .val (.ref b35), .val (.int (1 : Int32))] [(.int (own_lines (4 : Int32) y0 y1 y2 y3)), (.int (own_run ((own_run ((1 : Int32), (0 : Int32), (0 : Int32)) []).1, (own_run ((1 : Int32), (0 : Int32), (0 : Int32)) []).2.1, (own_run ((1 : Int32), (0 : Int32), (0 : Int32)) []).2.2) [y0, y1, y2, y3]).1)])) _
      refine XS.icmpNo X44.here hx rfl (hb hby at_128) rfl (teq (own_A4 y0 y1 y2 y3)).2 ?_
      show Steps p.tables e below (T44.setTop (mkF m 131 #[.val (.int p1), .val (.int p2), .val (.int p3), .val (.int p4), .val (.int p5), .val (.ref b26), .val (.int (0 : Int32)), .val (.ref b35), .val (.int (1 : Int32))] [])) _
      refine XS.aload X44.here hx rfl (hb hby at_131) rfl rfl ?_
      exact kt
    obtain ⟨cq45, kq45, q45a, q45b, q45c⟩ := isOf hZ e44 E42
    obtain ⟨_, _, ⟨T45, L45, k45, n45⟩, -, X45, ⟨Lc45, hQ45, l45, y45, z45⟩, st45⟩ := X44.virtualBack hx (y := (⟨"com/example/brokn/brokn/TextPosition", "column", "()I"⟩ : MethodName)) (z := (⟨"com/example/brokn/brokn/TextPosition", "column", "()I"⟩ : MethodName)) hown (mvT hZ (hw _ (List.mem_of_getElem? (i := 43) rfl))) (mvT hZ (hw _ (List.mem_of_getElem? (i := 44) rfl))) (notFace_of_selects (args := #[]) (mvT hZ (hw _ (List.mem_of_getElem? (i := 46) rfl)))) (mvT hZ (hw _ (List.mem_of_getElem? (i := 46) rfl))) (mvT hZ (hw _ (List.mem_of_getElem? (i := 45) rfl))) (by decide) (backOf (W := 0) (rm10 l Z a0 hw [] b35 (own_run ((own_run ((1 : Int32), (0 : Int32), (0 : Int32)) []).1, (own_run ((1 : Int32), (0 : Int32), (0 : Int32)) []).2.1, (own_run ((1 : Int32), (0 : Int32), (0 : Int32)) []).2.2) [y0, y1, y2, y3]).2.1 hh42 n0 Zd Fc42) hZ (hw _ (List.mem_of_getElem? (i := 47) rfl)) (hw _ (List.mem_of_getElem? (i := 8) rfl)) (by decide) (by decide)) q45a q45c (g := (mkF m 133 #[.val (.int p1), .val (.int p2), .val (.int p3), .val (.int p4), .val (.int p5), .val (.ref b26), .val (.int (0 : Int32)), .val (.ref b35), .val (.int (1 : Int32))] [(.ref b35)])) rfl (by rw [hml]; rfl) (Steps.refl _) (argsL := []) (rest := []) (lenOf pd_5 rfl) rfl (by show 2 * 0 + _ ≤ _; exact Nat.le_of_eq rfl) (hb hby at_133) (fun _ _ => ⟨rfl, e44, (by decide : (((((((((((((((0 + 1) + 0) + 0) + 0) + 0) + 1) + 0) + 0) + 0) + 0) + 0) + 0) + 0) + 0) + 0) + 0 ≤ _), (by decide : (((((((((((((((0 + 4) + 0) + 0) + 0) + 0) + 3) + 0) + 0) + 0) + 0) + 0) + 0) + 0) + 0) + 0) + 0 ≤ _)⟩)
    dsimp only [Pt.U, Pt.locs, Pt.cells, Pt.slots] at X45 l45 y45 z45 st45 hQ45
    subst l45 y45 z45
    obtain ⟨rfl, N45q, e45⟩ := hQ45
    have N45 := Fr.app N44 N45q
    refine own_go (B := T45.setTop (mkF m 136 #[.val (.int p1), .val (.int p2), .val (.int p3), .val (.int p4), .val (.int p5), .val (.ref b26), .val (.int (0 : Int32)), .val (.ref b35), .val (.int (1 : Int32))] [(.int (own_run ((own_run ((1 : Int32), (0 : Int32), (0 : Int32)) []).1, (own_run ((1 : Int32), (0 : Int32), (0 : Int32)) []).2.1, (own_run ((1 : Int32), (0 : Int32), (0 : Int32)) []).2.2) [y0, y1, y2, y3]).2.1)])) (fun t kt => st45.trans kt) ?_
    refine own_go (B := T45.setTop (mkF m 139 #[.val (.int p1), .val (.int p2), .val (.int p3), .val (.int p4), .val (.int p5), .val (.ref b26), .val (.int (0 : Int32)), .val (.ref b35), .val (.int (1 : Int32))] [(.int (4 : Int32)), (.ref b26), (.int (own_run ((own_run ((1 : Int32), (0 : Int32), (0 : Int32)) []).1, (own_run ((1 : Int32), (0 : Int32), (0 : Int32)) []).2.1, (own_run ((1 : Int32), (0 : Int32), (0 : Int32)) []).2.2) [y0, y1, y2, y3]).2.1)])) (fun t kt => ?_) ?_
    · show Steps p.tables e below (T45.setTop (mkF m 136 #[.val (.int p1), .val (.int p2), .val (.int p3), .val (.int p4), .val (.int p5), .val (.ref b26), .val (.int (0 : Int32)), .val (.ref b35), .val (.int (1 : Int32))] [(.int (own_run ((own_run ((1 : Int32), (0 : Int32), (0 : Int32)) []).1, (own_run ((1 : Int32), (0 : Int32), (0 : Int32)) []).2.1, (own_run ((1 : Int32), (0 : Int32), (0 : Int32)) []).2.2) [y0, y1, y2, y3]).2.1)])) _
      refine XS.aload X45.here hx rfl (hb hby at_136) rfl rfl ?_
      show Steps p.tables e below (T45.setTop (mkF m 138 #[.val (.int p1), .val (.int p2), .val (.int p3), .val (.int p4), .val (.int p5), .val (.ref b26), .val (.int (0 : Int32)), .val (.ref b35), .val (.int (1 : Int32))] [(.ref b26), (.int (own_run ((own_run ((1 : Int32), (0 : Int32), (0 : Int32)) []).1, (own_run ((1 : Int32), (0 : Int32), (0 : Int32)) []).2.1, (own_run ((1 : Int32), (0 : Int32), (0 : Int32)) []).2.2) [y0, y1, y2, y3]).2.1)])) _
      refine XS.iconst X45.here hx rfl (hb hby at_138) ?_
      exact kt
    obtain ⟨_, _, ⟨T46, L46, k46, n46⟩, -, X46, ⟨Lc46, hQ46, l46, y46, z46⟩, st46⟩ := Jvm.LawKit.callS X45 hx (y := (⟨"com/example/brokn/brokn/TextPositionAdvancePinLaw", "column", "([CI)I"⟩ : MethodName)) hown (mvT hZ (hw _ (List.mem_of_getElem? (i := 48) rfl))) (mvT hZ (hw _ (List.mem_of_getElem? (i := 49) rfl))) (mvT hZ (hw _ (List.mem_of_getElem? (i := 3) rfl))) (mvT hZ (hw _ (List.mem_of_getElem? (i := 50) rfl))) (by decide) (backOf (W := 1) (rm11 l Z a0 hw [] b26 (4 : Int32) k26 y0 y1 y2 y3 hh42 n0 Zd Vd) hZ (hw _ (List.mem_of_getElem? (i := 50) rfl)) (hw _ (List.mem_of_getElem? (i := 3) rfl)) (by decide) (by decide)) (g := (mkF m 139 #[.val (.int p1), .val (.int p2), .val (.int p3), .val (.int p4), .val (.int p5), .val (.ref b26), .val (.int (0 : Int32)), .val (.ref b35), .val (.int (1 : Int32))] [(.int (4 : Int32)), (.ref b26), (.int (own_run ((own_run ((1 : Int32), (0 : Int32), (0 : Int32)) []).1, (own_run ((1 : Int32), (0 : Int32), (0 : Int32)) []).2.1, (own_run ((1 : Int32), (0 : Int32), (0 : Int32)) []).2.2) [y0, y1, y2, y3]).2.1)])) rfl (by rw [hml]; rfl) (argsL := [(.ref b26), (.int (4 : Int32))]) (rest := [(.int (own_run ((own_run ((1 : Int32), (0 : Int32), (0 : Int32)) []).1, (own_run ((1 : Int32), (0 : Int32), (0 : Int32)) []).2.1, (own_run ((1 : Int32), (0 : Int32), (0 : Int32)) []).2.2) [y0, y1, y2, y3]).2.1)]) (lenOf pd_6 rfl) rfl (by show 2 * 0 + _ ≤ _; exact Nat.le_of_eq rfl) (hb hby at_139) (fun _ _ => ⟨rfl, e45, (by decide : ((((((((((((((((0 + 1) + 0) + 0) + 0) + 0) + 1) + 0) + 0) + 0) + 0) + 0) + 0) + 0) + 0) + 0) + 0) + 0 ≤ _), (by decide : ((((((((((((((((0 + 4) + 0) + 0) + 0) + 0) + 3) + 0) + 0) + 0) + 0) + 0) + 0) + 0) + 0) + 0) + 0) + 0 ≤ _)⟩)
    dsimp only [Pt.U, Pt.locs, Pt.cells, Pt.slots] at X46 l46 y46 z46 st46 hQ46
    subst l46 y46 z46
    obtain ⟨rfl, N46q, e46⟩ := hQ46
    have N46 := Fr.app N45 N46q
    refine own_go (B := T46.setTop (mkF m 142 #[.val (.int p1), .val (.int p2), .val (.int p3), .val (.int p4), .val (.int p5), .val (.ref b26), .val (.int (0 : Int32)), .val (.ref b35), .val (.int (1 : Int32))] [(.int (own_col (4 : Int32) y0 y1 y2 y3)), (.int (own_run ((own_run ((1 : Int32), (0 : Int32), (0 : Int32)) []).1, (own_run ((1 : Int32), (0 : Int32), (0 : Int32)) []).2.1, (own_run ((1 : Int32), (0 : Int32), (0 : Int32)) []).2.2) [y0, y1, y2, y3]).2.1)])) (fun t kt => st46 t kt) ?_
    refine own_go (B := T46.setTop (mkF m 150 #[.val (.int p1), .val (.int p2), .val (.int p3), .val (.int p4), .val (.int p5), .val (.ref b26), .val (.int (0 : Int32)), .val (.ref b35), .val (.int (1 : Int32))] [(.int (1 : Int32))])) (fun t kt => ?_) ?_
    · show Steps p.tables e below (T46.setTop (mkF m 142 #[.val (.int p1), .val (.int p2), .val (.int p3), .val (.int p4), .val (.int p5), .val (.ref b26), .val (.int (0 : Int32)), .val (.ref b35), .val (.int (1 : Int32))] [(.int (own_col (4 : Int32) y0 y1 y2 y3)), (.int (own_run ((own_run ((1 : Int32), (0 : Int32), (0 : Int32)) []).1, (own_run ((1 : Int32), (0 : Int32), (0 : Int32)) []).2.1, (own_run ((1 : Int32), (0 : Int32), (0 : Int32)) []).2.2) [y0, y1, y2, y3]).2.1)])) _
      refine XS.icmpNo X46.here hx rfl (hb hby at_142) rfl (teq (own_B4 y0 y1 y2 y3)).2 ?_
      show Steps p.tables e below (T46.setTop (mkF m 145 #[.val (.int p1), .val (.int p2), .val (.int p3), .val (.int p4), .val (.int p5), .val (.ref b26), .val (.int (0 : Int32)), .val (.ref b35), .val (.int (1 : Int32))] [])) _
      refine XS.iconst X46.here hx rfl (hb hby at_145) ?_
      show Steps p.tables e below (T46.setTop (mkF m 146 #[.val (.int p1), .val (.int p2), .val (.int p3), .val (.int p4), .val (.int p5), .val (.ref b26), .val (.int (0 : Int32)), .val (.ref b35), .val (.int (1 : Int32))] [(.int (1 : Int32))])) _
      refine XS.goto X46.here hx rfl (pc0 := 146) (pc' := 150) rfl (hb hby at_146) (by decide) (by decide) ?_
      exact kt
    obtain ⟨fs, hr, hrun, hended, hW, hsame⟩ := X46.leave (v := some (.int (1 : Int32))) (fun h => by rw [Bd.returns] at h; cases h)
    refine ⟨_, _, ?_, hrun, hended, _, _, rfl, ?_, ⟨_, rfl⟩, hW, hsame.mono (by decide) (by decide)⟩
    · show Steps p.tables e below (T46.setTop (mkF m 150 #[.val (.int p1), .val (.int p2), .val (.int p3), .val (.int p4), .val (.int p5), .val (.ref b26), .val (.int (0 : Int32)), .val (.ref b35), .val (.int (1 : Int32))] [(.int (1 : Int32))])) _
      exact retN X46 hx (t := .boolean) Bd.returns (by simp) (hb hby at_150) hr
    · show Q0 Z p1 p2 p3 p4 p5 h0 n0 _ T46.heap _
      rw [e46]
      exact ⟨rfl, N46⟩
  · rw [hk]
    refine own_go (B := T34.setTop (mkF m 46 #[.val (.int p1), .val (.int p2), .val (.int p3), .val (.int p4), .val (.int p5), .val (.ref b26), .val (.int (1 : Int32)), .unset, .unset] [])) (fun t kt => ?_) ?_
    · show Steps p.tables e below (T34.setTop (mkF m 44 #[.val (.int p1), .val (.int p2), .val (.int p3), .val (.int p4), .val (.int p5), .val (.ref b26), .unset, .unset, .unset] [(.int (1 : Int32))])) _
      refine XS.istore X34.here hx rfl (hb hby at_44) rfl (l' := #[.val (.int p1), .val (.int p2), .val (.int p3), .val (.int p4), .val (.int p5), .val (.ref b26), .val (.int (1 : Int32)), .unset, .unset]) rfl ?_
      exact kt
    obtain ⟨T47, h47, X47, e47, E47, A47, D47, -, st47⟩ := newO X34 hx hZ hown (hw _ (List.mem_of_getElem? (i := 6) rfl)) (hw _ (List.mem_of_getElem? (i := 7) rfl)) (hw _ (List.mem_of_getElem? (i := 8) rfl)) e34 (g := (mkF m 46 #[.val (.int p1), .val (.int p2), .val (.int p3), .val (.int p4), .val (.int p5), .val (.ref b26), .val (.int (1 : Int32)), .unset, .unset] [])) rfl (hb hby at_46) (by decide) (by decide)
    obtain ⟨b47, g47⟩ : ∃ z, z = h34.size := ⟨_, rfl⟩
    rw [← g47] at A47 D47 st47
    have F47_line : Fld Z h47 b47 "com/example/brokn/brokn/TextPosition" "line" "I" (.int (0 : Int32)) := D47 (Or.inl (hw _ (List.mem_of_getElem? (i := 16) rfl))) (ty := .int) (by decide)
    have F47_column : Fld Z h47 b47 "com/example/brokn/brokn/TextPosition" "column" "I" (.int (0 : Int32)) := D47 (Or.inl (hw _ (List.mem_of_getElem? (i := 23) rfl))) (ty := .int) (by decide)
    have F47_previous : Fld Z h47 b47 "com/example/brokn/brokn/TextPosition" "previous" "C" (.int (0 : Int32)) := D47 (Or.inl (hw _ (List.mem_of_getElem? (i := 25) rfl))) (ty := .char) (by decide)
    refine own_go (B := T47.setTop (mkF m 49 #[.val (.int p1), .val (.int p2), .val (.int p3), .val (.int p4), .val (.int p5), .val (.ref b26), .val (.int (1 : Int32)), .unset, .unset] [(.ref b47)])) (fun t kt => st47 t kt) ?_
    have go : n0 ≤ b47 := Nat.le_trans Z5 (Nat.le_of_eq g47.symm)
    have Zo : n0 ≤ h47.size := Nat.le_trans Z5 E47.1
    have hne : b26 ≠ b47 := Nat.ne_of_lt (Nat.lt_of_lt_of_le V4.lt (Nat.le_of_eq g47.symm))
    have Va := V4.ext E47
    refine own_go (B := T47.setTop (mkF m 50 #[.val (.int p1), .val (.int p2), .val (.int p3), .val (.int p4), .val (.int p5), .val (.ref b26), .val (.int (1 : Int32)), .unset, .unset] [(.ref b47), (.ref b47)])) (fun t kt => ?_) ?_
    · show Steps p.tables e below (T47.setTop (mkF m 49 #[.val (.int p1), .val (.int p2), .val (.int p3), .val (.int p4), .val (.int p5), .val (.ref b26), .val (.int (1 : Int32)), .unset, .unset] [(.ref b47)])) _
      refine XS.dup X47.here hx rfl (hb hby at_49) rfl rfl ?_
      exact kt
    obtain ⟨_, _, ⟨T48, L48, k48, n48⟩, -, X48, ⟨Lc48, hQ48, l48, y48, z48⟩, st48⟩ := X47.specialBack hx (y := (⟨"com/example/brokn/brokn/TextPosition", "<init>", "()V"⟩ : MethodName)) rfl hown (mvT hZ (hw _ (List.mem_of_getElem? (i := 9) rfl))) (mvT hZ (hw _ (List.mem_of_getElem? (i := 10) rfl))) (mvT hZ (hw _ (List.mem_of_getElem? (i := 11) rfl))) (by decide) (backOf (W := 1) (rm2 l Z a0 hw [] b47 h47 n0 Zo F47_line F47_column F47_previous A47 go) hZ (hw _ (List.mem_of_getElem? (i := 11) rfl)) (hw _ (List.mem_of_getElem? (i := 8) rfl)) (by decide) (by decide)) (g := (mkF m 50 #[.val (.int p1), .val (.int p2), .val (.int p3), .val (.int p4), .val (.int p5), .val (.ref b26), .val (.int (1 : Int32)), .unset, .unset] [(.ref b47), (.ref b47)])) rfl (by rw [hml]; rfl) (Steps.refl _) (a := b47) (argsL := []) (rest := [(.ref b47)]) (lenOf pd_3 rfl) rfl (by show 2 * 0 + _ ≤ _; exact Nat.le_of_eq rfl) (hb hby at_50) (fun _ _ => ⟨rfl, e47, (by decide : ((((((0 + 1) + 0) + 0) + 0) + 0) + 1) + 0 ≤ _), (by decide : ((((((0 + 4) + 0) + 0) + 0) + 0) + 3) + 0 ≤ _)⟩)
    dsimp only [Pt.U, Pt.locs, Pt.cells, Pt.slots] at X48 l48 y48 z48 st48 hQ48
    subst l48 y48 z48
    obtain ⟨rfl, N48q, K48, E48, Fl48, Fc48, Fp48⟩ := hQ48
    have N48 := Fr.app N34 N48q
    refine own_go (B := T48.setTop (mkF m 53 #[.val (.int p1), .val (.int p2), .val (.int p3), .val (.int p4), .val (.int p5), .val (.ref b26), .val (.int (1 : Int32)), .unset, .unset] [(.ref b47)])) (fun t kt => st48.trans kt) ?_
    have Za : n0 ≤ T48.heap.size := Nat.le_trans Zo K48.1
    have Vb := Va.keep K48 (ninS hne nin0)
    refine own_go (B := T48.setTop (mkF m 62 #[.val (.int p1), .val (.int p2), .val (.int p3), .val (.int p4), .val (.int p5), .val (.ref b26), .val (.int (1 : Int32)), .val (.ref b47), .unset] [(.int (1 : Int32)), (.int (0 : Int32)), (.ref b26), (.ref b47)])) (fun t kt => ?_) ?_
    · show Steps p.tables e below (T48.setTop (mkF m 53 #[.val (.int p1), .val (.int p2), .val (.int p3), .val (.int p4), .val (.int p5), .val (.ref b26), .val (.int (1 : Int32)), .unset, .unset] [(.ref b47)])) _
      refine XS.astore X48.here hx rfl (hb hby at_53) rfl rfl (l' := #[.val (.int p1), .val (.int p2), .val (.int p3), .val (.int p4), .val (.int p5), .val (.ref b26), .val (.int (1 : Int32)), .val (.ref b47), .unset]) rfl ?_
      show Steps p.tables e below (T48.setTop (mkF m 55 #[.val (.int p1), .val (.int p2), .val (.int p3), .val (.int p4), .val (.int p5), .val (.ref b26), .val (.int (1 : Int32)), .val (.ref b47), .unset] [])) _
      refine XS.aload X48.here hx rfl (hb hby at_55) rfl rfl ?_
      show Steps p.tables e below (T48.setTop (mkF m 57 #[.val (.int p1), .val (.int p2), .val (.int p3), .val (.int p4), .val (.int p5), .val (.ref b26), .val (.int (1 : Int32)), .val (.ref b47), .unset] [(.ref b47)])) _
      refine XS.aload X48.here hx rfl (hb hby at_57) rfl rfl ?_
      show Steps p.tables e below (T48.setTop (mkF m 59 #[.val (.int p1), .val (.int p2), .val (.int p3), .val (.int p4), .val (.int p5), .val (.ref b26), .val (.int (1 : Int32)), .val (.ref b47), .unset] [(.ref b26), (.ref b47)])) _
      refine XS.iconst X48.here hx rfl (hb hby at_59) ?_
      show Steps p.tables e below (T48.setTop (mkF m 60 #[.val (.int p1), .val (.int p2), .val (.int p3), .val (.int p4), .val (.int p5), .val (.ref b26), .val (.int (1 : Int32)), .val (.ref b47), .unset] [(.int (0 : Int32)), (.ref b26), (.ref b47)])) _
      refine XS.iload X48.here hx rfl (hb hby at_60) rfl ?_
      exact kt
    obtain ⟨cq49, kq49, q49a, q49b, q49c⟩ := isOf hZ rfl E48
    obtain ⟨_, _, ⟨T49, L49, k49, n49⟩, -, X49, ⟨Lc49, hQ49, l49, y49, z49⟩, st49⟩ := X48.virtualBack hx (y := (⟨"com/example/brokn/brokn/TextPosition", "advance", "([CII)V"⟩ : MethodName)) (z := (⟨"com/example/brokn/brokn/TextPosition", "advance", "([CII)V"⟩ : MethodName)) hown (mvT hZ (hw _ (List.mem_of_getElem? (i := 17) rfl))) (mvT hZ (hw _ (List.mem_of_getElem? (i := 18) rfl))) (notFace_of_selects (args := #[]) (mvT hZ (hw _ (List.mem_of_getElem? (i := 20) rfl)))) (mvT hZ (hw _ (List.mem_of_getElem? (i := 20) rfl))) (mvT hZ (hw _ (List.mem_of_getElem? (i := 19) rfl))) (by decide) (backOf (W := 0) (rm4 l Z a0 hw [] b47 b26 (0 : Int32) (1 : Int32) (1 : Int32) (0 : Int32) (0 : Int32) [y0] T48.heap n0 Za 0 1 (by decide) rfl rfl rfl Fl48 Fc48 Fp48 E48 go k26 [(.int y0), (.int y1), (.int y2), (.int y3)] Vb (own_in0_1 y0 y1 y2 y3) hy0) hZ (hw _ (List.mem_of_getElem? (i := 21) rfl)) (hw _ (List.mem_of_getElem? (i := 8) rfl)) (by decide) (by decide)) q49a q49c (g := (mkF m 62 #[.val (.int p1), .val (.int p2), .val (.int p3), .val (.int p4), .val (.int p5), .val (.ref b26), .val (.int (1 : Int32)), .val (.ref b47), .unset] [(.int (1 : Int32)), (.int (0 : Int32)), (.ref b26), (.ref b47)])) rfl (by rw [hml]; rfl) (Steps.refl _) (argsL := [(.ref b26), (.int (0 : Int32)), (.int (1 : Int32))]) (rest := []) (lenOf pd_4 rfl) rfl (by show 2 * 0 + _ ≤ _; exact Nat.le_of_eq rfl) (hb hby at_62) (fun _ _ => ⟨rfl, rfl, (by decide : (((((((0 + 1) + 0) + 0) + 0) + 0) + 1) + 0) + 0 ≤ _), (by decide : (((((((0 + 4) + 0) + 0) + 0) + 0) + 3) + 0) + 0 ≤ _)⟩)
    dsimp only [Pt.U, Pt.locs, Pt.cells, Pt.slots] at X49 l49 y49 z49 st49 hQ49
    subst l49 y49 z49
    obtain ⟨rfl, N49q, K49, E49, Fl49, Fc49, Fp49⟩ := hQ49
    have N49 := Fr.app N48 N49q
    refine own_go (B := T49.setTop (mkF m 65 #[.val (.int p1), .val (.int p2), .val (.int p3), .val (.int p4), .val (.int p5), .val (.ref b26), .val (.int (1 : Int32)), .val (.ref b47), .unset] [])) (fun t kt => st49.trans kt) ?_
    have Zb : n0 ≤ T49.heap.size := Nat.le_trans Za K49.1
    have Vc := Vb.keep K49 (ninS hne nin0)
    obtain ⟨hh49, ehh49⟩ : ∃ z : Heap, z = T49.heap := ⟨_, rfl⟩
    rw [← ehh49] at Zb Vc Fl49 Fc49 Fp49 E49
    refine own_go (B := T49.setTop (mkF m 67 #[.val (.int p1), .val (.int p2), .val (.int p3), .val (.int p4), .val (.int p5), .val (.ref b26), .val (.int (1 : Int32)), .val (.ref b47), .unset] [(.ref b47)])) (fun t kt => ?_) ?_
    · show Steps p.tables e below (T49.setTop (mkF m 65 #[.val (.int p1), .val (.int p2), .val (.int p3), .val (.int p4), .val (.int p5), .val (.ref b26), .val (.int (1 : Int32)), .val (.ref b47), .unset] [])) _
      refine XS.aload X49.here hx rfl (hb hby at_65) rfl rfl ?_
      exact kt
    obtain ⟨cq50, kq50, q50a, q50b, q50c⟩ := isOf hZ ehh49.symm E49
    obtain ⟨_, _, ⟨T50, L50, k50, n50⟩, -, X50, ⟨Lc50, hQ50, l50, y50, z50⟩, st50⟩ := X49.virtualBack hx (y := (⟨"com/example/brokn/brokn/TextPosition", "line", "()I"⟩ : MethodName)) (z := (⟨"com/example/brokn/brokn/TextPosition", "line", "()I"⟩ : MethodName)) hown (mvT hZ (hw _ (List.mem_of_getElem? (i := 26) rfl))) (mvT hZ (hw _ (List.mem_of_getElem? (i := 27) rfl))) (notFace_of_selects (args := #[]) (mvT hZ (hw _ (List.mem_of_getElem? (i := 29) rfl)))) (mvT hZ (hw _ (List.mem_of_getElem? (i := 29) rfl))) (mvT hZ (hw _ (List.mem_of_getElem? (i := 28) rfl))) (by decide) (backOf (W := 0) (rm5 l Z a0 hw [] b47 (own_run ((1 : Int32), (0 : Int32), (0 : Int32)) [y0]).1 hh49 n0 Zb Fl49) hZ (hw _ (List.mem_of_getElem? (i := 30) rfl)) (hw _ (List.mem_of_getElem? (i := 8) rfl)) (by decide) (by decide)) q50a q50c (g := (mkF m 67 #[.val (.int p1), .val (.int p2), .val (.int p3), .val (.int p4), .val (.int p5), .val (.ref b26), .val (.int (1 : Int32)), .val (.ref b47), .unset] [(.ref b47)])) rfl (by rw [hml]; rfl) (Steps.refl _) (argsL := []) (rest := []) (lenOf pd_5 rfl) rfl (by show 2 * 0 + _ ≤ _; exact Nat.le_of_eq rfl) (hb hby at_67) (fun _ _ => ⟨rfl, ehh49.symm, (by decide : ((((((((0 + 1) + 0) + 0) + 0) + 0) + 1) + 0) + 0) + 0 ≤ _), (by decide : ((((((((0 + 4) + 0) + 0) + 0) + 0) + 3) + 0) + 0) + 0 ≤ _)⟩)
    dsimp only [Pt.U, Pt.locs, Pt.cells, Pt.slots] at X50 l50 y50 z50 st50 hQ50
    subst l50 y50 z50
    obtain ⟨rfl, N50q, e50⟩ := hQ50
    have N50 := Fr.app N49 N50q
    refine own_go (B := T50.setTop (mkF m 70 #[.val (.int p1), .val (.int p2), .val (.int p3), .val (.int p4), .val (.int p5), .val (.ref b26), .val (.int (1 : Int32)), .val (.ref b47), .unset] [(.int (own_run ((1 : Int32), (0 : Int32), (0 : Int32)) [y0]).1)])) (fun t kt => st50.trans kt) ?_
    refine own_go (B := T50.setTop (mkF m 74 #[.val (.int p1), .val (.int p2), .val (.int p3), .val (.int p4), .val (.int p5), .val (.ref b26), .val (.int (1 : Int32)), .val (.ref b47), .unset] [(.int (1 : Int32)), (.ref b26), (.int (own_run ((1 : Int32), (0 : Int32), (0 : Int32)) [y0]).1)])) (fun t kt => ?_) ?_
    · show Steps p.tables e below (T50.setTop (mkF m 70 #[.val (.int p1), .val (.int p2), .val (.int p3), .val (.int p4), .val (.int p5), .val (.ref b26), .val (.int (1 : Int32)), .val (.ref b47), .unset] [(.int (own_run ((1 : Int32), (0 : Int32), (0 : Int32)) [y0]).1)])) _
      refine XS.aload X50.here hx rfl (hb hby at_70) rfl rfl ?_
      show Steps p.tables e below (T50.setTop (mkF m 72 #[.val (.int p1), .val (.int p2), .val (.int p3), .val (.int p4), .val (.int p5), .val (.ref b26), .val (.int (1 : Int32)), .val (.ref b47), .unset] [(.ref b26), (.int (own_run ((1 : Int32), (0 : Int32), (0 : Int32)) [y0]).1)])) _
      refine XS.iload X50.here hx rfl (hb hby at_72) rfl ?_
      exact kt
    obtain ⟨_, _, ⟨T51, L51, k51, n51⟩, -, X51, ⟨Lc51, hQ51, l51, y51, z51⟩, st51⟩ := Jvm.LawKit.callS X50 hx (y := (⟨"com/example/brokn/brokn/TextPositionAdvancePinLaw", "lines", "([CI)I"⟩ : MethodName)) hown (mvT hZ (hw _ (List.mem_of_getElem? (i := 31) rfl))) (mvT hZ (hw _ (List.mem_of_getElem? (i := 32) rfl))) (mvT hZ (hw _ (List.mem_of_getElem? (i := 3) rfl))) (mvT hZ (hw _ (List.mem_of_getElem? (i := 33) rfl))) (by decide) (backOf (W := 1) (rm6 l Z a0 hw [] b26 (1 : Int32) k26 y0 y1 y2 y3 hh49 n0 Zb Vc) hZ (hw _ (List.mem_of_getElem? (i := 33) rfl)) (hw _ (List.mem_of_getElem? (i := 3) rfl)) (by decide) (by decide)) (g := (mkF m 74 #[.val (.int p1), .val (.int p2), .val (.int p3), .val (.int p4), .val (.int p5), .val (.ref b26), .val (.int (1 : Int32)), .val (.ref b47), .unset] [(.int (1 : Int32)), (.ref b26), (.int (own_run ((1 : Int32), (0 : Int32), (0 : Int32)) [y0]).1)])) rfl (by rw [hml]; rfl) (argsL := [(.ref b26), (.int (1 : Int32))]) (rest := [(.int (own_run ((1 : Int32), (0 : Int32), (0 : Int32)) [y0]).1)]) (lenOf pd_6 rfl) rfl (by show 2 * 0 + _ ≤ _; exact Nat.le_of_eq rfl) (hb hby at_74) (fun _ _ => ⟨rfl, e50, (by decide : (((((((((0 + 1) + 0) + 0) + 0) + 0) + 1) + 0) + 0) + 0) + 0 ≤ _), (by decide : (((((((((0 + 4) + 0) + 0) + 0) + 0) + 3) + 0) + 0) + 0) + 0 ≤ _)⟩)
    dsimp only [Pt.U, Pt.locs, Pt.cells, Pt.slots] at X51 l51 y51 z51 st51 hQ51
    subst l51 y51 z51
    obtain ⟨rfl, N51q, e51⟩ := hQ51
    have N51 := Fr.app N50 N51q
    refine own_go (B := T51.setTop (mkF m 77 #[.val (.int p1), .val (.int p2), .val (.int p3), .val (.int p4), .val (.int p5), .val (.ref b26), .val (.int (1 : Int32)), .val (.ref b47), .unset] [(.int (own_lines (1 : Int32) y0 y1 y2 y3)), (.int (own_run ((1 : Int32), (0 : Int32), (0 : Int32)) [y0]).1)])) (fun t kt => st51 t kt) ?_
    refine own_go (B := T51.setTop (mkF m 82 #[.val (.int p1), .val (.int p2), .val (.int p3), .val (.int p4), .val (.int p5), .val (.ref b26), .val (.int (1 : Int32)), .val (.ref b47), .unset] [(.ref b47)])) (fun t kt => ?_) ?_
    · show Steps p.tables e below (T51.setTop (mkF m 77 #[.val (.int p1), .val (.int p2), .val (.int p3), .val (.int p4), .val (.int p5), .val (.ref b26), .val (.int (1 : Int32)), .val (.ref b47), .unset] [(.int (own_lines (1 : Int32) y0 y1 y2 y3)), (.int (own_run ((1 : Int32), (0 : Int32), (0 : Int32)) [y0]).1)])) _
      refine XS.icmpNo X51.here hx rfl (hb hby at_77) rfl (teq (own_A1 y0 y1 y2 y3)).2 ?_
      show Steps p.tables e below (T51.setTop (mkF m 80 #[.val (.int p1), .val (.int p2), .val (.int p3), .val (.int p4), .val (.int p5), .val (.ref b26), .val (.int (1 : Int32)), .val (.ref b47), .unset] [])) _
      refine XS.aload X51.here hx rfl (hb hby at_80) rfl rfl ?_
      exact kt
    obtain ⟨cq52, kq52, q52a, q52b, q52c⟩ := isOf hZ e51 E49
    obtain ⟨_, _, ⟨T52, L52, k52, n52⟩, -, X52, ⟨Lc52, hQ52, l52, y52, z52⟩, st52⟩ := X51.virtualBack hx (y := (⟨"com/example/brokn/brokn/TextPosition", "column", "()I"⟩ : MethodName)) (z := (⟨"com/example/brokn/brokn/TextPosition", "column", "()I"⟩ : MethodName)) hown (mvT hZ (hw _ (List.mem_of_getElem? (i := 43) rfl))) (mvT hZ (hw _ (List.mem_of_getElem? (i := 44) rfl))) (notFace_of_selects (args := #[]) (mvT hZ (hw _ (List.mem_of_getElem? (i := 46) rfl)))) (mvT hZ (hw _ (List.mem_of_getElem? (i := 46) rfl))) (mvT hZ (hw _ (List.mem_of_getElem? (i := 45) rfl))) (by decide) (backOf (W := 0) (rm10 l Z a0 hw [] b47 (own_run ((1 : Int32), (0 : Int32), (0 : Int32)) [y0]).2.1 hh49 n0 Zb Fc49) hZ (hw _ (List.mem_of_getElem? (i := 47) rfl)) (hw _ (List.mem_of_getElem? (i := 8) rfl)) (by decide) (by decide)) q52a q52c (g := (mkF m 82 #[.val (.int p1), .val (.int p2), .val (.int p3), .val (.int p4), .val (.int p5), .val (.ref b26), .val (.int (1 : Int32)), .val (.ref b47), .unset] [(.ref b47)])) rfl (by rw [hml]; rfl) (Steps.refl _) (argsL := []) (rest := []) (lenOf pd_5 rfl) rfl (by show 2 * 0 + _ ≤ _; exact Nat.le_of_eq rfl) (hb hby at_82) (fun _ _ => ⟨rfl, e51, (by decide : ((((((((((0 + 1) + 0) + 0) + 0) + 0) + 1) + 0) + 0) + 0) + 0) + 0 ≤ _), (by decide : ((((((((((0 + 4) + 0) + 0) + 0) + 0) + 3) + 0) + 0) + 0) + 0) + 0 ≤ _)⟩)
    dsimp only [Pt.U, Pt.locs, Pt.cells, Pt.slots] at X52 l52 y52 z52 st52 hQ52
    subst l52 y52 z52
    obtain ⟨rfl, N52q, e52⟩ := hQ52
    have N52 := Fr.app N51 N52q
    refine own_go (B := T52.setTop (mkF m 85 #[.val (.int p1), .val (.int p2), .val (.int p3), .val (.int p4), .val (.int p5), .val (.ref b26), .val (.int (1 : Int32)), .val (.ref b47), .unset] [(.int (own_run ((1 : Int32), (0 : Int32), (0 : Int32)) [y0]).2.1)])) (fun t kt => st52.trans kt) ?_
    refine own_go (B := T52.setTop (mkF m 89 #[.val (.int p1), .val (.int p2), .val (.int p3), .val (.int p4), .val (.int p5), .val (.ref b26), .val (.int (1 : Int32)), .val (.ref b47), .unset] [(.int (1 : Int32)), (.ref b26), (.int (own_run ((1 : Int32), (0 : Int32), (0 : Int32)) [y0]).2.1)])) (fun t kt => ?_) ?_
    · show Steps p.tables e below (T52.setTop (mkF m 85 #[.val (.int p1), .val (.int p2), .val (.int p3), .val (.int p4), .val (.int p5), .val (.ref b26), .val (.int (1 : Int32)), .val (.ref b47), .unset] [(.int (own_run ((1 : Int32), (0 : Int32), (0 : Int32)) [y0]).2.1)])) _
      refine XS.aload X52.here hx rfl (hb hby at_85) rfl rfl ?_
      show Steps p.tables e below (T52.setTop (mkF m 87 #[.val (.int p1), .val (.int p2), .val (.int p3), .val (.int p4), .val (.int p5), .val (.ref b26), .val (.int (1 : Int32)), .val (.ref b47), .unset] [(.ref b26), (.int (own_run ((1 : Int32), (0 : Int32), (0 : Int32)) [y0]).2.1)])) _
      refine XS.iload X52.here hx rfl (hb hby at_87) rfl ?_
      exact kt
    obtain ⟨_, _, ⟨T53, L53, k53, n53⟩, -, X53, ⟨Lc53, hQ53, l53, y53, z53⟩, st53⟩ := Jvm.LawKit.callS X52 hx (y := (⟨"com/example/brokn/brokn/TextPositionAdvancePinLaw", "column", "([CI)I"⟩ : MethodName)) hown (mvT hZ (hw _ (List.mem_of_getElem? (i := 48) rfl))) (mvT hZ (hw _ (List.mem_of_getElem? (i := 49) rfl))) (mvT hZ (hw _ (List.mem_of_getElem? (i := 3) rfl))) (mvT hZ (hw _ (List.mem_of_getElem? (i := 50) rfl))) (by decide) (backOf (W := 1) (rm11 l Z a0 hw [] b26 (1 : Int32) k26 y0 y1 y2 y3 hh49 n0 Zb Vc) hZ (hw _ (List.mem_of_getElem? (i := 50) rfl)) (hw _ (List.mem_of_getElem? (i := 3) rfl)) (by decide) (by decide)) (g := (mkF m 89 #[.val (.int p1), .val (.int p2), .val (.int p3), .val (.int p4), .val (.int p5), .val (.ref b26), .val (.int (1 : Int32)), .val (.ref b47), .unset] [(.int (1 : Int32)), (.ref b26), (.int (own_run ((1 : Int32), (0 : Int32), (0 : Int32)) [y0]).2.1)])) rfl (by rw [hml]; rfl) (argsL := [(.ref b26), (.int (1 : Int32))]) (rest := [(.int (own_run ((1 : Int32), (0 : Int32), (0 : Int32)) [y0]).2.1)]) (lenOf pd_6 rfl) rfl (by show 2 * 0 + _ ≤ _; exact Nat.le_of_eq rfl) (hb hby at_89) (fun _ _ => ⟨rfl, e52, (by decide : (((((((((((0 + 1) + 0) + 0) + 0) + 0) + 1) + 0) + 0) + 0) + 0) + 0) + 0 ≤ _), (by decide : (((((((((((0 + 4) + 0) + 0) + 0) + 0) + 3) + 0) + 0) + 0) + 0) + 0) + 0 ≤ _)⟩)
    dsimp only [Pt.U, Pt.locs, Pt.cells, Pt.slots] at X53 l53 y53 z53 st53 hQ53
    subst l53 y53 z53
    obtain ⟨rfl, N53q, e53⟩ := hQ53
    have N53 := Fr.app N52 N53q
    refine own_go (B := T53.setTop (mkF m 92 #[.val (.int p1), .val (.int p2), .val (.int p3), .val (.int p4), .val (.int p5), .val (.ref b26), .val (.int (1 : Int32)), .val (.ref b47), .unset] [(.int (own_col (1 : Int32) y0 y1 y2 y3)), (.int (own_run ((1 : Int32), (0 : Int32), (0 : Int32)) [y0]).2.1)])) (fun t kt => st53 t kt) ?_
    refine own_go (B := T53.setTop (mkF m 109 #[.val (.int p1), .val (.int p2), .val (.int p3), .val (.int p4), .val (.int p5), .val (.ref b26), .val (.int (1 : Int32)), .val (.ref b47), .val (.int (1 : Int32))] [(.int (4 : Int32)), (.int (1 : Int32)), (.ref b26), (.ref b47)])) (fun t kt => ?_) ?_
    · show Steps p.tables e below (T53.setTop (mkF m 92 #[.val (.int p1), .val (.int p2), .val (.int p3), .val (.int p4), .val (.int p5), .val (.ref b26), .val (.int (1 : Int32)), .val (.ref b47), .unset] [(.int (own_col (1 : Int32) y0 y1 y2 y3)), (.int (own_run ((1 : Int32), (0 : Int32), (0 : Int32)) [y0]).2.1)])) _
      refine XS.icmpNo X53.here hx rfl (hb hby at_92) rfl (teq (own_B1 y0 y1 y2 y3)).2 ?_
      show Steps p.tables e below (T53.setTop (mkF m 95 #[.val (.int p1), .val (.int p2), .val (.int p3), .val (.int p4), .val (.int p5), .val (.ref b26), .val (.int (1 : Int32)), .val (.ref b47), .unset] [])) _
      refine XS.iconst X53.here hx rfl (hb hby at_95) ?_
      show Steps p.tables e below (T53.setTop (mkF m 96 #[.val (.int p1), .val (.int p2), .val (.int p3), .val (.int p4), .val (.int p5), .val (.ref b26), .val (.int (1 : Int32)), .val (.ref b47), .unset] [(.int (1 : Int32))])) _
      refine XS.goto X53.here hx rfl (pc0 := 96) (pc' := 100) rfl (hb hby at_96) (by decide) (by decide) ?_
      show Steps p.tables e below (T53.setTop (mkF m 100 #[.val (.int p1), .val (.int p2), .val (.int p3), .val (.int p4), .val (.int p5), .val (.ref b26), .val (.int (1 : Int32)), .val (.ref b47), .unset] [(.int (1 : Int32))])) _
      refine XS.istore X53.here hx rfl (hb hby at_100) rfl (l' := #[.val (.int p1), .val (.int p2), .val (.int p3), .val (.int p4), .val (.int p5), .val (.ref b26), .val (.int (1 : Int32)), .val (.ref b47), .val (.int (1 : Int32))]) rfl ?_
      show Steps p.tables e below (T53.setTop (mkF m 102 #[.val (.int p1), .val (.int p2), .val (.int p3), .val (.int p4), .val (.int p5), .val (.ref b26), .val (.int (1 : Int32)), .val (.ref b47), .val (.int (1 : Int32))] [])) _
      refine XS.aload X53.here hx rfl (hb hby at_102) rfl rfl ?_
      show Steps p.tables e below (T53.setTop (mkF m 104 #[.val (.int p1), .val (.int p2), .val (.int p3), .val (.int p4), .val (.int p5), .val (.ref b26), .val (.int (1 : Int32)), .val (.ref b47), .val (.int (1 : Int32))] [(.ref b47)])) _
      refine XS.aload X53.here hx rfl (hb hby at_104) rfl rfl ?_
      show Steps p.tables e below (T53.setTop (mkF m 106 #[.val (.int p1), .val (.int p2), .val (.int p3), .val (.int p4), .val (.int p5), .val (.ref b26), .val (.int (1 : Int32)), .val (.ref b47), .val (.int (1 : Int32))] [(.ref b26), (.ref b47)])) _
      refine XS.iload X53.here hx rfl (hb hby at_106) rfl ?_
      show Steps p.tables e below (T53.setTop (mkF m 108 #[.val (.int p1), .val (.int p2), .val (.int p3), .val (.int p4), .val (.int p5), .val (.ref b26), .val (.int (1 : Int32)), .val (.ref b47), .val (.int (1 : Int32))] [(.int (1 : Int32)), (.ref b26), (.ref b47)])) _
      refine XS.iconst X53.here hx rfl (hb hby at_108) ?_
      exact kt
    obtain ⟨cq54, kq54, q54a, q54b, q54c⟩ := isOf hZ e53 E49
    obtain ⟨_, _, ⟨T54, L54, k54, n54⟩, -, X54, ⟨Lc54, hQ54, l54, y54, z54⟩, st54⟩ := X53.virtualBack hx (y := (⟨"com/example/brokn/brokn/TextPosition", "advance", "([CII)V"⟩ : MethodName)) (z := (⟨"com/example/brokn/brokn/TextPosition", "advance", "([CII)V"⟩ : MethodName)) hown (mvT hZ (hw _ (List.mem_of_getElem? (i := 17) rfl))) (mvT hZ (hw _ (List.mem_of_getElem? (i := 18) rfl))) (notFace_of_selects (args := #[]) (mvT hZ (hw _ (List.mem_of_getElem? (i := 20) rfl)))) (mvT hZ (hw _ (List.mem_of_getElem? (i := 20) rfl))) (mvT hZ (hw _ (List.mem_of_getElem? (i := 19) rfl))) (by decide) (backOf (W := 0) (rm4 l Z a0 hw [] b47 b26 (1 : Int32) (4 : Int32) (own_run ((1 : Int32), (0 : Int32), (0 : Int32)) [y0]).1 (own_run ((1 : Int32), (0 : Int32), (0 : Int32)) [y0]).2.1 (own_run ((1 : Int32), (0 : Int32), (0 : Int32)) [y0]).2.2 [y1, y2, y3] hh49 n0 Zb 1 4 (by decide) rfl rfl rfl Fl49 Fc49 Fp49 E49 go k26 [(.int y0), (.int y1), (.int y2), (.int y3)] Vc (own_in1_4 y0 y1 y2 y3) hy3) hZ (hw _ (List.mem_of_getElem? (i := 21) rfl)) (hw _ (List.mem_of_getElem? (i := 8) rfl)) (by decide) (by decide)) q54a q54c (g := (mkF m 109 #[.val (.int p1), .val (.int p2), .val (.int p3), .val (.int p4), .val (.int p5), .val (.ref b26), .val (.int (1 : Int32)), .val (.ref b47), .val (.int (1 : Int32))] [(.int (4 : Int32)), (.int (1 : Int32)), (.ref b26), (.ref b47)])) rfl (by rw [hml]; rfl) (Steps.refl _) (argsL := [(.ref b26), (.int (1 : Int32)), (.int (4 : Int32))]) (rest := []) (lenOf pd_4 rfl) rfl (by show 2 * 0 + _ ≤ _; exact Nat.le_of_eq rfl) (hb hby at_109) (fun _ _ => ⟨rfl, e53, (by decide : ((((((((((((0 + 1) + 0) + 0) + 0) + 0) + 1) + 0) + 0) + 0) + 0) + 0) + 0) + 0 ≤ _), (by decide : ((((((((((((0 + 4) + 0) + 0) + 0) + 0) + 3) + 0) + 0) + 0) + 0) + 0) + 0) + 0 ≤ _)⟩)
    dsimp only [Pt.U, Pt.locs, Pt.cells, Pt.slots] at X54 l54 y54 z54 st54 hQ54
    subst l54 y54 z54
    obtain ⟨rfl, N54q, K54, E54, Fl54, Fc54, Fp54⟩ := hQ54
    have N54 := Fr.app N53 N54q
    refine own_go (B := T54.setTop (mkF m 112 #[.val (.int p1), .val (.int p2), .val (.int p3), .val (.int p4), .val (.int p5), .val (.ref b26), .val (.int (1 : Int32)), .val (.ref b47), .val (.int (1 : Int32))] [])) (fun t kt => st54.trans kt) ?_
    have Zd : n0 ≤ T54.heap.size := Nat.le_trans Zb K54.1
    have Vd := Vc.keep K54 (ninS hne nin0)
    obtain ⟨hh54, ehh54⟩ : ∃ z : Heap, z = T54.heap := ⟨_, rfl⟩
    rw [← ehh54] at Zd Vd Fl54 Fc54 Fp54 E54
    refine own_go (B := T54.setTop (mkF m 119 #[.val (.int p1), .val (.int p2), .val (.int p3), .val (.int p4), .val (.int p5), .val (.ref b26), .val (.int (1 : Int32)), .val (.ref b47), .val (.int (1 : Int32))] [(.ref b47)])) (fun t kt => ?_) ?_
    · show Steps p.tables e below (T54.setTop (mkF m 112 #[.val (.int p1), .val (.int p2), .val (.int p3), .val (.int p4), .val (.int p5), .val (.ref b26), .val (.int (1 : Int32)), .val (.ref b47), .val (.int (1 : Int32))] [])) _
      refine XS.iload X54.here hx rfl (hb hby at_112) rfl ?_
      show Steps p.tables e below (T54.setTop (mkF m 114 #[.val (.int p1), .val (.int p2), .val (.int p3), .val (.int p4), .val (.int p5), .val (.ref b26), .val (.int (1 : Int32)), .val (.ref b47), .val (.int (1 : Int32))] [(.int (1 : Int32))])) _
      refine XS.ifNo X54.here hx rfl (hb hby at_114) rfl ((if0 _ _).trans (feq (by decide)).1) ?_
      show Steps p.tables e below (T54.setTop (mkF m 117 #[.val (.int p1), .val (.int p2), .val (.int p3), .val (.int p4), .val (.int p5), .val (.ref b26), .val (.int (1 : Int32)), .val (.ref b47), .val (.int (1 : Int32))] [])) _
      refine XS.aload X54.here hx rfl (hb hby at_117) rfl rfl ?_
      exact kt
    obtain ⟨cq55, kq55, q55a, q55b, q55c⟩ := isOf hZ ehh54.symm E54
    obtain ⟨_, _, ⟨T55, L55, k55, n55⟩, -, X55, ⟨Lc55, hQ55, l55, y55, z55⟩, st55⟩ := X54.virtualBack hx (y := (⟨"com/example/brokn/brokn/TextPosition", "line", "()I"⟩ : MethodName)) (z := (⟨"com/example/brokn/brokn/TextPosition", "line", "()I"⟩ : MethodName)) hown (mvT hZ (hw _ (List.mem_of_getElem? (i := 26) rfl))) (mvT hZ (hw _ (List.mem_of_getElem? (i := 27) rfl))) (notFace_of_selects (args := #[]) (mvT hZ (hw _ (List.mem_of_getElem? (i := 29) rfl)))) (mvT hZ (hw _ (List.mem_of_getElem? (i := 29) rfl))) (mvT hZ (hw _ (List.mem_of_getElem? (i := 28) rfl))) (by decide) (backOf (W := 0) (rm5 l Z a0 hw [] b47 (own_run ((own_run ((1 : Int32), (0 : Int32), (0 : Int32)) [y0]).1, (own_run ((1 : Int32), (0 : Int32), (0 : Int32)) [y0]).2.1, (own_run ((1 : Int32), (0 : Int32), (0 : Int32)) [y0]).2.2) [y1, y2, y3]).1 hh54 n0 Zd Fl54) hZ (hw _ (List.mem_of_getElem? (i := 30) rfl)) (hw _ (List.mem_of_getElem? (i := 8) rfl)) (by decide) (by decide)) q55a q55c (g := (mkF m 119 #[.val (.int p1), .val (.int p2), .val (.int p3), .val (.int p4), .val (.int p5), .val (.ref b26), .val (.int (1 : Int32)), .val (.ref b47), .val (.int (1 : Int32))] [(.ref b47)])) rfl (by rw [hml]; rfl) (Steps.refl _) (argsL := []) (rest := []) (lenOf pd_5 rfl) rfl (by show 2 * 0 + _ ≤ _; exact Nat.le_of_eq rfl) (hb hby at_119) (fun _ _ => ⟨rfl, ehh54.symm, (by decide : (((((((((((((0 + 1) + 0) + 0) + 0) + 0) + 1) + 0) + 0) + 0) + 0) + 0) + 0) + 0) + 0 ≤ _), (by decide : (((((((((((((0 + 4) + 0) + 0) + 0) + 0) + 3) + 0) + 0) + 0) + 0) + 0) + 0) + 0) + 0 ≤ _)⟩)
    dsimp only [Pt.U, Pt.locs, Pt.cells, Pt.slots] at X55 l55 y55 z55 st55 hQ55
    subst l55 y55 z55
    obtain ⟨rfl, N55q, e55⟩ := hQ55
    have N55 := Fr.app N54 N55q
    refine own_go (B := T55.setTop (mkF m 122 #[.val (.int p1), .val (.int p2), .val (.int p3), .val (.int p4), .val (.int p5), .val (.ref b26), .val (.int (1 : Int32)), .val (.ref b47), .val (.int (1 : Int32))] [(.int (own_run ((own_run ((1 : Int32), (0 : Int32), (0 : Int32)) [y0]).1, (own_run ((1 : Int32), (0 : Int32), (0 : Int32)) [y0]).2.1, (own_run ((1 : Int32), (0 : Int32), (0 : Int32)) [y0]).2.2) [y1, y2, y3]).1)])) (fun t kt => st55.trans kt) ?_
    refine own_go (B := T55.setTop (mkF m 125 #[.val (.int p1), .val (.int p2), .val (.int p3), .val (.int p4), .val (.int p5), .val (.ref b26), .val (.int (1 : Int32)), .val (.ref b47), .val (.int (1 : Int32))] [(.int (4 : Int32)), (.ref b26), (.int (own_run ((own_run ((1 : Int32), (0 : Int32), (0 : Int32)) [y0]).1, (own_run ((1 : Int32), (0 : Int32), (0 : Int32)) [y0]).2.1, (own_run ((1 : Int32), (0 : Int32), (0 : Int32)) [y0]).2.2) [y1, y2, y3]).1)])) (fun t kt => ?_) ?_
    · show Steps p.tables e below (T55.setTop (mkF m 122 #[.val (.int p1), .val (.int p2), .val (.int p3), .val (.int p4), .val (.int p5), .val (.ref b26), .val (.int (1 : Int32)), .val (.ref b47), .val (.int (1 : Int32))] [(.int (own_run ((own_run ((1 : Int32), (0 : Int32), (0 : Int32)) [y0]).1, (own_run ((1 : Int32), (0 : Int32), (0 : Int32)) [y0]).2.1, (own_run ((1 : Int32), (0 : Int32), (0 : Int32)) [y0]).2.2) [y1, y2, y3]).1)])) _
      refine XS.aload X55.here hx rfl (hb hby at_122) rfl rfl ?_
      show Steps p.tables e below (T55.setTop (mkF m 124 #[.val (.int p1), .val (.int p2), .val (.int p3), .val (.int p4), .val (.int p5), .val (.ref b26), .val (.int (1 : Int32)), .val (.ref b47), .val (.int (1 : Int32))] [(.ref b26), (.int (own_run ((own_run ((1 : Int32), (0 : Int32), (0 : Int32)) [y0]).1, (own_run ((1 : Int32), (0 : Int32), (0 : Int32)) [y0]).2.1, (own_run ((1 : Int32), (0 : Int32), (0 : Int32)) [y0]).2.2) [y1, y2, y3]).1)])) _
      refine XS.iconst X55.here hx rfl (hb hby at_124) ?_
      exact kt
    obtain ⟨_, _, ⟨T56, L56, k56, n56⟩, -, X56, ⟨Lc56, hQ56, l56, y56, z56⟩, st56⟩ := Jvm.LawKit.callS X55 hx (y := (⟨"com/example/brokn/brokn/TextPositionAdvancePinLaw", "lines", "([CI)I"⟩ : MethodName)) hown (mvT hZ (hw _ (List.mem_of_getElem? (i := 31) rfl))) (mvT hZ (hw _ (List.mem_of_getElem? (i := 32) rfl))) (mvT hZ (hw _ (List.mem_of_getElem? (i := 3) rfl))) (mvT hZ (hw _ (List.mem_of_getElem? (i := 33) rfl))) (by decide) (backOf (W := 1) (rm6 l Z a0 hw [] b26 (4 : Int32) k26 y0 y1 y2 y3 hh54 n0 Zd Vd) hZ (hw _ (List.mem_of_getElem? (i := 33) rfl)) (hw _ (List.mem_of_getElem? (i := 3) rfl)) (by decide) (by decide)) (g := (mkF m 125 #[.val (.int p1), .val (.int p2), .val (.int p3), .val (.int p4), .val (.int p5), .val (.ref b26), .val (.int (1 : Int32)), .val (.ref b47), .val (.int (1 : Int32))] [(.int (4 : Int32)), (.ref b26), (.int (own_run ((own_run ((1 : Int32), (0 : Int32), (0 : Int32)) [y0]).1, (own_run ((1 : Int32), (0 : Int32), (0 : Int32)) [y0]).2.1, (own_run ((1 : Int32), (0 : Int32), (0 : Int32)) [y0]).2.2) [y1, y2, y3]).1)])) rfl (by rw [hml]; rfl) (argsL := [(.ref b26), (.int (4 : Int32))]) (rest := [(.int (own_run ((own_run ((1 : Int32), (0 : Int32), (0 : Int32)) [y0]).1, (own_run ((1 : Int32), (0 : Int32), (0 : Int32)) [y0]).2.1, (own_run ((1 : Int32), (0 : Int32), (0 : Int32)) [y0]).2.2) [y1, y2, y3]).1)]) (lenOf pd_6 rfl) rfl (by show 2 * 0 + _ ≤ _; exact Nat.le_of_eq rfl) (hb hby at_125) (fun _ _ => ⟨rfl, e55, (by decide : ((((((((((((((0 + 1) + 0) + 0) + 0) + 0) + 1) + 0) + 0) + 0) + 0) + 0) + 0) + 0) + 0) + 0 ≤ _), (by decide : ((((((((((((((0 + 4) + 0) + 0) + 0) + 0) + 3) + 0) + 0) + 0) + 0) + 0) + 0) + 0) + 0) + 0 ≤ _)⟩)
    dsimp only [Pt.U, Pt.locs, Pt.cells, Pt.slots] at X56 l56 y56 z56 st56 hQ56
    subst l56 y56 z56
    obtain ⟨rfl, N56q, e56⟩ := hQ56
    have N56 := Fr.app N55 N56q
    refine own_go (B := T56.setTop (mkF m 128 #[.val (.int p1), .val (.int p2), .val (.int p3), .val (.int p4), .val (.int p5), .val (.ref b26), .val (.int (1 : Int32)), .val (.ref b47), .val (.int (1 : Int32))] [(.int (own_lines (4 : Int32) y0 y1 y2 y3)), (.int (own_run ((own_run ((1 : Int32), (0 : Int32), (0 : Int32)) [y0]).1, (own_run ((1 : Int32), (0 : Int32), (0 : Int32)) [y0]).2.1, (own_run ((1 : Int32), (0 : Int32), (0 : Int32)) [y0]).2.2) [y1, y2, y3]).1)])) (fun t kt => st56 t kt) ?_
    refine own_go (B := T56.setTop (mkF m 133 #[.val (.int p1), .val (.int p2), .val (.int p3), .val (.int p4), .val (.int p5), .val (.ref b26), .val (.int (1 : Int32)), .val (.ref b47), .val (.int (1 : Int32))] [(.ref b47)])) (fun t kt => ?_) ?_
    · show Steps p.tables e below (T56.setTop (mkF m 128 #[.val (.int p1), .val (.int p2), .val (.int p3), .val (.int p4), .val (.int p5), .val (.ref b26), .val (.int (1 : Int32)), .val (.ref b47), .val (.int (1 : Int32))] [(.int (own_lines (4 : Int32) y0 y1 y2 y3)), (.int (own_run ((own_run ((1 : Int32), (0 : Int32), (0 : Int32)) [y0]).1, (own_run ((1 : Int32), (0 : Int32), (0 : Int32)) [y0]).2.1, (own_run ((1 : Int32), (0 : Int32), (0 : Int32)) [y0]).2.2) [y1, y2, y3]).1)])) _
      refine XS.icmpNo X56.here hx rfl (hb hby at_128) rfl (teq (own_A4 y0 y1 y2 y3)).2 ?_
      show Steps p.tables e below (T56.setTop (mkF m 131 #[.val (.int p1), .val (.int p2), .val (.int p3), .val (.int p4), .val (.int p5), .val (.ref b26), .val (.int (1 : Int32)), .val (.ref b47), .val (.int (1 : Int32))] [])) _
      refine XS.aload X56.here hx rfl (hb hby at_131) rfl rfl ?_
      exact kt
    obtain ⟨cq57, kq57, q57a, q57b, q57c⟩ := isOf hZ e56 E54
    obtain ⟨_, _, ⟨T57, L57, k57, n57⟩, -, X57, ⟨Lc57, hQ57, l57, y57, z57⟩, st57⟩ := X56.virtualBack hx (y := (⟨"com/example/brokn/brokn/TextPosition", "column", "()I"⟩ : MethodName)) (z := (⟨"com/example/brokn/brokn/TextPosition", "column", "()I"⟩ : MethodName)) hown (mvT hZ (hw _ (List.mem_of_getElem? (i := 43) rfl))) (mvT hZ (hw _ (List.mem_of_getElem? (i := 44) rfl))) (notFace_of_selects (args := #[]) (mvT hZ (hw _ (List.mem_of_getElem? (i := 46) rfl)))) (mvT hZ (hw _ (List.mem_of_getElem? (i := 46) rfl))) (mvT hZ (hw _ (List.mem_of_getElem? (i := 45) rfl))) (by decide) (backOf (W := 0) (rm10 l Z a0 hw [] b47 (own_run ((own_run ((1 : Int32), (0 : Int32), (0 : Int32)) [y0]).1, (own_run ((1 : Int32), (0 : Int32), (0 : Int32)) [y0]).2.1, (own_run ((1 : Int32), (0 : Int32), (0 : Int32)) [y0]).2.2) [y1, y2, y3]).2.1 hh54 n0 Zd Fc54) hZ (hw _ (List.mem_of_getElem? (i := 47) rfl)) (hw _ (List.mem_of_getElem? (i := 8) rfl)) (by decide) (by decide)) q57a q57c (g := (mkF m 133 #[.val (.int p1), .val (.int p2), .val (.int p3), .val (.int p4), .val (.int p5), .val (.ref b26), .val (.int (1 : Int32)), .val (.ref b47), .val (.int (1 : Int32))] [(.ref b47)])) rfl (by rw [hml]; rfl) (Steps.refl _) (argsL := []) (rest := []) (lenOf pd_5 rfl) rfl (by show 2 * 0 + _ ≤ _; exact Nat.le_of_eq rfl) (hb hby at_133) (fun _ _ => ⟨rfl, e56, (by decide : (((((((((((((((0 + 1) + 0) + 0) + 0) + 0) + 1) + 0) + 0) + 0) + 0) + 0) + 0) + 0) + 0) + 0) + 0 ≤ _), (by decide : (((((((((((((((0 + 4) + 0) + 0) + 0) + 0) + 3) + 0) + 0) + 0) + 0) + 0) + 0) + 0) + 0) + 0) + 0 ≤ _)⟩)
    dsimp only [Pt.U, Pt.locs, Pt.cells, Pt.slots] at X57 l57 y57 z57 st57 hQ57
    subst l57 y57 z57
    obtain ⟨rfl, N57q, e57⟩ := hQ57
    have N57 := Fr.app N56 N57q
    refine own_go (B := T57.setTop (mkF m 136 #[.val (.int p1), .val (.int p2), .val (.int p3), .val (.int p4), .val (.int p5), .val (.ref b26), .val (.int (1 : Int32)), .val (.ref b47), .val (.int (1 : Int32))] [(.int (own_run ((own_run ((1 : Int32), (0 : Int32), (0 : Int32)) [y0]).1, (own_run ((1 : Int32), (0 : Int32), (0 : Int32)) [y0]).2.1, (own_run ((1 : Int32), (0 : Int32), (0 : Int32)) [y0]).2.2) [y1, y2, y3]).2.1)])) (fun t kt => st57.trans kt) ?_
    refine own_go (B := T57.setTop (mkF m 139 #[.val (.int p1), .val (.int p2), .val (.int p3), .val (.int p4), .val (.int p5), .val (.ref b26), .val (.int (1 : Int32)), .val (.ref b47), .val (.int (1 : Int32))] [(.int (4 : Int32)), (.ref b26), (.int (own_run ((own_run ((1 : Int32), (0 : Int32), (0 : Int32)) [y0]).1, (own_run ((1 : Int32), (0 : Int32), (0 : Int32)) [y0]).2.1, (own_run ((1 : Int32), (0 : Int32), (0 : Int32)) [y0]).2.2) [y1, y2, y3]).2.1)])) (fun t kt => ?_) ?_
    · show Steps p.tables e below (T57.setTop (mkF m 136 #[.val (.int p1), .val (.int p2), .val (.int p3), .val (.int p4), .val (.int p5), .val (.ref b26), .val (.int (1 : Int32)), .val (.ref b47), .val (.int (1 : Int32))] [(.int (own_run ((own_run ((1 : Int32), (0 : Int32), (0 : Int32)) [y0]).1, (own_run ((1 : Int32), (0 : Int32), (0 : Int32)) [y0]).2.1, (own_run ((1 : Int32), (0 : Int32), (0 : Int32)) [y0]).2.2) [y1, y2, y3]).2.1)])) _
      refine XS.aload X57.here hx rfl (hb hby at_136) rfl rfl ?_
      show Steps p.tables e below (T57.setTop (mkF m 138 #[.val (.int p1), .val (.int p2), .val (.int p3), .val (.int p4), .val (.int p5), .val (.ref b26), .val (.int (1 : Int32)), .val (.ref b47), .val (.int (1 : Int32))] [(.ref b26), (.int (own_run ((own_run ((1 : Int32), (0 : Int32), (0 : Int32)) [y0]).1, (own_run ((1 : Int32), (0 : Int32), (0 : Int32)) [y0]).2.1, (own_run ((1 : Int32), (0 : Int32), (0 : Int32)) [y0]).2.2) [y1, y2, y3]).2.1)])) _
      refine XS.iconst X57.here hx rfl (hb hby at_138) ?_
      exact kt
    obtain ⟨_, _, ⟨T58, L58, k58, n58⟩, -, X58, ⟨Lc58, hQ58, l58, y58, z58⟩, st58⟩ := Jvm.LawKit.callS X57 hx (y := (⟨"com/example/brokn/brokn/TextPositionAdvancePinLaw", "column", "([CI)I"⟩ : MethodName)) hown (mvT hZ (hw _ (List.mem_of_getElem? (i := 48) rfl))) (mvT hZ (hw _ (List.mem_of_getElem? (i := 49) rfl))) (mvT hZ (hw _ (List.mem_of_getElem? (i := 3) rfl))) (mvT hZ (hw _ (List.mem_of_getElem? (i := 50) rfl))) (by decide) (backOf (W := 1) (rm11 l Z a0 hw [] b26 (4 : Int32) k26 y0 y1 y2 y3 hh54 n0 Zd Vd) hZ (hw _ (List.mem_of_getElem? (i := 50) rfl)) (hw _ (List.mem_of_getElem? (i := 3) rfl)) (by decide) (by decide)) (g := (mkF m 139 #[.val (.int p1), .val (.int p2), .val (.int p3), .val (.int p4), .val (.int p5), .val (.ref b26), .val (.int (1 : Int32)), .val (.ref b47), .val (.int (1 : Int32))] [(.int (4 : Int32)), (.ref b26), (.int (own_run ((own_run ((1 : Int32), (0 : Int32), (0 : Int32)) [y0]).1, (own_run ((1 : Int32), (0 : Int32), (0 : Int32)) [y0]).2.1, (own_run ((1 : Int32), (0 : Int32), (0 : Int32)) [y0]).2.2) [y1, y2, y3]).2.1)])) rfl (by rw [hml]; rfl) (argsL := [(.ref b26), (.int (4 : Int32))]) (rest := [(.int (own_run ((own_run ((1 : Int32), (0 : Int32), (0 : Int32)) [y0]).1, (own_run ((1 : Int32), (0 : Int32), (0 : Int32)) [y0]).2.1, (own_run ((1 : Int32), (0 : Int32), (0 : Int32)) [y0]).2.2) [y1, y2, y3]).2.1)]) (lenOf pd_6 rfl) rfl (by show 2 * 0 + _ ≤ _; exact Nat.le_of_eq rfl) (hb hby at_139) (fun _ _ => ⟨rfl, e57, (by decide : ((((((((((((((((0 + 1) + 0) + 0) + 0) + 0) + 1) + 0) + 0) + 0) + 0) + 0) + 0) + 0) + 0) + 0) + 0) + 0 ≤ _), (by decide : ((((((((((((((((0 + 4) + 0) + 0) + 0) + 0) + 3) + 0) + 0) + 0) + 0) + 0) + 0) + 0) + 0) + 0) + 0) + 0 ≤ _)⟩)
    dsimp only [Pt.U, Pt.locs, Pt.cells, Pt.slots] at X58 l58 y58 z58 st58 hQ58
    subst l58 y58 z58
    obtain ⟨rfl, N58q, e58⟩ := hQ58
    have N58 := Fr.app N57 N58q
    refine own_go (B := T58.setTop (mkF m 142 #[.val (.int p1), .val (.int p2), .val (.int p3), .val (.int p4), .val (.int p5), .val (.ref b26), .val (.int (1 : Int32)), .val (.ref b47), .val (.int (1 : Int32))] [(.int (own_col (4 : Int32) y0 y1 y2 y3)), (.int (own_run ((own_run ((1 : Int32), (0 : Int32), (0 : Int32)) [y0]).1, (own_run ((1 : Int32), (0 : Int32), (0 : Int32)) [y0]).2.1, (own_run ((1 : Int32), (0 : Int32), (0 : Int32)) [y0]).2.2) [y1, y2, y3]).2.1)])) (fun t kt => st58 t kt) ?_
    refine own_go (B := T58.setTop (mkF m 150 #[.val (.int p1), .val (.int p2), .val (.int p3), .val (.int p4), .val (.int p5), .val (.ref b26), .val (.int (1 : Int32)), .val (.ref b47), .val (.int (1 : Int32))] [(.int (1 : Int32))])) (fun t kt => ?_) ?_
    · show Steps p.tables e below (T58.setTop (mkF m 142 #[.val (.int p1), .val (.int p2), .val (.int p3), .val (.int p4), .val (.int p5), .val (.ref b26), .val (.int (1 : Int32)), .val (.ref b47), .val (.int (1 : Int32))] [(.int (own_col (4 : Int32) y0 y1 y2 y3)), (.int (own_run ((own_run ((1 : Int32), (0 : Int32), (0 : Int32)) [y0]).1, (own_run ((1 : Int32), (0 : Int32), (0 : Int32)) [y0]).2.1, (own_run ((1 : Int32), (0 : Int32), (0 : Int32)) [y0]).2.2) [y1, y2, y3]).2.1)])) _
      refine XS.icmpNo X58.here hx rfl (hb hby at_142) rfl (teq (own_B4 y0 y1 y2 y3)).2 ?_
      show Steps p.tables e below (T58.setTop (mkF m 145 #[.val (.int p1), .val (.int p2), .val (.int p3), .val (.int p4), .val (.int p5), .val (.ref b26), .val (.int (1 : Int32)), .val (.ref b47), .val (.int (1 : Int32))] [])) _
      refine XS.iconst X58.here hx rfl (hb hby at_145) ?_
      show Steps p.tables e below (T58.setTop (mkF m 146 #[.val (.int p1), .val (.int p2), .val (.int p3), .val (.int p4), .val (.int p5), .val (.ref b26), .val (.int (1 : Int32)), .val (.ref b47), .val (.int (1 : Int32))] [(.int (1 : Int32))])) _
      refine XS.goto X58.here hx rfl (pc0 := 146) (pc' := 150) rfl (hb hby at_146) (by decide) (by decide) ?_
      exact kt
    obtain ⟨fs, hr, hrun, hended, hW, hsame⟩ := X58.leave (v := some (.int (1 : Int32))) (fun h => by rw [Bd.returns] at h; cases h)
    refine ⟨_, _, ?_, hrun, hended, _, _, rfl, ?_, ⟨_, rfl⟩, hW, hsame.mono (by decide) (by decide)⟩
    · show Steps p.tables e below (T58.setTop (mkF m 150 #[.val (.int p1), .val (.int p2), .val (.int p3), .val (.int p4), .val (.int p5), .val (.ref b26), .val (.int (1 : Int32)), .val (.ref b47), .val (.int (1 : Int32))] [(.int (1 : Int32))])) _
      exact retN X58 hx (t := .boolean) Bd.returns (by simp) (hb hby at_150) hr
    · show Q0 Z p1 p2 p3 p4 p5 h0 n0 _ T58.heap _
      rw [e58]
      exact ⟨rfl, N58⟩
  · rw [hk]
    refine own_go (B := T34.setTop (mkF m 46 #[.val (.int p1), .val (.int p2), .val (.int p3), .val (.int p4), .val (.int p5), .val (.ref b26), .val (.int (2 : Int32)), .unset, .unset] [])) (fun t kt => ?_) ?_
    · show Steps p.tables e below (T34.setTop (mkF m 44 #[.val (.int p1), .val (.int p2), .val (.int p3), .val (.int p4), .val (.int p5), .val (.ref b26), .unset, .unset, .unset] [(.int (2 : Int32))])) _
      refine XS.istore X34.here hx rfl (hb hby at_44) rfl (l' := #[.val (.int p1), .val (.int p2), .val (.int p3), .val (.int p4), .val (.int p5), .val (.ref b26), .val (.int (2 : Int32)), .unset, .unset]) rfl ?_
      exact kt
    obtain ⟨T59, h59, X59, e59, E59, A59, D59, -, st59⟩ := newO X34 hx hZ hown (hw _ (List.mem_of_getElem? (i := 6) rfl)) (hw _ (List.mem_of_getElem? (i := 7) rfl)) (hw _ (List.mem_of_getElem? (i := 8) rfl)) e34 (g := (mkF m 46 #[.val (.int p1), .val (.int p2), .val (.int p3), .val (.int p4), .val (.int p5), .val (.ref b26), .val (.int (2 : Int32)), .unset, .unset] [])) rfl (hb hby at_46) (by decide) (by decide)
    obtain ⟨b59, g59⟩ : ∃ z, z = h34.size := ⟨_, rfl⟩
    rw [← g59] at A59 D59 st59
    have F59_line : Fld Z h59 b59 "com/example/brokn/brokn/TextPosition" "line" "I" (.int (0 : Int32)) := D59 (Or.inl (hw _ (List.mem_of_getElem? (i := 16) rfl))) (ty := .int) (by decide)
    have F59_column : Fld Z h59 b59 "com/example/brokn/brokn/TextPosition" "column" "I" (.int (0 : Int32)) := D59 (Or.inl (hw _ (List.mem_of_getElem? (i := 23) rfl))) (ty := .int) (by decide)
    have F59_previous : Fld Z h59 b59 "com/example/brokn/brokn/TextPosition" "previous" "C" (.int (0 : Int32)) := D59 (Or.inl (hw _ (List.mem_of_getElem? (i := 25) rfl))) (ty := .char) (by decide)
    refine own_go (B := T59.setTop (mkF m 49 #[.val (.int p1), .val (.int p2), .val (.int p3), .val (.int p4), .val (.int p5), .val (.ref b26), .val (.int (2 : Int32)), .unset, .unset] [(.ref b59)])) (fun t kt => st59 t kt) ?_
    have go : n0 ≤ b59 := Nat.le_trans Z5 (Nat.le_of_eq g59.symm)
    have Zo : n0 ≤ h59.size := Nat.le_trans Z5 E59.1
    have hne : b26 ≠ b59 := Nat.ne_of_lt (Nat.lt_of_lt_of_le V4.lt (Nat.le_of_eq g59.symm))
    have Va := V4.ext E59
    refine own_go (B := T59.setTop (mkF m 50 #[.val (.int p1), .val (.int p2), .val (.int p3), .val (.int p4), .val (.int p5), .val (.ref b26), .val (.int (2 : Int32)), .unset, .unset] [(.ref b59), (.ref b59)])) (fun t kt => ?_) ?_
    · show Steps p.tables e below (T59.setTop (mkF m 49 #[.val (.int p1), .val (.int p2), .val (.int p3), .val (.int p4), .val (.int p5), .val (.ref b26), .val (.int (2 : Int32)), .unset, .unset] [(.ref b59)])) _
      refine XS.dup X59.here hx rfl (hb hby at_49) rfl rfl ?_
      exact kt
    obtain ⟨_, _, ⟨T60, L60, k60, n60⟩, -, X60, ⟨Lc60, hQ60, l60, y60, z60⟩, st60⟩ := X59.specialBack hx (y := (⟨"com/example/brokn/brokn/TextPosition", "<init>", "()V"⟩ : MethodName)) rfl hown (mvT hZ (hw _ (List.mem_of_getElem? (i := 9) rfl))) (mvT hZ (hw _ (List.mem_of_getElem? (i := 10) rfl))) (mvT hZ (hw _ (List.mem_of_getElem? (i := 11) rfl))) (by decide) (backOf (W := 1) (rm2 l Z a0 hw [] b59 h59 n0 Zo F59_line F59_column F59_previous A59 go) hZ (hw _ (List.mem_of_getElem? (i := 11) rfl)) (hw _ (List.mem_of_getElem? (i := 8) rfl)) (by decide) (by decide)) (g := (mkF m 50 #[.val (.int p1), .val (.int p2), .val (.int p3), .val (.int p4), .val (.int p5), .val (.ref b26), .val (.int (2 : Int32)), .unset, .unset] [(.ref b59), (.ref b59)])) rfl (by rw [hml]; rfl) (Steps.refl _) (a := b59) (argsL := []) (rest := [(.ref b59)]) (lenOf pd_3 rfl) rfl (by show 2 * 0 + _ ≤ _; exact Nat.le_of_eq rfl) (hb hby at_50) (fun _ _ => ⟨rfl, e59, (by decide : ((((((0 + 1) + 0) + 0) + 0) + 0) + 1) + 0 ≤ _), (by decide : ((((((0 + 4) + 0) + 0) + 0) + 0) + 3) + 0 ≤ _)⟩)
    dsimp only [Pt.U, Pt.locs, Pt.cells, Pt.slots] at X60 l60 y60 z60 st60 hQ60
    subst l60 y60 z60
    obtain ⟨rfl, N60q, K60, E60, Fl60, Fc60, Fp60⟩ := hQ60
    have N60 := Fr.app N34 N60q
    refine own_go (B := T60.setTop (mkF m 53 #[.val (.int p1), .val (.int p2), .val (.int p3), .val (.int p4), .val (.int p5), .val (.ref b26), .val (.int (2 : Int32)), .unset, .unset] [(.ref b59)])) (fun t kt => st60.trans kt) ?_
    have Za : n0 ≤ T60.heap.size := Nat.le_trans Zo K60.1
    have Vb := Va.keep K60 (ninS hne nin0)
    refine own_go (B := T60.setTop (mkF m 62 #[.val (.int p1), .val (.int p2), .val (.int p3), .val (.int p4), .val (.int p5), .val (.ref b26), .val (.int (2 : Int32)), .val (.ref b59), .unset] [(.int (2 : Int32)), (.int (0 : Int32)), (.ref b26), (.ref b59)])) (fun t kt => ?_) ?_
    · show Steps p.tables e below (T60.setTop (mkF m 53 #[.val (.int p1), .val (.int p2), .val (.int p3), .val (.int p4), .val (.int p5), .val (.ref b26), .val (.int (2 : Int32)), .unset, .unset] [(.ref b59)])) _
      refine XS.astore X60.here hx rfl (hb hby at_53) rfl rfl (l' := #[.val (.int p1), .val (.int p2), .val (.int p3), .val (.int p4), .val (.int p5), .val (.ref b26), .val (.int (2 : Int32)), .val (.ref b59), .unset]) rfl ?_
      show Steps p.tables e below (T60.setTop (mkF m 55 #[.val (.int p1), .val (.int p2), .val (.int p3), .val (.int p4), .val (.int p5), .val (.ref b26), .val (.int (2 : Int32)), .val (.ref b59), .unset] [])) _
      refine XS.aload X60.here hx rfl (hb hby at_55) rfl rfl ?_
      show Steps p.tables e below (T60.setTop (mkF m 57 #[.val (.int p1), .val (.int p2), .val (.int p3), .val (.int p4), .val (.int p5), .val (.ref b26), .val (.int (2 : Int32)), .val (.ref b59), .unset] [(.ref b59)])) _
      refine XS.aload X60.here hx rfl (hb hby at_57) rfl rfl ?_
      show Steps p.tables e below (T60.setTop (mkF m 59 #[.val (.int p1), .val (.int p2), .val (.int p3), .val (.int p4), .val (.int p5), .val (.ref b26), .val (.int (2 : Int32)), .val (.ref b59), .unset] [(.ref b26), (.ref b59)])) _
      refine XS.iconst X60.here hx rfl (hb hby at_59) ?_
      show Steps p.tables e below (T60.setTop (mkF m 60 #[.val (.int p1), .val (.int p2), .val (.int p3), .val (.int p4), .val (.int p5), .val (.ref b26), .val (.int (2 : Int32)), .val (.ref b59), .unset] [(.int (0 : Int32)), (.ref b26), (.ref b59)])) _
      refine XS.iload X60.here hx rfl (hb hby at_60) rfl ?_
      exact kt
    obtain ⟨cq61, kq61, q61a, q61b, q61c⟩ := isOf hZ rfl E60
    obtain ⟨_, _, ⟨T61, L61, k61, n61⟩, -, X61, ⟨Lc61, hQ61, l61, y61, z61⟩, st61⟩ := X60.virtualBack hx (y := (⟨"com/example/brokn/brokn/TextPosition", "advance", "([CII)V"⟩ : MethodName)) (z := (⟨"com/example/brokn/brokn/TextPosition", "advance", "([CII)V"⟩ : MethodName)) hown (mvT hZ (hw _ (List.mem_of_getElem? (i := 17) rfl))) (mvT hZ (hw _ (List.mem_of_getElem? (i := 18) rfl))) (notFace_of_selects (args := #[]) (mvT hZ (hw _ (List.mem_of_getElem? (i := 20) rfl)))) (mvT hZ (hw _ (List.mem_of_getElem? (i := 20) rfl))) (mvT hZ (hw _ (List.mem_of_getElem? (i := 19) rfl))) (by decide) (backOf (W := 0) (rm4 l Z a0 hw [] b59 b26 (0 : Int32) (2 : Int32) (1 : Int32) (0 : Int32) (0 : Int32) [y0, y1] T60.heap n0 Za 0 2 (by decide) rfl rfl rfl Fl60 Fc60 Fp60 E60 go k26 [(.int y0), (.int y1), (.int y2), (.int y3)] Vb (own_in0_2 y0 y1 y2 y3) hy1) hZ (hw _ (List.mem_of_getElem? (i := 21) rfl)) (hw _ (List.mem_of_getElem? (i := 8) rfl)) (by decide) (by decide)) q61a q61c (g := (mkF m 62 #[.val (.int p1), .val (.int p2), .val (.int p3), .val (.int p4), .val (.int p5), .val (.ref b26), .val (.int (2 : Int32)), .val (.ref b59), .unset] [(.int (2 : Int32)), (.int (0 : Int32)), (.ref b26), (.ref b59)])) rfl (by rw [hml]; rfl) (Steps.refl _) (argsL := [(.ref b26), (.int (0 : Int32)), (.int (2 : Int32))]) (rest := []) (lenOf pd_4 rfl) rfl (by show 2 * 0 + _ ≤ _; exact Nat.le_of_eq rfl) (hb hby at_62) (fun _ _ => ⟨rfl, rfl, (by decide : (((((((0 + 1) + 0) + 0) + 0) + 0) + 1) + 0) + 0 ≤ _), (by decide : (((((((0 + 4) + 0) + 0) + 0) + 0) + 3) + 0) + 0 ≤ _)⟩)
    dsimp only [Pt.U, Pt.locs, Pt.cells, Pt.slots] at X61 l61 y61 z61 st61 hQ61
    subst l61 y61 z61
    obtain ⟨rfl, N61q, K61, E61, Fl61, Fc61, Fp61⟩ := hQ61
    have N61 := Fr.app N60 N61q
    refine own_go (B := T61.setTop (mkF m 65 #[.val (.int p1), .val (.int p2), .val (.int p3), .val (.int p4), .val (.int p5), .val (.ref b26), .val (.int (2 : Int32)), .val (.ref b59), .unset] [])) (fun t kt => st61.trans kt) ?_
    have Zb : n0 ≤ T61.heap.size := Nat.le_trans Za K61.1
    have Vc := Vb.keep K61 (ninS hne nin0)
    obtain ⟨hh61, ehh61⟩ : ∃ z : Heap, z = T61.heap := ⟨_, rfl⟩
    rw [← ehh61] at Zb Vc Fl61 Fc61 Fp61 E61
    refine own_go (B := T61.setTop (mkF m 67 #[.val (.int p1), .val (.int p2), .val (.int p3), .val (.int p4), .val (.int p5), .val (.ref b26), .val (.int (2 : Int32)), .val (.ref b59), .unset] [(.ref b59)])) (fun t kt => ?_) ?_
    · show Steps p.tables e below (T61.setTop (mkF m 65 #[.val (.int p1), .val (.int p2), .val (.int p3), .val (.int p4), .val (.int p5), .val (.ref b26), .val (.int (2 : Int32)), .val (.ref b59), .unset] [])) _
      refine XS.aload X61.here hx rfl (hb hby at_65) rfl rfl ?_
      exact kt
    obtain ⟨cq62, kq62, q62a, q62b, q62c⟩ := isOf hZ ehh61.symm E61
    obtain ⟨_, _, ⟨T62, L62, k62, n62⟩, -, X62, ⟨Lc62, hQ62, l62, y62, z62⟩, st62⟩ := X61.virtualBack hx (y := (⟨"com/example/brokn/brokn/TextPosition", "line", "()I"⟩ : MethodName)) (z := (⟨"com/example/brokn/brokn/TextPosition", "line", "()I"⟩ : MethodName)) hown (mvT hZ (hw _ (List.mem_of_getElem? (i := 26) rfl))) (mvT hZ (hw _ (List.mem_of_getElem? (i := 27) rfl))) (notFace_of_selects (args := #[]) (mvT hZ (hw _ (List.mem_of_getElem? (i := 29) rfl)))) (mvT hZ (hw _ (List.mem_of_getElem? (i := 29) rfl))) (mvT hZ (hw _ (List.mem_of_getElem? (i := 28) rfl))) (by decide) (backOf (W := 0) (rm5 l Z a0 hw [] b59 (own_run ((1 : Int32), (0 : Int32), (0 : Int32)) [y0, y1]).1 hh61 n0 Zb Fl61) hZ (hw _ (List.mem_of_getElem? (i := 30) rfl)) (hw _ (List.mem_of_getElem? (i := 8) rfl)) (by decide) (by decide)) q62a q62c (g := (mkF m 67 #[.val (.int p1), .val (.int p2), .val (.int p3), .val (.int p4), .val (.int p5), .val (.ref b26), .val (.int (2 : Int32)), .val (.ref b59), .unset] [(.ref b59)])) rfl (by rw [hml]; rfl) (Steps.refl _) (argsL := []) (rest := []) (lenOf pd_5 rfl) rfl (by show 2 * 0 + _ ≤ _; exact Nat.le_of_eq rfl) (hb hby at_67) (fun _ _ => ⟨rfl, ehh61.symm, (by decide : ((((((((0 + 1) + 0) + 0) + 0) + 0) + 1) + 0) + 0) + 0 ≤ _), (by decide : ((((((((0 + 4) + 0) + 0) + 0) + 0) + 3) + 0) + 0) + 0 ≤ _)⟩)
    dsimp only [Pt.U, Pt.locs, Pt.cells, Pt.slots] at X62 l62 y62 z62 st62 hQ62
    subst l62 y62 z62
    obtain ⟨rfl, N62q, e62⟩ := hQ62
    have N62 := Fr.app N61 N62q
    refine own_go (B := T62.setTop (mkF m 70 #[.val (.int p1), .val (.int p2), .val (.int p3), .val (.int p4), .val (.int p5), .val (.ref b26), .val (.int (2 : Int32)), .val (.ref b59), .unset] [(.int (own_run ((1 : Int32), (0 : Int32), (0 : Int32)) [y0, y1]).1)])) (fun t kt => st62.trans kt) ?_
    refine own_go (B := T62.setTop (mkF m 74 #[.val (.int p1), .val (.int p2), .val (.int p3), .val (.int p4), .val (.int p5), .val (.ref b26), .val (.int (2 : Int32)), .val (.ref b59), .unset] [(.int (2 : Int32)), (.ref b26), (.int (own_run ((1 : Int32), (0 : Int32), (0 : Int32)) [y0, y1]).1)])) (fun t kt => ?_) ?_
    · show Steps p.tables e below (T62.setTop (mkF m 70 #[.val (.int p1), .val (.int p2), .val (.int p3), .val (.int p4), .val (.int p5), .val (.ref b26), .val (.int (2 : Int32)), .val (.ref b59), .unset] [(.int (own_run ((1 : Int32), (0 : Int32), (0 : Int32)) [y0, y1]).1)])) _
      refine XS.aload X62.here hx rfl (hb hby at_70) rfl rfl ?_
      show Steps p.tables e below (T62.setTop (mkF m 72 #[.val (.int p1), .val (.int p2), .val (.int p3), .val (.int p4), .val (.int p5), .val (.ref b26), .val (.int (2 : Int32)), .val (.ref b59), .unset] [(.ref b26), (.int (own_run ((1 : Int32), (0 : Int32), (0 : Int32)) [y0, y1]).1)])) _
      refine XS.iload X62.here hx rfl (hb hby at_72) rfl ?_
      exact kt
    obtain ⟨_, _, ⟨T63, L63, k63, n63⟩, -, X63, ⟨Lc63, hQ63, l63, y63, z63⟩, st63⟩ := Jvm.LawKit.callS X62 hx (y := (⟨"com/example/brokn/brokn/TextPositionAdvancePinLaw", "lines", "([CI)I"⟩ : MethodName)) hown (mvT hZ (hw _ (List.mem_of_getElem? (i := 31) rfl))) (mvT hZ (hw _ (List.mem_of_getElem? (i := 32) rfl))) (mvT hZ (hw _ (List.mem_of_getElem? (i := 3) rfl))) (mvT hZ (hw _ (List.mem_of_getElem? (i := 33) rfl))) (by decide) (backOf (W := 1) (rm6 l Z a0 hw [] b26 (2 : Int32) k26 y0 y1 y2 y3 hh61 n0 Zb Vc) hZ (hw _ (List.mem_of_getElem? (i := 33) rfl)) (hw _ (List.mem_of_getElem? (i := 3) rfl)) (by decide) (by decide)) (g := (mkF m 74 #[.val (.int p1), .val (.int p2), .val (.int p3), .val (.int p4), .val (.int p5), .val (.ref b26), .val (.int (2 : Int32)), .val (.ref b59), .unset] [(.int (2 : Int32)), (.ref b26), (.int (own_run ((1 : Int32), (0 : Int32), (0 : Int32)) [y0, y1]).1)])) rfl (by rw [hml]; rfl) (argsL := [(.ref b26), (.int (2 : Int32))]) (rest := [(.int (own_run ((1 : Int32), (0 : Int32), (0 : Int32)) [y0, y1]).1)]) (lenOf pd_6 rfl) rfl (by show 2 * 0 + _ ≤ _; exact Nat.le_of_eq rfl) (hb hby at_74) (fun _ _ => ⟨rfl, e62, (by decide : (((((((((0 + 1) + 0) + 0) + 0) + 0) + 1) + 0) + 0) + 0) + 0 ≤ _), (by decide : (((((((((0 + 4) + 0) + 0) + 0) + 0) + 3) + 0) + 0) + 0) + 0 ≤ _)⟩)
    dsimp only [Pt.U, Pt.locs, Pt.cells, Pt.slots] at X63 l63 y63 z63 st63 hQ63
    subst l63 y63 z63
    obtain ⟨rfl, N63q, e63⟩ := hQ63
    have N63 := Fr.app N62 N63q
    refine own_go (B := T63.setTop (mkF m 77 #[.val (.int p1), .val (.int p2), .val (.int p3), .val (.int p4), .val (.int p5), .val (.ref b26), .val (.int (2 : Int32)), .val (.ref b59), .unset] [(.int (own_lines (2 : Int32) y0 y1 y2 y3)), (.int (own_run ((1 : Int32), (0 : Int32), (0 : Int32)) [y0, y1]).1)])) (fun t kt => st63 t kt) ?_
    refine own_go (B := T63.setTop (mkF m 82 #[.val (.int p1), .val (.int p2), .val (.int p3), .val (.int p4), .val (.int p5), .val (.ref b26), .val (.int (2 : Int32)), .val (.ref b59), .unset] [(.ref b59)])) (fun t kt => ?_) ?_
    · show Steps p.tables e below (T63.setTop (mkF m 77 #[.val (.int p1), .val (.int p2), .val (.int p3), .val (.int p4), .val (.int p5), .val (.ref b26), .val (.int (2 : Int32)), .val (.ref b59), .unset] [(.int (own_lines (2 : Int32) y0 y1 y2 y3)), (.int (own_run ((1 : Int32), (0 : Int32), (0 : Int32)) [y0, y1]).1)])) _
      refine XS.icmpNo X63.here hx rfl (hb hby at_77) rfl (teq (own_A2 y0 y1 y2 y3)).2 ?_
      show Steps p.tables e below (T63.setTop (mkF m 80 #[.val (.int p1), .val (.int p2), .val (.int p3), .val (.int p4), .val (.int p5), .val (.ref b26), .val (.int (2 : Int32)), .val (.ref b59), .unset] [])) _
      refine XS.aload X63.here hx rfl (hb hby at_80) rfl rfl ?_
      exact kt
    obtain ⟨cq64, kq64, q64a, q64b, q64c⟩ := isOf hZ e63 E61
    obtain ⟨_, _, ⟨T64, L64, k64, n64⟩, -, X64, ⟨Lc64, hQ64, l64, y64, z64⟩, st64⟩ := X63.virtualBack hx (y := (⟨"com/example/brokn/brokn/TextPosition", "column", "()I"⟩ : MethodName)) (z := (⟨"com/example/brokn/brokn/TextPosition", "column", "()I"⟩ : MethodName)) hown (mvT hZ (hw _ (List.mem_of_getElem? (i := 43) rfl))) (mvT hZ (hw _ (List.mem_of_getElem? (i := 44) rfl))) (notFace_of_selects (args := #[]) (mvT hZ (hw _ (List.mem_of_getElem? (i := 46) rfl)))) (mvT hZ (hw _ (List.mem_of_getElem? (i := 46) rfl))) (mvT hZ (hw _ (List.mem_of_getElem? (i := 45) rfl))) (by decide) (backOf (W := 0) (rm10 l Z a0 hw [] b59 (own_run ((1 : Int32), (0 : Int32), (0 : Int32)) [y0, y1]).2.1 hh61 n0 Zb Fc61) hZ (hw _ (List.mem_of_getElem? (i := 47) rfl)) (hw _ (List.mem_of_getElem? (i := 8) rfl)) (by decide) (by decide)) q64a q64c (g := (mkF m 82 #[.val (.int p1), .val (.int p2), .val (.int p3), .val (.int p4), .val (.int p5), .val (.ref b26), .val (.int (2 : Int32)), .val (.ref b59), .unset] [(.ref b59)])) rfl (by rw [hml]; rfl) (Steps.refl _) (argsL := []) (rest := []) (lenOf pd_5 rfl) rfl (by show 2 * 0 + _ ≤ _; exact Nat.le_of_eq rfl) (hb hby at_82) (fun _ _ => ⟨rfl, e63, (by decide : ((((((((((0 + 1) + 0) + 0) + 0) + 0) + 1) + 0) + 0) + 0) + 0) + 0 ≤ _), (by decide : ((((((((((0 + 4) + 0) + 0) + 0) + 0) + 3) + 0) + 0) + 0) + 0) + 0 ≤ _)⟩)
    dsimp only [Pt.U, Pt.locs, Pt.cells, Pt.slots] at X64 l64 y64 z64 st64 hQ64
    subst l64 y64 z64
    obtain ⟨rfl, N64q, e64⟩ := hQ64
    have N64 := Fr.app N63 N64q
    refine own_go (B := T64.setTop (mkF m 85 #[.val (.int p1), .val (.int p2), .val (.int p3), .val (.int p4), .val (.int p5), .val (.ref b26), .val (.int (2 : Int32)), .val (.ref b59), .unset] [(.int (own_run ((1 : Int32), (0 : Int32), (0 : Int32)) [y0, y1]).2.1)])) (fun t kt => st64.trans kt) ?_
    refine own_go (B := T64.setTop (mkF m 89 #[.val (.int p1), .val (.int p2), .val (.int p3), .val (.int p4), .val (.int p5), .val (.ref b26), .val (.int (2 : Int32)), .val (.ref b59), .unset] [(.int (2 : Int32)), (.ref b26), (.int (own_run ((1 : Int32), (0 : Int32), (0 : Int32)) [y0, y1]).2.1)])) (fun t kt => ?_) ?_
    · show Steps p.tables e below (T64.setTop (mkF m 85 #[.val (.int p1), .val (.int p2), .val (.int p3), .val (.int p4), .val (.int p5), .val (.ref b26), .val (.int (2 : Int32)), .val (.ref b59), .unset] [(.int (own_run ((1 : Int32), (0 : Int32), (0 : Int32)) [y0, y1]).2.1)])) _
      refine XS.aload X64.here hx rfl (hb hby at_85) rfl rfl ?_
      show Steps p.tables e below (T64.setTop (mkF m 87 #[.val (.int p1), .val (.int p2), .val (.int p3), .val (.int p4), .val (.int p5), .val (.ref b26), .val (.int (2 : Int32)), .val (.ref b59), .unset] [(.ref b26), (.int (own_run ((1 : Int32), (0 : Int32), (0 : Int32)) [y0, y1]).2.1)])) _
      refine XS.iload X64.here hx rfl (hb hby at_87) rfl ?_
      exact kt
    obtain ⟨_, _, ⟨T65, L65, k65, n65⟩, -, X65, ⟨Lc65, hQ65, l65, y65, z65⟩, st65⟩ := Jvm.LawKit.callS X64 hx (y := (⟨"com/example/brokn/brokn/TextPositionAdvancePinLaw", "column", "([CI)I"⟩ : MethodName)) hown (mvT hZ (hw _ (List.mem_of_getElem? (i := 48) rfl))) (mvT hZ (hw _ (List.mem_of_getElem? (i := 49) rfl))) (mvT hZ (hw _ (List.mem_of_getElem? (i := 3) rfl))) (mvT hZ (hw _ (List.mem_of_getElem? (i := 50) rfl))) (by decide) (backOf (W := 1) (rm11 l Z a0 hw [] b26 (2 : Int32) k26 y0 y1 y2 y3 hh61 n0 Zb Vc) hZ (hw _ (List.mem_of_getElem? (i := 50) rfl)) (hw _ (List.mem_of_getElem? (i := 3) rfl)) (by decide) (by decide)) (g := (mkF m 89 #[.val (.int p1), .val (.int p2), .val (.int p3), .val (.int p4), .val (.int p5), .val (.ref b26), .val (.int (2 : Int32)), .val (.ref b59), .unset] [(.int (2 : Int32)), (.ref b26), (.int (own_run ((1 : Int32), (0 : Int32), (0 : Int32)) [y0, y1]).2.1)])) rfl (by rw [hml]; rfl) (argsL := [(.ref b26), (.int (2 : Int32))]) (rest := [(.int (own_run ((1 : Int32), (0 : Int32), (0 : Int32)) [y0, y1]).2.1)]) (lenOf pd_6 rfl) rfl (by show 2 * 0 + _ ≤ _; exact Nat.le_of_eq rfl) (hb hby at_89) (fun _ _ => ⟨rfl, e64, (by decide : (((((((((((0 + 1) + 0) + 0) + 0) + 0) + 1) + 0) + 0) + 0) + 0) + 0) + 0 ≤ _), (by decide : (((((((((((0 + 4) + 0) + 0) + 0) + 0) + 3) + 0) + 0) + 0) + 0) + 0) + 0 ≤ _)⟩)
    dsimp only [Pt.U, Pt.locs, Pt.cells, Pt.slots] at X65 l65 y65 z65 st65 hQ65
    subst l65 y65 z65
    obtain ⟨rfl, N65q, e65⟩ := hQ65
    have N65 := Fr.app N64 N65q
    refine own_go (B := T65.setTop (mkF m 92 #[.val (.int p1), .val (.int p2), .val (.int p3), .val (.int p4), .val (.int p5), .val (.ref b26), .val (.int (2 : Int32)), .val (.ref b59), .unset] [(.int (own_col (2 : Int32) y0 y1 y2 y3)), (.int (own_run ((1 : Int32), (0 : Int32), (0 : Int32)) [y0, y1]).2.1)])) (fun t kt => st65 t kt) ?_
    refine own_go (B := T65.setTop (mkF m 109 #[.val (.int p1), .val (.int p2), .val (.int p3), .val (.int p4), .val (.int p5), .val (.ref b26), .val (.int (2 : Int32)), .val (.ref b59), .val (.int (1 : Int32))] [(.int (4 : Int32)), (.int (2 : Int32)), (.ref b26), (.ref b59)])) (fun t kt => ?_) ?_
    · show Steps p.tables e below (T65.setTop (mkF m 92 #[.val (.int p1), .val (.int p2), .val (.int p3), .val (.int p4), .val (.int p5), .val (.ref b26), .val (.int (2 : Int32)), .val (.ref b59), .unset] [(.int (own_col (2 : Int32) y0 y1 y2 y3)), (.int (own_run ((1 : Int32), (0 : Int32), (0 : Int32)) [y0, y1]).2.1)])) _
      refine XS.icmpNo X65.here hx rfl (hb hby at_92) rfl (teq (own_B2 y0 y1 y2 y3)).2 ?_
      show Steps p.tables e below (T65.setTop (mkF m 95 #[.val (.int p1), .val (.int p2), .val (.int p3), .val (.int p4), .val (.int p5), .val (.ref b26), .val (.int (2 : Int32)), .val (.ref b59), .unset] [])) _
      refine XS.iconst X65.here hx rfl (hb hby at_95) ?_
      show Steps p.tables e below (T65.setTop (mkF m 96 #[.val (.int p1), .val (.int p2), .val (.int p3), .val (.int p4), .val (.int p5), .val (.ref b26), .val (.int (2 : Int32)), .val (.ref b59), .unset] [(.int (1 : Int32))])) _
      refine XS.goto X65.here hx rfl (pc0 := 96) (pc' := 100) rfl (hb hby at_96) (by decide) (by decide) ?_
      show Steps p.tables e below (T65.setTop (mkF m 100 #[.val (.int p1), .val (.int p2), .val (.int p3), .val (.int p4), .val (.int p5), .val (.ref b26), .val (.int (2 : Int32)), .val (.ref b59), .unset] [(.int (1 : Int32))])) _
      refine XS.istore X65.here hx rfl (hb hby at_100) rfl (l' := #[.val (.int p1), .val (.int p2), .val (.int p3), .val (.int p4), .val (.int p5), .val (.ref b26), .val (.int (2 : Int32)), .val (.ref b59), .val (.int (1 : Int32))]) rfl ?_
      show Steps p.tables e below (T65.setTop (mkF m 102 #[.val (.int p1), .val (.int p2), .val (.int p3), .val (.int p4), .val (.int p5), .val (.ref b26), .val (.int (2 : Int32)), .val (.ref b59), .val (.int (1 : Int32))] [])) _
      refine XS.aload X65.here hx rfl (hb hby at_102) rfl rfl ?_
      show Steps p.tables e below (T65.setTop (mkF m 104 #[.val (.int p1), .val (.int p2), .val (.int p3), .val (.int p4), .val (.int p5), .val (.ref b26), .val (.int (2 : Int32)), .val (.ref b59), .val (.int (1 : Int32))] [(.ref b59)])) _
      refine XS.aload X65.here hx rfl (hb hby at_104) rfl rfl ?_
      show Steps p.tables e below (T65.setTop (mkF m 106 #[.val (.int p1), .val (.int p2), .val (.int p3), .val (.int p4), .val (.int p5), .val (.ref b26), .val (.int (2 : Int32)), .val (.ref b59), .val (.int (1 : Int32))] [(.ref b26), (.ref b59)])) _
      refine XS.iload X65.here hx rfl (hb hby at_106) rfl ?_
      show Steps p.tables e below (T65.setTop (mkF m 108 #[.val (.int p1), .val (.int p2), .val (.int p3), .val (.int p4), .val (.int p5), .val (.ref b26), .val (.int (2 : Int32)), .val (.ref b59), .val (.int (1 : Int32))] [(.int (2 : Int32)), (.ref b26), (.ref b59)])) _
      refine XS.iconst X65.here hx rfl (hb hby at_108) ?_
      exact kt
    obtain ⟨cq66, kq66, q66a, q66b, q66c⟩ := isOf hZ e65 E61
    obtain ⟨_, _, ⟨T66, L66, k66, n66⟩, -, X66, ⟨Lc66, hQ66, l66, y66, z66⟩, st66⟩ := X65.virtualBack hx (y := (⟨"com/example/brokn/brokn/TextPosition", "advance", "([CII)V"⟩ : MethodName)) (z := (⟨"com/example/brokn/brokn/TextPosition", "advance", "([CII)V"⟩ : MethodName)) hown (mvT hZ (hw _ (List.mem_of_getElem? (i := 17) rfl))) (mvT hZ (hw _ (List.mem_of_getElem? (i := 18) rfl))) (notFace_of_selects (args := #[]) (mvT hZ (hw _ (List.mem_of_getElem? (i := 20) rfl)))) (mvT hZ (hw _ (List.mem_of_getElem? (i := 20) rfl))) (mvT hZ (hw _ (List.mem_of_getElem? (i := 19) rfl))) (by decide) (backOf (W := 0) (rm4 l Z a0 hw [] b59 b26 (2 : Int32) (4 : Int32) (own_run ((1 : Int32), (0 : Int32), (0 : Int32)) [y0, y1]).1 (own_run ((1 : Int32), (0 : Int32), (0 : Int32)) [y0, y1]).2.1 (own_run ((1 : Int32), (0 : Int32), (0 : Int32)) [y0, y1]).2.2 [y2, y3] hh61 n0 Zb 2 4 (by decide) rfl rfl rfl Fl61 Fc61 Fp61 E61 go k26 [(.int y0), (.int y1), (.int y2), (.int y3)] Vc (own_in2_4 y0 y1 y2 y3) hy3) hZ (hw _ (List.mem_of_getElem? (i := 21) rfl)) (hw _ (List.mem_of_getElem? (i := 8) rfl)) (by decide) (by decide)) q66a q66c (g := (mkF m 109 #[.val (.int p1), .val (.int p2), .val (.int p3), .val (.int p4), .val (.int p5), .val (.ref b26), .val (.int (2 : Int32)), .val (.ref b59), .val (.int (1 : Int32))] [(.int (4 : Int32)), (.int (2 : Int32)), (.ref b26), (.ref b59)])) rfl (by rw [hml]; rfl) (Steps.refl _) (argsL := [(.ref b26), (.int (2 : Int32)), (.int (4 : Int32))]) (rest := []) (lenOf pd_4 rfl) rfl (by show 2 * 0 + _ ≤ _; exact Nat.le_of_eq rfl) (hb hby at_109) (fun _ _ => ⟨rfl, e65, (by decide : ((((((((((((0 + 1) + 0) + 0) + 0) + 0) + 1) + 0) + 0) + 0) + 0) + 0) + 0) + 0 ≤ _), (by decide : ((((((((((((0 + 4) + 0) + 0) + 0) + 0) + 3) + 0) + 0) + 0) + 0) + 0) + 0) + 0 ≤ _)⟩)
    dsimp only [Pt.U, Pt.locs, Pt.cells, Pt.slots] at X66 l66 y66 z66 st66 hQ66
    subst l66 y66 z66
    obtain ⟨rfl, N66q, K66, E66, Fl66, Fc66, Fp66⟩ := hQ66
    have N66 := Fr.app N65 N66q
    refine own_go (B := T66.setTop (mkF m 112 #[.val (.int p1), .val (.int p2), .val (.int p3), .val (.int p4), .val (.int p5), .val (.ref b26), .val (.int (2 : Int32)), .val (.ref b59), .val (.int (1 : Int32))] [])) (fun t kt => st66.trans kt) ?_
    have Zd : n0 ≤ T66.heap.size := Nat.le_trans Zb K66.1
    have Vd := Vc.keep K66 (ninS hne nin0)
    obtain ⟨hh66, ehh66⟩ : ∃ z : Heap, z = T66.heap := ⟨_, rfl⟩
    rw [← ehh66] at Zd Vd Fl66 Fc66 Fp66 E66
    refine own_go (B := T66.setTop (mkF m 119 #[.val (.int p1), .val (.int p2), .val (.int p3), .val (.int p4), .val (.int p5), .val (.ref b26), .val (.int (2 : Int32)), .val (.ref b59), .val (.int (1 : Int32))] [(.ref b59)])) (fun t kt => ?_) ?_
    · show Steps p.tables e below (T66.setTop (mkF m 112 #[.val (.int p1), .val (.int p2), .val (.int p3), .val (.int p4), .val (.int p5), .val (.ref b26), .val (.int (2 : Int32)), .val (.ref b59), .val (.int (1 : Int32))] [])) _
      refine XS.iload X66.here hx rfl (hb hby at_112) rfl ?_
      show Steps p.tables e below (T66.setTop (mkF m 114 #[.val (.int p1), .val (.int p2), .val (.int p3), .val (.int p4), .val (.int p5), .val (.ref b26), .val (.int (2 : Int32)), .val (.ref b59), .val (.int (1 : Int32))] [(.int (1 : Int32))])) _
      refine XS.ifNo X66.here hx rfl (hb hby at_114) rfl ((if0 _ _).trans (feq (by decide)).1) ?_
      show Steps p.tables e below (T66.setTop (mkF m 117 #[.val (.int p1), .val (.int p2), .val (.int p3), .val (.int p4), .val (.int p5), .val (.ref b26), .val (.int (2 : Int32)), .val (.ref b59), .val (.int (1 : Int32))] [])) _
      refine XS.aload X66.here hx rfl (hb hby at_117) rfl rfl ?_
      exact kt
    obtain ⟨cq67, kq67, q67a, q67b, q67c⟩ := isOf hZ ehh66.symm E66
    obtain ⟨_, _, ⟨T67, L67, k67, n67⟩, -, X67, ⟨Lc67, hQ67, l67, y67, z67⟩, st67⟩ := X66.virtualBack hx (y := (⟨"com/example/brokn/brokn/TextPosition", "line", "()I"⟩ : MethodName)) (z := (⟨"com/example/brokn/brokn/TextPosition", "line", "()I"⟩ : MethodName)) hown (mvT hZ (hw _ (List.mem_of_getElem? (i := 26) rfl))) (mvT hZ (hw _ (List.mem_of_getElem? (i := 27) rfl))) (notFace_of_selects (args := #[]) (mvT hZ (hw _ (List.mem_of_getElem? (i := 29) rfl)))) (mvT hZ (hw _ (List.mem_of_getElem? (i := 29) rfl))) (mvT hZ (hw _ (List.mem_of_getElem? (i := 28) rfl))) (by decide) (backOf (W := 0) (rm5 l Z a0 hw [] b59 (own_run ((own_run ((1 : Int32), (0 : Int32), (0 : Int32)) [y0, y1]).1, (own_run ((1 : Int32), (0 : Int32), (0 : Int32)) [y0, y1]).2.1, (own_run ((1 : Int32), (0 : Int32), (0 : Int32)) [y0, y1]).2.2) [y2, y3]).1 hh66 n0 Zd Fl66) hZ (hw _ (List.mem_of_getElem? (i := 30) rfl)) (hw _ (List.mem_of_getElem? (i := 8) rfl)) (by decide) (by decide)) q67a q67c (g := (mkF m 119 #[.val (.int p1), .val (.int p2), .val (.int p3), .val (.int p4), .val (.int p5), .val (.ref b26), .val (.int (2 : Int32)), .val (.ref b59), .val (.int (1 : Int32))] [(.ref b59)])) rfl (by rw [hml]; rfl) (Steps.refl _) (argsL := []) (rest := []) (lenOf pd_5 rfl) rfl (by show 2 * 0 + _ ≤ _; exact Nat.le_of_eq rfl) (hb hby at_119) (fun _ _ => ⟨rfl, ehh66.symm, (by decide : (((((((((((((0 + 1) + 0) + 0) + 0) + 0) + 1) + 0) + 0) + 0) + 0) + 0) + 0) + 0) + 0 ≤ _), (by decide : (((((((((((((0 + 4) + 0) + 0) + 0) + 0) + 3) + 0) + 0) + 0) + 0) + 0) + 0) + 0) + 0 ≤ _)⟩)
    dsimp only [Pt.U, Pt.locs, Pt.cells, Pt.slots] at X67 l67 y67 z67 st67 hQ67
    subst l67 y67 z67
    obtain ⟨rfl, N67q, e67⟩ := hQ67
    have N67 := Fr.app N66 N67q
    refine own_go (B := T67.setTop (mkF m 122 #[.val (.int p1), .val (.int p2), .val (.int p3), .val (.int p4), .val (.int p5), .val (.ref b26), .val (.int (2 : Int32)), .val (.ref b59), .val (.int (1 : Int32))] [(.int (own_run ((own_run ((1 : Int32), (0 : Int32), (0 : Int32)) [y0, y1]).1, (own_run ((1 : Int32), (0 : Int32), (0 : Int32)) [y0, y1]).2.1, (own_run ((1 : Int32), (0 : Int32), (0 : Int32)) [y0, y1]).2.2) [y2, y3]).1)])) (fun t kt => st67.trans kt) ?_
    refine own_go (B := T67.setTop (mkF m 125 #[.val (.int p1), .val (.int p2), .val (.int p3), .val (.int p4), .val (.int p5), .val (.ref b26), .val (.int (2 : Int32)), .val (.ref b59), .val (.int (1 : Int32))] [(.int (4 : Int32)), (.ref b26), (.int (own_run ((own_run ((1 : Int32), (0 : Int32), (0 : Int32)) [y0, y1]).1, (own_run ((1 : Int32), (0 : Int32), (0 : Int32)) [y0, y1]).2.1, (own_run ((1 : Int32), (0 : Int32), (0 : Int32)) [y0, y1]).2.2) [y2, y3]).1)])) (fun t kt => ?_) ?_
    · show Steps p.tables e below (T67.setTop (mkF m 122 #[.val (.int p1), .val (.int p2), .val (.int p3), .val (.int p4), .val (.int p5), .val (.ref b26), .val (.int (2 : Int32)), .val (.ref b59), .val (.int (1 : Int32))] [(.int (own_run ((own_run ((1 : Int32), (0 : Int32), (0 : Int32)) [y0, y1]).1, (own_run ((1 : Int32), (0 : Int32), (0 : Int32)) [y0, y1]).2.1, (own_run ((1 : Int32), (0 : Int32), (0 : Int32)) [y0, y1]).2.2) [y2, y3]).1)])) _
      refine XS.aload X67.here hx rfl (hb hby at_122) rfl rfl ?_
      show Steps p.tables e below (T67.setTop (mkF m 124 #[.val (.int p1), .val (.int p2), .val (.int p3), .val (.int p4), .val (.int p5), .val (.ref b26), .val (.int (2 : Int32)), .val (.ref b59), .val (.int (1 : Int32))] [(.ref b26), (.int (own_run ((own_run ((1 : Int32), (0 : Int32), (0 : Int32)) [y0, y1]).1, (own_run ((1 : Int32), (0 : Int32), (0 : Int32)) [y0, y1]).2.1, (own_run ((1 : Int32), (0 : Int32), (0 : Int32)) [y0, y1]).2.2) [y2, y3]).1)])) _
      refine XS.iconst X67.here hx rfl (hb hby at_124) ?_
      exact kt
    obtain ⟨_, _, ⟨T68, L68, k68, n68⟩, -, X68, ⟨Lc68, hQ68, l68, y68, z68⟩, st68⟩ := Jvm.LawKit.callS X67 hx (y := (⟨"com/example/brokn/brokn/TextPositionAdvancePinLaw", "lines", "([CI)I"⟩ : MethodName)) hown (mvT hZ (hw _ (List.mem_of_getElem? (i := 31) rfl))) (mvT hZ (hw _ (List.mem_of_getElem? (i := 32) rfl))) (mvT hZ (hw _ (List.mem_of_getElem? (i := 3) rfl))) (mvT hZ (hw _ (List.mem_of_getElem? (i := 33) rfl))) (by decide) (backOf (W := 1) (rm6 l Z a0 hw [] b26 (4 : Int32) k26 y0 y1 y2 y3 hh66 n0 Zd Vd) hZ (hw _ (List.mem_of_getElem? (i := 33) rfl)) (hw _ (List.mem_of_getElem? (i := 3) rfl)) (by decide) (by decide)) (g := (mkF m 125 #[.val (.int p1), .val (.int p2), .val (.int p3), .val (.int p4), .val (.int p5), .val (.ref b26), .val (.int (2 : Int32)), .val (.ref b59), .val (.int (1 : Int32))] [(.int (4 : Int32)), (.ref b26), (.int (own_run ((own_run ((1 : Int32), (0 : Int32), (0 : Int32)) [y0, y1]).1, (own_run ((1 : Int32), (0 : Int32), (0 : Int32)) [y0, y1]).2.1, (own_run ((1 : Int32), (0 : Int32), (0 : Int32)) [y0, y1]).2.2) [y2, y3]).1)])) rfl (by rw [hml]; rfl) (argsL := [(.ref b26), (.int (4 : Int32))]) (rest := [(.int (own_run ((own_run ((1 : Int32), (0 : Int32), (0 : Int32)) [y0, y1]).1, (own_run ((1 : Int32), (0 : Int32), (0 : Int32)) [y0, y1]).2.1, (own_run ((1 : Int32), (0 : Int32), (0 : Int32)) [y0, y1]).2.2) [y2, y3]).1)]) (lenOf pd_6 rfl) rfl (by show 2 * 0 + _ ≤ _; exact Nat.le_of_eq rfl) (hb hby at_125) (fun _ _ => ⟨rfl, e67, (by decide : ((((((((((((((0 + 1) + 0) + 0) + 0) + 0) + 1) + 0) + 0) + 0) + 0) + 0) + 0) + 0) + 0) + 0 ≤ _), (by decide : ((((((((((((((0 + 4) + 0) + 0) + 0) + 0) + 3) + 0) + 0) + 0) + 0) + 0) + 0) + 0) + 0) + 0 ≤ _)⟩)
    dsimp only [Pt.U, Pt.locs, Pt.cells, Pt.slots] at X68 l68 y68 z68 st68 hQ68
    subst l68 y68 z68
    obtain ⟨rfl, N68q, e68⟩ := hQ68
    have N68 := Fr.app N67 N68q
    refine own_go (B := T68.setTop (mkF m 128 #[.val (.int p1), .val (.int p2), .val (.int p3), .val (.int p4), .val (.int p5), .val (.ref b26), .val (.int (2 : Int32)), .val (.ref b59), .val (.int (1 : Int32))] [(.int (own_lines (4 : Int32) y0 y1 y2 y3)), (.int (own_run ((own_run ((1 : Int32), (0 : Int32), (0 : Int32)) [y0, y1]).1, (own_run ((1 : Int32), (0 : Int32), (0 : Int32)) [y0, y1]).2.1, (own_run ((1 : Int32), (0 : Int32), (0 : Int32)) [y0, y1]).2.2) [y2, y3]).1)])) (fun t kt => st68 t kt) ?_
    refine own_go (B := T68.setTop (mkF m 133 #[.val (.int p1), .val (.int p2), .val (.int p3), .val (.int p4), .val (.int p5), .val (.ref b26), .val (.int (2 : Int32)), .val (.ref b59), .val (.int (1 : Int32))] [(.ref b59)])) (fun t kt => ?_) ?_
    · show Steps p.tables e below (T68.setTop (mkF m 128 #[.val (.int p1), .val (.int p2), .val (.int p3), .val (.int p4), .val (.int p5), .val (.ref b26), .val (.int (2 : Int32)), .val (.ref b59), .val (.int (1 : Int32))] [(.int (own_lines (4 : Int32) y0 y1 y2 y3)), (.int (own_run ((own_run ((1 : Int32), (0 : Int32), (0 : Int32)) [y0, y1]).1, (own_run ((1 : Int32), (0 : Int32), (0 : Int32)) [y0, y1]).2.1, (own_run ((1 : Int32), (0 : Int32), (0 : Int32)) [y0, y1]).2.2) [y2, y3]).1)])) _
      refine XS.icmpNo X68.here hx rfl (hb hby at_128) rfl (teq (own_A4 y0 y1 y2 y3)).2 ?_
      show Steps p.tables e below (T68.setTop (mkF m 131 #[.val (.int p1), .val (.int p2), .val (.int p3), .val (.int p4), .val (.int p5), .val (.ref b26), .val (.int (2 : Int32)), .val (.ref b59), .val (.int (1 : Int32))] [])) _
      refine XS.aload X68.here hx rfl (hb hby at_131) rfl rfl ?_
      exact kt
    obtain ⟨cq69, kq69, q69a, q69b, q69c⟩ := isOf hZ e68 E66
    obtain ⟨_, _, ⟨T69, L69, k69, n69⟩, -, X69, ⟨Lc69, hQ69, l69, y69, z69⟩, st69⟩ := X68.virtualBack hx (y := (⟨"com/example/brokn/brokn/TextPosition", "column", "()I"⟩ : MethodName)) (z := (⟨"com/example/brokn/brokn/TextPosition", "column", "()I"⟩ : MethodName)) hown (mvT hZ (hw _ (List.mem_of_getElem? (i := 43) rfl))) (mvT hZ (hw _ (List.mem_of_getElem? (i := 44) rfl))) (notFace_of_selects (args := #[]) (mvT hZ (hw _ (List.mem_of_getElem? (i := 46) rfl)))) (mvT hZ (hw _ (List.mem_of_getElem? (i := 46) rfl))) (mvT hZ (hw _ (List.mem_of_getElem? (i := 45) rfl))) (by decide) (backOf (W := 0) (rm10 l Z a0 hw [] b59 (own_run ((own_run ((1 : Int32), (0 : Int32), (0 : Int32)) [y0, y1]).1, (own_run ((1 : Int32), (0 : Int32), (0 : Int32)) [y0, y1]).2.1, (own_run ((1 : Int32), (0 : Int32), (0 : Int32)) [y0, y1]).2.2) [y2, y3]).2.1 hh66 n0 Zd Fc66) hZ (hw _ (List.mem_of_getElem? (i := 47) rfl)) (hw _ (List.mem_of_getElem? (i := 8) rfl)) (by decide) (by decide)) q69a q69c (g := (mkF m 133 #[.val (.int p1), .val (.int p2), .val (.int p3), .val (.int p4), .val (.int p5), .val (.ref b26), .val (.int (2 : Int32)), .val (.ref b59), .val (.int (1 : Int32))] [(.ref b59)])) rfl (by rw [hml]; rfl) (Steps.refl _) (argsL := []) (rest := []) (lenOf pd_5 rfl) rfl (by show 2 * 0 + _ ≤ _; exact Nat.le_of_eq rfl) (hb hby at_133) (fun _ _ => ⟨rfl, e68, (by decide : (((((((((((((((0 + 1) + 0) + 0) + 0) + 0) + 1) + 0) + 0) + 0) + 0) + 0) + 0) + 0) + 0) + 0) + 0 ≤ _), (by decide : (((((((((((((((0 + 4) + 0) + 0) + 0) + 0) + 3) + 0) + 0) + 0) + 0) + 0) + 0) + 0) + 0) + 0) + 0 ≤ _)⟩)
    dsimp only [Pt.U, Pt.locs, Pt.cells, Pt.slots] at X69 l69 y69 z69 st69 hQ69
    subst l69 y69 z69
    obtain ⟨rfl, N69q, e69⟩ := hQ69
    have N69 := Fr.app N68 N69q
    refine own_go (B := T69.setTop (mkF m 136 #[.val (.int p1), .val (.int p2), .val (.int p3), .val (.int p4), .val (.int p5), .val (.ref b26), .val (.int (2 : Int32)), .val (.ref b59), .val (.int (1 : Int32))] [(.int (own_run ((own_run ((1 : Int32), (0 : Int32), (0 : Int32)) [y0, y1]).1, (own_run ((1 : Int32), (0 : Int32), (0 : Int32)) [y0, y1]).2.1, (own_run ((1 : Int32), (0 : Int32), (0 : Int32)) [y0, y1]).2.2) [y2, y3]).2.1)])) (fun t kt => st69.trans kt) ?_
    refine own_go (B := T69.setTop (mkF m 139 #[.val (.int p1), .val (.int p2), .val (.int p3), .val (.int p4), .val (.int p5), .val (.ref b26), .val (.int (2 : Int32)), .val (.ref b59), .val (.int (1 : Int32))] [(.int (4 : Int32)), (.ref b26), (.int (own_run ((own_run ((1 : Int32), (0 : Int32), (0 : Int32)) [y0, y1]).1, (own_run ((1 : Int32), (0 : Int32), (0 : Int32)) [y0, y1]).2.1, (own_run ((1 : Int32), (0 : Int32), (0 : Int32)) [y0, y1]).2.2) [y2, y3]).2.1)])) (fun t kt => ?_) ?_
    · show Steps p.tables e below (T69.setTop (mkF m 136 #[.val (.int p1), .val (.int p2), .val (.int p3), .val (.int p4), .val (.int p5), .val (.ref b26), .val (.int (2 : Int32)), .val (.ref b59), .val (.int (1 : Int32))] [(.int (own_run ((own_run ((1 : Int32), (0 : Int32), (0 : Int32)) [y0, y1]).1, (own_run ((1 : Int32), (0 : Int32), (0 : Int32)) [y0, y1]).2.1, (own_run ((1 : Int32), (0 : Int32), (0 : Int32)) [y0, y1]).2.2) [y2, y3]).2.1)])) _
      refine XS.aload X69.here hx rfl (hb hby at_136) rfl rfl ?_
      show Steps p.tables e below (T69.setTop (mkF m 138 #[.val (.int p1), .val (.int p2), .val (.int p3), .val (.int p4), .val (.int p5), .val (.ref b26), .val (.int (2 : Int32)), .val (.ref b59), .val (.int (1 : Int32))] [(.ref b26), (.int (own_run ((own_run ((1 : Int32), (0 : Int32), (0 : Int32)) [y0, y1]).1, (own_run ((1 : Int32), (0 : Int32), (0 : Int32)) [y0, y1]).2.1, (own_run ((1 : Int32), (0 : Int32), (0 : Int32)) [y0, y1]).2.2) [y2, y3]).2.1)])) _
      refine XS.iconst X69.here hx rfl (hb hby at_138) ?_
      exact kt
    obtain ⟨_, _, ⟨T70, L70, k70, n70⟩, -, X70, ⟨Lc70, hQ70, l70, y70, z70⟩, st70⟩ := Jvm.LawKit.callS X69 hx (y := (⟨"com/example/brokn/brokn/TextPositionAdvancePinLaw", "column", "([CI)I"⟩ : MethodName)) hown (mvT hZ (hw _ (List.mem_of_getElem? (i := 48) rfl))) (mvT hZ (hw _ (List.mem_of_getElem? (i := 49) rfl))) (mvT hZ (hw _ (List.mem_of_getElem? (i := 3) rfl))) (mvT hZ (hw _ (List.mem_of_getElem? (i := 50) rfl))) (by decide) (backOf (W := 1) (rm11 l Z a0 hw [] b26 (4 : Int32) k26 y0 y1 y2 y3 hh66 n0 Zd Vd) hZ (hw _ (List.mem_of_getElem? (i := 50) rfl)) (hw _ (List.mem_of_getElem? (i := 3) rfl)) (by decide) (by decide)) (g := (mkF m 139 #[.val (.int p1), .val (.int p2), .val (.int p3), .val (.int p4), .val (.int p5), .val (.ref b26), .val (.int (2 : Int32)), .val (.ref b59), .val (.int (1 : Int32))] [(.int (4 : Int32)), (.ref b26), (.int (own_run ((own_run ((1 : Int32), (0 : Int32), (0 : Int32)) [y0, y1]).1, (own_run ((1 : Int32), (0 : Int32), (0 : Int32)) [y0, y1]).2.1, (own_run ((1 : Int32), (0 : Int32), (0 : Int32)) [y0, y1]).2.2) [y2, y3]).2.1)])) rfl (by rw [hml]; rfl) (argsL := [(.ref b26), (.int (4 : Int32))]) (rest := [(.int (own_run ((own_run ((1 : Int32), (0 : Int32), (0 : Int32)) [y0, y1]).1, (own_run ((1 : Int32), (0 : Int32), (0 : Int32)) [y0, y1]).2.1, (own_run ((1 : Int32), (0 : Int32), (0 : Int32)) [y0, y1]).2.2) [y2, y3]).2.1)]) (lenOf pd_6 rfl) rfl (by show 2 * 0 + _ ≤ _; exact Nat.le_of_eq rfl) (hb hby at_139) (fun _ _ => ⟨rfl, e69, (by decide : ((((((((((((((((0 + 1) + 0) + 0) + 0) + 0) + 1) + 0) + 0) + 0) + 0) + 0) + 0) + 0) + 0) + 0) + 0) + 0 ≤ _), (by decide : ((((((((((((((((0 + 4) + 0) + 0) + 0) + 0) + 3) + 0) + 0) + 0) + 0) + 0) + 0) + 0) + 0) + 0) + 0) + 0 ≤ _)⟩)
    dsimp only [Pt.U, Pt.locs, Pt.cells, Pt.slots] at X70 l70 y70 z70 st70 hQ70
    subst l70 y70 z70
    obtain ⟨rfl, N70q, e70⟩ := hQ70
    have N70 := Fr.app N69 N70q
    refine own_go (B := T70.setTop (mkF m 142 #[.val (.int p1), .val (.int p2), .val (.int p3), .val (.int p4), .val (.int p5), .val (.ref b26), .val (.int (2 : Int32)), .val (.ref b59), .val (.int (1 : Int32))] [(.int (own_col (4 : Int32) y0 y1 y2 y3)), (.int (own_run ((own_run ((1 : Int32), (0 : Int32), (0 : Int32)) [y0, y1]).1, (own_run ((1 : Int32), (0 : Int32), (0 : Int32)) [y0, y1]).2.1, (own_run ((1 : Int32), (0 : Int32), (0 : Int32)) [y0, y1]).2.2) [y2, y3]).2.1)])) (fun t kt => st70 t kt) ?_
    refine own_go (B := T70.setTop (mkF m 150 #[.val (.int p1), .val (.int p2), .val (.int p3), .val (.int p4), .val (.int p5), .val (.ref b26), .val (.int (2 : Int32)), .val (.ref b59), .val (.int (1 : Int32))] [(.int (1 : Int32))])) (fun t kt => ?_) ?_
    · show Steps p.tables e below (T70.setTop (mkF m 142 #[.val (.int p1), .val (.int p2), .val (.int p3), .val (.int p4), .val (.int p5), .val (.ref b26), .val (.int (2 : Int32)), .val (.ref b59), .val (.int (1 : Int32))] [(.int (own_col (4 : Int32) y0 y1 y2 y3)), (.int (own_run ((own_run ((1 : Int32), (0 : Int32), (0 : Int32)) [y0, y1]).1, (own_run ((1 : Int32), (0 : Int32), (0 : Int32)) [y0, y1]).2.1, (own_run ((1 : Int32), (0 : Int32), (0 : Int32)) [y0, y1]).2.2) [y2, y3]).2.1)])) _
      refine XS.icmpNo X70.here hx rfl (hb hby at_142) rfl (teq (own_B4 y0 y1 y2 y3)).2 ?_
      show Steps p.tables e below (T70.setTop (mkF m 145 #[.val (.int p1), .val (.int p2), .val (.int p3), .val (.int p4), .val (.int p5), .val (.ref b26), .val (.int (2 : Int32)), .val (.ref b59), .val (.int (1 : Int32))] [])) _
      refine XS.iconst X70.here hx rfl (hb hby at_145) ?_
      show Steps p.tables e below (T70.setTop (mkF m 146 #[.val (.int p1), .val (.int p2), .val (.int p3), .val (.int p4), .val (.int p5), .val (.ref b26), .val (.int (2 : Int32)), .val (.ref b59), .val (.int (1 : Int32))] [(.int (1 : Int32))])) _
      refine XS.goto X70.here hx rfl (pc0 := 146) (pc' := 150) rfl (hb hby at_146) (by decide) (by decide) ?_
      exact kt
    obtain ⟨fs, hr, hrun, hended, hW, hsame⟩ := X70.leave (v := some (.int (1 : Int32))) (fun h => by rw [Bd.returns] at h; cases h)
    refine ⟨_, _, ?_, hrun, hended, _, _, rfl, ?_, ⟨_, rfl⟩, hW, hsame.mono (by decide) (by decide)⟩
    · show Steps p.tables e below (T70.setTop (mkF m 150 #[.val (.int p1), .val (.int p2), .val (.int p3), .val (.int p4), .val (.int p5), .val (.ref b26), .val (.int (2 : Int32)), .val (.ref b59), .val (.int (1 : Int32))] [(.int (1 : Int32))])) _
      exact retN X70 hx (t := .boolean) Bd.returns (by simp) (hb hby at_150) hr
    · show Q0 Z p1 p2 p3 p4 p5 h0 n0 _ T70.heap _
      rw [e70]
      exact ⟨rfl, N70⟩
  · rw [hk]
    refine own_go (B := T34.setTop (mkF m 46 #[.val (.int p1), .val (.int p2), .val (.int p3), .val (.int p4), .val (.int p5), .val (.ref b26), .val (.int (3 : Int32)), .unset, .unset] [])) (fun t kt => ?_) ?_
    · show Steps p.tables e below (T34.setTop (mkF m 44 #[.val (.int p1), .val (.int p2), .val (.int p3), .val (.int p4), .val (.int p5), .val (.ref b26), .unset, .unset, .unset] [(.int (3 : Int32))])) _
      refine XS.istore X34.here hx rfl (hb hby at_44) rfl (l' := #[.val (.int p1), .val (.int p2), .val (.int p3), .val (.int p4), .val (.int p5), .val (.ref b26), .val (.int (3 : Int32)), .unset, .unset]) rfl ?_
      exact kt
    obtain ⟨T71, h71, X71, e71, E71, A71, D71, -, st71⟩ := newO X34 hx hZ hown (hw _ (List.mem_of_getElem? (i := 6) rfl)) (hw _ (List.mem_of_getElem? (i := 7) rfl)) (hw _ (List.mem_of_getElem? (i := 8) rfl)) e34 (g := (mkF m 46 #[.val (.int p1), .val (.int p2), .val (.int p3), .val (.int p4), .val (.int p5), .val (.ref b26), .val (.int (3 : Int32)), .unset, .unset] [])) rfl (hb hby at_46) (by decide) (by decide)
    obtain ⟨b71, g71⟩ : ∃ z, z = h34.size := ⟨_, rfl⟩
    rw [← g71] at A71 D71 st71
    have F71_line : Fld Z h71 b71 "com/example/brokn/brokn/TextPosition" "line" "I" (.int (0 : Int32)) := D71 (Or.inl (hw _ (List.mem_of_getElem? (i := 16) rfl))) (ty := .int) (by decide)
    have F71_column : Fld Z h71 b71 "com/example/brokn/brokn/TextPosition" "column" "I" (.int (0 : Int32)) := D71 (Or.inl (hw _ (List.mem_of_getElem? (i := 23) rfl))) (ty := .int) (by decide)
    have F71_previous : Fld Z h71 b71 "com/example/brokn/brokn/TextPosition" "previous" "C" (.int (0 : Int32)) := D71 (Or.inl (hw _ (List.mem_of_getElem? (i := 25) rfl))) (ty := .char) (by decide)
    refine own_go (B := T71.setTop (mkF m 49 #[.val (.int p1), .val (.int p2), .val (.int p3), .val (.int p4), .val (.int p5), .val (.ref b26), .val (.int (3 : Int32)), .unset, .unset] [(.ref b71)])) (fun t kt => st71 t kt) ?_
    have go : n0 ≤ b71 := Nat.le_trans Z5 (Nat.le_of_eq g71.symm)
    have Zo : n0 ≤ h71.size := Nat.le_trans Z5 E71.1
    have hne : b26 ≠ b71 := Nat.ne_of_lt (Nat.lt_of_lt_of_le V4.lt (Nat.le_of_eq g71.symm))
    have Va := V4.ext E71
    refine own_go (B := T71.setTop (mkF m 50 #[.val (.int p1), .val (.int p2), .val (.int p3), .val (.int p4), .val (.int p5), .val (.ref b26), .val (.int (3 : Int32)), .unset, .unset] [(.ref b71), (.ref b71)])) (fun t kt => ?_) ?_
    · show Steps p.tables e below (T71.setTop (mkF m 49 #[.val (.int p1), .val (.int p2), .val (.int p3), .val (.int p4), .val (.int p5), .val (.ref b26), .val (.int (3 : Int32)), .unset, .unset] [(.ref b71)])) _
      refine XS.dup X71.here hx rfl (hb hby at_49) rfl rfl ?_
      exact kt
    obtain ⟨_, _, ⟨T72, L72, k72, n72⟩, -, X72, ⟨Lc72, hQ72, l72, y72, z72⟩, st72⟩ := X71.specialBack hx (y := (⟨"com/example/brokn/brokn/TextPosition", "<init>", "()V"⟩ : MethodName)) rfl hown (mvT hZ (hw _ (List.mem_of_getElem? (i := 9) rfl))) (mvT hZ (hw _ (List.mem_of_getElem? (i := 10) rfl))) (mvT hZ (hw _ (List.mem_of_getElem? (i := 11) rfl))) (by decide) (backOf (W := 1) (rm2 l Z a0 hw [] b71 h71 n0 Zo F71_line F71_column F71_previous A71 go) hZ (hw _ (List.mem_of_getElem? (i := 11) rfl)) (hw _ (List.mem_of_getElem? (i := 8) rfl)) (by decide) (by decide)) (g := (mkF m 50 #[.val (.int p1), .val (.int p2), .val (.int p3), .val (.int p4), .val (.int p5), .val (.ref b26), .val (.int (3 : Int32)), .unset, .unset] [(.ref b71), (.ref b71)])) rfl (by rw [hml]; rfl) (Steps.refl _) (a := b71) (argsL := []) (rest := [(.ref b71)]) (lenOf pd_3 rfl) rfl (by show 2 * 0 + _ ≤ _; exact Nat.le_of_eq rfl) (hb hby at_50) (fun _ _ => ⟨rfl, e71, (by decide : ((((((0 + 1) + 0) + 0) + 0) + 0) + 1) + 0 ≤ _), (by decide : ((((((0 + 4) + 0) + 0) + 0) + 0) + 3) + 0 ≤ _)⟩)
    dsimp only [Pt.U, Pt.locs, Pt.cells, Pt.slots] at X72 l72 y72 z72 st72 hQ72
    subst l72 y72 z72
    obtain ⟨rfl, N72q, K72, E72, Fl72, Fc72, Fp72⟩ := hQ72
    have N72 := Fr.app N34 N72q
    refine own_go (B := T72.setTop (mkF m 53 #[.val (.int p1), .val (.int p2), .val (.int p3), .val (.int p4), .val (.int p5), .val (.ref b26), .val (.int (3 : Int32)), .unset, .unset] [(.ref b71)])) (fun t kt => st72.trans kt) ?_
    have Za : n0 ≤ T72.heap.size := Nat.le_trans Zo K72.1
    have Vb := Va.keep K72 (ninS hne nin0)
    refine own_go (B := T72.setTop (mkF m 62 #[.val (.int p1), .val (.int p2), .val (.int p3), .val (.int p4), .val (.int p5), .val (.ref b26), .val (.int (3 : Int32)), .val (.ref b71), .unset] [(.int (3 : Int32)), (.int (0 : Int32)), (.ref b26), (.ref b71)])) (fun t kt => ?_) ?_
    · show Steps p.tables e below (T72.setTop (mkF m 53 #[.val (.int p1), .val (.int p2), .val (.int p3), .val (.int p4), .val (.int p5), .val (.ref b26), .val (.int (3 : Int32)), .unset, .unset] [(.ref b71)])) _
      refine XS.astore X72.here hx rfl (hb hby at_53) rfl rfl (l' := #[.val (.int p1), .val (.int p2), .val (.int p3), .val (.int p4), .val (.int p5), .val (.ref b26), .val (.int (3 : Int32)), .val (.ref b71), .unset]) rfl ?_
      show Steps p.tables e below (T72.setTop (mkF m 55 #[.val (.int p1), .val (.int p2), .val (.int p3), .val (.int p4), .val (.int p5), .val (.ref b26), .val (.int (3 : Int32)), .val (.ref b71), .unset] [])) _
      refine XS.aload X72.here hx rfl (hb hby at_55) rfl rfl ?_
      show Steps p.tables e below (T72.setTop (mkF m 57 #[.val (.int p1), .val (.int p2), .val (.int p3), .val (.int p4), .val (.int p5), .val (.ref b26), .val (.int (3 : Int32)), .val (.ref b71), .unset] [(.ref b71)])) _
      refine XS.aload X72.here hx rfl (hb hby at_57) rfl rfl ?_
      show Steps p.tables e below (T72.setTop (mkF m 59 #[.val (.int p1), .val (.int p2), .val (.int p3), .val (.int p4), .val (.int p5), .val (.ref b26), .val (.int (3 : Int32)), .val (.ref b71), .unset] [(.ref b26), (.ref b71)])) _
      refine XS.iconst X72.here hx rfl (hb hby at_59) ?_
      show Steps p.tables e below (T72.setTop (mkF m 60 #[.val (.int p1), .val (.int p2), .val (.int p3), .val (.int p4), .val (.int p5), .val (.ref b26), .val (.int (3 : Int32)), .val (.ref b71), .unset] [(.int (0 : Int32)), (.ref b26), (.ref b71)])) _
      refine XS.iload X72.here hx rfl (hb hby at_60) rfl ?_
      exact kt
    obtain ⟨cq73, kq73, q73a, q73b, q73c⟩ := isOf hZ rfl E72
    obtain ⟨_, _, ⟨T73, L73, k73, n73⟩, -, X73, ⟨Lc73, hQ73, l73, y73, z73⟩, st73⟩ := X72.virtualBack hx (y := (⟨"com/example/brokn/brokn/TextPosition", "advance", "([CII)V"⟩ : MethodName)) (z := (⟨"com/example/brokn/brokn/TextPosition", "advance", "([CII)V"⟩ : MethodName)) hown (mvT hZ (hw _ (List.mem_of_getElem? (i := 17) rfl))) (mvT hZ (hw _ (List.mem_of_getElem? (i := 18) rfl))) (notFace_of_selects (args := #[]) (mvT hZ (hw _ (List.mem_of_getElem? (i := 20) rfl)))) (mvT hZ (hw _ (List.mem_of_getElem? (i := 20) rfl))) (mvT hZ (hw _ (List.mem_of_getElem? (i := 19) rfl))) (by decide) (backOf (W := 0) (rm4 l Z a0 hw [] b71 b26 (0 : Int32) (3 : Int32) (1 : Int32) (0 : Int32) (0 : Int32) [y0, y1, y2] T72.heap n0 Za 0 3 (by decide) rfl rfl rfl Fl72 Fc72 Fp72 E72 go k26 [(.int y0), (.int y1), (.int y2), (.int y3)] Vb (own_in0_3 y0 y1 y2 y3) hy2) hZ (hw _ (List.mem_of_getElem? (i := 21) rfl)) (hw _ (List.mem_of_getElem? (i := 8) rfl)) (by decide) (by decide)) q73a q73c (g := (mkF m 62 #[.val (.int p1), .val (.int p2), .val (.int p3), .val (.int p4), .val (.int p5), .val (.ref b26), .val (.int (3 : Int32)), .val (.ref b71), .unset] [(.int (3 : Int32)), (.int (0 : Int32)), (.ref b26), (.ref b71)])) rfl (by rw [hml]; rfl) (Steps.refl _) (argsL := [(.ref b26), (.int (0 : Int32)), (.int (3 : Int32))]) (rest := []) (lenOf pd_4 rfl) rfl (by show 2 * 0 + _ ≤ _; exact Nat.le_of_eq rfl) (hb hby at_62) (fun _ _ => ⟨rfl, rfl, (by decide : (((((((0 + 1) + 0) + 0) + 0) + 0) + 1) + 0) + 0 ≤ _), (by decide : (((((((0 + 4) + 0) + 0) + 0) + 0) + 3) + 0) + 0 ≤ _)⟩)
    dsimp only [Pt.U, Pt.locs, Pt.cells, Pt.slots] at X73 l73 y73 z73 st73 hQ73
    subst l73 y73 z73
    obtain ⟨rfl, N73q, K73, E73, Fl73, Fc73, Fp73⟩ := hQ73
    have N73 := Fr.app N72 N73q
    refine own_go (B := T73.setTop (mkF m 65 #[.val (.int p1), .val (.int p2), .val (.int p3), .val (.int p4), .val (.int p5), .val (.ref b26), .val (.int (3 : Int32)), .val (.ref b71), .unset] [])) (fun t kt => st73.trans kt) ?_
    have Zb : n0 ≤ T73.heap.size := Nat.le_trans Za K73.1
    have Vc := Vb.keep K73 (ninS hne nin0)
    obtain ⟨hh73, ehh73⟩ : ∃ z : Heap, z = T73.heap := ⟨_, rfl⟩
    rw [← ehh73] at Zb Vc Fl73 Fc73 Fp73 E73
    refine own_go (B := T73.setTop (mkF m 67 #[.val (.int p1), .val (.int p2), .val (.int p3), .val (.int p4), .val (.int p5), .val (.ref b26), .val (.int (3 : Int32)), .val (.ref b71), .unset] [(.ref b71)])) (fun t kt => ?_) ?_
    · show Steps p.tables e below (T73.setTop (mkF m 65 #[.val (.int p1), .val (.int p2), .val (.int p3), .val (.int p4), .val (.int p5), .val (.ref b26), .val (.int (3 : Int32)), .val (.ref b71), .unset] [])) _
      refine XS.aload X73.here hx rfl (hb hby at_65) rfl rfl ?_
      exact kt
    obtain ⟨cq74, kq74, q74a, q74b, q74c⟩ := isOf hZ ehh73.symm E73
    obtain ⟨_, _, ⟨T74, L74, k74, n74⟩, -, X74, ⟨Lc74, hQ74, l74, y74, z74⟩, st74⟩ := X73.virtualBack hx (y := (⟨"com/example/brokn/brokn/TextPosition", "line", "()I"⟩ : MethodName)) (z := (⟨"com/example/brokn/brokn/TextPosition", "line", "()I"⟩ : MethodName)) hown (mvT hZ (hw _ (List.mem_of_getElem? (i := 26) rfl))) (mvT hZ (hw _ (List.mem_of_getElem? (i := 27) rfl))) (notFace_of_selects (args := #[]) (mvT hZ (hw _ (List.mem_of_getElem? (i := 29) rfl)))) (mvT hZ (hw _ (List.mem_of_getElem? (i := 29) rfl))) (mvT hZ (hw _ (List.mem_of_getElem? (i := 28) rfl))) (by decide) (backOf (W := 0) (rm5 l Z a0 hw [] b71 (own_run ((1 : Int32), (0 : Int32), (0 : Int32)) [y0, y1, y2]).1 hh73 n0 Zb Fl73) hZ (hw _ (List.mem_of_getElem? (i := 30) rfl)) (hw _ (List.mem_of_getElem? (i := 8) rfl)) (by decide) (by decide)) q74a q74c (g := (mkF m 67 #[.val (.int p1), .val (.int p2), .val (.int p3), .val (.int p4), .val (.int p5), .val (.ref b26), .val (.int (3 : Int32)), .val (.ref b71), .unset] [(.ref b71)])) rfl (by rw [hml]; rfl) (Steps.refl _) (argsL := []) (rest := []) (lenOf pd_5 rfl) rfl (by show 2 * 0 + _ ≤ _; exact Nat.le_of_eq rfl) (hb hby at_67) (fun _ _ => ⟨rfl, ehh73.symm, (by decide : ((((((((0 + 1) + 0) + 0) + 0) + 0) + 1) + 0) + 0) + 0 ≤ _), (by decide : ((((((((0 + 4) + 0) + 0) + 0) + 0) + 3) + 0) + 0) + 0 ≤ _)⟩)
    dsimp only [Pt.U, Pt.locs, Pt.cells, Pt.slots] at X74 l74 y74 z74 st74 hQ74
    subst l74 y74 z74
    obtain ⟨rfl, N74q, e74⟩ := hQ74
    have N74 := Fr.app N73 N74q
    refine own_go (B := T74.setTop (mkF m 70 #[.val (.int p1), .val (.int p2), .val (.int p3), .val (.int p4), .val (.int p5), .val (.ref b26), .val (.int (3 : Int32)), .val (.ref b71), .unset] [(.int (own_run ((1 : Int32), (0 : Int32), (0 : Int32)) [y0, y1, y2]).1)])) (fun t kt => st74.trans kt) ?_
    refine own_go (B := T74.setTop (mkF m 74 #[.val (.int p1), .val (.int p2), .val (.int p3), .val (.int p4), .val (.int p5), .val (.ref b26), .val (.int (3 : Int32)), .val (.ref b71), .unset] [(.int (3 : Int32)), (.ref b26), (.int (own_run ((1 : Int32), (0 : Int32), (0 : Int32)) [y0, y1, y2]).1)])) (fun t kt => ?_) ?_
    · show Steps p.tables e below (T74.setTop (mkF m 70 #[.val (.int p1), .val (.int p2), .val (.int p3), .val (.int p4), .val (.int p5), .val (.ref b26), .val (.int (3 : Int32)), .val (.ref b71), .unset] [(.int (own_run ((1 : Int32), (0 : Int32), (0 : Int32)) [y0, y1, y2]).1)])) _
      refine XS.aload X74.here hx rfl (hb hby at_70) rfl rfl ?_
      show Steps p.tables e below (T74.setTop (mkF m 72 #[.val (.int p1), .val (.int p2), .val (.int p3), .val (.int p4), .val (.int p5), .val (.ref b26), .val (.int (3 : Int32)), .val (.ref b71), .unset] [(.ref b26), (.int (own_run ((1 : Int32), (0 : Int32), (0 : Int32)) [y0, y1, y2]).1)])) _
      refine XS.iload X74.here hx rfl (hb hby at_72) rfl ?_
      exact kt
    obtain ⟨_, _, ⟨T75, L75, k75, n75⟩, -, X75, ⟨Lc75, hQ75, l75, y75, z75⟩, st75⟩ := Jvm.LawKit.callS X74 hx (y := (⟨"com/example/brokn/brokn/TextPositionAdvancePinLaw", "lines", "([CI)I"⟩ : MethodName)) hown (mvT hZ (hw _ (List.mem_of_getElem? (i := 31) rfl))) (mvT hZ (hw _ (List.mem_of_getElem? (i := 32) rfl))) (mvT hZ (hw _ (List.mem_of_getElem? (i := 3) rfl))) (mvT hZ (hw _ (List.mem_of_getElem? (i := 33) rfl))) (by decide) (backOf (W := 1) (rm6 l Z a0 hw [] b26 (3 : Int32) k26 y0 y1 y2 y3 hh73 n0 Zb Vc) hZ (hw _ (List.mem_of_getElem? (i := 33) rfl)) (hw _ (List.mem_of_getElem? (i := 3) rfl)) (by decide) (by decide)) (g := (mkF m 74 #[.val (.int p1), .val (.int p2), .val (.int p3), .val (.int p4), .val (.int p5), .val (.ref b26), .val (.int (3 : Int32)), .val (.ref b71), .unset] [(.int (3 : Int32)), (.ref b26), (.int (own_run ((1 : Int32), (0 : Int32), (0 : Int32)) [y0, y1, y2]).1)])) rfl (by rw [hml]; rfl) (argsL := [(.ref b26), (.int (3 : Int32))]) (rest := [(.int (own_run ((1 : Int32), (0 : Int32), (0 : Int32)) [y0, y1, y2]).1)]) (lenOf pd_6 rfl) rfl (by show 2 * 0 + _ ≤ _; exact Nat.le_of_eq rfl) (hb hby at_74) (fun _ _ => ⟨rfl, e74, (by decide : (((((((((0 + 1) + 0) + 0) + 0) + 0) + 1) + 0) + 0) + 0) + 0 ≤ _), (by decide : (((((((((0 + 4) + 0) + 0) + 0) + 0) + 3) + 0) + 0) + 0) + 0 ≤ _)⟩)
    dsimp only [Pt.U, Pt.locs, Pt.cells, Pt.slots] at X75 l75 y75 z75 st75 hQ75
    subst l75 y75 z75
    obtain ⟨rfl, N75q, e75⟩ := hQ75
    have N75 := Fr.app N74 N75q
    refine own_go (B := T75.setTop (mkF m 77 #[.val (.int p1), .val (.int p2), .val (.int p3), .val (.int p4), .val (.int p5), .val (.ref b26), .val (.int (3 : Int32)), .val (.ref b71), .unset] [(.int (own_lines (3 : Int32) y0 y1 y2 y3)), (.int (own_run ((1 : Int32), (0 : Int32), (0 : Int32)) [y0, y1, y2]).1)])) (fun t kt => st75 t kt) ?_
    refine own_go (B := T75.setTop (mkF m 82 #[.val (.int p1), .val (.int p2), .val (.int p3), .val (.int p4), .val (.int p5), .val (.ref b26), .val (.int (3 : Int32)), .val (.ref b71), .unset] [(.ref b71)])) (fun t kt => ?_) ?_
    · show Steps p.tables e below (T75.setTop (mkF m 77 #[.val (.int p1), .val (.int p2), .val (.int p3), .val (.int p4), .val (.int p5), .val (.ref b26), .val (.int (3 : Int32)), .val (.ref b71), .unset] [(.int (own_lines (3 : Int32) y0 y1 y2 y3)), (.int (own_run ((1 : Int32), (0 : Int32), (0 : Int32)) [y0, y1, y2]).1)])) _
      refine XS.icmpNo X75.here hx rfl (hb hby at_77) rfl (teq (own_A3 y0 y1 y2 y3)).2 ?_
      show Steps p.tables e below (T75.setTop (mkF m 80 #[.val (.int p1), .val (.int p2), .val (.int p3), .val (.int p4), .val (.int p5), .val (.ref b26), .val (.int (3 : Int32)), .val (.ref b71), .unset] [])) _
      refine XS.aload X75.here hx rfl (hb hby at_80) rfl rfl ?_
      exact kt
    obtain ⟨cq76, kq76, q76a, q76b, q76c⟩ := isOf hZ e75 E73
    obtain ⟨_, _, ⟨T76, L76, k76, n76⟩, -, X76, ⟨Lc76, hQ76, l76, y76, z76⟩, st76⟩ := X75.virtualBack hx (y := (⟨"com/example/brokn/brokn/TextPosition", "column", "()I"⟩ : MethodName)) (z := (⟨"com/example/brokn/brokn/TextPosition", "column", "()I"⟩ : MethodName)) hown (mvT hZ (hw _ (List.mem_of_getElem? (i := 43) rfl))) (mvT hZ (hw _ (List.mem_of_getElem? (i := 44) rfl))) (notFace_of_selects (args := #[]) (mvT hZ (hw _ (List.mem_of_getElem? (i := 46) rfl)))) (mvT hZ (hw _ (List.mem_of_getElem? (i := 46) rfl))) (mvT hZ (hw _ (List.mem_of_getElem? (i := 45) rfl))) (by decide) (backOf (W := 0) (rm10 l Z a0 hw [] b71 (own_run ((1 : Int32), (0 : Int32), (0 : Int32)) [y0, y1, y2]).2.1 hh73 n0 Zb Fc73) hZ (hw _ (List.mem_of_getElem? (i := 47) rfl)) (hw _ (List.mem_of_getElem? (i := 8) rfl)) (by decide) (by decide)) q76a q76c (g := (mkF m 82 #[.val (.int p1), .val (.int p2), .val (.int p3), .val (.int p4), .val (.int p5), .val (.ref b26), .val (.int (3 : Int32)), .val (.ref b71), .unset] [(.ref b71)])) rfl (by rw [hml]; rfl) (Steps.refl _) (argsL := []) (rest := []) (lenOf pd_5 rfl) rfl (by show 2 * 0 + _ ≤ _; exact Nat.le_of_eq rfl) (hb hby at_82) (fun _ _ => ⟨rfl, e75, (by decide : ((((((((((0 + 1) + 0) + 0) + 0) + 0) + 1) + 0) + 0) + 0) + 0) + 0 ≤ _), (by decide : ((((((((((0 + 4) + 0) + 0) + 0) + 0) + 3) + 0) + 0) + 0) + 0) + 0 ≤ _)⟩)
    dsimp only [Pt.U, Pt.locs, Pt.cells, Pt.slots] at X76 l76 y76 z76 st76 hQ76
    subst l76 y76 z76
    obtain ⟨rfl, N76q, e76⟩ := hQ76
    have N76 := Fr.app N75 N76q
    refine own_go (B := T76.setTop (mkF m 85 #[.val (.int p1), .val (.int p2), .val (.int p3), .val (.int p4), .val (.int p5), .val (.ref b26), .val (.int (3 : Int32)), .val (.ref b71), .unset] [(.int (own_run ((1 : Int32), (0 : Int32), (0 : Int32)) [y0, y1, y2]).2.1)])) (fun t kt => st76.trans kt) ?_
    refine own_go (B := T76.setTop (mkF m 89 #[.val (.int p1), .val (.int p2), .val (.int p3), .val (.int p4), .val (.int p5), .val (.ref b26), .val (.int (3 : Int32)), .val (.ref b71), .unset] [(.int (3 : Int32)), (.ref b26), (.int (own_run ((1 : Int32), (0 : Int32), (0 : Int32)) [y0, y1, y2]).2.1)])) (fun t kt => ?_) ?_
    · show Steps p.tables e below (T76.setTop (mkF m 85 #[.val (.int p1), .val (.int p2), .val (.int p3), .val (.int p4), .val (.int p5), .val (.ref b26), .val (.int (3 : Int32)), .val (.ref b71), .unset] [(.int (own_run ((1 : Int32), (0 : Int32), (0 : Int32)) [y0, y1, y2]).2.1)])) _
      refine XS.aload X76.here hx rfl (hb hby at_85) rfl rfl ?_
      show Steps p.tables e below (T76.setTop (mkF m 87 #[.val (.int p1), .val (.int p2), .val (.int p3), .val (.int p4), .val (.int p5), .val (.ref b26), .val (.int (3 : Int32)), .val (.ref b71), .unset] [(.ref b26), (.int (own_run ((1 : Int32), (0 : Int32), (0 : Int32)) [y0, y1, y2]).2.1)])) _
      refine XS.iload X76.here hx rfl (hb hby at_87) rfl ?_
      exact kt
    obtain ⟨_, _, ⟨T77, L77, k77, n77⟩, -, X77, ⟨Lc77, hQ77, l77, y77, z77⟩, st77⟩ := Jvm.LawKit.callS X76 hx (y := (⟨"com/example/brokn/brokn/TextPositionAdvancePinLaw", "column", "([CI)I"⟩ : MethodName)) hown (mvT hZ (hw _ (List.mem_of_getElem? (i := 48) rfl))) (mvT hZ (hw _ (List.mem_of_getElem? (i := 49) rfl))) (mvT hZ (hw _ (List.mem_of_getElem? (i := 3) rfl))) (mvT hZ (hw _ (List.mem_of_getElem? (i := 50) rfl))) (by decide) (backOf (W := 1) (rm11 l Z a0 hw [] b26 (3 : Int32) k26 y0 y1 y2 y3 hh73 n0 Zb Vc) hZ (hw _ (List.mem_of_getElem? (i := 50) rfl)) (hw _ (List.mem_of_getElem? (i := 3) rfl)) (by decide) (by decide)) (g := (mkF m 89 #[.val (.int p1), .val (.int p2), .val (.int p3), .val (.int p4), .val (.int p5), .val (.ref b26), .val (.int (3 : Int32)), .val (.ref b71), .unset] [(.int (3 : Int32)), (.ref b26), (.int (own_run ((1 : Int32), (0 : Int32), (0 : Int32)) [y0, y1, y2]).2.1)])) rfl (by rw [hml]; rfl) (argsL := [(.ref b26), (.int (3 : Int32))]) (rest := [(.int (own_run ((1 : Int32), (0 : Int32), (0 : Int32)) [y0, y1, y2]).2.1)]) (lenOf pd_6 rfl) rfl (by show 2 * 0 + _ ≤ _; exact Nat.le_of_eq rfl) (hb hby at_89) (fun _ _ => ⟨rfl, e76, (by decide : (((((((((((0 + 1) + 0) + 0) + 0) + 0) + 1) + 0) + 0) + 0) + 0) + 0) + 0 ≤ _), (by decide : (((((((((((0 + 4) + 0) + 0) + 0) + 0) + 3) + 0) + 0) + 0) + 0) + 0) + 0 ≤ _)⟩)
    dsimp only [Pt.U, Pt.locs, Pt.cells, Pt.slots] at X77 l77 y77 z77 st77 hQ77
    subst l77 y77 z77
    obtain ⟨rfl, N77q, e77⟩ := hQ77
    have N77 := Fr.app N76 N77q
    refine own_go (B := T77.setTop (mkF m 92 #[.val (.int p1), .val (.int p2), .val (.int p3), .val (.int p4), .val (.int p5), .val (.ref b26), .val (.int (3 : Int32)), .val (.ref b71), .unset] [(.int (own_col (3 : Int32) y0 y1 y2 y3)), (.int (own_run ((1 : Int32), (0 : Int32), (0 : Int32)) [y0, y1, y2]).2.1)])) (fun t kt => st77 t kt) ?_
    refine own_go (B := T77.setTop (mkF m 109 #[.val (.int p1), .val (.int p2), .val (.int p3), .val (.int p4), .val (.int p5), .val (.ref b26), .val (.int (3 : Int32)), .val (.ref b71), .val (.int (1 : Int32))] [(.int (4 : Int32)), (.int (3 : Int32)), (.ref b26), (.ref b71)])) (fun t kt => ?_) ?_
    · show Steps p.tables e below (T77.setTop (mkF m 92 #[.val (.int p1), .val (.int p2), .val (.int p3), .val (.int p4), .val (.int p5), .val (.ref b26), .val (.int (3 : Int32)), .val (.ref b71), .unset] [(.int (own_col (3 : Int32) y0 y1 y2 y3)), (.int (own_run ((1 : Int32), (0 : Int32), (0 : Int32)) [y0, y1, y2]).2.1)])) _
      refine XS.icmpNo X77.here hx rfl (hb hby at_92) rfl (teq (own_B3 y0 y1 y2 y3)).2 ?_
      show Steps p.tables e below (T77.setTop (mkF m 95 #[.val (.int p1), .val (.int p2), .val (.int p3), .val (.int p4), .val (.int p5), .val (.ref b26), .val (.int (3 : Int32)), .val (.ref b71), .unset] [])) _
      refine XS.iconst X77.here hx rfl (hb hby at_95) ?_
      show Steps p.tables e below (T77.setTop (mkF m 96 #[.val (.int p1), .val (.int p2), .val (.int p3), .val (.int p4), .val (.int p5), .val (.ref b26), .val (.int (3 : Int32)), .val (.ref b71), .unset] [(.int (1 : Int32))])) _
      refine XS.goto X77.here hx rfl (pc0 := 96) (pc' := 100) rfl (hb hby at_96) (by decide) (by decide) ?_
      show Steps p.tables e below (T77.setTop (mkF m 100 #[.val (.int p1), .val (.int p2), .val (.int p3), .val (.int p4), .val (.int p5), .val (.ref b26), .val (.int (3 : Int32)), .val (.ref b71), .unset] [(.int (1 : Int32))])) _
      refine XS.istore X77.here hx rfl (hb hby at_100) rfl (l' := #[.val (.int p1), .val (.int p2), .val (.int p3), .val (.int p4), .val (.int p5), .val (.ref b26), .val (.int (3 : Int32)), .val (.ref b71), .val (.int (1 : Int32))]) rfl ?_
      show Steps p.tables e below (T77.setTop (mkF m 102 #[.val (.int p1), .val (.int p2), .val (.int p3), .val (.int p4), .val (.int p5), .val (.ref b26), .val (.int (3 : Int32)), .val (.ref b71), .val (.int (1 : Int32))] [])) _
      refine XS.aload X77.here hx rfl (hb hby at_102) rfl rfl ?_
      show Steps p.tables e below (T77.setTop (mkF m 104 #[.val (.int p1), .val (.int p2), .val (.int p3), .val (.int p4), .val (.int p5), .val (.ref b26), .val (.int (3 : Int32)), .val (.ref b71), .val (.int (1 : Int32))] [(.ref b71)])) _
      refine XS.aload X77.here hx rfl (hb hby at_104) rfl rfl ?_
      show Steps p.tables e below (T77.setTop (mkF m 106 #[.val (.int p1), .val (.int p2), .val (.int p3), .val (.int p4), .val (.int p5), .val (.ref b26), .val (.int (3 : Int32)), .val (.ref b71), .val (.int (1 : Int32))] [(.ref b26), (.ref b71)])) _
      refine XS.iload X77.here hx rfl (hb hby at_106) rfl ?_
      show Steps p.tables e below (T77.setTop (mkF m 108 #[.val (.int p1), .val (.int p2), .val (.int p3), .val (.int p4), .val (.int p5), .val (.ref b26), .val (.int (3 : Int32)), .val (.ref b71), .val (.int (1 : Int32))] [(.int (3 : Int32)), (.ref b26), (.ref b71)])) _
      refine XS.iconst X77.here hx rfl (hb hby at_108) ?_
      exact kt
    obtain ⟨cq78, kq78, q78a, q78b, q78c⟩ := isOf hZ e77 E73
    obtain ⟨_, _, ⟨T78, L78, k78, n78⟩, -, X78, ⟨Lc78, hQ78, l78, y78, z78⟩, st78⟩ := X77.virtualBack hx (y := (⟨"com/example/brokn/brokn/TextPosition", "advance", "([CII)V"⟩ : MethodName)) (z := (⟨"com/example/brokn/brokn/TextPosition", "advance", "([CII)V"⟩ : MethodName)) hown (mvT hZ (hw _ (List.mem_of_getElem? (i := 17) rfl))) (mvT hZ (hw _ (List.mem_of_getElem? (i := 18) rfl))) (notFace_of_selects (args := #[]) (mvT hZ (hw _ (List.mem_of_getElem? (i := 20) rfl)))) (mvT hZ (hw _ (List.mem_of_getElem? (i := 20) rfl))) (mvT hZ (hw _ (List.mem_of_getElem? (i := 19) rfl))) (by decide) (backOf (W := 0) (rm4 l Z a0 hw [] b71 b26 (3 : Int32) (4 : Int32) (own_run ((1 : Int32), (0 : Int32), (0 : Int32)) [y0, y1, y2]).1 (own_run ((1 : Int32), (0 : Int32), (0 : Int32)) [y0, y1, y2]).2.1 (own_run ((1 : Int32), (0 : Int32), (0 : Int32)) [y0, y1, y2]).2.2 [y3] hh73 n0 Zb 3 4 (by decide) rfl rfl rfl Fl73 Fc73 Fp73 E73 go k26 [(.int y0), (.int y1), (.int y2), (.int y3)] Vc (own_in3_4 y0 y1 y2 y3) hy3) hZ (hw _ (List.mem_of_getElem? (i := 21) rfl)) (hw _ (List.mem_of_getElem? (i := 8) rfl)) (by decide) (by decide)) q78a q78c (g := (mkF m 109 #[.val (.int p1), .val (.int p2), .val (.int p3), .val (.int p4), .val (.int p5), .val (.ref b26), .val (.int (3 : Int32)), .val (.ref b71), .val (.int (1 : Int32))] [(.int (4 : Int32)), (.int (3 : Int32)), (.ref b26), (.ref b71)])) rfl (by rw [hml]; rfl) (Steps.refl _) (argsL := [(.ref b26), (.int (3 : Int32)), (.int (4 : Int32))]) (rest := []) (lenOf pd_4 rfl) rfl (by show 2 * 0 + _ ≤ _; exact Nat.le_of_eq rfl) (hb hby at_109) (fun _ _ => ⟨rfl, e77, (by decide : ((((((((((((0 + 1) + 0) + 0) + 0) + 0) + 1) + 0) + 0) + 0) + 0) + 0) + 0) + 0 ≤ _), (by decide : ((((((((((((0 + 4) + 0) + 0) + 0) + 0) + 3) + 0) + 0) + 0) + 0) + 0) + 0) + 0 ≤ _)⟩)
    dsimp only [Pt.U, Pt.locs, Pt.cells, Pt.slots] at X78 l78 y78 z78 st78 hQ78
    subst l78 y78 z78
    obtain ⟨rfl, N78q, K78, E78, Fl78, Fc78, Fp78⟩ := hQ78
    have N78 := Fr.app N77 N78q
    refine own_go (B := T78.setTop (mkF m 112 #[.val (.int p1), .val (.int p2), .val (.int p3), .val (.int p4), .val (.int p5), .val (.ref b26), .val (.int (3 : Int32)), .val (.ref b71), .val (.int (1 : Int32))] [])) (fun t kt => st78.trans kt) ?_
    have Zd : n0 ≤ T78.heap.size := Nat.le_trans Zb K78.1
    have Vd := Vc.keep K78 (ninS hne nin0)
    obtain ⟨hh78, ehh78⟩ : ∃ z : Heap, z = T78.heap := ⟨_, rfl⟩
    rw [← ehh78] at Zd Vd Fl78 Fc78 Fp78 E78
    refine own_go (B := T78.setTop (mkF m 119 #[.val (.int p1), .val (.int p2), .val (.int p3), .val (.int p4), .val (.int p5), .val (.ref b26), .val (.int (3 : Int32)), .val (.ref b71), .val (.int (1 : Int32))] [(.ref b71)])) (fun t kt => ?_) ?_
    · show Steps p.tables e below (T78.setTop (mkF m 112 #[.val (.int p1), .val (.int p2), .val (.int p3), .val (.int p4), .val (.int p5), .val (.ref b26), .val (.int (3 : Int32)), .val (.ref b71), .val (.int (1 : Int32))] [])) _
      refine XS.iload X78.here hx rfl (hb hby at_112) rfl ?_
      show Steps p.tables e below (T78.setTop (mkF m 114 #[.val (.int p1), .val (.int p2), .val (.int p3), .val (.int p4), .val (.int p5), .val (.ref b26), .val (.int (3 : Int32)), .val (.ref b71), .val (.int (1 : Int32))] [(.int (1 : Int32))])) _
      refine XS.ifNo X78.here hx rfl (hb hby at_114) rfl ((if0 _ _).trans (feq (by decide)).1) ?_
      show Steps p.tables e below (T78.setTop (mkF m 117 #[.val (.int p1), .val (.int p2), .val (.int p3), .val (.int p4), .val (.int p5), .val (.ref b26), .val (.int (3 : Int32)), .val (.ref b71), .val (.int (1 : Int32))] [])) _
      refine XS.aload X78.here hx rfl (hb hby at_117) rfl rfl ?_
      exact kt
    obtain ⟨cq79, kq79, q79a, q79b, q79c⟩ := isOf hZ ehh78.symm E78
    obtain ⟨_, _, ⟨T79, L79, k79, n79⟩, -, X79, ⟨Lc79, hQ79, l79, y79, z79⟩, st79⟩ := X78.virtualBack hx (y := (⟨"com/example/brokn/brokn/TextPosition", "line", "()I"⟩ : MethodName)) (z := (⟨"com/example/brokn/brokn/TextPosition", "line", "()I"⟩ : MethodName)) hown (mvT hZ (hw _ (List.mem_of_getElem? (i := 26) rfl))) (mvT hZ (hw _ (List.mem_of_getElem? (i := 27) rfl))) (notFace_of_selects (args := #[]) (mvT hZ (hw _ (List.mem_of_getElem? (i := 29) rfl)))) (mvT hZ (hw _ (List.mem_of_getElem? (i := 29) rfl))) (mvT hZ (hw _ (List.mem_of_getElem? (i := 28) rfl))) (by decide) (backOf (W := 0) (rm5 l Z a0 hw [] b71 (own_run ((own_run ((1 : Int32), (0 : Int32), (0 : Int32)) [y0, y1, y2]).1, (own_run ((1 : Int32), (0 : Int32), (0 : Int32)) [y0, y1, y2]).2.1, (own_run ((1 : Int32), (0 : Int32), (0 : Int32)) [y0, y1, y2]).2.2) [y3]).1 hh78 n0 Zd Fl78) hZ (hw _ (List.mem_of_getElem? (i := 30) rfl)) (hw _ (List.mem_of_getElem? (i := 8) rfl)) (by decide) (by decide)) q79a q79c (g := (mkF m 119 #[.val (.int p1), .val (.int p2), .val (.int p3), .val (.int p4), .val (.int p5), .val (.ref b26), .val (.int (3 : Int32)), .val (.ref b71), .val (.int (1 : Int32))] [(.ref b71)])) rfl (by rw [hml]; rfl) (Steps.refl _) (argsL := []) (rest := []) (lenOf pd_5 rfl) rfl (by show 2 * 0 + _ ≤ _; exact Nat.le_of_eq rfl) (hb hby at_119) (fun _ _ => ⟨rfl, ehh78.symm, (by decide : (((((((((((((0 + 1) + 0) + 0) + 0) + 0) + 1) + 0) + 0) + 0) + 0) + 0) + 0) + 0) + 0 ≤ _), (by decide : (((((((((((((0 + 4) + 0) + 0) + 0) + 0) + 3) + 0) + 0) + 0) + 0) + 0) + 0) + 0) + 0 ≤ _)⟩)
    dsimp only [Pt.U, Pt.locs, Pt.cells, Pt.slots] at X79 l79 y79 z79 st79 hQ79
    subst l79 y79 z79
    obtain ⟨rfl, N79q, e79⟩ := hQ79
    have N79 := Fr.app N78 N79q
    refine own_go (B := T79.setTop (mkF m 122 #[.val (.int p1), .val (.int p2), .val (.int p3), .val (.int p4), .val (.int p5), .val (.ref b26), .val (.int (3 : Int32)), .val (.ref b71), .val (.int (1 : Int32))] [(.int (own_run ((own_run ((1 : Int32), (0 : Int32), (0 : Int32)) [y0, y1, y2]).1, (own_run ((1 : Int32), (0 : Int32), (0 : Int32)) [y0, y1, y2]).2.1, (own_run ((1 : Int32), (0 : Int32), (0 : Int32)) [y0, y1, y2]).2.2) [y3]).1)])) (fun t kt => st79.trans kt) ?_
    refine own_go (B := T79.setTop (mkF m 125 #[.val (.int p1), .val (.int p2), .val (.int p3), .val (.int p4), .val (.int p5), .val (.ref b26), .val (.int (3 : Int32)), .val (.ref b71), .val (.int (1 : Int32))] [(.int (4 : Int32)), (.ref b26), (.int (own_run ((own_run ((1 : Int32), (0 : Int32), (0 : Int32)) [y0, y1, y2]).1, (own_run ((1 : Int32), (0 : Int32), (0 : Int32)) [y0, y1, y2]).2.1, (own_run ((1 : Int32), (0 : Int32), (0 : Int32)) [y0, y1, y2]).2.2) [y3]).1)])) (fun t kt => ?_) ?_
    · show Steps p.tables e below (T79.setTop (mkF m 122 #[.val (.int p1), .val (.int p2), .val (.int p3), .val (.int p4), .val (.int p5), .val (.ref b26), .val (.int (3 : Int32)), .val (.ref b71), .val (.int (1 : Int32))] [(.int (own_run ((own_run ((1 : Int32), (0 : Int32), (0 : Int32)) [y0, y1, y2]).1, (own_run ((1 : Int32), (0 : Int32), (0 : Int32)) [y0, y1, y2]).2.1, (own_run ((1 : Int32), (0 : Int32), (0 : Int32)) [y0, y1, y2]).2.2) [y3]).1)])) _
      refine XS.aload X79.here hx rfl (hb hby at_122) rfl rfl ?_
      show Steps p.tables e below (T79.setTop (mkF m 124 #[.val (.int p1), .val (.int p2), .val (.int p3), .val (.int p4), .val (.int p5), .val (.ref b26), .val (.int (3 : Int32)), .val (.ref b71), .val (.int (1 : Int32))] [(.ref b26), (.int (own_run ((own_run ((1 : Int32), (0 : Int32), (0 : Int32)) [y0, y1, y2]).1, (own_run ((1 : Int32), (0 : Int32), (0 : Int32)) [y0, y1, y2]).2.1, (own_run ((1 : Int32), (0 : Int32), (0 : Int32)) [y0, y1, y2]).2.2) [y3]).1)])) _
      refine XS.iconst X79.here hx rfl (hb hby at_124) ?_
      exact kt
    obtain ⟨_, _, ⟨T80, L80, k80, n80⟩, -, X80, ⟨Lc80, hQ80, l80, y80, z80⟩, st80⟩ := Jvm.LawKit.callS X79 hx (y := (⟨"com/example/brokn/brokn/TextPositionAdvancePinLaw", "lines", "([CI)I"⟩ : MethodName)) hown (mvT hZ (hw _ (List.mem_of_getElem? (i := 31) rfl))) (mvT hZ (hw _ (List.mem_of_getElem? (i := 32) rfl))) (mvT hZ (hw _ (List.mem_of_getElem? (i := 3) rfl))) (mvT hZ (hw _ (List.mem_of_getElem? (i := 33) rfl))) (by decide) (backOf (W := 1) (rm6 l Z a0 hw [] b26 (4 : Int32) k26 y0 y1 y2 y3 hh78 n0 Zd Vd) hZ (hw _ (List.mem_of_getElem? (i := 33) rfl)) (hw _ (List.mem_of_getElem? (i := 3) rfl)) (by decide) (by decide)) (g := (mkF m 125 #[.val (.int p1), .val (.int p2), .val (.int p3), .val (.int p4), .val (.int p5), .val (.ref b26), .val (.int (3 : Int32)), .val (.ref b71), .val (.int (1 : Int32))] [(.int (4 : Int32)), (.ref b26), (.int (own_run ((own_run ((1 : Int32), (0 : Int32), (0 : Int32)) [y0, y1, y2]).1, (own_run ((1 : Int32), (0 : Int32), (0 : Int32)) [y0, y1, y2]).2.1, (own_run ((1 : Int32), (0 : Int32), (0 : Int32)) [y0, y1, y2]).2.2) [y3]).1)])) rfl (by rw [hml]; rfl) (argsL := [(.ref b26), (.int (4 : Int32))]) (rest := [(.int (own_run ((own_run ((1 : Int32), (0 : Int32), (0 : Int32)) [y0, y1, y2]).1, (own_run ((1 : Int32), (0 : Int32), (0 : Int32)) [y0, y1, y2]).2.1, (own_run ((1 : Int32), (0 : Int32), (0 : Int32)) [y0, y1, y2]).2.2) [y3]).1)]) (lenOf pd_6 rfl) rfl (by show 2 * 0 + _ ≤ _; exact Nat.le_of_eq rfl) (hb hby at_125) (fun _ _ => ⟨rfl, e79, (by decide : ((((((((((((((0 + 1) + 0) + 0) + 0) + 0) + 1) + 0) + 0) + 0) + 0) + 0) + 0) + 0) + 0) + 0 ≤ _), (by decide : ((((((((((((((0 + 4) + 0) + 0) + 0) + 0) + 3) + 0) + 0) + 0) + 0) + 0) + 0) + 0) + 0) + 0 ≤ _)⟩)
    dsimp only [Pt.U, Pt.locs, Pt.cells, Pt.slots] at X80 l80 y80 z80 st80 hQ80
    subst l80 y80 z80
    obtain ⟨rfl, N80q, e80⟩ := hQ80
    have N80 := Fr.app N79 N80q
    refine own_go (B := T80.setTop (mkF m 128 #[.val (.int p1), .val (.int p2), .val (.int p3), .val (.int p4), .val (.int p5), .val (.ref b26), .val (.int (3 : Int32)), .val (.ref b71), .val (.int (1 : Int32))] [(.int (own_lines (4 : Int32) y0 y1 y2 y3)), (.int (own_run ((own_run ((1 : Int32), (0 : Int32), (0 : Int32)) [y0, y1, y2]).1, (own_run ((1 : Int32), (0 : Int32), (0 : Int32)) [y0, y1, y2]).2.1, (own_run ((1 : Int32), (0 : Int32), (0 : Int32)) [y0, y1, y2]).2.2) [y3]).1)])) (fun t kt => st80 t kt) ?_
    refine own_go (B := T80.setTop (mkF m 133 #[.val (.int p1), .val (.int p2), .val (.int p3), .val (.int p4), .val (.int p5), .val (.ref b26), .val (.int (3 : Int32)), .val (.ref b71), .val (.int (1 : Int32))] [(.ref b71)])) (fun t kt => ?_) ?_
    · show Steps p.tables e below (T80.setTop (mkF m 128 #[.val (.int p1), .val (.int p2), .val (.int p3), .val (.int p4), .val (.int p5), .val (.ref b26), .val (.int (3 : Int32)), .val (.ref b71), .val (.int (1 : Int32))] [(.int (own_lines (4 : Int32) y0 y1 y2 y3)), (.int (own_run ((own_run ((1 : Int32), (0 : Int32), (0 : Int32)) [y0, y1, y2]).1, (own_run ((1 : Int32), (0 : Int32), (0 : Int32)) [y0, y1, y2]).2.1, (own_run ((1 : Int32), (0 : Int32), (0 : Int32)) [y0, y1, y2]).2.2) [y3]).1)])) _
      refine XS.icmpNo X80.here hx rfl (hb hby at_128) rfl (teq (own_A4 y0 y1 y2 y3)).2 ?_
      show Steps p.tables e below (T80.setTop (mkF m 131 #[.val (.int p1), .val (.int p2), .val (.int p3), .val (.int p4), .val (.int p5), .val (.ref b26), .val (.int (3 : Int32)), .val (.ref b71), .val (.int (1 : Int32))] [])) _
      refine XS.aload X80.here hx rfl (hb hby at_131) rfl rfl ?_
      exact kt
    obtain ⟨cq81, kq81, q81a, q81b, q81c⟩ := isOf hZ e80 E78
    obtain ⟨_, _, ⟨T81, L81, k81, n81⟩, -, X81, ⟨Lc81, hQ81, l81, y81, z81⟩, st81⟩ := X80.virtualBack hx (y := (⟨"com/example/brokn/brokn/TextPosition", "column", "()I"⟩ : MethodName)) (z := (⟨"com/example/brokn/brokn/TextPosition", "column", "()I"⟩ : MethodName)) hown (mvT hZ (hw _ (List.mem_of_getElem? (i := 43) rfl))) (mvT hZ (hw _ (List.mem_of_getElem? (i := 44) rfl))) (notFace_of_selects (args := #[]) (mvT hZ (hw _ (List.mem_of_getElem? (i := 46) rfl)))) (mvT hZ (hw _ (List.mem_of_getElem? (i := 46) rfl))) (mvT hZ (hw _ (List.mem_of_getElem? (i := 45) rfl))) (by decide) (backOf (W := 0) (rm10 l Z a0 hw [] b71 (own_run ((own_run ((1 : Int32), (0 : Int32), (0 : Int32)) [y0, y1, y2]).1, (own_run ((1 : Int32), (0 : Int32), (0 : Int32)) [y0, y1, y2]).2.1, (own_run ((1 : Int32), (0 : Int32), (0 : Int32)) [y0, y1, y2]).2.2) [y3]).2.1 hh78 n0 Zd Fc78) hZ (hw _ (List.mem_of_getElem? (i := 47) rfl)) (hw _ (List.mem_of_getElem? (i := 8) rfl)) (by decide) (by decide)) q81a q81c (g := (mkF m 133 #[.val (.int p1), .val (.int p2), .val (.int p3), .val (.int p4), .val (.int p5), .val (.ref b26), .val (.int (3 : Int32)), .val (.ref b71), .val (.int (1 : Int32))] [(.ref b71)])) rfl (by rw [hml]; rfl) (Steps.refl _) (argsL := []) (rest := []) (lenOf pd_5 rfl) rfl (by show 2 * 0 + _ ≤ _; exact Nat.le_of_eq rfl) (hb hby at_133) (fun _ _ => ⟨rfl, e80, (by decide : (((((((((((((((0 + 1) + 0) + 0) + 0) + 0) + 1) + 0) + 0) + 0) + 0) + 0) + 0) + 0) + 0) + 0) + 0 ≤ _), (by decide : (((((((((((((((0 + 4) + 0) + 0) + 0) + 0) + 3) + 0) + 0) + 0) + 0) + 0) + 0) + 0) + 0) + 0) + 0 ≤ _)⟩)
    dsimp only [Pt.U, Pt.locs, Pt.cells, Pt.slots] at X81 l81 y81 z81 st81 hQ81
    subst l81 y81 z81
    obtain ⟨rfl, N81q, e81⟩ := hQ81
    have N81 := Fr.app N80 N81q
    refine own_go (B := T81.setTop (mkF m 136 #[.val (.int p1), .val (.int p2), .val (.int p3), .val (.int p4), .val (.int p5), .val (.ref b26), .val (.int (3 : Int32)), .val (.ref b71), .val (.int (1 : Int32))] [(.int (own_run ((own_run ((1 : Int32), (0 : Int32), (0 : Int32)) [y0, y1, y2]).1, (own_run ((1 : Int32), (0 : Int32), (0 : Int32)) [y0, y1, y2]).2.1, (own_run ((1 : Int32), (0 : Int32), (0 : Int32)) [y0, y1, y2]).2.2) [y3]).2.1)])) (fun t kt => st81.trans kt) ?_
    refine own_go (B := T81.setTop (mkF m 139 #[.val (.int p1), .val (.int p2), .val (.int p3), .val (.int p4), .val (.int p5), .val (.ref b26), .val (.int (3 : Int32)), .val (.ref b71), .val (.int (1 : Int32))] [(.int (4 : Int32)), (.ref b26), (.int (own_run ((own_run ((1 : Int32), (0 : Int32), (0 : Int32)) [y0, y1, y2]).1, (own_run ((1 : Int32), (0 : Int32), (0 : Int32)) [y0, y1, y2]).2.1, (own_run ((1 : Int32), (0 : Int32), (0 : Int32)) [y0, y1, y2]).2.2) [y3]).2.1)])) (fun t kt => ?_) ?_
    · show Steps p.tables e below (T81.setTop (mkF m 136 #[.val (.int p1), .val (.int p2), .val (.int p3), .val (.int p4), .val (.int p5), .val (.ref b26), .val (.int (3 : Int32)), .val (.ref b71), .val (.int (1 : Int32))] [(.int (own_run ((own_run ((1 : Int32), (0 : Int32), (0 : Int32)) [y0, y1, y2]).1, (own_run ((1 : Int32), (0 : Int32), (0 : Int32)) [y0, y1, y2]).2.1, (own_run ((1 : Int32), (0 : Int32), (0 : Int32)) [y0, y1, y2]).2.2) [y3]).2.1)])) _
      refine XS.aload X81.here hx rfl (hb hby at_136) rfl rfl ?_
      show Steps p.tables e below (T81.setTop (mkF m 138 #[.val (.int p1), .val (.int p2), .val (.int p3), .val (.int p4), .val (.int p5), .val (.ref b26), .val (.int (3 : Int32)), .val (.ref b71), .val (.int (1 : Int32))] [(.ref b26), (.int (own_run ((own_run ((1 : Int32), (0 : Int32), (0 : Int32)) [y0, y1, y2]).1, (own_run ((1 : Int32), (0 : Int32), (0 : Int32)) [y0, y1, y2]).2.1, (own_run ((1 : Int32), (0 : Int32), (0 : Int32)) [y0, y1, y2]).2.2) [y3]).2.1)])) _
      refine XS.iconst X81.here hx rfl (hb hby at_138) ?_
      exact kt
    obtain ⟨_, _, ⟨T82, L82, k82, n82⟩, -, X82, ⟨Lc82, hQ82, l82, y82, z82⟩, st82⟩ := Jvm.LawKit.callS X81 hx (y := (⟨"com/example/brokn/brokn/TextPositionAdvancePinLaw", "column", "([CI)I"⟩ : MethodName)) hown (mvT hZ (hw _ (List.mem_of_getElem? (i := 48) rfl))) (mvT hZ (hw _ (List.mem_of_getElem? (i := 49) rfl))) (mvT hZ (hw _ (List.mem_of_getElem? (i := 3) rfl))) (mvT hZ (hw _ (List.mem_of_getElem? (i := 50) rfl))) (by decide) (backOf (W := 1) (rm11 l Z a0 hw [] b26 (4 : Int32) k26 y0 y1 y2 y3 hh78 n0 Zd Vd) hZ (hw _ (List.mem_of_getElem? (i := 50) rfl)) (hw _ (List.mem_of_getElem? (i := 3) rfl)) (by decide) (by decide)) (g := (mkF m 139 #[.val (.int p1), .val (.int p2), .val (.int p3), .val (.int p4), .val (.int p5), .val (.ref b26), .val (.int (3 : Int32)), .val (.ref b71), .val (.int (1 : Int32))] [(.int (4 : Int32)), (.ref b26), (.int (own_run ((own_run ((1 : Int32), (0 : Int32), (0 : Int32)) [y0, y1, y2]).1, (own_run ((1 : Int32), (0 : Int32), (0 : Int32)) [y0, y1, y2]).2.1, (own_run ((1 : Int32), (0 : Int32), (0 : Int32)) [y0, y1, y2]).2.2) [y3]).2.1)])) rfl (by rw [hml]; rfl) (argsL := [(.ref b26), (.int (4 : Int32))]) (rest := [(.int (own_run ((own_run ((1 : Int32), (0 : Int32), (0 : Int32)) [y0, y1, y2]).1, (own_run ((1 : Int32), (0 : Int32), (0 : Int32)) [y0, y1, y2]).2.1, (own_run ((1 : Int32), (0 : Int32), (0 : Int32)) [y0, y1, y2]).2.2) [y3]).2.1)]) (lenOf pd_6 rfl) rfl (by show 2 * 0 + _ ≤ _; exact Nat.le_of_eq rfl) (hb hby at_139) (fun _ _ => ⟨rfl, e81, (by decide : ((((((((((((((((0 + 1) + 0) + 0) + 0) + 0) + 1) + 0) + 0) + 0) + 0) + 0) + 0) + 0) + 0) + 0) + 0) + 0 ≤ _), (by decide : ((((((((((((((((0 + 4) + 0) + 0) + 0) + 0) + 3) + 0) + 0) + 0) + 0) + 0) + 0) + 0) + 0) + 0) + 0) + 0 ≤ _)⟩)
    dsimp only [Pt.U, Pt.locs, Pt.cells, Pt.slots] at X82 l82 y82 z82 st82 hQ82
    subst l82 y82 z82
    obtain ⟨rfl, N82q, e82⟩ := hQ82
    have N82 := Fr.app N81 N82q
    refine own_go (B := T82.setTop (mkF m 142 #[.val (.int p1), .val (.int p2), .val (.int p3), .val (.int p4), .val (.int p5), .val (.ref b26), .val (.int (3 : Int32)), .val (.ref b71), .val (.int (1 : Int32))] [(.int (own_col (4 : Int32) y0 y1 y2 y3)), (.int (own_run ((own_run ((1 : Int32), (0 : Int32), (0 : Int32)) [y0, y1, y2]).1, (own_run ((1 : Int32), (0 : Int32), (0 : Int32)) [y0, y1, y2]).2.1, (own_run ((1 : Int32), (0 : Int32), (0 : Int32)) [y0, y1, y2]).2.2) [y3]).2.1)])) (fun t kt => st82 t kt) ?_
    refine own_go (B := T82.setTop (mkF m 150 #[.val (.int p1), .val (.int p2), .val (.int p3), .val (.int p4), .val (.int p5), .val (.ref b26), .val (.int (3 : Int32)), .val (.ref b71), .val (.int (1 : Int32))] [(.int (1 : Int32))])) (fun t kt => ?_) ?_
    · show Steps p.tables e below (T82.setTop (mkF m 142 #[.val (.int p1), .val (.int p2), .val (.int p3), .val (.int p4), .val (.int p5), .val (.ref b26), .val (.int (3 : Int32)), .val (.ref b71), .val (.int (1 : Int32))] [(.int (own_col (4 : Int32) y0 y1 y2 y3)), (.int (own_run ((own_run ((1 : Int32), (0 : Int32), (0 : Int32)) [y0, y1, y2]).1, (own_run ((1 : Int32), (0 : Int32), (0 : Int32)) [y0, y1, y2]).2.1, (own_run ((1 : Int32), (0 : Int32), (0 : Int32)) [y0, y1, y2]).2.2) [y3]).2.1)])) _
      refine XS.icmpNo X82.here hx rfl (hb hby at_142) rfl (teq (own_B4 y0 y1 y2 y3)).2 ?_
      show Steps p.tables e below (T82.setTop (mkF m 145 #[.val (.int p1), .val (.int p2), .val (.int p3), .val (.int p4), .val (.int p5), .val (.ref b26), .val (.int (3 : Int32)), .val (.ref b71), .val (.int (1 : Int32))] [])) _
      refine XS.iconst X82.here hx rfl (hb hby at_145) ?_
      show Steps p.tables e below (T82.setTop (mkF m 146 #[.val (.int p1), .val (.int p2), .val (.int p3), .val (.int p4), .val (.int p5), .val (.ref b26), .val (.int (3 : Int32)), .val (.ref b71), .val (.int (1 : Int32))] [(.int (1 : Int32))])) _
      refine XS.goto X82.here hx rfl (pc0 := 146) (pc' := 150) rfl (hb hby at_146) (by decide) (by decide) ?_
      exact kt
    obtain ⟨fs, hr, hrun, hended, hW, hsame⟩ := X82.leave (v := some (.int (1 : Int32))) (fun h => by rw [Bd.returns] at h; cases h)
    refine ⟨_, _, ?_, hrun, hended, _, _, rfl, ?_, ⟨_, rfl⟩, hW, hsame.mono (by decide) (by decide)⟩
    · show Steps p.tables e below (T82.setTop (mkF m 150 #[.val (.int p1), .val (.int p2), .val (.int p3), .val (.int p4), .val (.int p5), .val (.ref b26), .val (.int (3 : Int32)), .val (.ref b71), .val (.int (1 : Int32))] [(.int (1 : Int32))])) _
      exact retN X82 hx (t := .boolean) Bd.returns (by simp) (hb hby at_150) hr
    · show Q0 Z p1 p2 p3 p4 p5 h0 n0 _ T82.heap _
      rw [e82]
      exact ⟨rfl, N82⟩
  · rw [hk]
    refine own_go (B := T34.setTop (mkF m 46 #[.val (.int p1), .val (.int p2), .val (.int p3), .val (.int p4), .val (.int p5), .val (.ref b26), .val (.int (4 : Int32)), .unset, .unset] [])) (fun t kt => ?_) ?_
    · show Steps p.tables e below (T34.setTop (mkF m 44 #[.val (.int p1), .val (.int p2), .val (.int p3), .val (.int p4), .val (.int p5), .val (.ref b26), .unset, .unset, .unset] [(.int (4 : Int32))])) _
      refine XS.istore X34.here hx rfl (hb hby at_44) rfl (l' := #[.val (.int p1), .val (.int p2), .val (.int p3), .val (.int p4), .val (.int p5), .val (.ref b26), .val (.int (4 : Int32)), .unset, .unset]) rfl ?_
      exact kt
    obtain ⟨T83, h83, X83, e83, E83, A83, D83, -, st83⟩ := newO X34 hx hZ hown (hw _ (List.mem_of_getElem? (i := 6) rfl)) (hw _ (List.mem_of_getElem? (i := 7) rfl)) (hw _ (List.mem_of_getElem? (i := 8) rfl)) e34 (g := (mkF m 46 #[.val (.int p1), .val (.int p2), .val (.int p3), .val (.int p4), .val (.int p5), .val (.ref b26), .val (.int (4 : Int32)), .unset, .unset] [])) rfl (hb hby at_46) (by decide) (by decide)
    obtain ⟨b83, g83⟩ : ∃ z, z = h34.size := ⟨_, rfl⟩
    rw [← g83] at A83 D83 st83
    have F83_line : Fld Z h83 b83 "com/example/brokn/brokn/TextPosition" "line" "I" (.int (0 : Int32)) := D83 (Or.inl (hw _ (List.mem_of_getElem? (i := 16) rfl))) (ty := .int) (by decide)
    have F83_column : Fld Z h83 b83 "com/example/brokn/brokn/TextPosition" "column" "I" (.int (0 : Int32)) := D83 (Or.inl (hw _ (List.mem_of_getElem? (i := 23) rfl))) (ty := .int) (by decide)
    have F83_previous : Fld Z h83 b83 "com/example/brokn/brokn/TextPosition" "previous" "C" (.int (0 : Int32)) := D83 (Or.inl (hw _ (List.mem_of_getElem? (i := 25) rfl))) (ty := .char) (by decide)
    refine own_go (B := T83.setTop (mkF m 49 #[.val (.int p1), .val (.int p2), .val (.int p3), .val (.int p4), .val (.int p5), .val (.ref b26), .val (.int (4 : Int32)), .unset, .unset] [(.ref b83)])) (fun t kt => st83 t kt) ?_
    have go : n0 ≤ b83 := Nat.le_trans Z5 (Nat.le_of_eq g83.symm)
    have Zo : n0 ≤ h83.size := Nat.le_trans Z5 E83.1
    have hne : b26 ≠ b83 := Nat.ne_of_lt (Nat.lt_of_lt_of_le V4.lt (Nat.le_of_eq g83.symm))
    have Va := V4.ext E83
    refine own_go (B := T83.setTop (mkF m 50 #[.val (.int p1), .val (.int p2), .val (.int p3), .val (.int p4), .val (.int p5), .val (.ref b26), .val (.int (4 : Int32)), .unset, .unset] [(.ref b83), (.ref b83)])) (fun t kt => ?_) ?_
    · show Steps p.tables e below (T83.setTop (mkF m 49 #[.val (.int p1), .val (.int p2), .val (.int p3), .val (.int p4), .val (.int p5), .val (.ref b26), .val (.int (4 : Int32)), .unset, .unset] [(.ref b83)])) _
      refine XS.dup X83.here hx rfl (hb hby at_49) rfl rfl ?_
      exact kt
    obtain ⟨_, _, ⟨T84, L84, k84, n84⟩, -, X84, ⟨Lc84, hQ84, l84, y84, z84⟩, st84⟩ := X83.specialBack hx (y := (⟨"com/example/brokn/brokn/TextPosition", "<init>", "()V"⟩ : MethodName)) rfl hown (mvT hZ (hw _ (List.mem_of_getElem? (i := 9) rfl))) (mvT hZ (hw _ (List.mem_of_getElem? (i := 10) rfl))) (mvT hZ (hw _ (List.mem_of_getElem? (i := 11) rfl))) (by decide) (backOf (W := 1) (rm2 l Z a0 hw [] b83 h83 n0 Zo F83_line F83_column F83_previous A83 go) hZ (hw _ (List.mem_of_getElem? (i := 11) rfl)) (hw _ (List.mem_of_getElem? (i := 8) rfl)) (by decide) (by decide)) (g := (mkF m 50 #[.val (.int p1), .val (.int p2), .val (.int p3), .val (.int p4), .val (.int p5), .val (.ref b26), .val (.int (4 : Int32)), .unset, .unset] [(.ref b83), (.ref b83)])) rfl (by rw [hml]; rfl) (Steps.refl _) (a := b83) (argsL := []) (rest := [(.ref b83)]) (lenOf pd_3 rfl) rfl (by show 2 * 0 + _ ≤ _; exact Nat.le_of_eq rfl) (hb hby at_50) (fun _ _ => ⟨rfl, e83, (by decide : ((((((0 + 1) + 0) + 0) + 0) + 0) + 1) + 0 ≤ _), (by decide : ((((((0 + 4) + 0) + 0) + 0) + 0) + 3) + 0 ≤ _)⟩)
    dsimp only [Pt.U, Pt.locs, Pt.cells, Pt.slots] at X84 l84 y84 z84 st84 hQ84
    subst l84 y84 z84
    obtain ⟨rfl, N84q, K84, E84, Fl84, Fc84, Fp84⟩ := hQ84
    have N84 := Fr.app N34 N84q
    refine own_go (B := T84.setTop (mkF m 53 #[.val (.int p1), .val (.int p2), .val (.int p3), .val (.int p4), .val (.int p5), .val (.ref b26), .val (.int (4 : Int32)), .unset, .unset] [(.ref b83)])) (fun t kt => st84.trans kt) ?_
    have Za : n0 ≤ T84.heap.size := Nat.le_trans Zo K84.1
    have Vb := Va.keep K84 (ninS hne nin0)
    refine own_go (B := T84.setTop (mkF m 62 #[.val (.int p1), .val (.int p2), .val (.int p3), .val (.int p4), .val (.int p5), .val (.ref b26), .val (.int (4 : Int32)), .val (.ref b83), .unset] [(.int (4 : Int32)), (.int (0 : Int32)), (.ref b26), (.ref b83)])) (fun t kt => ?_) ?_
    · show Steps p.tables e below (T84.setTop (mkF m 53 #[.val (.int p1), .val (.int p2), .val (.int p3), .val (.int p4), .val (.int p5), .val (.ref b26), .val (.int (4 : Int32)), .unset, .unset] [(.ref b83)])) _
      refine XS.astore X84.here hx rfl (hb hby at_53) rfl rfl (l' := #[.val (.int p1), .val (.int p2), .val (.int p3), .val (.int p4), .val (.int p5), .val (.ref b26), .val (.int (4 : Int32)), .val (.ref b83), .unset]) rfl ?_
      show Steps p.tables e below (T84.setTop (mkF m 55 #[.val (.int p1), .val (.int p2), .val (.int p3), .val (.int p4), .val (.int p5), .val (.ref b26), .val (.int (4 : Int32)), .val (.ref b83), .unset] [])) _
      refine XS.aload X84.here hx rfl (hb hby at_55) rfl rfl ?_
      show Steps p.tables e below (T84.setTop (mkF m 57 #[.val (.int p1), .val (.int p2), .val (.int p3), .val (.int p4), .val (.int p5), .val (.ref b26), .val (.int (4 : Int32)), .val (.ref b83), .unset] [(.ref b83)])) _
      refine XS.aload X84.here hx rfl (hb hby at_57) rfl rfl ?_
      show Steps p.tables e below (T84.setTop (mkF m 59 #[.val (.int p1), .val (.int p2), .val (.int p3), .val (.int p4), .val (.int p5), .val (.ref b26), .val (.int (4 : Int32)), .val (.ref b83), .unset] [(.ref b26), (.ref b83)])) _
      refine XS.iconst X84.here hx rfl (hb hby at_59) ?_
      show Steps p.tables e below (T84.setTop (mkF m 60 #[.val (.int p1), .val (.int p2), .val (.int p3), .val (.int p4), .val (.int p5), .val (.ref b26), .val (.int (4 : Int32)), .val (.ref b83), .unset] [(.int (0 : Int32)), (.ref b26), (.ref b83)])) _
      refine XS.iload X84.here hx rfl (hb hby at_60) rfl ?_
      exact kt
    obtain ⟨cq85, kq85, q85a, q85b, q85c⟩ := isOf hZ rfl E84
    obtain ⟨_, _, ⟨T85, L85, k85, n85⟩, -, X85, ⟨Lc85, hQ85, l85, y85, z85⟩, st85⟩ := X84.virtualBack hx (y := (⟨"com/example/brokn/brokn/TextPosition", "advance", "([CII)V"⟩ : MethodName)) (z := (⟨"com/example/brokn/brokn/TextPosition", "advance", "([CII)V"⟩ : MethodName)) hown (mvT hZ (hw _ (List.mem_of_getElem? (i := 17) rfl))) (mvT hZ (hw _ (List.mem_of_getElem? (i := 18) rfl))) (notFace_of_selects (args := #[]) (mvT hZ (hw _ (List.mem_of_getElem? (i := 20) rfl)))) (mvT hZ (hw _ (List.mem_of_getElem? (i := 20) rfl))) (mvT hZ (hw _ (List.mem_of_getElem? (i := 19) rfl))) (by decide) (backOf (W := 0) (rm4 l Z a0 hw [] b83 b26 (0 : Int32) (4 : Int32) (1 : Int32) (0 : Int32) (0 : Int32) [y0, y1, y2, y3] T84.heap n0 Za 0 4 (by decide) rfl rfl rfl Fl84 Fc84 Fp84 E84 go k26 [(.int y0), (.int y1), (.int y2), (.int y3)] Vb (own_in0_4 y0 y1 y2 y3) hy3) hZ (hw _ (List.mem_of_getElem? (i := 21) rfl)) (hw _ (List.mem_of_getElem? (i := 8) rfl)) (by decide) (by decide)) q85a q85c (g := (mkF m 62 #[.val (.int p1), .val (.int p2), .val (.int p3), .val (.int p4), .val (.int p5), .val (.ref b26), .val (.int (4 : Int32)), .val (.ref b83), .unset] [(.int (4 : Int32)), (.int (0 : Int32)), (.ref b26), (.ref b83)])) rfl (by rw [hml]; rfl) (Steps.refl _) (argsL := [(.ref b26), (.int (0 : Int32)), (.int (4 : Int32))]) (rest := []) (lenOf pd_4 rfl) rfl (by show 2 * 0 + _ ≤ _; exact Nat.le_of_eq rfl) (hb hby at_62) (fun _ _ => ⟨rfl, rfl, (by decide : (((((((0 + 1) + 0) + 0) + 0) + 0) + 1) + 0) + 0 ≤ _), (by decide : (((((((0 + 4) + 0) + 0) + 0) + 0) + 3) + 0) + 0 ≤ _)⟩)
    dsimp only [Pt.U, Pt.locs, Pt.cells, Pt.slots] at X85 l85 y85 z85 st85 hQ85
    subst l85 y85 z85
    obtain ⟨rfl, N85q, K85, E85, Fl85, Fc85, Fp85⟩ := hQ85
    have N85 := Fr.app N84 N85q
    refine own_go (B := T85.setTop (mkF m 65 #[.val (.int p1), .val (.int p2), .val (.int p3), .val (.int p4), .val (.int p5), .val (.ref b26), .val (.int (4 : Int32)), .val (.ref b83), .unset] [])) (fun t kt => st85.trans kt) ?_
    have Zb : n0 ≤ T85.heap.size := Nat.le_trans Za K85.1
    have Vc := Vb.keep K85 (ninS hne nin0)
    obtain ⟨hh85, ehh85⟩ : ∃ z : Heap, z = T85.heap := ⟨_, rfl⟩
    rw [← ehh85] at Zb Vc Fl85 Fc85 Fp85 E85
    refine own_go (B := T85.setTop (mkF m 67 #[.val (.int p1), .val (.int p2), .val (.int p3), .val (.int p4), .val (.int p5), .val (.ref b26), .val (.int (4 : Int32)), .val (.ref b83), .unset] [(.ref b83)])) (fun t kt => ?_) ?_
    · show Steps p.tables e below (T85.setTop (mkF m 65 #[.val (.int p1), .val (.int p2), .val (.int p3), .val (.int p4), .val (.int p5), .val (.ref b26), .val (.int (4 : Int32)), .val (.ref b83), .unset] [])) _
      refine XS.aload X85.here hx rfl (hb hby at_65) rfl rfl ?_
      exact kt
    obtain ⟨cq86, kq86, q86a, q86b, q86c⟩ := isOf hZ ehh85.symm E85
    obtain ⟨_, _, ⟨T86, L86, k86, n86⟩, -, X86, ⟨Lc86, hQ86, l86, y86, z86⟩, st86⟩ := X85.virtualBack hx (y := (⟨"com/example/brokn/brokn/TextPosition", "line", "()I"⟩ : MethodName)) (z := (⟨"com/example/brokn/brokn/TextPosition", "line", "()I"⟩ : MethodName)) hown (mvT hZ (hw _ (List.mem_of_getElem? (i := 26) rfl))) (mvT hZ (hw _ (List.mem_of_getElem? (i := 27) rfl))) (notFace_of_selects (args := #[]) (mvT hZ (hw _ (List.mem_of_getElem? (i := 29) rfl)))) (mvT hZ (hw _ (List.mem_of_getElem? (i := 29) rfl))) (mvT hZ (hw _ (List.mem_of_getElem? (i := 28) rfl))) (by decide) (backOf (W := 0) (rm5 l Z a0 hw [] b83 (own_run ((1 : Int32), (0 : Int32), (0 : Int32)) [y0, y1, y2, y3]).1 hh85 n0 Zb Fl85) hZ (hw _ (List.mem_of_getElem? (i := 30) rfl)) (hw _ (List.mem_of_getElem? (i := 8) rfl)) (by decide) (by decide)) q86a q86c (g := (mkF m 67 #[.val (.int p1), .val (.int p2), .val (.int p3), .val (.int p4), .val (.int p5), .val (.ref b26), .val (.int (4 : Int32)), .val (.ref b83), .unset] [(.ref b83)])) rfl (by rw [hml]; rfl) (Steps.refl _) (argsL := []) (rest := []) (lenOf pd_5 rfl) rfl (by show 2 * 0 + _ ≤ _; exact Nat.le_of_eq rfl) (hb hby at_67) (fun _ _ => ⟨rfl, ehh85.symm, (by decide : ((((((((0 + 1) + 0) + 0) + 0) + 0) + 1) + 0) + 0) + 0 ≤ _), (by decide : ((((((((0 + 4) + 0) + 0) + 0) + 0) + 3) + 0) + 0) + 0 ≤ _)⟩)
    dsimp only [Pt.U, Pt.locs, Pt.cells, Pt.slots] at X86 l86 y86 z86 st86 hQ86
    subst l86 y86 z86
    obtain ⟨rfl, N86q, e86⟩ := hQ86
    have N86 := Fr.app N85 N86q
    refine own_go (B := T86.setTop (mkF m 70 #[.val (.int p1), .val (.int p2), .val (.int p3), .val (.int p4), .val (.int p5), .val (.ref b26), .val (.int (4 : Int32)), .val (.ref b83), .unset] [(.int (own_run ((1 : Int32), (0 : Int32), (0 : Int32)) [y0, y1, y2, y3]).1)])) (fun t kt => st86.trans kt) ?_
    refine own_go (B := T86.setTop (mkF m 74 #[.val (.int p1), .val (.int p2), .val (.int p3), .val (.int p4), .val (.int p5), .val (.ref b26), .val (.int (4 : Int32)), .val (.ref b83), .unset] [(.int (4 : Int32)), (.ref b26), (.int (own_run ((1 : Int32), (0 : Int32), (0 : Int32)) [y0, y1, y2, y3]).1)])) (fun t kt => ?_) ?_
    · show Steps p.tables e below (T86.setTop (mkF m 70 #[.val (.int p1), .val (.int p2), .val (.int p3), .val (.int p4), .val (.int p5), .val (.ref b26), .val (.int (4 : Int32)), .val (.ref b83), .unset] [(.int (own_run ((1 : Int32), (0 : Int32), (0 : Int32)) [y0, y1, y2, y3]).1)])) _
      refine XS.aload X86.here hx rfl (hb hby at_70) rfl rfl ?_
      show Steps p.tables e below (T86.setTop (mkF m 72 #[.val (.int p1), .val (.int p2), .val (.int p3), .val (.int p4), .val (.int p5), .val (.ref b26), .val (.int (4 : Int32)), .val (.ref b83), .unset] [(.ref b26), (.int (own_run ((1 : Int32), (0 : Int32), (0 : Int32)) [y0, y1, y2, y3]).1)])) _
      refine XS.iload X86.here hx rfl (hb hby at_72) rfl ?_
      exact kt
    obtain ⟨_, _, ⟨T87, L87, k87, n87⟩, -, X87, ⟨Lc87, hQ87, l87, y87, z87⟩, st87⟩ := Jvm.LawKit.callS X86 hx (y := (⟨"com/example/brokn/brokn/TextPositionAdvancePinLaw", "lines", "([CI)I"⟩ : MethodName)) hown (mvT hZ (hw _ (List.mem_of_getElem? (i := 31) rfl))) (mvT hZ (hw _ (List.mem_of_getElem? (i := 32) rfl))) (mvT hZ (hw _ (List.mem_of_getElem? (i := 3) rfl))) (mvT hZ (hw _ (List.mem_of_getElem? (i := 33) rfl))) (by decide) (backOf (W := 1) (rm6 l Z a0 hw [] b26 (4 : Int32) k26 y0 y1 y2 y3 hh85 n0 Zb Vc) hZ (hw _ (List.mem_of_getElem? (i := 33) rfl)) (hw _ (List.mem_of_getElem? (i := 3) rfl)) (by decide) (by decide)) (g := (mkF m 74 #[.val (.int p1), .val (.int p2), .val (.int p3), .val (.int p4), .val (.int p5), .val (.ref b26), .val (.int (4 : Int32)), .val (.ref b83), .unset] [(.int (4 : Int32)), (.ref b26), (.int (own_run ((1 : Int32), (0 : Int32), (0 : Int32)) [y0, y1, y2, y3]).1)])) rfl (by rw [hml]; rfl) (argsL := [(.ref b26), (.int (4 : Int32))]) (rest := [(.int (own_run ((1 : Int32), (0 : Int32), (0 : Int32)) [y0, y1, y2, y3]).1)]) (lenOf pd_6 rfl) rfl (by show 2 * 0 + _ ≤ _; exact Nat.le_of_eq rfl) (hb hby at_74) (fun _ _ => ⟨rfl, e86, (by decide : (((((((((0 + 1) + 0) + 0) + 0) + 0) + 1) + 0) + 0) + 0) + 0 ≤ _), (by decide : (((((((((0 + 4) + 0) + 0) + 0) + 0) + 3) + 0) + 0) + 0) + 0 ≤ _)⟩)
    dsimp only [Pt.U, Pt.locs, Pt.cells, Pt.slots] at X87 l87 y87 z87 st87 hQ87
    subst l87 y87 z87
    obtain ⟨rfl, N87q, e87⟩ := hQ87
    have N87 := Fr.app N86 N87q
    refine own_go (B := T87.setTop (mkF m 77 #[.val (.int p1), .val (.int p2), .val (.int p3), .val (.int p4), .val (.int p5), .val (.ref b26), .val (.int (4 : Int32)), .val (.ref b83), .unset] [(.int (own_lines (4 : Int32) y0 y1 y2 y3)), (.int (own_run ((1 : Int32), (0 : Int32), (0 : Int32)) [y0, y1, y2, y3]).1)])) (fun t kt => st87 t kt) ?_
    refine own_go (B := T87.setTop (mkF m 82 #[.val (.int p1), .val (.int p2), .val (.int p3), .val (.int p4), .val (.int p5), .val (.ref b26), .val (.int (4 : Int32)), .val (.ref b83), .unset] [(.ref b83)])) (fun t kt => ?_) ?_
    · show Steps p.tables e below (T87.setTop (mkF m 77 #[.val (.int p1), .val (.int p2), .val (.int p3), .val (.int p4), .val (.int p5), .val (.ref b26), .val (.int (4 : Int32)), .val (.ref b83), .unset] [(.int (own_lines (4 : Int32) y0 y1 y2 y3)), (.int (own_run ((1 : Int32), (0 : Int32), (0 : Int32)) [y0, y1, y2, y3]).1)])) _
      refine XS.icmpNo X87.here hx rfl (hb hby at_77) rfl (teq (own_A4 y0 y1 y2 y3)).2 ?_
      show Steps p.tables e below (T87.setTop (mkF m 80 #[.val (.int p1), .val (.int p2), .val (.int p3), .val (.int p4), .val (.int p5), .val (.ref b26), .val (.int (4 : Int32)), .val (.ref b83), .unset] [])) _
      refine XS.aload X87.here hx rfl (hb hby at_80) rfl rfl ?_
      exact kt
    obtain ⟨cq88, kq88, q88a, q88b, q88c⟩ := isOf hZ e87 E85
    obtain ⟨_, _, ⟨T88, L88, k88, n88⟩, -, X88, ⟨Lc88, hQ88, l88, y88, z88⟩, st88⟩ := X87.virtualBack hx (y := (⟨"com/example/brokn/brokn/TextPosition", "column", "()I"⟩ : MethodName)) (z := (⟨"com/example/brokn/brokn/TextPosition", "column", "()I"⟩ : MethodName)) hown (mvT hZ (hw _ (List.mem_of_getElem? (i := 43) rfl))) (mvT hZ (hw _ (List.mem_of_getElem? (i := 44) rfl))) (notFace_of_selects (args := #[]) (mvT hZ (hw _ (List.mem_of_getElem? (i := 46) rfl)))) (mvT hZ (hw _ (List.mem_of_getElem? (i := 46) rfl))) (mvT hZ (hw _ (List.mem_of_getElem? (i := 45) rfl))) (by decide) (backOf (W := 0) (rm10 l Z a0 hw [] b83 (own_run ((1 : Int32), (0 : Int32), (0 : Int32)) [y0, y1, y2, y3]).2.1 hh85 n0 Zb Fc85) hZ (hw _ (List.mem_of_getElem? (i := 47) rfl)) (hw _ (List.mem_of_getElem? (i := 8) rfl)) (by decide) (by decide)) q88a q88c (g := (mkF m 82 #[.val (.int p1), .val (.int p2), .val (.int p3), .val (.int p4), .val (.int p5), .val (.ref b26), .val (.int (4 : Int32)), .val (.ref b83), .unset] [(.ref b83)])) rfl (by rw [hml]; rfl) (Steps.refl _) (argsL := []) (rest := []) (lenOf pd_5 rfl) rfl (by show 2 * 0 + _ ≤ _; exact Nat.le_of_eq rfl) (hb hby at_82) (fun _ _ => ⟨rfl, e87, (by decide : ((((((((((0 + 1) + 0) + 0) + 0) + 0) + 1) + 0) + 0) + 0) + 0) + 0 ≤ _), (by decide : ((((((((((0 + 4) + 0) + 0) + 0) + 0) + 3) + 0) + 0) + 0) + 0) + 0 ≤ _)⟩)
    dsimp only [Pt.U, Pt.locs, Pt.cells, Pt.slots] at X88 l88 y88 z88 st88 hQ88
    subst l88 y88 z88
    obtain ⟨rfl, N88q, e88⟩ := hQ88
    have N88 := Fr.app N87 N88q
    refine own_go (B := T88.setTop (mkF m 85 #[.val (.int p1), .val (.int p2), .val (.int p3), .val (.int p4), .val (.int p5), .val (.ref b26), .val (.int (4 : Int32)), .val (.ref b83), .unset] [(.int (own_run ((1 : Int32), (0 : Int32), (0 : Int32)) [y0, y1, y2, y3]).2.1)])) (fun t kt => st88.trans kt) ?_
    refine own_go (B := T88.setTop (mkF m 89 #[.val (.int p1), .val (.int p2), .val (.int p3), .val (.int p4), .val (.int p5), .val (.ref b26), .val (.int (4 : Int32)), .val (.ref b83), .unset] [(.int (4 : Int32)), (.ref b26), (.int (own_run ((1 : Int32), (0 : Int32), (0 : Int32)) [y0, y1, y2, y3]).2.1)])) (fun t kt => ?_) ?_
    · show Steps p.tables e below (T88.setTop (mkF m 85 #[.val (.int p1), .val (.int p2), .val (.int p3), .val (.int p4), .val (.int p5), .val (.ref b26), .val (.int (4 : Int32)), .val (.ref b83), .unset] [(.int (own_run ((1 : Int32), (0 : Int32), (0 : Int32)) [y0, y1, y2, y3]).2.1)])) _
      refine XS.aload X88.here hx rfl (hb hby at_85) rfl rfl ?_
      show Steps p.tables e below (T88.setTop (mkF m 87 #[.val (.int p1), .val (.int p2), .val (.int p3), .val (.int p4), .val (.int p5), .val (.ref b26), .val (.int (4 : Int32)), .val (.ref b83), .unset] [(.ref b26), (.int (own_run ((1 : Int32), (0 : Int32), (0 : Int32)) [y0, y1, y2, y3]).2.1)])) _
      refine XS.iload X88.here hx rfl (hb hby at_87) rfl ?_
      exact kt
    obtain ⟨_, _, ⟨T89, L89, k89, n89⟩, -, X89, ⟨Lc89, hQ89, l89, y89, z89⟩, st89⟩ := Jvm.LawKit.callS X88 hx (y := (⟨"com/example/brokn/brokn/TextPositionAdvancePinLaw", "column", "([CI)I"⟩ : MethodName)) hown (mvT hZ (hw _ (List.mem_of_getElem? (i := 48) rfl))) (mvT hZ (hw _ (List.mem_of_getElem? (i := 49) rfl))) (mvT hZ (hw _ (List.mem_of_getElem? (i := 3) rfl))) (mvT hZ (hw _ (List.mem_of_getElem? (i := 50) rfl))) (by decide) (backOf (W := 1) (rm11 l Z a0 hw [] b26 (4 : Int32) k26 y0 y1 y2 y3 hh85 n0 Zb Vc) hZ (hw _ (List.mem_of_getElem? (i := 50) rfl)) (hw _ (List.mem_of_getElem? (i := 3) rfl)) (by decide) (by decide)) (g := (mkF m 89 #[.val (.int p1), .val (.int p2), .val (.int p3), .val (.int p4), .val (.int p5), .val (.ref b26), .val (.int (4 : Int32)), .val (.ref b83), .unset] [(.int (4 : Int32)), (.ref b26), (.int (own_run ((1 : Int32), (0 : Int32), (0 : Int32)) [y0, y1, y2, y3]).2.1)])) rfl (by rw [hml]; rfl) (argsL := [(.ref b26), (.int (4 : Int32))]) (rest := [(.int (own_run ((1 : Int32), (0 : Int32), (0 : Int32)) [y0, y1, y2, y3]).2.1)]) (lenOf pd_6 rfl) rfl (by show 2 * 0 + _ ≤ _; exact Nat.le_of_eq rfl) (hb hby at_89) (fun _ _ => ⟨rfl, e88, (by decide : (((((((((((0 + 1) + 0) + 0) + 0) + 0) + 1) + 0) + 0) + 0) + 0) + 0) + 0 ≤ _), (by decide : (((((((((((0 + 4) + 0) + 0) + 0) + 0) + 3) + 0) + 0) + 0) + 0) + 0) + 0 ≤ _)⟩)
    dsimp only [Pt.U, Pt.locs, Pt.cells, Pt.slots] at X89 l89 y89 z89 st89 hQ89
    subst l89 y89 z89
    obtain ⟨rfl, N89q, e89⟩ := hQ89
    have N89 := Fr.app N88 N89q
    refine own_go (B := T89.setTop (mkF m 92 #[.val (.int p1), .val (.int p2), .val (.int p3), .val (.int p4), .val (.int p5), .val (.ref b26), .val (.int (4 : Int32)), .val (.ref b83), .unset] [(.int (own_col (4 : Int32) y0 y1 y2 y3)), (.int (own_run ((1 : Int32), (0 : Int32), (0 : Int32)) [y0, y1, y2, y3]).2.1)])) (fun t kt => st89 t kt) ?_
    refine own_go (B := T89.setTop (mkF m 109 #[.val (.int p1), .val (.int p2), .val (.int p3), .val (.int p4), .val (.int p5), .val (.ref b26), .val (.int (4 : Int32)), .val (.ref b83), .val (.int (1 : Int32))] [(.int (4 : Int32)), (.int (4 : Int32)), (.ref b26), (.ref b83)])) (fun t kt => ?_) ?_
    · show Steps p.tables e below (T89.setTop (mkF m 92 #[.val (.int p1), .val (.int p2), .val (.int p3), .val (.int p4), .val (.int p5), .val (.ref b26), .val (.int (4 : Int32)), .val (.ref b83), .unset] [(.int (own_col (4 : Int32) y0 y1 y2 y3)), (.int (own_run ((1 : Int32), (0 : Int32), (0 : Int32)) [y0, y1, y2, y3]).2.1)])) _
      refine XS.icmpNo X89.here hx rfl (hb hby at_92) rfl (teq (own_B4 y0 y1 y2 y3)).2 ?_
      show Steps p.tables e below (T89.setTop (mkF m 95 #[.val (.int p1), .val (.int p2), .val (.int p3), .val (.int p4), .val (.int p5), .val (.ref b26), .val (.int (4 : Int32)), .val (.ref b83), .unset] [])) _
      refine XS.iconst X89.here hx rfl (hb hby at_95) ?_
      show Steps p.tables e below (T89.setTop (mkF m 96 #[.val (.int p1), .val (.int p2), .val (.int p3), .val (.int p4), .val (.int p5), .val (.ref b26), .val (.int (4 : Int32)), .val (.ref b83), .unset] [(.int (1 : Int32))])) _
      refine XS.goto X89.here hx rfl (pc0 := 96) (pc' := 100) rfl (hb hby at_96) (by decide) (by decide) ?_
      show Steps p.tables e below (T89.setTop (mkF m 100 #[.val (.int p1), .val (.int p2), .val (.int p3), .val (.int p4), .val (.int p5), .val (.ref b26), .val (.int (4 : Int32)), .val (.ref b83), .unset] [(.int (1 : Int32))])) _
      refine XS.istore X89.here hx rfl (hb hby at_100) rfl (l' := #[.val (.int p1), .val (.int p2), .val (.int p3), .val (.int p4), .val (.int p5), .val (.ref b26), .val (.int (4 : Int32)), .val (.ref b83), .val (.int (1 : Int32))]) rfl ?_
      show Steps p.tables e below (T89.setTop (mkF m 102 #[.val (.int p1), .val (.int p2), .val (.int p3), .val (.int p4), .val (.int p5), .val (.ref b26), .val (.int (4 : Int32)), .val (.ref b83), .val (.int (1 : Int32))] [])) _
      refine XS.aload X89.here hx rfl (hb hby at_102) rfl rfl ?_
      show Steps p.tables e below (T89.setTop (mkF m 104 #[.val (.int p1), .val (.int p2), .val (.int p3), .val (.int p4), .val (.int p5), .val (.ref b26), .val (.int (4 : Int32)), .val (.ref b83), .val (.int (1 : Int32))] [(.ref b83)])) _
      refine XS.aload X89.here hx rfl (hb hby at_104) rfl rfl ?_
      show Steps p.tables e below (T89.setTop (mkF m 106 #[.val (.int p1), .val (.int p2), .val (.int p3), .val (.int p4), .val (.int p5), .val (.ref b26), .val (.int (4 : Int32)), .val (.ref b83), .val (.int (1 : Int32))] [(.ref b26), (.ref b83)])) _
      refine XS.iload X89.here hx rfl (hb hby at_106) rfl ?_
      show Steps p.tables e below (T89.setTop (mkF m 108 #[.val (.int p1), .val (.int p2), .val (.int p3), .val (.int p4), .val (.int p5), .val (.ref b26), .val (.int (4 : Int32)), .val (.ref b83), .val (.int (1 : Int32))] [(.int (4 : Int32)), (.ref b26), (.ref b83)])) _
      refine XS.iconst X89.here hx rfl (hb hby at_108) ?_
      exact kt
    obtain ⟨cq90, kq90, q90a, q90b, q90c⟩ := isOf hZ e89 E85
    obtain ⟨_, _, ⟨T90, L90, k90, n90⟩, -, X90, ⟨Lc90, hQ90, l90, y90, z90⟩, st90⟩ := X89.virtualBack hx (y := (⟨"com/example/brokn/brokn/TextPosition", "advance", "([CII)V"⟩ : MethodName)) (z := (⟨"com/example/brokn/brokn/TextPosition", "advance", "([CII)V"⟩ : MethodName)) hown (mvT hZ (hw _ (List.mem_of_getElem? (i := 17) rfl))) (mvT hZ (hw _ (List.mem_of_getElem? (i := 18) rfl))) (notFace_of_selects (args := #[]) (mvT hZ (hw _ (List.mem_of_getElem? (i := 20) rfl)))) (mvT hZ (hw _ (List.mem_of_getElem? (i := 20) rfl))) (mvT hZ (hw _ (List.mem_of_getElem? (i := 19) rfl))) (by decide) (backOf (W := 0) (rm4 l Z a0 hw [] b83 b26 (4 : Int32) (4 : Int32) (own_run ((1 : Int32), (0 : Int32), (0 : Int32)) [y0, y1, y2, y3]).1 (own_run ((1 : Int32), (0 : Int32), (0 : Int32)) [y0, y1, y2, y3]).2.1 (own_run ((1 : Int32), (0 : Int32), (0 : Int32)) [y0, y1, y2, y3]).2.2 [] hh85 n0 Zb 4 4 (by decide) rfl rfl rfl Fl85 Fc85 Fp85 E85 go k26 [(.int y0), (.int y1), (.int y2), (.int y3)] Vc (own_in4_4 y0 y1 y2 y3) hy3) hZ (hw _ (List.mem_of_getElem? (i := 21) rfl)) (hw _ (List.mem_of_getElem? (i := 8) rfl)) (by decide) (by decide)) q90a q90c (g := (mkF m 109 #[.val (.int p1), .val (.int p2), .val (.int p3), .val (.int p4), .val (.int p5), .val (.ref b26), .val (.int (4 : Int32)), .val (.ref b83), .val (.int (1 : Int32))] [(.int (4 : Int32)), (.int (4 : Int32)), (.ref b26), (.ref b83)])) rfl (by rw [hml]; rfl) (Steps.refl _) (argsL := [(.ref b26), (.int (4 : Int32)), (.int (4 : Int32))]) (rest := []) (lenOf pd_4 rfl) rfl (by show 2 * 0 + _ ≤ _; exact Nat.le_of_eq rfl) (hb hby at_109) (fun _ _ => ⟨rfl, e89, (by decide : ((((((((((((0 + 1) + 0) + 0) + 0) + 0) + 1) + 0) + 0) + 0) + 0) + 0) + 0) + 0 ≤ _), (by decide : ((((((((((((0 + 4) + 0) + 0) + 0) + 0) + 3) + 0) + 0) + 0) + 0) + 0) + 0) + 0 ≤ _)⟩)
    dsimp only [Pt.U, Pt.locs, Pt.cells, Pt.slots] at X90 l90 y90 z90 st90 hQ90
    subst l90 y90 z90
    obtain ⟨rfl, N90q, K90, E90, Fl90, Fc90, Fp90⟩ := hQ90
    have N90 := Fr.app N89 N90q
    refine own_go (B := T90.setTop (mkF m 112 #[.val (.int p1), .val (.int p2), .val (.int p3), .val (.int p4), .val (.int p5), .val (.ref b26), .val (.int (4 : Int32)), .val (.ref b83), .val (.int (1 : Int32))] [])) (fun t kt => st90.trans kt) ?_
    have Zd : n0 ≤ T90.heap.size := Nat.le_trans Zb K90.1
    have Vd := Vc.keep K90 (ninS hne nin0)
    obtain ⟨hh90, ehh90⟩ : ∃ z : Heap, z = T90.heap := ⟨_, rfl⟩
    rw [← ehh90] at Zd Vd Fl90 Fc90 Fp90 E90
    refine own_go (B := T90.setTop (mkF m 119 #[.val (.int p1), .val (.int p2), .val (.int p3), .val (.int p4), .val (.int p5), .val (.ref b26), .val (.int (4 : Int32)), .val (.ref b83), .val (.int (1 : Int32))] [(.ref b83)])) (fun t kt => ?_) ?_
    · show Steps p.tables e below (T90.setTop (mkF m 112 #[.val (.int p1), .val (.int p2), .val (.int p3), .val (.int p4), .val (.int p5), .val (.ref b26), .val (.int (4 : Int32)), .val (.ref b83), .val (.int (1 : Int32))] [])) _
      refine XS.iload X90.here hx rfl (hb hby at_112) rfl ?_
      show Steps p.tables e below (T90.setTop (mkF m 114 #[.val (.int p1), .val (.int p2), .val (.int p3), .val (.int p4), .val (.int p5), .val (.ref b26), .val (.int (4 : Int32)), .val (.ref b83), .val (.int (1 : Int32))] [(.int (1 : Int32))])) _
      refine XS.ifNo X90.here hx rfl (hb hby at_114) rfl ((if0 _ _).trans (feq (by decide)).1) ?_
      show Steps p.tables e below (T90.setTop (mkF m 117 #[.val (.int p1), .val (.int p2), .val (.int p3), .val (.int p4), .val (.int p5), .val (.ref b26), .val (.int (4 : Int32)), .val (.ref b83), .val (.int (1 : Int32))] [])) _
      refine XS.aload X90.here hx rfl (hb hby at_117) rfl rfl ?_
      exact kt
    obtain ⟨cq91, kq91, q91a, q91b, q91c⟩ := isOf hZ ehh90.symm E90
    obtain ⟨_, _, ⟨T91, L91, k91, n91⟩, -, X91, ⟨Lc91, hQ91, l91, y91, z91⟩, st91⟩ := X90.virtualBack hx (y := (⟨"com/example/brokn/brokn/TextPosition", "line", "()I"⟩ : MethodName)) (z := (⟨"com/example/brokn/brokn/TextPosition", "line", "()I"⟩ : MethodName)) hown (mvT hZ (hw _ (List.mem_of_getElem? (i := 26) rfl))) (mvT hZ (hw _ (List.mem_of_getElem? (i := 27) rfl))) (notFace_of_selects (args := #[]) (mvT hZ (hw _ (List.mem_of_getElem? (i := 29) rfl)))) (mvT hZ (hw _ (List.mem_of_getElem? (i := 29) rfl))) (mvT hZ (hw _ (List.mem_of_getElem? (i := 28) rfl))) (by decide) (backOf (W := 0) (rm5 l Z a0 hw [] b83 (own_run ((own_run ((1 : Int32), (0 : Int32), (0 : Int32)) [y0, y1, y2, y3]).1, (own_run ((1 : Int32), (0 : Int32), (0 : Int32)) [y0, y1, y2, y3]).2.1, (own_run ((1 : Int32), (0 : Int32), (0 : Int32)) [y0, y1, y2, y3]).2.2) []).1 hh90 n0 Zd Fl90) hZ (hw _ (List.mem_of_getElem? (i := 30) rfl)) (hw _ (List.mem_of_getElem? (i := 8) rfl)) (by decide) (by decide)) q91a q91c (g := (mkF m 119 #[.val (.int p1), .val (.int p2), .val (.int p3), .val (.int p4), .val (.int p5), .val (.ref b26), .val (.int (4 : Int32)), .val (.ref b83), .val (.int (1 : Int32))] [(.ref b83)])) rfl (by rw [hml]; rfl) (Steps.refl _) (argsL := []) (rest := []) (lenOf pd_5 rfl) rfl (by show 2 * 0 + _ ≤ _; exact Nat.le_of_eq rfl) (hb hby at_119) (fun _ _ => ⟨rfl, ehh90.symm, (by decide : (((((((((((((0 + 1) + 0) + 0) + 0) + 0) + 1) + 0) + 0) + 0) + 0) + 0) + 0) + 0) + 0 ≤ _), (by decide : (((((((((((((0 + 4) + 0) + 0) + 0) + 0) + 3) + 0) + 0) + 0) + 0) + 0) + 0) + 0) + 0 ≤ _)⟩)
    dsimp only [Pt.U, Pt.locs, Pt.cells, Pt.slots] at X91 l91 y91 z91 st91 hQ91
    subst l91 y91 z91
    obtain ⟨rfl, N91q, e91⟩ := hQ91
    have N91 := Fr.app N90 N91q
    refine own_go (B := T91.setTop (mkF m 122 #[.val (.int p1), .val (.int p2), .val (.int p3), .val (.int p4), .val (.int p5), .val (.ref b26), .val (.int (4 : Int32)), .val (.ref b83), .val (.int (1 : Int32))] [(.int (own_run ((own_run ((1 : Int32), (0 : Int32), (0 : Int32)) [y0, y1, y2, y3]).1, (own_run ((1 : Int32), (0 : Int32), (0 : Int32)) [y0, y1, y2, y3]).2.1, (own_run ((1 : Int32), (0 : Int32), (0 : Int32)) [y0, y1, y2, y3]).2.2) []).1)])) (fun t kt => st91.trans kt) ?_
    refine own_go (B := T91.setTop (mkF m 125 #[.val (.int p1), .val (.int p2), .val (.int p3), .val (.int p4), .val (.int p5), .val (.ref b26), .val (.int (4 : Int32)), .val (.ref b83), .val (.int (1 : Int32))] [(.int (4 : Int32)), (.ref b26), (.int (own_run ((own_run ((1 : Int32), (0 : Int32), (0 : Int32)) [y0, y1, y2, y3]).1, (own_run ((1 : Int32), (0 : Int32), (0 : Int32)) [y0, y1, y2, y3]).2.1, (own_run ((1 : Int32), (0 : Int32), (0 : Int32)) [y0, y1, y2, y3]).2.2) []).1)])) (fun t kt => ?_) ?_
    · show Steps p.tables e below (T91.setTop (mkF m 122 #[.val (.int p1), .val (.int p2), .val (.int p3), .val (.int p4), .val (.int p5), .val (.ref b26), .val (.int (4 : Int32)), .val (.ref b83), .val (.int (1 : Int32))] [(.int (own_run ((own_run ((1 : Int32), (0 : Int32), (0 : Int32)) [y0, y1, y2, y3]).1, (own_run ((1 : Int32), (0 : Int32), (0 : Int32)) [y0, y1, y2, y3]).2.1, (own_run ((1 : Int32), (0 : Int32), (0 : Int32)) [y0, y1, y2, y3]).2.2) []).1)])) _
      refine XS.aload X91.here hx rfl (hb hby at_122) rfl rfl ?_
      show Steps p.tables e below (T91.setTop (mkF m 124 #[.val (.int p1), .val (.int p2), .val (.int p3), .val (.int p4), .val (.int p5), .val (.ref b26), .val (.int (4 : Int32)), .val (.ref b83), .val (.int (1 : Int32))] [(.ref b26), (.int (own_run ((own_run ((1 : Int32), (0 : Int32), (0 : Int32)) [y0, y1, y2, y3]).1, (own_run ((1 : Int32), (0 : Int32), (0 : Int32)) [y0, y1, y2, y3]).2.1, (own_run ((1 : Int32), (0 : Int32), (0 : Int32)) [y0, y1, y2, y3]).2.2) []).1)])) _
      refine XS.iconst X91.here hx rfl (hb hby at_124) ?_
      exact kt
    obtain ⟨_, _, ⟨T92, L92, k92, n92⟩, -, X92, ⟨Lc92, hQ92, l92, y92, z92⟩, st92⟩ := Jvm.LawKit.callS X91 hx (y := (⟨"com/example/brokn/brokn/TextPositionAdvancePinLaw", "lines", "([CI)I"⟩ : MethodName)) hown (mvT hZ (hw _ (List.mem_of_getElem? (i := 31) rfl))) (mvT hZ (hw _ (List.mem_of_getElem? (i := 32) rfl))) (mvT hZ (hw _ (List.mem_of_getElem? (i := 3) rfl))) (mvT hZ (hw _ (List.mem_of_getElem? (i := 33) rfl))) (by decide) (backOf (W := 1) (rm6 l Z a0 hw [] b26 (4 : Int32) k26 y0 y1 y2 y3 hh90 n0 Zd Vd) hZ (hw _ (List.mem_of_getElem? (i := 33) rfl)) (hw _ (List.mem_of_getElem? (i := 3) rfl)) (by decide) (by decide)) (g := (mkF m 125 #[.val (.int p1), .val (.int p2), .val (.int p3), .val (.int p4), .val (.int p5), .val (.ref b26), .val (.int (4 : Int32)), .val (.ref b83), .val (.int (1 : Int32))] [(.int (4 : Int32)), (.ref b26), (.int (own_run ((own_run ((1 : Int32), (0 : Int32), (0 : Int32)) [y0, y1, y2, y3]).1, (own_run ((1 : Int32), (0 : Int32), (0 : Int32)) [y0, y1, y2, y3]).2.1, (own_run ((1 : Int32), (0 : Int32), (0 : Int32)) [y0, y1, y2, y3]).2.2) []).1)])) rfl (by rw [hml]; rfl) (argsL := [(.ref b26), (.int (4 : Int32))]) (rest := [(.int (own_run ((own_run ((1 : Int32), (0 : Int32), (0 : Int32)) [y0, y1, y2, y3]).1, (own_run ((1 : Int32), (0 : Int32), (0 : Int32)) [y0, y1, y2, y3]).2.1, (own_run ((1 : Int32), (0 : Int32), (0 : Int32)) [y0, y1, y2, y3]).2.2) []).1)]) (lenOf pd_6 rfl) rfl (by show 2 * 0 + _ ≤ _; exact Nat.le_of_eq rfl) (hb hby at_125) (fun _ _ => ⟨rfl, e91, (by decide : ((((((((((((((0 + 1) + 0) + 0) + 0) + 0) + 1) + 0) + 0) + 0) + 0) + 0) + 0) + 0) + 0) + 0 ≤ _), (by decide : ((((((((((((((0 + 4) + 0) + 0) + 0) + 0) + 3) + 0) + 0) + 0) + 0) + 0) + 0) + 0) + 0) + 0 ≤ _)⟩)
    dsimp only [Pt.U, Pt.locs, Pt.cells, Pt.slots] at X92 l92 y92 z92 st92 hQ92
    subst l92 y92 z92
    obtain ⟨rfl, N92q, e92⟩ := hQ92
    have N92 := Fr.app N91 N92q
    refine own_go (B := T92.setTop (mkF m 128 #[.val (.int p1), .val (.int p2), .val (.int p3), .val (.int p4), .val (.int p5), .val (.ref b26), .val (.int (4 : Int32)), .val (.ref b83), .val (.int (1 : Int32))] [(.int (own_lines (4 : Int32) y0 y1 y2 y3)), (.int (own_run ((own_run ((1 : Int32), (0 : Int32), (0 : Int32)) [y0, y1, y2, y3]).1, (own_run ((1 : Int32), (0 : Int32), (0 : Int32)) [y0, y1, y2, y3]).2.1, (own_run ((1 : Int32), (0 : Int32), (0 : Int32)) [y0, y1, y2, y3]).2.2) []).1)])) (fun t kt => st92 t kt) ?_
    refine own_go (B := T92.setTop (mkF m 133 #[.val (.int p1), .val (.int p2), .val (.int p3), .val (.int p4), .val (.int p5), .val (.ref b26), .val (.int (4 : Int32)), .val (.ref b83), .val (.int (1 : Int32))] [(.ref b83)])) (fun t kt => ?_) ?_
    · show Steps p.tables e below (T92.setTop (mkF m 128 #[.val (.int p1), .val (.int p2), .val (.int p3), .val (.int p4), .val (.int p5), .val (.ref b26), .val (.int (4 : Int32)), .val (.ref b83), .val (.int (1 : Int32))] [(.int (own_lines (4 : Int32) y0 y1 y2 y3)), (.int (own_run ((own_run ((1 : Int32), (0 : Int32), (0 : Int32)) [y0, y1, y2, y3]).1, (own_run ((1 : Int32), (0 : Int32), (0 : Int32)) [y0, y1, y2, y3]).2.1, (own_run ((1 : Int32), (0 : Int32), (0 : Int32)) [y0, y1, y2, y3]).2.2) []).1)])) _
      refine XS.icmpNo X92.here hx rfl (hb hby at_128) rfl (teq (own_A4 y0 y1 y2 y3)).2 ?_
      show Steps p.tables e below (T92.setTop (mkF m 131 #[.val (.int p1), .val (.int p2), .val (.int p3), .val (.int p4), .val (.int p5), .val (.ref b26), .val (.int (4 : Int32)), .val (.ref b83), .val (.int (1 : Int32))] [])) _
      refine XS.aload X92.here hx rfl (hb hby at_131) rfl rfl ?_
      exact kt
    obtain ⟨cq93, kq93, q93a, q93b, q93c⟩ := isOf hZ e92 E90
    obtain ⟨_, _, ⟨T93, L93, k93, n93⟩, -, X93, ⟨Lc93, hQ93, l93, y93, z93⟩, st93⟩ := X92.virtualBack hx (y := (⟨"com/example/brokn/brokn/TextPosition", "column", "()I"⟩ : MethodName)) (z := (⟨"com/example/brokn/brokn/TextPosition", "column", "()I"⟩ : MethodName)) hown (mvT hZ (hw _ (List.mem_of_getElem? (i := 43) rfl))) (mvT hZ (hw _ (List.mem_of_getElem? (i := 44) rfl))) (notFace_of_selects (args := #[]) (mvT hZ (hw _ (List.mem_of_getElem? (i := 46) rfl)))) (mvT hZ (hw _ (List.mem_of_getElem? (i := 46) rfl))) (mvT hZ (hw _ (List.mem_of_getElem? (i := 45) rfl))) (by decide) (backOf (W := 0) (rm10 l Z a0 hw [] b83 (own_run ((own_run ((1 : Int32), (0 : Int32), (0 : Int32)) [y0, y1, y2, y3]).1, (own_run ((1 : Int32), (0 : Int32), (0 : Int32)) [y0, y1, y2, y3]).2.1, (own_run ((1 : Int32), (0 : Int32), (0 : Int32)) [y0, y1, y2, y3]).2.2) []).2.1 hh90 n0 Zd Fc90) hZ (hw _ (List.mem_of_getElem? (i := 47) rfl)) (hw _ (List.mem_of_getElem? (i := 8) rfl)) (by decide) (by decide)) q93a q93c (g := (mkF m 133 #[.val (.int p1), .val (.int p2), .val (.int p3), .val (.int p4), .val (.int p5), .val (.ref b26), .val (.int (4 : Int32)), .val (.ref b83), .val (.int (1 : Int32))] [(.ref b83)])) rfl (by rw [hml]; rfl) (Steps.refl _) (argsL := []) (rest := []) (lenOf pd_5 rfl) rfl (by show 2 * 0 + _ ≤ _; exact Nat.le_of_eq rfl) (hb hby at_133) (fun _ _ => ⟨rfl, e92, (by decide : (((((((((((((((0 + 1) + 0) + 0) + 0) + 0) + 1) + 0) + 0) + 0) + 0) + 0) + 0) + 0) + 0) + 0) + 0 ≤ _), (by decide : (((((((((((((((0 + 4) + 0) + 0) + 0) + 0) + 3) + 0) + 0) + 0) + 0) + 0) + 0) + 0) + 0) + 0) + 0 ≤ _)⟩)
    dsimp only [Pt.U, Pt.locs, Pt.cells, Pt.slots] at X93 l93 y93 z93 st93 hQ93
    subst l93 y93 z93
    obtain ⟨rfl, N93q, e93⟩ := hQ93
    have N93 := Fr.app N92 N93q
    refine own_go (B := T93.setTop (mkF m 136 #[.val (.int p1), .val (.int p2), .val (.int p3), .val (.int p4), .val (.int p5), .val (.ref b26), .val (.int (4 : Int32)), .val (.ref b83), .val (.int (1 : Int32))] [(.int (own_run ((own_run ((1 : Int32), (0 : Int32), (0 : Int32)) [y0, y1, y2, y3]).1, (own_run ((1 : Int32), (0 : Int32), (0 : Int32)) [y0, y1, y2, y3]).2.1, (own_run ((1 : Int32), (0 : Int32), (0 : Int32)) [y0, y1, y2, y3]).2.2) []).2.1)])) (fun t kt => st93.trans kt) ?_
    refine own_go (B := T93.setTop (mkF m 139 #[.val (.int p1), .val (.int p2), .val (.int p3), .val (.int p4), .val (.int p5), .val (.ref b26), .val (.int (4 : Int32)), .val (.ref b83), .val (.int (1 : Int32))] [(.int (4 : Int32)), (.ref b26), (.int (own_run ((own_run ((1 : Int32), (0 : Int32), (0 : Int32)) [y0, y1, y2, y3]).1, (own_run ((1 : Int32), (0 : Int32), (0 : Int32)) [y0, y1, y2, y3]).2.1, (own_run ((1 : Int32), (0 : Int32), (0 : Int32)) [y0, y1, y2, y3]).2.2) []).2.1)])) (fun t kt => ?_) ?_
    · show Steps p.tables e below (T93.setTop (mkF m 136 #[.val (.int p1), .val (.int p2), .val (.int p3), .val (.int p4), .val (.int p5), .val (.ref b26), .val (.int (4 : Int32)), .val (.ref b83), .val (.int (1 : Int32))] [(.int (own_run ((own_run ((1 : Int32), (0 : Int32), (0 : Int32)) [y0, y1, y2, y3]).1, (own_run ((1 : Int32), (0 : Int32), (0 : Int32)) [y0, y1, y2, y3]).2.1, (own_run ((1 : Int32), (0 : Int32), (0 : Int32)) [y0, y1, y2, y3]).2.2) []).2.1)])) _
      refine XS.aload X93.here hx rfl (hb hby at_136) rfl rfl ?_
      show Steps p.tables e below (T93.setTop (mkF m 138 #[.val (.int p1), .val (.int p2), .val (.int p3), .val (.int p4), .val (.int p5), .val (.ref b26), .val (.int (4 : Int32)), .val (.ref b83), .val (.int (1 : Int32))] [(.ref b26), (.int (own_run ((own_run ((1 : Int32), (0 : Int32), (0 : Int32)) [y0, y1, y2, y3]).1, (own_run ((1 : Int32), (0 : Int32), (0 : Int32)) [y0, y1, y2, y3]).2.1, (own_run ((1 : Int32), (0 : Int32), (0 : Int32)) [y0, y1, y2, y3]).2.2) []).2.1)])) _
      refine XS.iconst X93.here hx rfl (hb hby at_138) ?_
      exact kt
    obtain ⟨_, _, ⟨T94, L94, k94, n94⟩, -, X94, ⟨Lc94, hQ94, l94, y94, z94⟩, st94⟩ := Jvm.LawKit.callS X93 hx (y := (⟨"com/example/brokn/brokn/TextPositionAdvancePinLaw", "column", "([CI)I"⟩ : MethodName)) hown (mvT hZ (hw _ (List.mem_of_getElem? (i := 48) rfl))) (mvT hZ (hw _ (List.mem_of_getElem? (i := 49) rfl))) (mvT hZ (hw _ (List.mem_of_getElem? (i := 3) rfl))) (mvT hZ (hw _ (List.mem_of_getElem? (i := 50) rfl))) (by decide) (backOf (W := 1) (rm11 l Z a0 hw [] b26 (4 : Int32) k26 y0 y1 y2 y3 hh90 n0 Zd Vd) hZ (hw _ (List.mem_of_getElem? (i := 50) rfl)) (hw _ (List.mem_of_getElem? (i := 3) rfl)) (by decide) (by decide)) (g := (mkF m 139 #[.val (.int p1), .val (.int p2), .val (.int p3), .val (.int p4), .val (.int p5), .val (.ref b26), .val (.int (4 : Int32)), .val (.ref b83), .val (.int (1 : Int32))] [(.int (4 : Int32)), (.ref b26), (.int (own_run ((own_run ((1 : Int32), (0 : Int32), (0 : Int32)) [y0, y1, y2, y3]).1, (own_run ((1 : Int32), (0 : Int32), (0 : Int32)) [y0, y1, y2, y3]).2.1, (own_run ((1 : Int32), (0 : Int32), (0 : Int32)) [y0, y1, y2, y3]).2.2) []).2.1)])) rfl (by rw [hml]; rfl) (argsL := [(.ref b26), (.int (4 : Int32))]) (rest := [(.int (own_run ((own_run ((1 : Int32), (0 : Int32), (0 : Int32)) [y0, y1, y2, y3]).1, (own_run ((1 : Int32), (0 : Int32), (0 : Int32)) [y0, y1, y2, y3]).2.1, (own_run ((1 : Int32), (0 : Int32), (0 : Int32)) [y0, y1, y2, y3]).2.2) []).2.1)]) (lenOf pd_6 rfl) rfl (by show 2 * 0 + _ ≤ _; exact Nat.le_of_eq rfl) (hb hby at_139) (fun _ _ => ⟨rfl, e93, (by decide : ((((((((((((((((0 + 1) + 0) + 0) + 0) + 0) + 1) + 0) + 0) + 0) + 0) + 0) + 0) + 0) + 0) + 0) + 0) + 0 ≤ _), (by decide : ((((((((((((((((0 + 4) + 0) + 0) + 0) + 0) + 3) + 0) + 0) + 0) + 0) + 0) + 0) + 0) + 0) + 0) + 0) + 0 ≤ _)⟩)
    dsimp only [Pt.U, Pt.locs, Pt.cells, Pt.slots] at X94 l94 y94 z94 st94 hQ94
    subst l94 y94 z94
    obtain ⟨rfl, N94q, e94⟩ := hQ94
    have N94 := Fr.app N93 N94q
    refine own_go (B := T94.setTop (mkF m 142 #[.val (.int p1), .val (.int p2), .val (.int p3), .val (.int p4), .val (.int p5), .val (.ref b26), .val (.int (4 : Int32)), .val (.ref b83), .val (.int (1 : Int32))] [(.int (own_col (4 : Int32) y0 y1 y2 y3)), (.int (own_run ((own_run ((1 : Int32), (0 : Int32), (0 : Int32)) [y0, y1, y2, y3]).1, (own_run ((1 : Int32), (0 : Int32), (0 : Int32)) [y0, y1, y2, y3]).2.1, (own_run ((1 : Int32), (0 : Int32), (0 : Int32)) [y0, y1, y2, y3]).2.2) []).2.1)])) (fun t kt => st94 t kt) ?_
    refine own_go (B := T94.setTop (mkF m 150 #[.val (.int p1), .val (.int p2), .val (.int p3), .val (.int p4), .val (.int p5), .val (.ref b26), .val (.int (4 : Int32)), .val (.ref b83), .val (.int (1 : Int32))] [(.int (1 : Int32))])) (fun t kt => ?_) ?_
    · show Steps p.tables e below (T94.setTop (mkF m 142 #[.val (.int p1), .val (.int p2), .val (.int p3), .val (.int p4), .val (.int p5), .val (.ref b26), .val (.int (4 : Int32)), .val (.ref b83), .val (.int (1 : Int32))] [(.int (own_col (4 : Int32) y0 y1 y2 y3)), (.int (own_run ((own_run ((1 : Int32), (0 : Int32), (0 : Int32)) [y0, y1, y2, y3]).1, (own_run ((1 : Int32), (0 : Int32), (0 : Int32)) [y0, y1, y2, y3]).2.1, (own_run ((1 : Int32), (0 : Int32), (0 : Int32)) [y0, y1, y2, y3]).2.2) []).2.1)])) _
      refine XS.icmpNo X94.here hx rfl (hb hby at_142) rfl (teq (own_B4 y0 y1 y2 y3)).2 ?_
      show Steps p.tables e below (T94.setTop (mkF m 145 #[.val (.int p1), .val (.int p2), .val (.int p3), .val (.int p4), .val (.int p5), .val (.ref b26), .val (.int (4 : Int32)), .val (.ref b83), .val (.int (1 : Int32))] [])) _
      refine XS.iconst X94.here hx rfl (hb hby at_145) ?_
      show Steps p.tables e below (T94.setTop (mkF m 146 #[.val (.int p1), .val (.int p2), .val (.int p3), .val (.int p4), .val (.int p5), .val (.ref b26), .val (.int (4 : Int32)), .val (.ref b83), .val (.int (1 : Int32))] [(.int (1 : Int32))])) _
      refine XS.goto X94.here hx rfl (pc0 := 146) (pc' := 150) rfl (hb hby at_146) (by decide) (by decide) ?_
      exact kt
    obtain ⟨fs, hr, hrun, hended, hW, hsame⟩ := X94.leave (v := some (.int (1 : Int32))) (fun h => by rw [Bd.returns] at h; cases h)
    refine ⟨_, _, ?_, hrun, hended, _, _, rfl, ?_, ⟨_, rfl⟩, hW, hsame.mono (by decide) (by decide)⟩
    · show Steps p.tables e below (T94.setTop (mkF m 150 #[.val (.int p1), .val (.int p2), .val (.int p3), .val (.int p4), .val (.int p5), .val (.ref b26), .val (.int (4 : Int32)), .val (.ref b83), .val (.int (1 : Int32))] [(.int (1 : Int32))])) _
      exact retN X94 hx (t := .boolean) Bd.returns (by simp) (hb hby at_150) hr
    · show Q0 Z p1 p2 p3 p4 p5 h0 n0 _ T94.heap _
      rw [e94]
      exact ⟨rfl, N94⟩
set_option maxRecDepth 65536 in
set_option maxHeartbeats 40000000 in
theorem comes_1 {Post : Tables → Env → Array Value → State → Outcome → State → Prop} (hpost : ∀ tb e args s v u, (limb_1_1.after args s (.returned v) u = true ∧ limb_1_2.after args s (.returned v) u = true ∧ True) → FrameEnd s (.returned v) u (Jvm.fieldLocs frame_1_writes args s ++ Jvm.arrayLocs frame_1_arrays args s ++ Jvm.staticLocs frame_1_statics s) 16 128 → Post tb e args s (.returned v) u) :
    ArmFor flags0 classFile x code maxLocals ret World_1 tables_1 room_1 Calls_1 rest_1 Pre_1 Post := by
  intro l hfl _ _ p e ha hc hk s m args below hf hA hF happ hP
  obtain ⟨hcalls, hrest, hpre⟩ := hP
  obtain ⟨-, -, -, hnamed, -, -, -, hat⟩ := (Spec.applies_iff hf).mp happ
  obtain ⟨hg, hn⟩ := and_e (Cond.before_iff.mp (show (Jvm.Cond.and given_1 narrow_1).before args s = true from hpre))
  obtain ⟨gg1, gg2⟩ := and_e hg
  obtain ⟨gg3, gg4⟩ := and_e gg2
  obtain ⟨gg5, gg6⟩ := and_e gg4
  obtain ⟨gg7, gg8⟩ := and_e gg6
  obtain ⟨gg9, gg10⟩ := and_e gg8
  obtain ⟨w0, w1, w2, w3, w4, rfl⟩ : ∃ w0 w1 w2 w3 w4 : Value, args = #[w0, w1, w2, w3, w4] := by
    have hs : args.size = 5 := by simpa [Cond.value, given_1] using gg1
    obtain ⟨L⟩ := args
    match L, hs with
    | [w0, w1, w2, w3, w4], _ => exact ⟨w0, w1, w2, w3, w4, rfl⟩
  have hw := fun d (hd : d ∈ tables_1) => atoms_spec (ws := Jvm.Cond.code x code maxLocals ret :: tables_1) hat d (List.mem_cons_of_mem _ hd)
  obtain ⟨i0, ei0⟩ := is_v gg3
  obtain rfl : w0 = (.int i0) := Option.some.inj ei0
  obtain ⟨i1, ei1⟩ := is_v gg5
  obtain rfl : w1 = (.int i1) := Option.some.inj ei1
  obtain ⟨i2, ei2⟩ := is_v gg7
  obtain rfl : w2 = (.int i2) := Option.some.inj ei2
  obtain ⟨i3, ei3⟩ := is_v gg9
  obtain rfl : w3 = (.int i3) := Option.some.inj ei3
  obtain ⟨i4, ei4⟩ := is_v gg10
  obtain rfl : w4 = (.int i4) := Option.some.inj ei4
  obtain ⟨n, o, h1, h2, h3, _, L, rfl, ⟨rfl, N⟩, hq⟩ := rm0 l s _ hw tables_1 i0 i1 i2 i3 i4  s.heap s.heap.size (Nat.le_refl _)  p e ha hc hk s m _ below hf ((Spec.applies_iff_loose hf).mp happ).1 ⟨rfl, State.Warmed39.refl s, rfl⟩ trivial
  refine ⟨n, _, h1, h2, h3, hpost _ _ _ _ _ _ ⟨Cond.after_iff.mpr rfl, Cond.after_iff.mpr (eq_i res_at (Term.int_eval (1)) rfl), trivial⟩ ⟨hq.1, hq.2.1, (hq.2.2.sift fun y hy => Or.inr (N y hy)).mono (by decide) (by decide)⟩⟩
theorem main_1_1 : Claimed_1_1 := comes_1 fun _ _ _ _ _ _ h hF => ⟨h.1, hF⟩
theorem main_1_2 : Claimed_1_2 := comes_1 fun _ _ _ _ _ _ h hF => ⟨h.2.1, hF⟩
end Jvm.Pilot.@@N@@
namespace Jvm.Pilot.@@N@@
open Jvm Jvm.ClassFile Sem Op Lib Jvm.Free Jvm.Stand Jvm.Pilot.@@N@@.Jvm.D
/-! MADE BY PROGRAM (witnessworld.py) out of the Statement's table words and the real class files: 11 classes; the members and pool entries that the words name. The judged class is class 1, her method 8. -/
namespace start1
open Jvm.ClassFile
def u (s : String) : CpInfo := .utf8 (stringToUtf16 s)
/-- a pool by its gaps: so many unusable entries, then the entry; so many at the end -/
def gap : Nat → List CpInfo → List CpInfo
  | 0, r => r
  | n + 1, r => .unusable :: gap n r
def poolList (es : List (Nat × CpInfo)) (last : Nat) : List CpInfo := es.foldr (fun e r => gap e.1 (e.2 :: r)) (gap last [])
def pool (es : List (Nat × CpInfo)) (last : Nat) : Array CpInfo := ⟨poolList es last⟩
def fileOf (pool : Array CpInfo) (this : Nat) (attrs : Array Attribute := #[]) (ms : Array MethodInfo := #[]) (fl : Nat := 33) (sup : Nat := 0) (ifs : Array Nat := #[]) (fds : Array FieldInfo := #[]) : ClassFile where
  minorVersion := 0
  majorVersion := 65
  constantPool := pool
  accessFlags := fl
  thisClass := this
  superClass := sup
  interfaces := ifs
  fields := fds
  methods := ms
  attributes := attrs
def plain (name : String) (sup : Option ClassId) : Class where
  name := name
  kind := .ordinary
  loader := none
  accessFlags := 33
  super := sup
  interfaces := #[]
  cf := none
  fields := #[]
  methods := #[]
  instanceTypes := #[]
  staticTypes := #[]
  resolved := #[]
  callSites := []
  init := .initialized
  statics := none
  mirror := none

def pool0 : Array CpInfo := pool [(5, u "<init>"), (0, u "()V"), (1, .class_ 10), (1, u "java/lang/Object")] 113

def k0c0 : Code := { maxStack := 0, maxLocals := 1, code := object_method_1_code, exceptionTable := #[], attributes := #[] }
def k0m0 : Method := { name := "<init>", desc := "()V", sig := { parameters := [], returnType := none }, accessFlags := 1, code := some k0c0 }
/-- java/lang/Object -/
def k0 : Class := { plain "java/lang/Object" none with
  accessFlags := 33
  interfaces := #[]
  cf := some (fileOf pool0 8 #[] #[{ accessFlags := 1, nameIndex := 5, descriptorIndex := 6, attributes := #[] }] 33 0 #[] #[])
  fields := #[]
  methods := #[k0m0]
  instanceTypes := #[]
  staticTypes := #[]
  resolved := Array.replicate 124 none
  statics := none }

def pool1 : Array CpInfo := pool [(2, .class_ 4), (0, .nameAndType 5 6), (0, u "java/lang/Object"), (0, u "<init>"), (0, u "()V"), (0, .methodref 8 9), (0, .class_ 10), (0, .nameAndType 11 12), (0, u "com/example/brokn/brokn/TextPositionAdvancePinLaw"), (0, u "isCr"), (0, u "([CII)I"), (0, .methodref 8 14), (0, .nameAndType 15 12), (0, u "isLf"), (0, .methodref 8 17), (0, .nameAndType 18 12), (0, u "isPair"), (0, .methodref 8 20), (0, .nameAndType 21 22), (0, u "isBreak"), (0, u "([CII)Z"), (0, .methodref 8 24), (0, .nameAndType 25 26), (0, u "draw"), (0, u "(I)C"), (0, .integer 2147483647), (0, .class_ 29), (0, u "com/example/brokn/brokn/TextPosition"), (0, .methodref 28 3), (0, .methodref 28 32), (0, .nameAndType 33 34), (0, u "advance"), (0, u "([CII)V"), (0, .methodref 28 36), (0, .nameAndType 37 38), (0, u "line"), (0, u "()I"), (0, .methodref 8 40), (0, .nameAndType 41 42), (0, u "lines"), (0, u "([CI)I"), (0, .methodref 28 44), (0, .nameAndType 45 38), (0, u "column"), (0, .methodref 8 47), (0, .nameAndType 45 42), (3, u "law"), (0, u "(IIIII)Z")] 4

def k1m0 : Method := { name := "<init>", desc := "()V", sig := { parameters := [], returnType := none }, accessFlags := 1, code := none }
def k1c1 : Code := { maxStack := 2, maxLocals := 2, code := method_2_code, exceptionTable := #[], attributes := #[] }
def k1m1 : Method := { name := "draw", desc := "(I)C", sig := { parameters := [.int], returnType := some .char }, accessFlags := 10, code := some k1c1 }
def k1c2 : Code := { maxStack := 2, maxLocals := 3, code := method_3_code, exceptionTable := #[], attributes := #[] }
def k1m2 : Method := { name := "isCr", desc := "([CII)I", sig := { parameters := [(.array .char), .int, .int], returnType := some .int }, accessFlags := 10, code := some k1c2 }
def k1c3 : Code := { maxStack := 2, maxLocals := 3, code := method_4_code, exceptionTable := #[], attributes := #[] }
def k1m3 : Method := { name := "isLf", desc := "([CII)I", sig := { parameters := [(.array .char), .int, .int], returnType := some .int }, accessFlags := 10, code := some k1c3 }
def k1c4 : Code := { maxStack := 3, maxLocals := 3, code := method_5_code, exceptionTable := #[], attributes := #[] }
def k1m4 : Method := { name := "isPair", desc := "([CII)I", sig := { parameters := [(.array .char), .int, .int], returnType := some .int }, accessFlags := 10, code := some k1c4 }
def k1c5 : Code := { maxStack := 2, maxLocals := 3, code := method_6_code, exceptionTable := #[], attributes := #[] }
def k1m5 : Method := { name := "isBreak", desc := "([CII)Z", sig := { parameters := [(.array .char), .int, .int], returnType := some .boolean }, accessFlags := 10, code := some k1c5 }
def k1c6 : Code := { maxStack := 4, maxLocals := 5, code := method_7_code, exceptionTable := #[], attributes := #[] }
def k1m6 : Method := { name := "lines", desc := "([CI)I", sig := { parameters := [(.array .char), .int], returnType := some .int }, accessFlags := 10, code := some k1c6 }
def k1c7 : Code := { maxStack := 3, maxLocals := 3, code := method_8_code, exceptionTable := #[], attributes := #[] }
def k1m7 : Method := { name := "column", desc := "([CI)I", sig := { parameters := [(.array .char), .int], returnType := some .int }, accessFlags := 10, code := some k1c7 }
def k1c8 : Code := { maxStack := 4, maxLocals := 9, code := code, exceptionTable := #[], attributes := #[] }
def k1m8 : Method := { name := "law", desc := "(IIIII)Z", sig := { parameters := [.int, .int, .int, .int, .int], returnType := some .boolean }, accessFlags := 9, code := some k1c8 }
/-- com/example/brokn/brokn/TextPositionAdvancePinLaw -/
def k1 : Class := { plain "com/example/brokn/brokn/TextPositionAdvancePinLaw" (some 0) with
  accessFlags := 49
  interfaces := #[]
  cf := some (fileOf pool1 8 #[] #[{ accessFlags := 1, nameIndex := 5, descriptorIndex := 6, attributes := #[] }, { accessFlags := 10, nameIndex := 25, descriptorIndex := 26, attributes := #[] }, { accessFlags := 10, nameIndex := 11, descriptorIndex := 12, attributes := #[] }, { accessFlags := 10, nameIndex := 15, descriptorIndex := 12, attributes := #[] }, { accessFlags := 10, nameIndex := 18, descriptorIndex := 12, attributes := #[] }, { accessFlags := 10, nameIndex := 21, descriptorIndex := 22, attributes := #[] }, { accessFlags := 10, nameIndex := 41, descriptorIndex := 42, attributes := #[] }, { accessFlags := 10, nameIndex := 45, descriptorIndex := 42, attributes := #[] }, { accessFlags := 9, nameIndex := 51, descriptorIndex := 52, attributes := #[] }] 49 2 #[] #[])
  fields := #[]
  methods := #[k1m0, k1m1, k1m2, k1m3, k1m4, k1m5, k1m6, k1m7, k1m8]
  instanceTypes := #[]
  staticTypes := #[]
  resolved := Array.replicate 57 none
  statics := none }

def pool2 : Array CpInfo := pool [(1, .methodref 2 3), (0, .class_ 4), (0, .nameAndType 5 6), (0, u "java/lang/Object"), (0, u "<init>"), (0, u "()V"), (0, .fieldref 8 9), (0, .class_ 10), (0, .nameAndType 11 12), (0, u "com/example/brokn/brokn/TextPosition"), (0, u "line"), (0, u "I"), (0, .fieldref 8 14), (0, .nameAndType 15 12), (0, u "column"), (0, .fieldref 8 17), (0, .nameAndType 18 19), (0, u "previous"), (0, u "C"), (2, u "advance"), (0, u "([CII)V"), (3, u "()I")] 2

def k2c0 : Code := { maxStack := 2, maxLocals := 1, code := prog_62_method_1_code, exceptionTable := #[], attributes := #[] }
def k2m0 : Method := { name := "<init>", desc := "()V", sig := { parameters := [], returnType := none }, accessFlags := 0, code := some k2c0 }
def k2c1 : Code := { maxStack := 2, maxLocals := 9, code := prog_62_method_2_code, exceptionTable := #[], attributes := #[] }
def k2m1 : Method := { name := "advance", desc := "([CII)V", sig := { parameters := [(.array .char), .int, .int], returnType := none }, accessFlags := 0, code := some k2c1 }
def k2c2 : Code := { maxStack := 1, maxLocals := 1, code := prog_62_method_3_code, exceptionTable := #[], attributes := #[] }
def k2m2 : Method := { name := "line", desc := "()I", sig := { parameters := [], returnType := some .int }, accessFlags := 0, code := some k2c2 }
def k2c3 : Code := { maxStack := 1, maxLocals := 1, code := prog_62_method_4_code, exceptionTable := #[], attributes := #[] }
def k2m3 : Method := { name := "column", desc := "()I", sig := { parameters := [], returnType := some .int }, accessFlags := 0, code := some k2c3 }
/-- com/example/brokn/brokn/TextPosition -/
def k2 : Class := { plain "com/example/brokn/brokn/TextPosition" (some 0) with
  accessFlags := 32
  interfaces := #[]
  cf := some (fileOf pool2 8 #[] #[{ accessFlags := 0, nameIndex := 5, descriptorIndex := 6, attributes := #[] }, { accessFlags := 0, nameIndex := 22, descriptorIndex := 23, attributes := #[] }, { accessFlags := 0, nameIndex := 11, descriptorIndex := 27, attributes := #[] }, { accessFlags := 0, nameIndex := 15, descriptorIndex := 27, attributes := #[] }] 32 2 #[] #[{ accessFlags := 2, nameIndex := 11, descriptorIndex := 12, attributes := #[] }, { accessFlags := 2, nameIndex := 15, descriptorIndex := 12, attributes := #[] }, { accessFlags := 2, nameIndex := 18, descriptorIndex := 19, attributes := #[] }])
  fields := #[{ name := "line", type := .int, accessFlags := 2, slot := 0, constantValue := 0 }, { name := "column", type := .int, accessFlags := 2, slot := 1, constantValue := 0 }, { name := "previous", type := .char, accessFlags := 2, slot := 2, constantValue := 0 }]
  methods := #[k2m0, k2m1, k2m2, k2m3]
  instanceTypes := #[.int, .int, .char]
  staticTypes := #[]
  resolved := Array.replicate 30 none
  statics := none }

def pool3 : Array CpInfo := pool [(1, u "java/lang/Cloneable"), (0, .class_ 1), (0, u "java/lang/Object"), (0, .class_ 3)] 3

/-- java/lang/Cloneable -/
def k3 : Class := { plain "java/lang/Cloneable" (some 0) with
  accessFlags := 1537
  interfaces := #[]
  cf := some (fileOf pool3 2 #[] #[] 1537 4 #[] #[])
  fields := #[]
  methods := #[]
  instanceTypes := #[]
  staticTypes := #[]
  resolved := Array.replicate 8 none
  statics := none }

def pool4 : Array CpInfo := pool [(1, u "java/io/Serializable"), (0, .class_ 1), (0, u "java/lang/Object"), (0, .class_ 3)] 3

/-- java/io/Serializable -/
def k4 : Class := { plain "java/io/Serializable" (some 0) with
  accessFlags := 1537
  interfaces := #[]
  cf := some (fileOf pool4 2 #[] #[] 1537 4 #[] #[])
  fields := #[]
  methods := #[]
  instanceTypes := #[]
  staticTypes := #[]
  resolved := Array.replicate 8 none
  statics := none }

/-- the primitive byte -/
def k5 : Class := { plain "byte" none with kind := .primitive 'B', accessFlags := 0x411 }
/-- [B -/
def k6 : Class := { plain "[B" (some 0) with kind := .array 5 .byte, interfaces := #[3, 4], accessFlags := 1041 }

/-- the primitive char -/
def k7 : Class := { plain "char" none with kind := .primitive 'C', accessFlags := 0x411 }
/-- [C -/
def k8 : Class := { plain "[C" (some 0) with kind := .array 7 .char, interfaces := #[3, 4], accessFlags := 1041 }

/-- the primitive int -/
def k9 : Class := { plain "int" none with kind := .primitive 'I', accessFlags := 0x411 }
/-- [I -/
def k10 : Class := { plain "[I" (some 0) with kind := .array 9 .int, interfaces := #[3, 4], accessFlags := 1041 }

def heap : Heap := #[]
def classes : Array Class := #[k0, k1, k2, k3, k4, k5, k6, k7, k8, k9, k10]
def interned : List (Array UInt16 × Addr) := []
def slotsUsed : Nat := 0
def theMethod : MethodId := ⟨1, 8⟩
def args0 : Array Value := #[.int 4, .int 77, .int 5, .int 6, .int 2]
def aboutOver (below : List Frame) : State where
  vm := { classes := classes, interned := interned.toArray }
  heap := heap
  slotsUsed := slotsUsed
  threads := #[{ frames := .invoking theMethod args0 :: below }]
def below0 : List Frame := [.native { method := ⟨0, 0⟩, args := #[] }]
def about1 : State := aboutOver below0
def p0 : Program := .bare "" "" ""
def e0 : Env := launch0.env 0 0 0
theorem w_frames : about1.frames = Frame.invoking theMethod args0 :: below0 := rfl
set_option maxRecDepth 65536 in
theorem w_args : argsFit about1.vm theMethod args0 = true := by decide +kernel
set_option maxRecDepth 65536 in
theorem w_heap : heapFits about1 = true := by decide +kernel
set_option maxRecDepth 65536 in
theorem w_runnable : about1.curStatus? = some .runnable := by decide +kernel
set_option maxRecDepth 65536 in
theorem w_alone : about1.alone = true := by decide +kernel
set_option maxRecDepth 65536 in
theorem w_named : about1.methodNamed? x = some theMethod := by decide +kernel
set_option maxRecDepth 65536 in
theorem w_hears : about1.hears theMethod below0 = true := by decide +kernel
set_option maxRecDepth 65536 in
theorem w_ripe : about1.ripe theMethod args0 below0 = true := by decide +kernel
theorem w_running : about1.status = .running := rfl
set_option maxRecDepth 65536 in
theorem w_room : about1.hasRoom e0.platform room_1 = true :=
  launch0.hasRoom_least _ room_1 (by decide +kernel) (by decide +kernel) (by decide +kernel) (by decide +kernel) (by decide +kernel) (by decide +kernel)
theorem allAtoms_all (ts : List Jvm.Cond) (a : Array Jvm.Value) (st : Jvm.State) : (allAtoms ts).before a st = ts.all (fun c => c.before a st) := by
  induction ts with
  | nil => rfl
  | cons c t ih =>
    show (Jvm.Cond.and c (allAtoms t)).before a st = _
    rw [Jvm.Cond.before_and, ih, List.all_cons]
def words1 : List Jvm.Cond := Jvm.Cond.code x code maxLocals ret :: tables_1
/-- a 'code' word, met by the world's own term for the bytes: nothing is compared byte by byte -/
theorem code_word {y : MethodName} {bytes : ByteArray} {mx : Nat} {rt : Option FieldType} {a : Array Value} {s : State} {m : MethodId} {meth : Method} {c : Code} (h1 : s.methodNamed? y = some m) (h2 : s.vm.method? m = some meth) (h3 : meth.code = some c) (h4 : c.code = bytes)
    (h5 : (c.maxLocals == mx && c.exceptionTable.isEmpty && decide (c.maxStack ≤ mostOperands) && decide (meth.sig.returnType = rt) && !meth.locks && decide (parseMethodDescriptor y.desc = some meth.sig)) = true) : (Jvm.Cond.code y bytes mx rt).before a s = true := by
  simp only [Bool.and_eq_true, beq_iff_eq, Bool.not_eq_true', decide_eq_true_eq] at h5
  obtain ⟨⟨⟨⟨⟨g1, g2⟩, g3⟩, g4⟩, g5⟩, g6⟩ := h5
  simp [Cond.before, Cond.holds, Cond.value, h1, h2, h3, h4, g1, g2, g3, g4, g5, g6]
def isCode : Jvm.Cond → Bool
  | .code _ _ _ _ => true
  | _ => false
theorem all_split {L : List Jvm.Cond} {P : Jvm.Cond → Bool} (h1 : L.all (fun c => isCode c || P c) = true) (h2 : ∀ c ∈ L.filter isCode, P c = true) : L.all P = true := by
  refine List.all_eq_true.mpr fun c hc => ?_
  have h := List.all_eq_true.mp h1 c hc
  rcases Bool.eq_false_or_eq_true (isCode c) with hi | hi
  · exact h2 c (List.mem_filter.mpr ⟨hc, hi⟩)
  · simpa [hi] using h
set_option maxRecDepth 65536 in
theorem w_c0 : (Jvm.Cond.code x code maxLocals ret).before args0 about1 = true := code_word (m := ⟨1, 8⟩) (meth := k1m8) (c := k1c8) (by decide +kernel) rfl rfl rfl (by decide +kernel)
set_option maxRecDepth 65536 in
theorem w_c1 : (Jvm.Cond.code ({ cls := "com/example/brokn/brokn/TextPositionAdvancePinLaw", name := "draw", desc := "(I)C" } : Jvm.MethodName) method_2_code (2 : Nat) (Option.some Jvm.ClassFile.FieldType.char)).before args0 about1 = true := code_word (m := ⟨1, 1⟩) (meth := k1m1) (c := k1c1) (by decide +kernel) rfl rfl rfl (by decide +kernel)
set_option maxRecDepth 65536 in
theorem w_c2 : (Jvm.Cond.code ({ cls := "com/example/brokn/brokn/TextPosition", name := "<init>", desc := "()V" } : Jvm.MethodName) prog_62_method_1_code (1 : Nat) (Option.none : Option Jvm.ClassFile.FieldType)).before args0 about1 = true := code_word (m := ⟨2, 0⟩) (meth := k2m0) (c := k2c0) (by decide +kernel) rfl rfl rfl (by decide +kernel)
set_option maxRecDepth 65536 in
theorem w_c3 : (Jvm.Cond.code ({ cls := "java/lang/Object", name := "<init>", desc := "()V" } : Jvm.MethodName) object_method_1_code (1 : Nat) (Option.none : Option Jvm.ClassFile.FieldType)).before args0 about1 = true := code_word (m := ⟨0, 0⟩) (meth := k0m0) (c := k0c0) (by decide +kernel) rfl rfl rfl (by decide +kernel)
set_option maxRecDepth 65536 in
theorem w_c4 : (Jvm.Cond.code ({ cls := "com/example/brokn/brokn/TextPosition", name := "advance", desc := "([CII)V" } : Jvm.MethodName) prog_62_method_2_code (9 : Nat) (Option.none : Option Jvm.ClassFile.FieldType)).before args0 about1 = true := code_word (m := ⟨2, 1⟩) (meth := k2m1) (c := k2c1) (by decide +kernel) rfl rfl rfl (by decide +kernel)
set_option maxRecDepth 65536 in
theorem w_c5 : (Jvm.Cond.code ({ cls := "com/example/brokn/brokn/TextPosition", name := "line", desc := "()I" } : Jvm.MethodName) prog_62_method_3_code (1 : Nat) (Option.some Jvm.ClassFile.FieldType.int)).before args0 about1 = true := code_word (m := ⟨2, 2⟩) (meth := k2m2) (c := k2c2) (by decide +kernel) rfl rfl rfl (by decide +kernel)
set_option maxRecDepth 65536 in
theorem w_c6 : (Jvm.Cond.code ({ cls := "com/example/brokn/brokn/TextPositionAdvancePinLaw", name := "lines", desc := "([CI)I" } : Jvm.MethodName) method_7_code (5 : Nat) (Option.some Jvm.ClassFile.FieldType.int)).before args0 about1 = true := code_word (m := ⟨1, 6⟩) (meth := k1m6) (c := k1c6) (by decide +kernel) rfl rfl rfl (by decide +kernel)
set_option maxRecDepth 65536 in
theorem w_c7 : (Jvm.Cond.code ({ cls := "com/example/brokn/brokn/TextPositionAdvancePinLaw", name := "isCr", desc := "([CII)I" } : Jvm.MethodName) method_3_code (3 : Nat) (Option.some Jvm.ClassFile.FieldType.int)).before args0 about1 = true := code_word (m := ⟨1, 2⟩) (meth := k1m2) (c := k1c2) (by decide +kernel) rfl rfl rfl (by decide +kernel)
set_option maxRecDepth 65536 in
theorem w_c8 : (Jvm.Cond.code ({ cls := "com/example/brokn/brokn/TextPositionAdvancePinLaw", name := "isLf", desc := "([CII)I" } : Jvm.MethodName) method_4_code (3 : Nat) (Option.some Jvm.ClassFile.FieldType.int)).before args0 about1 = true := code_word (m := ⟨1, 3⟩) (meth := k1m3) (c := k1c3) (by decide +kernel) rfl rfl rfl (by decide +kernel)
set_option maxRecDepth 65536 in
theorem w_c9 : (Jvm.Cond.code ({ cls := "com/example/brokn/brokn/TextPositionAdvancePinLaw", name := "isPair", desc := "([CII)I" } : Jvm.MethodName) method_5_code (3 : Nat) (Option.some Jvm.ClassFile.FieldType.int)).before args0 about1 = true := code_word (m := ⟨1, 4⟩) (meth := k1m4) (c := k1c4) (by decide +kernel) rfl rfl rfl (by decide +kernel)
set_option maxRecDepth 65536 in
theorem w_c10 : (Jvm.Cond.code ({ cls := "com/example/brokn/brokn/TextPosition", name := "column", desc := "()I" } : Jvm.MethodName) prog_62_method_4_code (1 : Nat) (Option.some Jvm.ClassFile.FieldType.int)).before args0 about1 = true := code_word (m := ⟨2, 3⟩) (meth := k2m3) (c := k2c3) (by decide +kernel) rfl rfl rfl (by decide +kernel)
set_option maxRecDepth 65536 in
theorem w_c11 : (Jvm.Cond.code ({ cls := "com/example/brokn/brokn/TextPositionAdvancePinLaw", name := "column", desc := "([CI)I" } : Jvm.MethodName) method_8_code (3 : Nat) (Option.some Jvm.ClassFile.FieldType.int)).before args0 about1 = true := code_word (m := ⟨1, 7⟩) (meth := k1m7) (c := k1c7) (by decide +kernel) rfl rfl rfl (by decide +kernel)
set_option maxRecDepth 65536 in
theorem w_c12 : (Jvm.Cond.code ({ cls := "com/example/brokn/brokn/TextPositionAdvancePinLaw", name := "isBreak", desc := "([CII)Z" } : Jvm.MethodName) method_6_code (3 : Nat) (Option.some Jvm.ClassFile.FieldType.boolean)).before args0 about1 = true := code_word (m := ⟨1, 5⟩) (meth := k1m5) (c := k1c5) (by decide +kernel) rfl rfl rfl (by decide +kernel)
def codes1 : List Jvm.Cond := [Jvm.Cond.code x code maxLocals ret, Jvm.Cond.code ({ cls := "com/example/brokn/brokn/TextPositionAdvancePinLaw", name := "draw", desc := "(I)C" } : Jvm.MethodName) method_2_code (2 : Nat) (Option.some Jvm.ClassFile.FieldType.char), Jvm.Cond.code ({ cls := "com/example/brokn/brokn/TextPosition", name := "<init>", desc := "()V" } : Jvm.MethodName) prog_62_method_1_code (1 : Nat) (Option.none : Option Jvm.ClassFile.FieldType), Jvm.Cond.code ({ cls := "java/lang/Object", name := "<init>", desc := "()V" } : Jvm.MethodName) object_method_1_code (1 : Nat) (Option.none : Option Jvm.ClassFile.FieldType), Jvm.Cond.code ({ cls := "com/example/brokn/brokn/TextPosition", name := "advance", desc := "([CII)V" } : Jvm.MethodName) prog_62_method_2_code (9 : Nat) (Option.none : Option Jvm.ClassFile.FieldType), Jvm.Cond.code ({ cls := "com/example/brokn/brokn/TextPosition", name := "line", desc := "()I" } : Jvm.MethodName) prog_62_method_3_code (1 : Nat) (Option.some Jvm.ClassFile.FieldType.int), Jvm.Cond.code ({ cls := "com/example/brokn/brokn/TextPositionAdvancePinLaw", name := "lines", desc := "([CI)I" } : Jvm.MethodName) method_7_code (5 : Nat) (Option.some Jvm.ClassFile.FieldType.int), Jvm.Cond.code ({ cls := "com/example/brokn/brokn/TextPositionAdvancePinLaw", name := "isCr", desc := "([CII)I" } : Jvm.MethodName) method_3_code (3 : Nat) (Option.some Jvm.ClassFile.FieldType.int), Jvm.Cond.code ({ cls := "com/example/brokn/brokn/TextPositionAdvancePinLaw", name := "isLf", desc := "([CII)I" } : Jvm.MethodName) method_4_code (3 : Nat) (Option.some Jvm.ClassFile.FieldType.int), Jvm.Cond.code ({ cls := "com/example/brokn/brokn/TextPositionAdvancePinLaw", name := "isPair", desc := "([CII)I" } : Jvm.MethodName) method_5_code (3 : Nat) (Option.some Jvm.ClassFile.FieldType.int), Jvm.Cond.code ({ cls := "com/example/brokn/brokn/TextPosition", name := "column", desc := "()I" } : Jvm.MethodName) prog_62_method_4_code (1 : Nat) (Option.some Jvm.ClassFile.FieldType.int), Jvm.Cond.code ({ cls := "com/example/brokn/brokn/TextPositionAdvancePinLaw", name := "column", desc := "([CI)I" } : Jvm.MethodName) method_8_code (3 : Nat) (Option.some Jvm.ClassFile.FieldType.int), Jvm.Cond.code ({ cls := "com/example/brokn/brokn/TextPositionAdvancePinLaw", name := "isBreak", desc := "([CII)Z" } : Jvm.MethodName) method_6_code (3 : Nat) (Option.some Jvm.ClassFile.FieldType.boolean)]
set_option maxRecDepth 65536 in
theorem codes_eq : words1.filter isCode = codes1 := rfl
theorem w_codes : ∀ c ∈ words1.filter isCode, c.before args0 about1 = true := by
  rw [codes_eq]
  intro c hc
  simp only [codes1, List.mem_cons, List.not_mem_nil, or_false] at hc
  rcases hc with rfl | rfl | rfl | rfl | rfl | rfl | rfl | rfl | rfl | rfl | rfl | rfl | rfl
  · exact w_c0
  · exact w_c1
  · exact w_c2
  · exact w_c3
  · exact w_c4
  · exact w_c5
  · exact w_c6
  · exact w_c7
  · exact w_c8
  · exact w_c9
  · exact w_c10
  · exact w_c11
  · exact w_c12
set_option maxRecDepth 65536 in
theorem w_t1 : (words1.take 24).all (fun c => isCode c || c.before args0 about1) = true := by decide +kernel
set_option maxRecDepth 65536 in
theorem w_t2 : ((words1.drop 24).take 24).all (fun c => isCode c || c.before args0 about1) = true := by decide +kernel
set_option maxRecDepth 65536 in
theorem w_t3 : ((words1.drop 24).drop 24).all (fun c => isCode c || c.before args0 about1) = true := by decide +kernel
theorem w_tables : (allAtoms (Jvm.Cond.code x code maxLocals ret :: tables_1)).before args0 about1 = true := by
  rw [allAtoms_all]
  show words1.all (fun c => c.before args0 about1) = true
  refine all_split ?_ w_codes
  rw [← List.take_append_drop 24 words1, List.all_append, w_t1, ← List.take_append_drop 24 (words1.drop 24), List.all_append, w_t2, w_t3]
  rfl
set_option maxRecDepth 65536 in
theorem w_case : (Jvm.Cond.and given_1 narrow_1).before args0 about1 = true := by decide +kernel
theorem w_applies : (headSpec (Jvm.Cond.code x code maxLocals ret :: tables_1) room_1).applies x e0.platform about1 = true :=
  (Spec.applies_iff w_frames).mpr ⟨w_running, w_runnable, w_alone, w_named, w_hears, w_ripe, w_room, w_tables⟩
theorem atStart : AtStart classFile x code maxLocals ret World_1 tables_1 room_1 Calls_1 rest_1 Pre_1 launch0 p0 e0 about1 theMethod args0 below0 :=
  ⟨lists_1, trivial, launch0.admits_env _ _ _, launch0.least_env, fairChoices_fair.cas, fairChoices_fair.clock, w_frames, w_args, w_heap, w_applies, trivial, trivial, w_case⟩
end start1
theorem witness_1 : WitnessClaimed_1 := ⟨start1.p0, start1.e0, start1.about1, start1.theMethod, start1.args0, start1.below0, start1.atStart⟩
end Jvm.Pilot.@@N@@
