import JvmDerived
import JvmDerived.Pilot.@@N@@Statement
import JvmDerived.Pilot.@@N@@Code
set_option linter.unusedVariables false
set_option linter.unusedSimpArgs false
namespace Jvm.RoadKit
open Sem ClassFile Op Lib Jvm.Stand Jvm.Free Jvm.LawKit
section New
variable {p : Program} {l : Launch} {e : Env} {R : Room} {s : State} {m : MethodId} {args : Array Value} {below : List Frame} {meth : Method} {c : Code} {T : State} {locs : List Loc} {cells slots : Nat}
theorem retI (X : Stand p l e R s m args below meth c T locs cells slots) (hx : p.tables.exec = Jvm.exec) {pc : Nat} {Ls : Array Slot} {z : Int32} {rest : List Value} (hret : meth.sig.returnType = some .int) (hd : decode c.code pc = .ok (.ireturn, 1)) {fs : List Frame}
    (hl : ∀ (f : JFrame) (acts : List Action), f.method = m → f.locked = none → f.entered = [] → (doReturn e (T.setTop f) acts (some (.int z))).1 = T.setFrames fs) : Steps p.tables e below (T.setTop (mkF m pc Ls (.int z :: rest))) (T.setFrames fs) := by
  have hm' : T.vm.method? m = some meth := X.method'
  have hn : narrow .int (.int z) = .int z := rfl
  show Steps p.tables e below (T.setTop { method := m, pc := pc, locals := Ls, stack := _ :: rest, locked := none }) _
  jvm_step X.here [X.here.top, hx, hd, hm', hret, hn]
  first | (intro acts; rw [hl _ acts rfl rfl rfl]) | rw [hl _ _ rfl rfl rfl]
  exact Steps.refl _
end New
end Jvm.RoadKit
namespace Jvm.Pilot.@@N@@
open Jvm Jvm.ClassFile Sem Op Lib Jvm.Free Jvm.Stand Jvm.LawKit Jvm.RoadKit Bundle Jvm.Pilot.@@N@@.Jvm.D
/-- the goal of a walk, carried over a piece of it -/
theorem own_go {tb : Tables} {e : Env} {below : List Frame} {A B : State} {P : State → Outcome → Prop} (st : ∀ t, Steps tb e below B t → Steps tb e below A t) (h : ∃ s₂ o, Steps tb e below B s₂ ∧ P s₂ o) : ∃ s₂ o, Steps tb e below A s₂ ∧ P s₂ o := by
  obtain ⟨s₂, o, h1, h2⟩ := h
  exact ⟨s₂, o, st _ h1, h2⟩
/-- a boolean as the int that the machine holds -/
def own_i (b : Bool) : Int32 := if b = true then 1 else 0
theorem own_i1 {b : Bool} (h : b = true) : ¬ (own_i b = 0) := by subst h; decide
theorem own_i0 {b : Bool} (h : ¬ b = true) : own_i b = 0 := by cases b; · rfl
                                                               · exact absurd rfl h
theorem own_it {b : Bool} (h : b = true) : own_i b = 1 := by subst h; rfl
theorem own_nb (b : Bool) : nar .boolean (own_i b) = own_i b := by cases b <;> decide
theorem own_lt {i n : Nat} (h : i < n) (hn : n ≤ 255) : Int32.ofNat i < Int32.ofNat n := by
  rw [Int32.lt_iff_toInt_lt, Int32.toInt_ofNat_of_lt (by omega), Int32.toInt_ofNat_of_lt (by omega)]
  omega
theorem own_nn {n : Nat} (hn : n ≤ 255) : ¬ Int32.ofNat n < 0 := by
  rw [Int32.lt_iff_toInt_lt, Int32.toInt_ofNat_of_lt (by omega), show (0 : Int32).toInt = 0 from rfl]
  omega
theorem own_n32 {n : Nat} (hn : n ≤ 255) : (Int32.ofNat n).toNatClampNeg = n := by
  rw [Int32.toNatClampNeg, Int32.toInt_ofNat_of_lt (by omega)]; rfl
theorem own_one (i : Nat) : Int32.ofNat i + (1 : Int32) = Int32.ofNat (i + 1) := (Int32.ofNat_add i 1).symm
/-- the ints of a list, added from the left -/
def own_sum (vs : List Int32) : Int32 := vs.foldl (fun a x => a + x) (0 : Int32)
theorem own_at {vs pre post : List Int32} {x : Int32} (h : pre ++ x :: post = vs) {d : Value} : (vs.map Value.int).getD pre.length d = .int x := by
  subst h
  simp
theorem own_nn32 (x : Int32) : 0 ≤ (x &&& (2147483647 : Int32)).toInt := by
  have e : (x &&& (2147483647 : Int32)).toBitVec.toNat ≤ 2147483647 := by
    rw [Int32.toBitVec_and, BitVec.toNat_and]
    exact Nat.and_le_right
  show 0 ≤ BitVec.toInt _
  rw [BitVec.toInt_eq_toNat_cond, if_pos (by omega)]
  omega
theorem own_len (x : Int32) : ((x &&& (2147483647 : Int32)) % (6 : Int32)) = (0 : Int32) ∨ ((x &&& (2147483647 : Int32)) % (6 : Int32)) = (1 : Int32) ∨ ((x &&& (2147483647 : Int32)) % (6 : Int32)) = (2 : Int32) ∨ ((x &&& (2147483647 : Int32)) % (6 : Int32)) = (3 : Int32) ∨ ((x &&& (2147483647 : Int32)) % (6 : Int32)) = (4 : Int32) ∨ ((x &&& (2147483647 : Int32)) % (6 : Int32)) = (5 : Int32) := by
  have h0 := own_nn32 x
  have h1 : ((x &&& (2147483647 : Int32)) % (6 : Int32)).toInt = (x &&& (2147483647 : Int32)).toInt % 6 := by
    rw [Int32.toInt_mod, show (6 : Int32).toInt = 6 from rfl, Int.tmod_eq_emod_of_nonneg h0]
  simp only [← Int32.toInt_inj, h1, show (0 : Int32).toInt = 0 from rfl, show (1 : Int32).toInt = 1 from rfl, show (2 : Int32).toInt = 2 from rfl, show (3 : Int32).toInt = 3 from rfl, show (4 : Int32).toInt = 4 from rfl, show (5 : Int32).toInt = 5 from rfl]
  omega
theorem d1_0 : decode prog_62_method_5_code 0 = .ok (.iconst 0, 1) := by decide +kernel
theorem d1_1 : decode prog_62_method_5_code 1 = .ok (.istore_n 1, 1) := by decide +kernel
theorem d1_2 : decode prog_62_method_5_code 2 = .ok (.aload_n 0, 1) := by decide +kernel
theorem d1_3 : decode prog_62_method_5_code 3 = .ok (.astore_n 2, 1) := by decide +kernel
theorem d1_4 : decode prog_62_method_5_code 4 = .ok (.aload_n 2, 1) := by decide +kernel
theorem d1_5 : decode prog_62_method_5_code 5 = .ok (.arraylength, 1) := by decide +kernel
theorem d1_6 : decode prog_62_method_5_code 6 = .ok (.istore_n 3, 1) := by decide +kernel
theorem d1_7 : decode prog_62_method_5_code 7 = .ok (.iconst 0, 1) := by decide +kernel
theorem d1_8 : decode prog_62_method_5_code 8 = .ok (.istore 4, 2) := by decide +kernel
theorem d1_10 : decode prog_62_method_5_code 10 = .ok (.iload 4, 2) := by decide +kernel
theorem d1_12 : decode prog_62_method_5_code 12 = .ok (.iload_n 3, 1) := by decide +kernel
theorem d1_13 : decode prog_62_method_5_code 13 = .ok (.if_icmp .ge 20, 3) := by decide +kernel
theorem d1_16 : decode prog_62_method_5_code 16 = .ok (.aload_n 2, 1) := by decide +kernel
theorem d1_17 : decode prog_62_method_5_code 17 = .ok (.iload 4, 2) := by decide +kernel
theorem d1_19 : decode prog_62_method_5_code 19 = .ok (.iaload, 1) := by decide +kernel
theorem d1_20 : decode prog_62_method_5_code 20 = .ok (.istore 5, 2) := by decide +kernel
theorem d1_22 : decode prog_62_method_5_code 22 = .ok (.iload_n 1, 1) := by decide +kernel
theorem d1_23 : decode prog_62_method_5_code 23 = .ok (.iload 5, 2) := by decide +kernel
theorem d1_25 : decode prog_62_method_5_code 25 = .ok (.iadd, 1) := by decide +kernel
theorem d1_26 : decode prog_62_method_5_code 26 = .ok (.istore_n 1, 1) := by decide +kernel
theorem d1_27 : decode prog_62_method_5_code 27 = .ok (.iinc 4 1, 3) := by decide +kernel
theorem d1_30 : decode prog_62_method_5_code 30 = .ok (.goto (-20), 3) := by decide +kernel
theorem d1_33 : decode prog_62_method_5_code 33 = .ok (.iload_n 1, 1) := by decide +kernel
theorem d1_34 : decode prog_62_method_5_code 34 = .ok (.ireturn, 1) := by decide +kernel
theorem pd_0 : parseMethodDescriptor "([I)I" = some ⟨[(.array .int)], some .int⟩ := by decide +kernel
theorem pn_0 : plainName "org/fairgate/cli/Inside" = true := by first | (simp [plainName, overriddenIn]; done) | decide +kernel
theorem pn_1 : plainName "org/fairgate/cli/InsideAllPinLaw" = true := by first | (simp [plainName, overriddenIn]; done) | decide +kernel
theorem os1_20 {z0 : Value} {z1 : Value} {z2 : Value} {z3 : Value} {z4 : Value} {s5 : Slot} {v : Int32} (h : One s5) : storeLocals #[.val z0, .val z1, .val z2, .val z3, .val z4, s5] 5 (.int v) = some #[.val z0, .val z1, .val z2, .val z3, .val z4, .val (.int v)] := by
  rcases h with rfl | ⟨w, rfl, hw⟩
  · rfl
  · cases w <;> first | rfl | (simp [Value.category] at hw)
set_option maxRecDepth 65536 in
set_option maxHeartbeats 40000000 in
theorem tn1 {p : Program} {l : Launch} {e : Env} {R : Room} {s : State} {m : MethodId} {args : Array Value} {below : List Frame} {meth : Method} {c : Code} {T0 : State} {locs : List Loc} {cells slots : Nat} {Z : State} {a0 : Array Value} {h0 : Heap} (o0 : Addr) (i1 i4 w N : Int32) (s5 : Slot) (cl : Cell)
    (X0 : Stand p l e R s m args below meth c T0 locs cells slots) (hx : p.tables.exec = Jvm.exec) (hZ : Z.Warmed39 s.vm) (hw : ∀ d ∈ tables_1, d.before a0 Z = true) (hby : c.code = prog_62_method_5_code) (hml : c.maxLocals = 6) (hown : s.vm.findClass "org/fairgate/cli/Inside" = some m.cls) (e0 : T0.heap = h0) (Ar : Arr Z h0 o0 cl .int) (hc : i4 < N) (hin : ¬ (i4 < 0 ∨ cl.slots.size ≤ (i4).toNatClampNeg)) (hat : cl.slots[(i4).toNatClampNeg]? = some (.int w)) (hs5 : One s5) (t : State)
    (kt : Steps p.tables e below (T0.setTop (mkF m 10 #[.val (.ref o0), .val (.int (i1 + w)), .val (.ref o0), .val (.int N), .val (.int (i4 + (1 : Int32))), .val (.int w)] [])) t) : Steps p.tables e below (T0.setTop (mkF m 10 #[.val (.ref o0), .val (.int i1), .val (.ref o0), .val (.int N), .val (.int i4), s5] [])) t := by
  show Steps p.tables e below (T0.setTop (mkF m 10 #[.val (.ref o0), .val (.int i1), .val (.ref o0), .val (.int N), .val (.int i4), s5] [])) _
  refine XS.iload X0.here hx rfl (hb hby d1_10) rfl ?_
  show Steps p.tables e below (T0.setTop (mkF m 12 #[.val (.ref o0), .val (.int i1), .val (.ref o0), .val (.int N), .val (.int i4), s5] [(.int i4)])) _
  refine XS.iloadN X0.here hx rfl (hb hby d1_12) rfl ?_
  show Steps p.tables e below (T0.setTop (mkF m 13 #[.val (.ref o0), .val (.int i1), .val (.ref o0), .val (.int N), .val (.int i4), s5] [(.int N), (.int i4)])) _
  refine XS.icmpNo X0.here hx rfl (hb hby d1_13) rfl (tlt hc).2.1 ?_
  show Steps p.tables e below (T0.setTop (mkF m 16 #[.val (.ref o0), .val (.int i1), .val (.ref o0), .val (.int N), .val (.int i4), s5] [])) _
  refine XS.aloadN X0.here hx rfl (hb hby d1_16) rfl rfl ?_
  show Steps p.tables e below (T0.setTop (mkF m 17 #[.val (.ref o0), .val (.int i1), .val (.ref o0), .val (.int N), .val (.int i4), s5] [(.ref o0)])) _
  refine XS.iload X0.here hx rfl (hb hby d1_17) rfl ?_
  show Steps p.tables e below (T0.setTop (mkF m 19 #[.val (.ref o0), .val (.int i1), .val (.ref o0), .val (.int N), .val (.int i4), s5] [(.int i4), (.ref o0)])) _
  refine X0.iaload hx (j := i4) (v := (.int w)) (by rw [e0]; exact Ar.1) (State.isArrayOf_alike hZ.alike Ar.2.1) Ar.2.2 hin hat (g := (mkF m 19 #[.val (.ref o0), .val (.int i1), .val (.ref o0), .val (.int N), .val (.int i4), s5] [(.int i4), (.ref o0)])) rfl rfl (hb hby d1_19) _ ?_
  show Steps p.tables e below (T0.setTop (mkF m 20 #[.val (.ref o0), .val (.int i1), .val (.ref o0), .val (.int N), .val (.int i4), s5] [(.int w)])) _
  refine XS.istore X0.here hx rfl (hb hby d1_20) rfl (l' := #[.val (.ref o0), .val (.int i1), .val (.ref o0), .val (.int N), .val (.int i4), .val (.int w)]) (os1_20 hs5) ?_
  show Steps p.tables e below (T0.setTop (mkF m 22 #[.val (.ref o0), .val (.int i1), .val (.ref o0), .val (.int N), .val (.int i4), .val (.int w)] [])) _
  refine XS.iloadN X0.here hx rfl (hb hby d1_22) rfl ?_
  show Steps p.tables e below (T0.setTop (mkF m 23 #[.val (.ref o0), .val (.int i1), .val (.ref o0), .val (.int N), .val (.int i4), .val (.int w)] [(.int i1)])) _
  refine XS.iload X0.here hx rfl (hb hby d1_23) rfl ?_
  show Steps p.tables e below (T0.setTop (mkF m 25 #[.val (.ref o0), .val (.int i1), .val (.ref o0), .val (.int N), .val (.int i4), .val (.int w)] [(.int w), (.int i1)])) _
  refine XS.iadd X0.here hx rfl (hb hby d1_25) rfl ?_
  show Steps p.tables e below (T0.setTop (mkF m 26 #[.val (.ref o0), .val (.int i1), .val (.ref o0), .val (.int N), .val (.int i4), .val (.int w)] [(.int (i1 + w))])) _
  refine XS.istoreN X0.here hx rfl (hb hby d1_26) rfl (l' := #[.val (.ref o0), .val (.int (i1 + w)), .val (.ref o0), .val (.int N), .val (.int i4), .val (.int w)]) rfl ?_
  show Steps p.tables e below (T0.setTop (mkF m 27 #[.val (.ref o0), .val (.int (i1 + w)), .val (.ref o0), .val (.int N), .val (.int i4), .val (.int w)] [])) _
  refine XS.iinc X0.here hx rfl (hb hby d1_27) rfl (l' := #[.val (.ref o0), .val (.int (i1 + w)), .val (.ref o0), .val (.int N), .val (.int (i4 + (1 : Int32))), .val (.int w)]) rfl ?_
  show Steps p.tables e below (T0.setTop (mkF m 30 #[.val (.ref o0), .val (.int (i1 + w)), .val (.ref o0), .val (.int N), .val (.int (i4 + (1 : Int32))), .val (.int w)] [])) _
  refine XS.goto X0.here hx rfl (pc0 := 30) (pc' := 10) rfl (hb hby d1_30) (by decide) (by decide) ?_
  exact kt
set_option maxRecDepth 65536 in
set_option maxHeartbeats 40000000 in
theorem tl1 {p : Program} {l : Launch} {e : Env} {R : Room} {s : State} {m : MethodId} {args : Array Value} {below : List Frame} {meth : Method} {c : Code} {T0 : State} {locs : List Loc} {cells slots : Nat} {Z : State} {a0 : Array Value} {h0 : Heap} (o0 : Addr) (i1 i4 N : Int32) (s5 : Slot)
    (X0 : Stand p l e R s m args below meth c T0 locs cells slots) (hx : p.tables.exec = Jvm.exec) (hZ : Z.Warmed39 s.vm) (hw : ∀ d ∈ tables_1, d.before a0 Z = true) (hby : c.code = prog_62_method_5_code) (hml : c.maxLocals = 6) (hown : s.vm.findClass "org/fairgate/cli/Inside" = some m.cls) (e0 : T0.heap = h0) (hc : ¬ i4 < N) (t : State)
    (kt : Steps p.tables e below (T0.setTop (mkF m 33 #[.val (.ref o0), .val (.int i1), .val (.ref o0), .val (.int N), .val (.int i4), s5] [])) t) : Steps p.tables e below (T0.setTop (mkF m 10 #[.val (.ref o0), .val (.int i1), .val (.ref o0), .val (.int N), .val (.int i4), s5] [])) t := by
  show Steps p.tables e below (T0.setTop (mkF m 10 #[.val (.ref o0), .val (.int i1), .val (.ref o0), .val (.int N), .val (.int i4), s5] [])) _
  refine XS.iload X0.here hx rfl (hb hby d1_10) rfl ?_
  show Steps p.tables e below (T0.setTop (mkF m 12 #[.val (.ref o0), .val (.int i1), .val (.ref o0), .val (.int N), .val (.int i4), s5] [(.int i4)])) _
  refine XS.iloadN X0.here hx rfl (hb hby d1_12) rfl ?_
  show Steps p.tables e below (T0.setTop (mkF m 13 #[.val (.ref o0), .val (.int i1), .val (.ref o0), .val (.int N), .val (.int i4), s5] [(.int N), (.int i4)])) _
  refine XS.icmpYes X0.here hx rfl (pc0 := 13) (pc' := 33) rfl (hb hby d1_13) rfl (flt hc).2.1 (by decide) (by decide) ?_
  exact kt
theorem loop1 {p : Program} {l : Launch} {e : Env} {R : Room} {s : State} {m : MethodId} {args : Array Value} {below : List Frame} {meth : Method} {c : Code} {T0 : State} {locs : List Loc} {cells slots : Nat} {Z : State} {a0 : Array Value} {h0 : Heap} (o0 : Addr) (vs : List Int32) (hn : vs.length ≤ 255) (cl : Cell) (X0 : Stand p l e R s m args below meth c T0 locs cells slots) (hx : p.tables.exec = Jvm.exec) (hZ : Z.Warmed39 s.vm) (hw : ∀ d ∈ tables_1, d.before a0 Z = true) (hby : c.code = prog_62_method_5_code) (hml : c.maxLocals = 6) (hown : s.vm.findClass "org/fairgate/cli/Inside" = some m.cls) (e0 : T0.heap = h0) (Ar : Arr Z h0 o0 cl .int) (hS : cl.slots.size = vs.length) (hat : ∀ j, j < vs.length → cl.slots[j]? = some ((vs.map Value.int).getD j (.int (0 : Int32)))) :
    ∀ (post pre : List Int32) (s5 : Slot), pre ++ post = vs → One s5 → ∀ t, (∀ s5', Steps p.tables e below (T0.setTop (mkF m 33 #[.val (.ref o0), .val (.int (own_sum vs)), .val (.ref o0), .val (.int (Int32.ofNat vs.length)), .val (.int (Int32.ofNat vs.length)), s5'] [])) t) → Steps p.tables e below (T0.setTop (mkF m 10 #[.val (.ref o0), .val (.int (own_sum pre)), .val (.ref o0), .val (.int (Int32.ofNat vs.length)), .val (.int (Int32.ofNat pre.length)), s5] [])) t := by
  intro post
  induction post with
  | nil =>
    intro pre s5 hv h5 t kt
    have hp : pre = vs := by rw [← hv, List.append_nil]
    subst hp
    exact tl1 o0 _ _ _ s5 X0 hx hZ hw hby hml hown e0 Int32.lt_irrefl t (kt s5)
  | cons x post ih =>
    intro pre s5 hv h5 t kt
    have hl : pre.length < vs.length := by rw [← hv]; simp
    have hin : ¬ (Int32.ofNat pre.length < 0 ∨ cl.slots.size ≤ (Int32.ofNat pre.length).toNatClampNeg) := by
      rw [hS, own_n32 (by omega)]
      exact fun q => q.elim (own_nn (by omega)) (fun q => by omega)
    have ha : cl.slots[(Int32.ofNat pre.length).toNatClampNeg]? = some (.int x) := by
      rw [own_n32 (by omega), hat _ hl, own_at hv]
    refine tn1 o0 _ _ x _ s5 cl X0 hx hZ hw hby hml hown e0 Ar (own_lt hl hn) hin ha h5 t ?_
    have e1 : Int32.ofNat pre.length + (1 : Int32) = Int32.ofNat (pre ++ [x]).length := by rw [own_one, List.length_append]; rfl
    have e2 : own_sum pre + x = own_sum (pre ++ [x]) := by simp [own_sum, List.foldl_append]
    rw [e1, e2]
    exact ih (pre ++ [x]) _ (by rw [← hv]; simp) (One.val rfl) t kt
theorem ef_1 (m : MethodId) (x0 : Addr) : entryFrame m #[(.ref x0)] 6 = mkF m 0 #[.val (.ref x0), .unset, .unset, .unset, .unset, .unset] [] := by first | (simp [entryFrame, mkF, argsToLocals, Value.category]; done) | rfl
def Q1 (Z : State) (a1 : Addr) (vs : List Int32) (h0 : Heap) (n0 : Nat) (v : Option Value) (h : Heap) (L : List Loc) : Prop := v = some (.int (own_sum vs)) ∧ Fr n0 L ∧ h = h0
set_option maxRecDepth 65536 in
set_option maxHeartbeats 40000000 in
theorem rm1 (l : Launch) (Z : State) (a0 : Array Value) (hw : ∀ d ∈ tables_1, d.before a0 Z = true) (ws : List Jvm.Cond) (a1 : Addr) (ka : ClassId) (vs : List Int32) (h0 : Heap) (n0 : Nat) (Z0 : n0 ≤ h0.size) (hn : vs.length ≤ 255) (V : Arv Z h0 a1 ka .int (Int32.ofNat vs.length) (vs.map Value.int) (.int (0 : Int32))) :
    MetFree l (⟨"org/fairgate/cli/Inside", "all", "([I)I"⟩ : MethodName) (head1 (Jvm.Cond.code (⟨"org/fairgate/cli/Inside", "all", "([I)I"⟩ : MethodName) prog_62_method_5_code 6 (some .int) :: ws) ({ frames := 0, cells := 0, slots := 0, locals := 0 } : Room)) (fun a U => a = #[(.ref a1)] ∧ Z.Warmed39 U.vm ∧ U.heap = h0) (fun _ _ _ _ _ => True) (fun _ U o U' => ∃ v L, o = .returned v ∧ Q1 Z a1 vs h0 n0 v U'.heap L ∧ FrameEnd U o U' L ({ frames := 0, cells := 0, slots := 0, locals := 0 } : Room).cells ({ frames := 0, cells := 0, slots := 0, locals := 0 } : Room).slots) := by
  refine MetFree.of_bodySF (plainFor_of_name pn_0) hisR ?_
  intro p e s m args below meth c s₁ Bd hml0 hP hK
  obtain ⟨rfl, hZ, hh⟩ := hP
  have hx := Bd.exec
  have hby := Bd.bytes
  have hml : c.maxLocals = 6 := hml0
  have hown : s.vm.findClass "org/fairgate/cli/Inside" = some m.cls := findClass_of_methodNamed Bd.named
  have hnm := (name_of_methodNamed Bd.named Bd.method).1
  have X0 : Stand p l e ({ frames := 0, cells := 0, slots := 0, locals := 0 } : Room) s m #[(.ref a1)] below meth c s₁ [] 0 0 := Stand.of_body Bd
  have e0 : s₁.heap = h0 := by rw [← hh, Bd.state]; rfl
  have N0 := Fr.nil n0
  refine own_go (B := s₁.setTop (mkF m 0 #[.val (.ref a1), .unset, .unset, .unset, .unset, .unset] [])) (fun t kt => castTop (ef_1 m a1) kt) ?_
  obtain ⟨cl, Ar, -, hS0, hM, H, -⟩ := V
  have hS : cl.slots.size = vs.length := by rw [hS0, own_n32 hn]
  refine own_go (B := s₁.setTop (mkF m 10 #[.val (.ref a1), .val (.int (0 : Int32)), .val (.ref a1), .val (.int (Int32.ofNat vs.length)), .val (.int (0 : Int32)), .unset] [])) (fun t kt => ?_) ?_
  · show Steps p.tables e below (s₁.setTop (mkF m 0 #[.val (.ref a1), .unset, .unset, .unset, .unset, .unset] [])) _
    refine XS.iconst X0.here hx rfl (hb hby d1_0) ?_
    show Steps p.tables e below (s₁.setTop (mkF m 1 #[.val (.ref a1), .unset, .unset, .unset, .unset, .unset] [(.int (0 : Int32))])) _
    refine XS.istoreN X0.here hx rfl (hb hby d1_1) rfl (l' := #[.val (.ref a1), .val (.int (0 : Int32)), .unset, .unset, .unset, .unset]) rfl ?_
    show Steps p.tables e below (s₁.setTop (mkF m 2 #[.val (.ref a1), .val (.int (0 : Int32)), .unset, .unset, .unset, .unset] [])) _
    refine XS.aloadN X0.here hx rfl (hb hby d1_2) rfl rfl ?_
    show Steps p.tables e below (s₁.setTop (mkF m 3 #[.val (.ref a1), .val (.int (0 : Int32)), .unset, .unset, .unset, .unset] [(.ref a1)])) _
    refine XS.astoreN X0.here hx rfl (hb hby d1_3) rfl rfl (l' := #[.val (.ref a1), .val (.int (0 : Int32)), .val (.ref a1), .unset, .unset, .unset]) rfl ?_
    show Steps p.tables e below (s₁.setTop (mkF m 4 #[.val (.ref a1), .val (.int (0 : Int32)), .val (.ref a1), .unset, .unset, .unset] [])) _
    refine XS.aloadN X0.here hx rfl (hb hby d1_4) rfl rfl ?_
    show Steps p.tables e below (s₁.setTop (mkF m 5 #[.val (.ref a1), .val (.int (0 : Int32)), .val (.ref a1), .unset, .unset, .unset] [(.ref a1)])) _
    refine X0.arraylength hx (cell := cl) (by rw [e0]; exact Ar.1) (State.isArrayOf_alike hZ.alike Ar.2.1) (g := (mkF m 5 #[.val (.ref a1), .val (.int (0 : Int32)), .val (.ref a1), .unset, .unset, .unset] [(.ref a1)])) rfl rfl (hb hby d1_5) _ ?_
    rw [len_of hS0 hM]
    show Steps p.tables e below (s₁.setTop (mkF m 6 #[.val (.ref a1), .val (.int (0 : Int32)), .val (.ref a1), .unset, .unset, .unset] [(.int (Int32.ofNat vs.length))])) _
    refine XS.istoreN X0.here hx rfl (hb hby d1_6) rfl (l' := #[.val (.ref a1), .val (.int (0 : Int32)), .val (.ref a1), .val (.int (Int32.ofNat vs.length)), .unset, .unset]) rfl ?_
    show Steps p.tables e below (s₁.setTop (mkF m 7 #[.val (.ref a1), .val (.int (0 : Int32)), .val (.ref a1), .val (.int (Int32.ofNat vs.length)), .unset, .unset] [])) _
    refine XS.iconst X0.here hx rfl (hb hby d1_7) ?_
    show Steps p.tables e below (s₁.setTop (mkF m 8 #[.val (.ref a1), .val (.int (0 : Int32)), .val (.ref a1), .val (.int (Int32.ofNat vs.length)), .unset, .unset] [(.int (0 : Int32))])) _
    refine XS.istore X0.here hx rfl (hb hby d1_8) rfl (l' := #[.val (.ref a1), .val (.int (0 : Int32)), .val (.ref a1), .val (.int (Int32.ofNat vs.length)), .val (.int (0 : Int32)), .unset]) rfl ?_
    exact kt
  obtain ⟨fs, hr, hrun, hended, hW, hsame⟩ := X0.leave (v := some (.int (own_sum vs))) (fun h => by rw [Bd.returns] at h; cases h)
  refine ⟨_, _, ?_, hrun, hended, _, _, rfl, ?_, ⟨_, rfl⟩, hW, hsame.mono (by decide) (by decide)⟩
  · refine loop1 a1 vs hn cl X0 hx hZ hw hby hml hown e0 Ar hS (fun j hj => H j (by rw [hS]; exact hj)) vs [] .unset rfl One.u _ (fun s5' => ?_)
    show Steps p.tables e below (s₁.setTop (mkF m 33 #[.val (.ref a1), .val (.int (own_sum vs)), .val (.ref a1), .val (.int (Int32.ofNat vs.length)), .val (.int (Int32.ofNat vs.length)), s5'] [])) _
    refine XS.iloadN X0.here hx rfl (hb hby d1_33) rfl ?_
    exact retI X0 hx Bd.returns (hb hby d1_34) hr
  · show Q1 Z a1 vs h0 n0 _ s₁.heap _
    rw [e0]
    exact ⟨rfl, N0, rfl⟩
theorem ef_0 (m : MethodId) (x0 : Int32) (x1 : Int32) (x2 : Int32) (x3 : Int32) (x4 : Int32) (x5 : Int32) : entryFrame m #[(.int x0), (.int x1), (.int x2), (.int x3), (.int x4), (.int x5)] maxLocals = mkF m 0 #[.val (.int x0), .val (.int x1), .val (.int x2), .val (.int x3), .val (.int x4), .val (.int x5), .unset, .unset, .unset] [] := by first | (simp [entryFrame, mkF, argsToLocals, Value.category, maxLocals]; done) | rfl
def Q0 (Z : State) (p1 p2 p3 p4 p5 p6 : Int32) (h0 : Heap) (n0 : Nat) (v : Option Value) (h : Heap) (L : List Loc) : Prop := v = some (.int (1 : Int32)) ∧ Fr n0 L
set_option maxRecDepth 65536 in
set_option maxHeartbeats 40000000 in
theorem rm0 (l : Launch) (Z : State) (a0 : Array Value) (hw : ∀ d ∈ tables_1, d.before a0 Z = true) (ws : List Jvm.Cond) (p1 : Int32) (p2 : Int32) (p3 : Int32) (p4 : Int32) (p5 : Int32) (p6 : Int32)  (h0 : Heap) (n0 : Nat) (Z0 : n0 ≤ h0.size)  :
    MetFree l x (head1 (Jvm.Cond.code x code maxLocals ret :: ws) room_1) (fun a U => a = #[(.int p1), (.int p2), (.int p3), (.int p4), (.int p5), (.int p6)] ∧ Z.Warmed39 U.vm ∧ U.heap = h0) (fun _ _ _ _ _ => True) (fun _ U o U' => ∃ v L, o = .returned v ∧ Q0 Z p1 p2 p3 p4 p5 p6 h0 n0 v U'.heap L ∧ FrameEnd U o U' L room_1.cells room_1.slots) := by
  refine MetFree.of_bodySF (plainFor_of_name pn_1) hisR ?_
  intro p e s m args below meth c s₁ Bd hml0 hP hK
  obtain ⟨rfl, hZ, hh⟩ := hP
  have hx := Bd.exec
  have hby := Bd.bytes
  have hml : c.maxLocals = 9 := hml0
  have hown : s.vm.findClass "org/fairgate/cli/InsideAllPinLaw" = some m.cls := findClass_of_methodNamed Bd.named
  have hnm := (name_of_methodNamed Bd.named Bd.method).1
  have X0 : Stand p l e room_1 s m #[(.int p1), (.int p2), (.int p3), (.int p4), (.int p5), (.int p6)] below meth c s₁ [] 0 0 := Stand.of_body Bd
  have e0 : s₁.heap = h0 := by rw [← hh, Bd.state]; rfl
  have N0 := Fr.nil n0
  refine own_go (B := s₁.setTop (mkF m 0 #[.val (.int p1), .val (.int p2), .val (.int p3), .val (.int p4), .val (.int p5), .val (.int p6), .unset, .unset, .unset] [])) (fun t kt => castTop (ef_0 m p1 p2 p3 p4 p5 p6) kt) ?_
  refine own_go (B := s₁.setTop (mkF m 8 #[.val (.int p1), .val (.int p2), .val (.int p3), .val (.int p4), .val (.int p5), .val (.int p6), .unset, .unset, .unset] [(.int ((p6 &&& (2147483647 : Int32)) % (6 : Int32)))])) (fun t kt => ?_) ?_
  · show Steps p.tables e below (s₁.setTop (mkF m 0 #[.val (.int p1), .val (.int p2), .val (.int p3), .val (.int p4), .val (.int p5), .val (.int p6), .unset, .unset, .unset] [])) _
    refine XS.iload X0.here hx rfl (hb hby at_0) rfl ?_
    show Steps p.tables e below (s₁.setTop (mkF m 2 #[.val (.int p1), .val (.int p2), .val (.int p3), .val (.int p4), .val (.int p5), .val (.int p6), .unset, .unset, .unset] [(.int p6)])) _
    refine X0.ldcInt hx hown (mvT hZ (hw _ (List.mem_of_getElem? (i := 0) rfl))) (g := (mkF m 2 #[.val (.int p1), .val (.int p2), .val (.int p3), .val (.int p4), .val (.int p5), .val (.int p6), .unset, .unset, .unset] [(.int p6)])) rfl (hb hby at_2) _ ?_
    show Steps p.tables e below (s₁.setTop (mkF m 4 #[.val (.int p1), .val (.int p2), .val (.int p3), .val (.int p4), .val (.int p5), .val (.int p6), .unset, .unset, .unset] [(.int (2147483647 : Int32)), (.int p6)])) _
    refine XS.iand X0.here hx rfl (hb hby at_4) rfl ?_
    show Steps p.tables e below (s₁.setTop (mkF m 5 #[.val (.int p1), .val (.int p2), .val (.int p3), .val (.int p4), .val (.int p5), .val (.int p6), .unset, .unset, .unset] [(.int (p6 &&& (2147483647 : Int32)))])) _
    refine XS.bipush X0.here hx rfl (hb hby at_5) ?_
    show Steps p.tables e below (s₁.setTop (mkF m 7 #[.val (.int p1), .val (.int p2), .val (.int p3), .val (.int p4), .val (.int p5), .val (.int p6), .unset, .unset, .unset] [(.int (6 : Int32)), (.int (p6 &&& (2147483647 : Int32)))])) _
    refine iremM X0 hx rfl (hb hby at_7) rfl (by decide) ?_
    exact kt
  rcases own_len p6 with hk | hk | hk | hk | hk | hk
  · rw [hk]
    refine own_go (B := s₁.setTop (mkF m 12 #[.val (.int p1), .val (.int p2), .val (.int p3), .val (.int p4), .val (.int p5), .val (.int p6), .val (.int (0 : Int32)), .unset, .unset] [(.int (0 : Int32))])) (fun t kt => ?_) ?_
    · show Steps p.tables e below (s₁.setTop (mkF m 8 #[.val (.int p1), .val (.int p2), .val (.int p3), .val (.int p4), .val (.int p5), .val (.int p6), .unset, .unset, .unset] [(.int (0 : Int32))])) _
      refine XS.istore X0.here hx rfl (hb hby at_8) rfl (l' := #[.val (.int p1), .val (.int p2), .val (.int p3), .val (.int p4), .val (.int p5), .val (.int p6), .val (.int (0 : Int32)), .unset, .unset]) rfl ?_
      show Steps p.tables e below (s₁.setTop (mkF m 10 #[.val (.int p1), .val (.int p2), .val (.int p3), .val (.int p4), .val (.int p5), .val (.int p6), .val (.int (0 : Int32)), .unset, .unset] [])) _
      refine XS.iload X0.here hx rfl (hb hby at_10) rfl ?_
      exact kt
    obtain ⟨T1, h1, k1, X1, e1, E1, A1, st1⟩ := newP X0 hx hZ (hw _ (List.mem_of_getElem? (i := 1) rfl)) e0 (g := (mkF m 12 #[.val (.int p1), .val (.int p2), .val (.int p3), .val (.int p4), .val (.int p5), .val (.int p6), .val (.int (0 : Int32)), .unset, .unset] [(.int (0 : Int32))])) rfl (hb hby at_12) rfl (by decide) (cap := 0) (by decide) (by decide) (by decide) (by decide)
    obtain ⟨b1, g1⟩ : ∃ z, z = h0.size := ⟨_, rfl⟩
    rw [← g1] at A1 st1
    refine own_go (B := T1.setTop (mkF m 14 #[.val (.int p1), .val (.int p2), .val (.int p3), .val (.int p4), .val (.int p5), .val (.int p6), .val (.int (0 : Int32)), .unset, .unset] [(.ref b1)])) (fun t kt => st1 t kt) ?_
    have gb : n0 ≤ b1 := Nat.le_trans Z0 (Nat.le_of_eq g1.symm)
    have Z1 : n0 ≤ h1.size := Nat.le_trans Z0 E1.1
    have V0 : Arv Z h1 b1 k1 .int (0 : Int32) [] (.int (0 : Int32)) := Arv.new A1 (by decide)
    refine own_go (B := T1.setTop (mkF m 107 #[.val (.int p1), .val (.int p2), .val (.int p3), .val (.int p4), .val (.int p5), .val (.int p6), .val (.int (0 : Int32)), .val (.ref b1), .val (.int (0 : Int32))] [(.ref b1)])) (fun t kt => ?_) ?_
    · show Steps p.tables e below (T1.setTop (mkF m 14 #[.val (.int p1), .val (.int p2), .val (.int p3), .val (.int p4), .val (.int p5), .val (.int p6), .val (.int (0 : Int32)), .unset, .unset] [(.ref b1)])) _
      refine XS.astore X1.here hx rfl (hb hby at_14) rfl rfl (l' := #[.val (.int p1), .val (.int p2), .val (.int p3), .val (.int p4), .val (.int p5), .val (.int p6), .val (.int (0 : Int32)), .val (.ref b1), .unset]) rfl ?_
      show Steps p.tables e below (T1.setTop (mkF m 16 #[.val (.int p1), .val (.int p2), .val (.int p3), .val (.int p4), .val (.int p5), .val (.int p6), .val (.int (0 : Int32)), .val (.ref b1), .unset] [])) _
      refine XS.iconst X1.here hx rfl (hb hby at_16) ?_
      show Steps p.tables e below (T1.setTop (mkF m 17 #[.val (.int p1), .val (.int p2), .val (.int p3), .val (.int p4), .val (.int p5), .val (.int p6), .val (.int (0 : Int32)), .val (.ref b1), .unset] [(.int (0 : Int32))])) _
      refine XS.istore X1.here hx rfl (hb hby at_17) rfl (l' := #[.val (.int p1), .val (.int p2), .val (.int p3), .val (.int p4), .val (.int p5), .val (.int p6), .val (.int (0 : Int32)), .val (.ref b1), .val (.int (0 : Int32))]) rfl ?_
      show Steps p.tables e below (T1.setTop (mkF m 19 #[.val (.int p1), .val (.int p2), .val (.int p3), .val (.int p4), .val (.int p5), .val (.int p6), .val (.int (0 : Int32)), .val (.ref b1), .val (.int (0 : Int32))] [])) _
      refine XS.iload X1.here hx rfl (hb hby at_19) rfl ?_
      show Steps p.tables e below (T1.setTop (mkF m 21 #[.val (.int p1), .val (.int p2), .val (.int p3), .val (.int p4), .val (.int p5), .val (.int p6), .val (.int (0 : Int32)), .val (.ref b1), .val (.int (0 : Int32))] [(.int (0 : Int32))])) _
      refine XS.ifYes X1.here hx rfl (pc0 := 21) (pc' := 35) rfl (hb hby at_21) rfl ((if0 _ _).trans (flt (by decide)).2.2.2) (by decide) (by decide) ?_
      show Steps p.tables e below (T1.setTop (mkF m 35 #[.val (.int p1), .val (.int p2), .val (.int p3), .val (.int p4), .val (.int p5), .val (.int p6), .val (.int (0 : Int32)), .val (.ref b1), .val (.int (0 : Int32))] [])) _
      refine XS.iload X1.here hx rfl (hb hby at_35) rfl ?_
      show Steps p.tables e below (T1.setTop (mkF m 37 #[.val (.int p1), .val (.int p2), .val (.int p3), .val (.int p4), .val (.int p5), .val (.int p6), .val (.int (0 : Int32)), .val (.ref b1), .val (.int (0 : Int32))] [(.int (0 : Int32))])) _
      refine XS.iconst X1.here hx rfl (hb hby at_37) ?_
      show Steps p.tables e below (T1.setTop (mkF m 38 #[.val (.int p1), .val (.int p2), .val (.int p3), .val (.int p4), .val (.int p5), .val (.int p6), .val (.int (0 : Int32)), .val (.ref b1), .val (.int (0 : Int32))] [(.int (1 : Int32)), (.int (0 : Int32))])) _
      refine XS.icmpYes X1.here hx rfl (pc0 := 38) (pc' := 52) rfl (hb hby at_38) rfl (flt (by decide)).2.2.2 (by decide) (by decide) ?_
      show Steps p.tables e below (T1.setTop (mkF m 52 #[.val (.int p1), .val (.int p2), .val (.int p3), .val (.int p4), .val (.int p5), .val (.int p6), .val (.int (0 : Int32)), .val (.ref b1), .val (.int (0 : Int32))] [])) _
      refine XS.iload X1.here hx rfl (hb hby at_52) rfl ?_
      show Steps p.tables e below (T1.setTop (mkF m 54 #[.val (.int p1), .val (.int p2), .val (.int p3), .val (.int p4), .val (.int p5), .val (.int p6), .val (.int (0 : Int32)), .val (.ref b1), .val (.int (0 : Int32))] [(.int (0 : Int32))])) _
      refine XS.iconst X1.here hx rfl (hb hby at_54) ?_
      show Steps p.tables e below (T1.setTop (mkF m 55 #[.val (.int p1), .val (.int p2), .val (.int p3), .val (.int p4), .val (.int p5), .val (.int p6), .val (.int (0 : Int32)), .val (.ref b1), .val (.int (0 : Int32))] [(.int (2 : Int32)), (.int (0 : Int32))])) _
      refine XS.icmpYes X1.here hx rfl (pc0 := 55) (pc' := 69) rfl (hb hby at_55) rfl (flt (by decide)).2.2.2 (by decide) (by decide) ?_
      show Steps p.tables e below (T1.setTop (mkF m 69 #[.val (.int p1), .val (.int p2), .val (.int p3), .val (.int p4), .val (.int p5), .val (.int p6), .val (.int (0 : Int32)), .val (.ref b1), .val (.int (0 : Int32))] [])) _
      refine XS.iload X1.here hx rfl (hb hby at_69) rfl ?_
      show Steps p.tables e below (T1.setTop (mkF m 71 #[.val (.int p1), .val (.int p2), .val (.int p3), .val (.int p4), .val (.int p5), .val (.int p6), .val (.int (0 : Int32)), .val (.ref b1), .val (.int (0 : Int32))] [(.int (0 : Int32))])) _
      refine XS.iconst X1.here hx rfl (hb hby at_71) ?_
      show Steps p.tables e below (T1.setTop (mkF m 72 #[.val (.int p1), .val (.int p2), .val (.int p3), .val (.int p4), .val (.int p5), .val (.int p6), .val (.int (0 : Int32)), .val (.ref b1), .val (.int (0 : Int32))] [(.int (3 : Int32)), (.int (0 : Int32))])) _
      refine XS.icmpYes X1.here hx rfl (pc0 := 72) (pc' := 86) rfl (hb hby at_72) rfl (flt (by decide)).2.2.2 (by decide) (by decide) ?_
      show Steps p.tables e below (T1.setTop (mkF m 86 #[.val (.int p1), .val (.int p2), .val (.int p3), .val (.int p4), .val (.int p5), .val (.int p6), .val (.int (0 : Int32)), .val (.ref b1), .val (.int (0 : Int32))] [])) _
      refine XS.iload X1.here hx rfl (hb hby at_86) rfl ?_
      show Steps p.tables e below (T1.setTop (mkF m 88 #[.val (.int p1), .val (.int p2), .val (.int p3), .val (.int p4), .val (.int p5), .val (.int p6), .val (.int (0 : Int32)), .val (.ref b1), .val (.int (0 : Int32))] [(.int (0 : Int32))])) _
      refine XS.iconst X1.here hx rfl (hb hby at_88) ?_
      show Steps p.tables e below (T1.setTop (mkF m 89 #[.val (.int p1), .val (.int p2), .val (.int p3), .val (.int p4), .val (.int p5), .val (.int p6), .val (.int (0 : Int32)), .val (.ref b1), .val (.int (0 : Int32))] [(.int (4 : Int32)), (.int (0 : Int32))])) _
      refine XS.icmpYes X1.here hx rfl (pc0 := 89) (pc' := 105) rfl (hb hby at_89) rfl (flt (by decide)).2.2.2 (by decide) (by decide) ?_
      show Steps p.tables e below (T1.setTop (mkF m 105 #[.val (.int p1), .val (.int p2), .val (.int p3), .val (.int p4), .val (.int p5), .val (.int p6), .val (.int (0 : Int32)), .val (.ref b1), .val (.int (0 : Int32))] [])) _
      refine XS.aload X1.here hx rfl (hb hby at_105) rfl rfl ?_
      exact kt
    obtain ⟨_, _, ⟨T2, L2, k2, n2⟩, -, X2, ⟨Lc2, hQ2, l2, y2, z2⟩, st2⟩ := Jvm.LawKit.callS X1 hx (y := (⟨"org/fairgate/cli/Inside", "all", "([I)I"⟩ : MethodName)) hown (mvT hZ (hw _ (List.mem_of_getElem? (i := 2) rfl))) (mvT hZ (hw _ (List.mem_of_getElem? (i := 3) rfl))) (mvT hZ (hw _ (List.mem_of_getElem? (i := 4) rfl))) (mvT hZ (hw _ (List.mem_of_getElem? (i := 5) rfl))) (by decide) (backOf (W := 0) (rm1 l Z a0 hw [] b1 k1 [] h1 n0 Z1 (Nat.le_of_ble_eq_true rfl) V0) hZ (hw _ (List.mem_of_getElem? (i := 5) rfl)) (hw _ (List.mem_of_getElem? (i := 4) rfl)) (by decide) (by decide)) (g := (mkF m 107 #[.val (.int p1), .val (.int p2), .val (.int p3), .val (.int p4), .val (.int p5), .val (.int p6), .val (.int (0 : Int32)), .val (.ref b1), .val (.int (0 : Int32))] [(.ref b1)])) rfl (by rw [hml]; rfl) (argsL := [(.ref b1)]) (rest := []) (lenOf pd_0 rfl) rfl (by show 2 * 0 + _ ≤ _; exact Nat.le_of_eq rfl) (hb hby at_107) (fun _ _ => ⟨rfl, e1, (by decide : (0 + 1) + 0 ≤ _), (by decide : (0 + 0) + 0 ≤ _)⟩)
    dsimp only [Pt.U, Pt.locs, Pt.cells, Pt.slots] at X2 l2 y2 z2 st2 hQ2
    subst l2 y2 z2
    obtain ⟨rfl, N2q, e2⟩ := hQ2
    have N2 := Fr.app N0 N2q
    refine own_go (B := T2.setTop (mkF m 110 #[.val (.int p1), .val (.int p2), .val (.int p3), .val (.int p4), .val (.int p5), .val (.int p6), .val (.int (0 : Int32)), .val (.ref b1), .val (.int (0 : Int32))] [(.int (own_sum []))])) (fun t kt => st2 t kt) ?_
    refine own_go (B := T2.setTop (mkF m 120 #[.val (.int p1), .val (.int p2), .val (.int p3), .val (.int p4), .val (.int p5), .val (.int p6), .val (.int (0 : Int32)), .val (.ref b1), .val (.int (0 : Int32))] [(.int (1 : Int32))])) (fun t kt => ?_) ?_
    · show Steps p.tables e below (T2.setTop (mkF m 110 #[.val (.int p1), .val (.int p2), .val (.int p3), .val (.int p4), .val (.int p5), .val (.int p6), .val (.int (0 : Int32)), .val (.ref b1), .val (.int (0 : Int32))] [(.int (own_sum []))])) _
      refine XS.iload X2.here hx rfl (hb hby at_110) rfl ?_
      show Steps p.tables e below (T2.setTop (mkF m 112 #[.val (.int p1), .val (.int p2), .val (.int p3), .val (.int p4), .val (.int p5), .val (.int p6), .val (.int (0 : Int32)), .val (.ref b1), .val (.int (0 : Int32))] [(.int (0 : Int32)), (.int (own_sum []))])) _
      refine XS.icmpNo X2.here hx rfl (hb hby at_112) rfl (teq rfl).2 ?_
      show Steps p.tables e below (T2.setTop (mkF m 115 #[.val (.int p1), .val (.int p2), .val (.int p3), .val (.int p4), .val (.int p5), .val (.int p6), .val (.int (0 : Int32)), .val (.ref b1), .val (.int (0 : Int32))] [])) _
      refine XS.iconst X2.here hx rfl (hb hby at_115) ?_
      show Steps p.tables e below (T2.setTop (mkF m 116 #[.val (.int p1), .val (.int p2), .val (.int p3), .val (.int p4), .val (.int p5), .val (.int p6), .val (.int (0 : Int32)), .val (.ref b1), .val (.int (0 : Int32))] [(.int (1 : Int32))])) _
      refine XS.goto X2.here hx rfl (pc0 := 116) (pc' := 120) rfl (hb hby at_116) (by decide) (by decide) ?_
      exact kt
    obtain ⟨fs, hr, hrun, hended, hW, hsame⟩ := X2.leave (v := some (.int (1 : Int32))) (fun h => by rw [Bd.returns] at h; cases h)
    refine ⟨_, _, ?_, hrun, hended, _, _, rfl, ?_, ⟨_, rfl⟩, hW, hsame.mono (by decide) (by decide)⟩
    · show Steps p.tables e below (T2.setTop (mkF m 120 #[.val (.int p1), .val (.int p2), .val (.int p3), .val (.int p4), .val (.int p5), .val (.int p6), .val (.int (0 : Int32)), .val (.ref b1), .val (.int (0 : Int32))] [(.int (1 : Int32))])) _
      exact retN X2 hx (t := .boolean) Bd.returns (by simp) (hb hby at_120) hr
    · show Q0 Z p1 p2 p3 p4 p5 p6 h0 n0 _ T2.heap _
      rw [e2]
      exact ⟨rfl, N2⟩
  · rw [hk]
    refine own_go (B := s₁.setTop (mkF m 12 #[.val (.int p1), .val (.int p2), .val (.int p3), .val (.int p4), .val (.int p5), .val (.int p6), .val (.int (1 : Int32)), .unset, .unset] [(.int (1 : Int32))])) (fun t kt => ?_) ?_
    · show Steps p.tables e below (s₁.setTop (mkF m 8 #[.val (.int p1), .val (.int p2), .val (.int p3), .val (.int p4), .val (.int p5), .val (.int p6), .unset, .unset, .unset] [(.int (1 : Int32))])) _
      refine XS.istore X0.here hx rfl (hb hby at_8) rfl (l' := #[.val (.int p1), .val (.int p2), .val (.int p3), .val (.int p4), .val (.int p5), .val (.int p6), .val (.int (1 : Int32)), .unset, .unset]) rfl ?_
      show Steps p.tables e below (s₁.setTop (mkF m 10 #[.val (.int p1), .val (.int p2), .val (.int p3), .val (.int p4), .val (.int p5), .val (.int p6), .val (.int (1 : Int32)), .unset, .unset] [])) _
      refine XS.iload X0.here hx rfl (hb hby at_10) rfl ?_
      exact kt
    obtain ⟨T3, h3, k3, X3, e3, E3, A3, st3⟩ := newP X0 hx hZ (hw _ (List.mem_of_getElem? (i := 1) rfl)) e0 (g := (mkF m 12 #[.val (.int p1), .val (.int p2), .val (.int p3), .val (.int p4), .val (.int p5), .val (.int p6), .val (.int (1 : Int32)), .unset, .unset] [(.int (1 : Int32))])) rfl (hb hby at_12) rfl (by decide) (cap := 1) (by decide) (by decide) (by decide) (by decide)
    obtain ⟨b3, g3⟩ : ∃ z, z = h0.size := ⟨_, rfl⟩
    rw [← g3] at A3 st3
    refine own_go (B := T3.setTop (mkF m 14 #[.val (.int p1), .val (.int p2), .val (.int p3), .val (.int p4), .val (.int p5), .val (.int p6), .val (.int (1 : Int32)), .unset, .unset] [(.ref b3)])) (fun t kt => st3 t kt) ?_
    have gb : n0 ≤ b3 := Nat.le_trans Z0 (Nat.le_of_eq g3.symm)
    have Z1 : n0 ≤ h3.size := Nat.le_trans Z0 E3.1
    have V0 : Arv Z h3 b3 k3 .int (1 : Int32) [(.int (0 : Int32))] (.int (0 : Int32)) := (Arv.new A3 (by decide)).pad (pad_rep [] (.int (0 : Int32)) 1)
    refine own_go (B := T3.setTop (mkF m 28 #[.val (.int p1), .val (.int p2), .val (.int p3), .val (.int p4), .val (.int p5), .val (.int p6), .val (.int (1 : Int32)), .val (.ref b3), .val (.int (0 : Int32))] [(.int p1), (.int (0 : Int32)), (.ref b3)])) (fun t kt => ?_) ?_
    · show Steps p.tables e below (T3.setTop (mkF m 14 #[.val (.int p1), .val (.int p2), .val (.int p3), .val (.int p4), .val (.int p5), .val (.int p6), .val (.int (1 : Int32)), .unset, .unset] [(.ref b3)])) _
      refine XS.astore X3.here hx rfl (hb hby at_14) rfl rfl (l' := #[.val (.int p1), .val (.int p2), .val (.int p3), .val (.int p4), .val (.int p5), .val (.int p6), .val (.int (1 : Int32)), .val (.ref b3), .unset]) rfl ?_
      show Steps p.tables e below (T3.setTop (mkF m 16 #[.val (.int p1), .val (.int p2), .val (.int p3), .val (.int p4), .val (.int p5), .val (.int p6), .val (.int (1 : Int32)), .val (.ref b3), .unset] [])) _
      refine XS.iconst X3.here hx rfl (hb hby at_16) ?_
      show Steps p.tables e below (T3.setTop (mkF m 17 #[.val (.int p1), .val (.int p2), .val (.int p3), .val (.int p4), .val (.int p5), .val (.int p6), .val (.int (1 : Int32)), .val (.ref b3), .unset] [(.int (0 : Int32))])) _
      refine XS.istore X3.here hx rfl (hb hby at_17) rfl (l' := #[.val (.int p1), .val (.int p2), .val (.int p3), .val (.int p4), .val (.int p5), .val (.int p6), .val (.int (1 : Int32)), .val (.ref b3), .val (.int (0 : Int32))]) rfl ?_
      show Steps p.tables e below (T3.setTop (mkF m 19 #[.val (.int p1), .val (.int p2), .val (.int p3), .val (.int p4), .val (.int p5), .val (.int p6), .val (.int (1 : Int32)), .val (.ref b3), .val (.int (0 : Int32))] [])) _
      refine XS.iload X3.here hx rfl (hb hby at_19) rfl ?_
      show Steps p.tables e below (T3.setTop (mkF m 21 #[.val (.int p1), .val (.int p2), .val (.int p3), .val (.int p4), .val (.int p5), .val (.int p6), .val (.int (1 : Int32)), .val (.ref b3), .val (.int (0 : Int32))] [(.int (1 : Int32))])) _
      refine XS.ifNo X3.here hx rfl (hb hby at_21) rfl ((if0 _ _).trans (tlt (by decide)).2.2.2) ?_
      show Steps p.tables e below (T3.setTop (mkF m 24 #[.val (.int p1), .val (.int p2), .val (.int p3), .val (.int p4), .val (.int p5), .val (.int p6), .val (.int (1 : Int32)), .val (.ref b3), .val (.int (0 : Int32))] [])) _
      refine XS.aload X3.here hx rfl (hb hby at_24) rfl rfl ?_
      show Steps p.tables e below (T3.setTop (mkF m 26 #[.val (.int p1), .val (.int p2), .val (.int p3), .val (.int p4), .val (.int p5), .val (.int p6), .val (.int (1 : Int32)), .val (.ref b3), .val (.int (0 : Int32))] [(.ref b3)])) _
      refine XS.iconst X3.here hx rfl (hb hby at_26) ?_
      show Steps p.tables e below (T3.setTop (mkF m 27 #[.val (.int p1), .val (.int p2), .val (.int p3), .val (.int p4), .val (.int p5), .val (.int p6), .val (.int (1 : Int32)), .val (.ref b3), .val (.int (0 : Int32))] [(.int (0 : Int32)), (.ref b3)])) _
      refine XS.iloadN X3.here hx rfl (hb hby at_27) rfl ?_
      exact kt
    obtain ⟨cl0, Ar0, q0, S0, M0, H0, U0⟩ := V0
    obtain ⟨T4, h4, X4, e4, W4, st4⟩ := stI X3 hx hZ e3 Ar0 (j := (0 : Int32)) (inb_of S0 ⟨by decide, by decide⟩) (g := (mkF m 28 #[.val (.int p1), .val (.int p2), .val (.int p3), .val (.int p4), .val (.int p5), .val (.int p6), .val (.int (1 : Int32)), .val (.ref b3), .val (.int (0 : Int32))] [(.int p1), (.int (0 : Int32)), (.ref b3)])) rfl rfl (hb hby at_28)
    have N4 := Fr.snoc X4 N0 gb
    refine own_go (B := T4.setTop (mkF m 29 #[.val (.int p1), .val (.int p2), .val (.int p3), .val (.int p4), .val (.int p5), .val (.int p6), .val (.int (1 : Int32)), .val (.ref b3), .val (.int (0 : Int32))] [])) (fun t kt => st4 t kt) ?_
    have V1 : Arv Z h4 b3 k3 .int (1 : Int32) [(.int p1)] (.int (0 : Int32)) := Arv.set Ar0 q0 S0 M0 H0 U0 rfl W4 0 rfl (Nat.le_of_ble_eq_true rfl)
    have Z2 : n0 ≤ h4.size := Nat.le_trans Z1 (Keep.of_wr W4).1
    refine own_go (B := T4.setTop (mkF m 107 #[.val (.int p1), .val (.int p2), .val (.int p3), .val (.int p4), .val (.int p5), .val (.int p6), .val (.int (1 : Int32)), .val (.ref b3), .val (.int ((0 : Int32) + p1))] [(.ref b3)])) (fun t kt => ?_) ?_
    · show Steps p.tables e below (T4.setTop (mkF m 29 #[.val (.int p1), .val (.int p2), .val (.int p3), .val (.int p4), .val (.int p5), .val (.int p6), .val (.int (1 : Int32)), .val (.ref b3), .val (.int (0 : Int32))] [])) _
      refine XS.iload X4.here hx rfl (hb hby at_29) rfl ?_
      show Steps p.tables e below (T4.setTop (mkF m 31 #[.val (.int p1), .val (.int p2), .val (.int p3), .val (.int p4), .val (.int p5), .val (.int p6), .val (.int (1 : Int32)), .val (.ref b3), .val (.int (0 : Int32))] [(.int (0 : Int32))])) _
      refine XS.iloadN X4.here hx rfl (hb hby at_31) rfl ?_
      show Steps p.tables e below (T4.setTop (mkF m 32 #[.val (.int p1), .val (.int p2), .val (.int p3), .val (.int p4), .val (.int p5), .val (.int p6), .val (.int (1 : Int32)), .val (.ref b3), .val (.int (0 : Int32))] [(.int p1), (.int (0 : Int32))])) _
      refine XS.iadd X4.here hx rfl (hb hby at_32) rfl ?_
      show Steps p.tables e below (T4.setTop (mkF m 33 #[.val (.int p1), .val (.int p2), .val (.int p3), .val (.int p4), .val (.int p5), .val (.int p6), .val (.int (1 : Int32)), .val (.ref b3), .val (.int (0 : Int32))] [(.int ((0 : Int32) + p1))])) _
      refine XS.istore X4.here hx rfl (hb hby at_33) rfl (l' := #[.val (.int p1), .val (.int p2), .val (.int p3), .val (.int p4), .val (.int p5), .val (.int p6), .val (.int (1 : Int32)), .val (.ref b3), .val (.int ((0 : Int32) + p1))]) rfl ?_
      show Steps p.tables e below (T4.setTop (mkF m 35 #[.val (.int p1), .val (.int p2), .val (.int p3), .val (.int p4), .val (.int p5), .val (.int p6), .val (.int (1 : Int32)), .val (.ref b3), .val (.int ((0 : Int32) + p1))] [])) _
      refine XS.iload X4.here hx rfl (hb hby at_35) rfl ?_
      show Steps p.tables e below (T4.setTop (mkF m 37 #[.val (.int p1), .val (.int p2), .val (.int p3), .val (.int p4), .val (.int p5), .val (.int p6), .val (.int (1 : Int32)), .val (.ref b3), .val (.int ((0 : Int32) + p1))] [(.int (1 : Int32))])) _
      refine XS.iconst X4.here hx rfl (hb hby at_37) ?_
      show Steps p.tables e below (T4.setTop (mkF m 38 #[.val (.int p1), .val (.int p2), .val (.int p3), .val (.int p4), .val (.int p5), .val (.int p6), .val (.int (1 : Int32)), .val (.ref b3), .val (.int ((0 : Int32) + p1))] [(.int (1 : Int32)), (.int (1 : Int32))])) _
      refine XS.icmpYes X4.here hx rfl (pc0 := 38) (pc' := 52) rfl (hb hby at_38) rfl (flt (by decide)).2.2.2 (by decide) (by decide) ?_
      show Steps p.tables e below (T4.setTop (mkF m 52 #[.val (.int p1), .val (.int p2), .val (.int p3), .val (.int p4), .val (.int p5), .val (.int p6), .val (.int (1 : Int32)), .val (.ref b3), .val (.int ((0 : Int32) + p1))] [])) _
      refine XS.iload X4.here hx rfl (hb hby at_52) rfl ?_
      show Steps p.tables e below (T4.setTop (mkF m 54 #[.val (.int p1), .val (.int p2), .val (.int p3), .val (.int p4), .val (.int p5), .val (.int p6), .val (.int (1 : Int32)), .val (.ref b3), .val (.int ((0 : Int32) + p1))] [(.int (1 : Int32))])) _
      refine XS.iconst X4.here hx rfl (hb hby at_54) ?_
      show Steps p.tables e below (T4.setTop (mkF m 55 #[.val (.int p1), .val (.int p2), .val (.int p3), .val (.int p4), .val (.int p5), .val (.int p6), .val (.int (1 : Int32)), .val (.ref b3), .val (.int ((0 : Int32) + p1))] [(.int (2 : Int32)), (.int (1 : Int32))])) _
      refine XS.icmpYes X4.here hx rfl (pc0 := 55) (pc' := 69) rfl (hb hby at_55) rfl (flt (by decide)).2.2.2 (by decide) (by decide) ?_
      show Steps p.tables e below (T4.setTop (mkF m 69 #[.val (.int p1), .val (.int p2), .val (.int p3), .val (.int p4), .val (.int p5), .val (.int p6), .val (.int (1 : Int32)), .val (.ref b3), .val (.int ((0 : Int32) + p1))] [])) _
      refine XS.iload X4.here hx rfl (hb hby at_69) rfl ?_
      show Steps p.tables e below (T4.setTop (mkF m 71 #[.val (.int p1), .val (.int p2), .val (.int p3), .val (.int p4), .val (.int p5), .val (.int p6), .val (.int (1 : Int32)), .val (.ref b3), .val (.int ((0 : Int32) + p1))] [(.int (1 : Int32))])) _
      refine XS.iconst X4.here hx rfl (hb hby at_71) ?_
      show Steps p.tables e below (T4.setTop (mkF m 72 #[.val (.int p1), .val (.int p2), .val (.int p3), .val (.int p4), .val (.int p5), .val (.int p6), .val (.int (1 : Int32)), .val (.ref b3), .val (.int ((0 : Int32) + p1))] [(.int (3 : Int32)), (.int (1 : Int32))])) _
      refine XS.icmpYes X4.here hx rfl (pc0 := 72) (pc' := 86) rfl (hb hby at_72) rfl (flt (by decide)).2.2.2 (by decide) (by decide) ?_
      show Steps p.tables e below (T4.setTop (mkF m 86 #[.val (.int p1), .val (.int p2), .val (.int p3), .val (.int p4), .val (.int p5), .val (.int p6), .val (.int (1 : Int32)), .val (.ref b3), .val (.int ((0 : Int32) + p1))] [])) _
      refine XS.iload X4.here hx rfl (hb hby at_86) rfl ?_
      show Steps p.tables e below (T4.setTop (mkF m 88 #[.val (.int p1), .val (.int p2), .val (.int p3), .val (.int p4), .val (.int p5), .val (.int p6), .val (.int (1 : Int32)), .val (.ref b3), .val (.int ((0 : Int32) + p1))] [(.int (1 : Int32))])) _
      refine XS.iconst X4.here hx rfl (hb hby at_88) ?_
      show Steps p.tables e below (T4.setTop (mkF m 89 #[.val (.int p1), .val (.int p2), .val (.int p3), .val (.int p4), .val (.int p5), .val (.int p6), .val (.int (1 : Int32)), .val (.ref b3), .val (.int ((0 : Int32) + p1))] [(.int (4 : Int32)), (.int (1 : Int32))])) _
      refine XS.icmpYes X4.here hx rfl (pc0 := 89) (pc' := 105) rfl (hb hby at_89) rfl (flt (by decide)).2.2.2 (by decide) (by decide) ?_
      show Steps p.tables e below (T4.setTop (mkF m 105 #[.val (.int p1), .val (.int p2), .val (.int p3), .val (.int p4), .val (.int p5), .val (.int p6), .val (.int (1 : Int32)), .val (.ref b3), .val (.int ((0 : Int32) + p1))] [])) _
      refine XS.aload X4.here hx rfl (hb hby at_105) rfl rfl ?_
      exact kt
    obtain ⟨_, _, ⟨T5, L5, k5, n5⟩, -, X5, ⟨Lc5, hQ5, l5, y5, z5⟩, st5⟩ := Jvm.LawKit.callS X4 hx (y := (⟨"org/fairgate/cli/Inside", "all", "([I)I"⟩ : MethodName)) hown (mvT hZ (hw _ (List.mem_of_getElem? (i := 2) rfl))) (mvT hZ (hw _ (List.mem_of_getElem? (i := 3) rfl))) (mvT hZ (hw _ (List.mem_of_getElem? (i := 4) rfl))) (mvT hZ (hw _ (List.mem_of_getElem? (i := 5) rfl))) (by decide) (backOf (W := 0) (rm1 l Z a0 hw [] b3 k3 [p1] h4 n0 Z2 (Nat.le_of_ble_eq_true rfl) V1) hZ (hw _ (List.mem_of_getElem? (i := 5) rfl)) (hw _ (List.mem_of_getElem? (i := 4) rfl)) (by decide) (by decide)) (g := (mkF m 107 #[.val (.int p1), .val (.int p2), .val (.int p3), .val (.int p4), .val (.int p5), .val (.int p6), .val (.int (1 : Int32)), .val (.ref b3), .val (.int ((0 : Int32) + p1))] [(.ref b3)])) rfl (by rw [hml]; rfl) (argsL := [(.ref b3)]) (rest := []) (lenOf pd_0 rfl) rfl (by show 2 * 0 + _ ≤ _; exact Nat.le_of_eq rfl) (hb hby at_107) (fun _ _ => ⟨rfl, e4, (by decide : (0 + 1) + 0 ≤ _), (by decide : (0 + 1) + 0 ≤ _)⟩)
    dsimp only [Pt.U, Pt.locs, Pt.cells, Pt.slots] at X5 l5 y5 z5 st5 hQ5
    subst l5 y5 z5
    obtain ⟨rfl, N5q, e5⟩ := hQ5
    have N5 := Fr.app N4 N5q
    refine own_go (B := T5.setTop (mkF m 110 #[.val (.int p1), .val (.int p2), .val (.int p3), .val (.int p4), .val (.int p5), .val (.int p6), .val (.int (1 : Int32)), .val (.ref b3), .val (.int ((0 : Int32) + p1))] [(.int (own_sum [p1]))])) (fun t kt => st5 t kt) ?_
    refine own_go (B := T5.setTop (mkF m 120 #[.val (.int p1), .val (.int p2), .val (.int p3), .val (.int p4), .val (.int p5), .val (.int p6), .val (.int (1 : Int32)), .val (.ref b3), .val (.int ((0 : Int32) + p1))] [(.int (1 : Int32))])) (fun t kt => ?_) ?_
    · show Steps p.tables e below (T5.setTop (mkF m 110 #[.val (.int p1), .val (.int p2), .val (.int p3), .val (.int p4), .val (.int p5), .val (.int p6), .val (.int (1 : Int32)), .val (.ref b3), .val (.int ((0 : Int32) + p1))] [(.int (own_sum [p1]))])) _
      refine XS.iload X5.here hx rfl (hb hby at_110) rfl ?_
      show Steps p.tables e below (T5.setTop (mkF m 112 #[.val (.int p1), .val (.int p2), .val (.int p3), .val (.int p4), .val (.int p5), .val (.int p6), .val (.int (1 : Int32)), .val (.ref b3), .val (.int ((0 : Int32) + p1))] [(.int ((0 : Int32) + p1)), (.int (own_sum [p1]))])) _
      refine XS.icmpNo X5.here hx rfl (hb hby at_112) rfl (teq rfl).2 ?_
      show Steps p.tables e below (T5.setTop (mkF m 115 #[.val (.int p1), .val (.int p2), .val (.int p3), .val (.int p4), .val (.int p5), .val (.int p6), .val (.int (1 : Int32)), .val (.ref b3), .val (.int ((0 : Int32) + p1))] [])) _
      refine XS.iconst X5.here hx rfl (hb hby at_115) ?_
      show Steps p.tables e below (T5.setTop (mkF m 116 #[.val (.int p1), .val (.int p2), .val (.int p3), .val (.int p4), .val (.int p5), .val (.int p6), .val (.int (1 : Int32)), .val (.ref b3), .val (.int ((0 : Int32) + p1))] [(.int (1 : Int32))])) _
      refine XS.goto X5.here hx rfl (pc0 := 116) (pc' := 120) rfl (hb hby at_116) (by decide) (by decide) ?_
      exact kt
    obtain ⟨fs, hr, hrun, hended, hW, hsame⟩ := X5.leave (v := some (.int (1 : Int32))) (fun h => by rw [Bd.returns] at h; cases h)
    refine ⟨_, _, ?_, hrun, hended, _, _, rfl, ?_, ⟨_, rfl⟩, hW, hsame.mono (by decide) (by decide)⟩
    · show Steps p.tables e below (T5.setTop (mkF m 120 #[.val (.int p1), .val (.int p2), .val (.int p3), .val (.int p4), .val (.int p5), .val (.int p6), .val (.int (1 : Int32)), .val (.ref b3), .val (.int ((0 : Int32) + p1))] [(.int (1 : Int32))])) _
      exact retN X5 hx (t := .boolean) Bd.returns (by simp) (hb hby at_120) hr
    · show Q0 Z p1 p2 p3 p4 p5 p6 h0 n0 _ T5.heap _
      rw [e5]
      exact ⟨rfl, N5⟩
  · rw [hk]
    refine own_go (B := s₁.setTop (mkF m 12 #[.val (.int p1), .val (.int p2), .val (.int p3), .val (.int p4), .val (.int p5), .val (.int p6), .val (.int (2 : Int32)), .unset, .unset] [(.int (2 : Int32))])) (fun t kt => ?_) ?_
    · show Steps p.tables e below (s₁.setTop (mkF m 8 #[.val (.int p1), .val (.int p2), .val (.int p3), .val (.int p4), .val (.int p5), .val (.int p6), .unset, .unset, .unset] [(.int (2 : Int32))])) _
      refine XS.istore X0.here hx rfl (hb hby at_8) rfl (l' := #[.val (.int p1), .val (.int p2), .val (.int p3), .val (.int p4), .val (.int p5), .val (.int p6), .val (.int (2 : Int32)), .unset, .unset]) rfl ?_
      show Steps p.tables e below (s₁.setTop (mkF m 10 #[.val (.int p1), .val (.int p2), .val (.int p3), .val (.int p4), .val (.int p5), .val (.int p6), .val (.int (2 : Int32)), .unset, .unset] [])) _
      refine XS.iload X0.here hx rfl (hb hby at_10) rfl ?_
      exact kt
    obtain ⟨T6, h6, k6, X6, e6, E6, A6, st6⟩ := newP X0 hx hZ (hw _ (List.mem_of_getElem? (i := 1) rfl)) e0 (g := (mkF m 12 #[.val (.int p1), .val (.int p2), .val (.int p3), .val (.int p4), .val (.int p5), .val (.int p6), .val (.int (2 : Int32)), .unset, .unset] [(.int (2 : Int32))])) rfl (hb hby at_12) rfl (by decide) (cap := 2) (by decide) (by decide) (by decide) (by decide)
    obtain ⟨b6, g6⟩ : ∃ z, z = h0.size := ⟨_, rfl⟩
    rw [← g6] at A6 st6
    refine own_go (B := T6.setTop (mkF m 14 #[.val (.int p1), .val (.int p2), .val (.int p3), .val (.int p4), .val (.int p5), .val (.int p6), .val (.int (2 : Int32)), .unset, .unset] [(.ref b6)])) (fun t kt => st6 t kt) ?_
    have gb : n0 ≤ b6 := Nat.le_trans Z0 (Nat.le_of_eq g6.symm)
    have Z1 : n0 ≤ h6.size := Nat.le_trans Z0 E6.1
    have V0 : Arv Z h6 b6 k6 .int (2 : Int32) [(.int (0 : Int32)), (.int (0 : Int32))] (.int (0 : Int32)) := (Arv.new A6 (by decide)).pad (pad_rep [] (.int (0 : Int32)) 2)
    refine own_go (B := T6.setTop (mkF m 28 #[.val (.int p1), .val (.int p2), .val (.int p3), .val (.int p4), .val (.int p5), .val (.int p6), .val (.int (2 : Int32)), .val (.ref b6), .val (.int (0 : Int32))] [(.int p1), (.int (0 : Int32)), (.ref b6)])) (fun t kt => ?_) ?_
    · show Steps p.tables e below (T6.setTop (mkF m 14 #[.val (.int p1), .val (.int p2), .val (.int p3), .val (.int p4), .val (.int p5), .val (.int p6), .val (.int (2 : Int32)), .unset, .unset] [(.ref b6)])) _
      refine XS.astore X6.here hx rfl (hb hby at_14) rfl rfl (l' := #[.val (.int p1), .val (.int p2), .val (.int p3), .val (.int p4), .val (.int p5), .val (.int p6), .val (.int (2 : Int32)), .val (.ref b6), .unset]) rfl ?_
      show Steps p.tables e below (T6.setTop (mkF m 16 #[.val (.int p1), .val (.int p2), .val (.int p3), .val (.int p4), .val (.int p5), .val (.int p6), .val (.int (2 : Int32)), .val (.ref b6), .unset] [])) _
      refine XS.iconst X6.here hx rfl (hb hby at_16) ?_
      show Steps p.tables e below (T6.setTop (mkF m 17 #[.val (.int p1), .val (.int p2), .val (.int p3), .val (.int p4), .val (.int p5), .val (.int p6), .val (.int (2 : Int32)), .val (.ref b6), .unset] [(.int (0 : Int32))])) _
      refine XS.istore X6.here hx rfl (hb hby at_17) rfl (l' := #[.val (.int p1), .val (.int p2), .val (.int p3), .val (.int p4), .val (.int p5), .val (.int p6), .val (.int (2 : Int32)), .val (.ref b6), .val (.int (0 : Int32))]) rfl ?_
      show Steps p.tables e below (T6.setTop (mkF m 19 #[.val (.int p1), .val (.int p2), .val (.int p3), .val (.int p4), .val (.int p5), .val (.int p6), .val (.int (2 : Int32)), .val (.ref b6), .val (.int (0 : Int32))] [])) _
      refine XS.iload X6.here hx rfl (hb hby at_19) rfl ?_
      show Steps p.tables e below (T6.setTop (mkF m 21 #[.val (.int p1), .val (.int p2), .val (.int p3), .val (.int p4), .val (.int p5), .val (.int p6), .val (.int (2 : Int32)), .val (.ref b6), .val (.int (0 : Int32))] [(.int (2 : Int32))])) _
      refine XS.ifNo X6.here hx rfl (hb hby at_21) rfl ((if0 _ _).trans (tlt (by decide)).2.2.2) ?_
      show Steps p.tables e below (T6.setTop (mkF m 24 #[.val (.int p1), .val (.int p2), .val (.int p3), .val (.int p4), .val (.int p5), .val (.int p6), .val (.int (2 : Int32)), .val (.ref b6), .val (.int (0 : Int32))] [])) _
      refine XS.aload X6.here hx rfl (hb hby at_24) rfl rfl ?_
      show Steps p.tables e below (T6.setTop (mkF m 26 #[.val (.int p1), .val (.int p2), .val (.int p3), .val (.int p4), .val (.int p5), .val (.int p6), .val (.int (2 : Int32)), .val (.ref b6), .val (.int (0 : Int32))] [(.ref b6)])) _
      refine XS.iconst X6.here hx rfl (hb hby at_26) ?_
      show Steps p.tables e below (T6.setTop (mkF m 27 #[.val (.int p1), .val (.int p2), .val (.int p3), .val (.int p4), .val (.int p5), .val (.int p6), .val (.int (2 : Int32)), .val (.ref b6), .val (.int (0 : Int32))] [(.int (0 : Int32)), (.ref b6)])) _
      refine XS.iloadN X6.here hx rfl (hb hby at_27) rfl ?_
      exact kt
    obtain ⟨cl0, Ar0, q0, S0, M0, H0, U0⟩ := V0
    obtain ⟨T7, h7, X7, e7, W7, st7⟩ := stI X6 hx hZ e6 Ar0 (j := (0 : Int32)) (inb_of S0 ⟨by decide, by decide⟩) (g := (mkF m 28 #[.val (.int p1), .val (.int p2), .val (.int p3), .val (.int p4), .val (.int p5), .val (.int p6), .val (.int (2 : Int32)), .val (.ref b6), .val (.int (0 : Int32))] [(.int p1), (.int (0 : Int32)), (.ref b6)])) rfl rfl (hb hby at_28)
    have N7 := Fr.snoc X7 N0 gb
    refine own_go (B := T7.setTop (mkF m 29 #[.val (.int p1), .val (.int p2), .val (.int p3), .val (.int p4), .val (.int p5), .val (.int p6), .val (.int (2 : Int32)), .val (.ref b6), .val (.int (0 : Int32))] [])) (fun t kt => st7 t kt) ?_
    have V1 : Arv Z h7 b6 k6 .int (2 : Int32) [(.int p1), (.int (0 : Int32))] (.int (0 : Int32)) := Arv.set Ar0 q0 S0 M0 H0 U0 rfl W7 0 rfl (Nat.le_of_ble_eq_true rfl)
    have Z2 : n0 ≤ h7.size := Nat.le_trans Z1 (Keep.of_wr W7).1
    refine own_go (B := T7.setTop (mkF m 45 #[.val (.int p1), .val (.int p2), .val (.int p3), .val (.int p4), .val (.int p5), .val (.int p6), .val (.int (2 : Int32)), .val (.ref b6), .val (.int ((0 : Int32) + p1))] [(.int p2), (.int (1 : Int32)), (.ref b6)])) (fun t kt => ?_) ?_
    · show Steps p.tables e below (T7.setTop (mkF m 29 #[.val (.int p1), .val (.int p2), .val (.int p3), .val (.int p4), .val (.int p5), .val (.int p6), .val (.int (2 : Int32)), .val (.ref b6), .val (.int (0 : Int32))] [])) _
      refine XS.iload X7.here hx rfl (hb hby at_29) rfl ?_
      show Steps p.tables e below (T7.setTop (mkF m 31 #[.val (.int p1), .val (.int p2), .val (.int p3), .val (.int p4), .val (.int p5), .val (.int p6), .val (.int (2 : Int32)), .val (.ref b6), .val (.int (0 : Int32))] [(.int (0 : Int32))])) _
      refine XS.iloadN X7.here hx rfl (hb hby at_31) rfl ?_
      show Steps p.tables e below (T7.setTop (mkF m 32 #[.val (.int p1), .val (.int p2), .val (.int p3), .val (.int p4), .val (.int p5), .val (.int p6), .val (.int (2 : Int32)), .val (.ref b6), .val (.int (0 : Int32))] [(.int p1), (.int (0 : Int32))])) _
      refine XS.iadd X7.here hx rfl (hb hby at_32) rfl ?_
      show Steps p.tables e below (T7.setTop (mkF m 33 #[.val (.int p1), .val (.int p2), .val (.int p3), .val (.int p4), .val (.int p5), .val (.int p6), .val (.int (2 : Int32)), .val (.ref b6), .val (.int (0 : Int32))] [(.int ((0 : Int32) + p1))])) _
      refine XS.istore X7.here hx rfl (hb hby at_33) rfl (l' := #[.val (.int p1), .val (.int p2), .val (.int p3), .val (.int p4), .val (.int p5), .val (.int p6), .val (.int (2 : Int32)), .val (.ref b6), .val (.int ((0 : Int32) + p1))]) rfl ?_
      show Steps p.tables e below (T7.setTop (mkF m 35 #[.val (.int p1), .val (.int p2), .val (.int p3), .val (.int p4), .val (.int p5), .val (.int p6), .val (.int (2 : Int32)), .val (.ref b6), .val (.int ((0 : Int32) + p1))] [])) _
      refine XS.iload X7.here hx rfl (hb hby at_35) rfl ?_
      show Steps p.tables e below (T7.setTop (mkF m 37 #[.val (.int p1), .val (.int p2), .val (.int p3), .val (.int p4), .val (.int p5), .val (.int p6), .val (.int (2 : Int32)), .val (.ref b6), .val (.int ((0 : Int32) + p1))] [(.int (2 : Int32))])) _
      refine XS.iconst X7.here hx rfl (hb hby at_37) ?_
      show Steps p.tables e below (T7.setTop (mkF m 38 #[.val (.int p1), .val (.int p2), .val (.int p3), .val (.int p4), .val (.int p5), .val (.int p6), .val (.int (2 : Int32)), .val (.ref b6), .val (.int ((0 : Int32) + p1))] [(.int (1 : Int32)), (.int (2 : Int32))])) _
      refine XS.icmpNo X7.here hx rfl (hb hby at_38) rfl (tlt (by decide)).2.2.2 ?_
      show Steps p.tables e below (T7.setTop (mkF m 41 #[.val (.int p1), .val (.int p2), .val (.int p3), .val (.int p4), .val (.int p5), .val (.int p6), .val (.int (2 : Int32)), .val (.ref b6), .val (.int ((0 : Int32) + p1))] [])) _
      refine XS.aload X7.here hx rfl (hb hby at_41) rfl rfl ?_
      show Steps p.tables e below (T7.setTop (mkF m 43 #[.val (.int p1), .val (.int p2), .val (.int p3), .val (.int p4), .val (.int p5), .val (.int p6), .val (.int (2 : Int32)), .val (.ref b6), .val (.int ((0 : Int32) + p1))] [(.ref b6)])) _
      refine XS.iconst X7.here hx rfl (hb hby at_43) ?_
      show Steps p.tables e below (T7.setTop (mkF m 44 #[.val (.int p1), .val (.int p2), .val (.int p3), .val (.int p4), .val (.int p5), .val (.int p6), .val (.int (2 : Int32)), .val (.ref b6), .val (.int ((0 : Int32) + p1))] [(.int (1 : Int32)), (.ref b6)])) _
      refine XS.iloadN X7.here hx rfl (hb hby at_44) rfl ?_
      exact kt
    obtain ⟨cl1, Ar1, q1, S1, M1, H1, U1⟩ := V1
    obtain ⟨T8, h8, X8, e8, W8, st8⟩ := stI X7 hx hZ e7 Ar1 (j := (1 : Int32)) (inb_of S1 ⟨by decide, by decide⟩) (g := (mkF m 45 #[.val (.int p1), .val (.int p2), .val (.int p3), .val (.int p4), .val (.int p5), .val (.int p6), .val (.int (2 : Int32)), .val (.ref b6), .val (.int ((0 : Int32) + p1))] [(.int p2), (.int (1 : Int32)), (.ref b6)])) rfl rfl (hb hby at_45)
    have N8 := Fr.snoc X8 N7 gb
    refine own_go (B := T8.setTop (mkF m 46 #[.val (.int p1), .val (.int p2), .val (.int p3), .val (.int p4), .val (.int p5), .val (.int p6), .val (.int (2 : Int32)), .val (.ref b6), .val (.int ((0 : Int32) + p1))] [])) (fun t kt => st8 t kt) ?_
    have V2 : Arv Z h8 b6 k6 .int (2 : Int32) [(.int p1), (.int p2)] (.int (0 : Int32)) := Arv.set Ar1 q1 S1 M1 H1 U1 rfl W8 1 rfl (Nat.le_of_ble_eq_true rfl)
    have Z3 : n0 ≤ h8.size := Nat.le_trans Z2 (Keep.of_wr W8).1
    refine own_go (B := T8.setTop (mkF m 107 #[.val (.int p1), .val (.int p2), .val (.int p3), .val (.int p4), .val (.int p5), .val (.int p6), .val (.int (2 : Int32)), .val (.ref b6), .val (.int (((0 : Int32) + p1) + p2))] [(.ref b6)])) (fun t kt => ?_) ?_
    · show Steps p.tables e below (T8.setTop (mkF m 46 #[.val (.int p1), .val (.int p2), .val (.int p3), .val (.int p4), .val (.int p5), .val (.int p6), .val (.int (2 : Int32)), .val (.ref b6), .val (.int ((0 : Int32) + p1))] [])) _
      refine XS.iload X8.here hx rfl (hb hby at_46) rfl ?_
      show Steps p.tables e below (T8.setTop (mkF m 48 #[.val (.int p1), .val (.int p2), .val (.int p3), .val (.int p4), .val (.int p5), .val (.int p6), .val (.int (2 : Int32)), .val (.ref b6), .val (.int ((0 : Int32) + p1))] [(.int ((0 : Int32) + p1))])) _
      refine XS.iloadN X8.here hx rfl (hb hby at_48) rfl ?_
      show Steps p.tables e below (T8.setTop (mkF m 49 #[.val (.int p1), .val (.int p2), .val (.int p3), .val (.int p4), .val (.int p5), .val (.int p6), .val (.int (2 : Int32)), .val (.ref b6), .val (.int ((0 : Int32) + p1))] [(.int p2), (.int ((0 : Int32) + p1))])) _
      refine XS.iadd X8.here hx rfl (hb hby at_49) rfl ?_
      show Steps p.tables e below (T8.setTop (mkF m 50 #[.val (.int p1), .val (.int p2), .val (.int p3), .val (.int p4), .val (.int p5), .val (.int p6), .val (.int (2 : Int32)), .val (.ref b6), .val (.int ((0 : Int32) + p1))] [(.int (((0 : Int32) + p1) + p2))])) _
      refine XS.istore X8.here hx rfl (hb hby at_50) rfl (l' := #[.val (.int p1), .val (.int p2), .val (.int p3), .val (.int p4), .val (.int p5), .val (.int p6), .val (.int (2 : Int32)), .val (.ref b6), .val (.int (((0 : Int32) + p1) + p2))]) rfl ?_
      show Steps p.tables e below (T8.setTop (mkF m 52 #[.val (.int p1), .val (.int p2), .val (.int p3), .val (.int p4), .val (.int p5), .val (.int p6), .val (.int (2 : Int32)), .val (.ref b6), .val (.int (((0 : Int32) + p1) + p2))] [])) _
      refine XS.iload X8.here hx rfl (hb hby at_52) rfl ?_
      show Steps p.tables e below (T8.setTop (mkF m 54 #[.val (.int p1), .val (.int p2), .val (.int p3), .val (.int p4), .val (.int p5), .val (.int p6), .val (.int (2 : Int32)), .val (.ref b6), .val (.int (((0 : Int32) + p1) + p2))] [(.int (2 : Int32))])) _
      refine XS.iconst X8.here hx rfl (hb hby at_54) ?_
      show Steps p.tables e below (T8.setTop (mkF m 55 #[.val (.int p1), .val (.int p2), .val (.int p3), .val (.int p4), .val (.int p5), .val (.int p6), .val (.int (2 : Int32)), .val (.ref b6), .val (.int (((0 : Int32) + p1) + p2))] [(.int (2 : Int32)), (.int (2 : Int32))])) _
      refine XS.icmpYes X8.here hx rfl (pc0 := 55) (pc' := 69) rfl (hb hby at_55) rfl (flt (by decide)).2.2.2 (by decide) (by decide) ?_
      show Steps p.tables e below (T8.setTop (mkF m 69 #[.val (.int p1), .val (.int p2), .val (.int p3), .val (.int p4), .val (.int p5), .val (.int p6), .val (.int (2 : Int32)), .val (.ref b6), .val (.int (((0 : Int32) + p1) + p2))] [])) _
      refine XS.iload X8.here hx rfl (hb hby at_69) rfl ?_
      show Steps p.tables e below (T8.setTop (mkF m 71 #[.val (.int p1), .val (.int p2), .val (.int p3), .val (.int p4), .val (.int p5), .val (.int p6), .val (.int (2 : Int32)), .val (.ref b6), .val (.int (((0 : Int32) + p1) + p2))] [(.int (2 : Int32))])) _
      refine XS.iconst X8.here hx rfl (hb hby at_71) ?_
      show Steps p.tables e below (T8.setTop (mkF m 72 #[.val (.int p1), .val (.int p2), .val (.int p3), .val (.int p4), .val (.int p5), .val (.int p6), .val (.int (2 : Int32)), .val (.ref b6), .val (.int (((0 : Int32) + p1) + p2))] [(.int (3 : Int32)), (.int (2 : Int32))])) _
      refine XS.icmpYes X8.here hx rfl (pc0 := 72) (pc' := 86) rfl (hb hby at_72) rfl (flt (by decide)).2.2.2 (by decide) (by decide) ?_
      show Steps p.tables e below (T8.setTop (mkF m 86 #[.val (.int p1), .val (.int p2), .val (.int p3), .val (.int p4), .val (.int p5), .val (.int p6), .val (.int (2 : Int32)), .val (.ref b6), .val (.int (((0 : Int32) + p1) + p2))] [])) _
      refine XS.iload X8.here hx rfl (hb hby at_86) rfl ?_
      show Steps p.tables e below (T8.setTop (mkF m 88 #[.val (.int p1), .val (.int p2), .val (.int p3), .val (.int p4), .val (.int p5), .val (.int p6), .val (.int (2 : Int32)), .val (.ref b6), .val (.int (((0 : Int32) + p1) + p2))] [(.int (2 : Int32))])) _
      refine XS.iconst X8.here hx rfl (hb hby at_88) ?_
      show Steps p.tables e below (T8.setTop (mkF m 89 #[.val (.int p1), .val (.int p2), .val (.int p3), .val (.int p4), .val (.int p5), .val (.int p6), .val (.int (2 : Int32)), .val (.ref b6), .val (.int (((0 : Int32) + p1) + p2))] [(.int (4 : Int32)), (.int (2 : Int32))])) _
      refine XS.icmpYes X8.here hx rfl (pc0 := 89) (pc' := 105) rfl (hb hby at_89) rfl (flt (by decide)).2.2.2 (by decide) (by decide) ?_
      show Steps p.tables e below (T8.setTop (mkF m 105 #[.val (.int p1), .val (.int p2), .val (.int p3), .val (.int p4), .val (.int p5), .val (.int p6), .val (.int (2 : Int32)), .val (.ref b6), .val (.int (((0 : Int32) + p1) + p2))] [])) _
      refine XS.aload X8.here hx rfl (hb hby at_105) rfl rfl ?_
      exact kt
    obtain ⟨_, _, ⟨T9, L9, k9, n9⟩, -, X9, ⟨Lc9, hQ9, l9, y9, z9⟩, st9⟩ := Jvm.LawKit.callS X8 hx (y := (⟨"org/fairgate/cli/Inside", "all", "([I)I"⟩ : MethodName)) hown (mvT hZ (hw _ (List.mem_of_getElem? (i := 2) rfl))) (mvT hZ (hw _ (List.mem_of_getElem? (i := 3) rfl))) (mvT hZ (hw _ (List.mem_of_getElem? (i := 4) rfl))) (mvT hZ (hw _ (List.mem_of_getElem? (i := 5) rfl))) (by decide) (backOf (W := 0) (rm1 l Z a0 hw [] b6 k6 [p1, p2] h8 n0 Z3 (Nat.le_of_ble_eq_true rfl) V2) hZ (hw _ (List.mem_of_getElem? (i := 5) rfl)) (hw _ (List.mem_of_getElem? (i := 4) rfl)) (by decide) (by decide)) (g := (mkF m 107 #[.val (.int p1), .val (.int p2), .val (.int p3), .val (.int p4), .val (.int p5), .val (.int p6), .val (.int (2 : Int32)), .val (.ref b6), .val (.int (((0 : Int32) + p1) + p2))] [(.ref b6)])) rfl (by rw [hml]; rfl) (argsL := [(.ref b6)]) (rest := []) (lenOf pd_0 rfl) rfl (by show 2 * 0 + _ ≤ _; exact Nat.le_of_eq rfl) (hb hby at_107) (fun _ _ => ⟨rfl, e8, (by decide : (0 + 1) + 0 ≤ _), (by decide : (0 + 2) + 0 ≤ _)⟩)
    dsimp only [Pt.U, Pt.locs, Pt.cells, Pt.slots] at X9 l9 y9 z9 st9 hQ9
    subst l9 y9 z9
    obtain ⟨rfl, N9q, e9⟩ := hQ9
    have N9 := Fr.app N8 N9q
    refine own_go (B := T9.setTop (mkF m 110 #[.val (.int p1), .val (.int p2), .val (.int p3), .val (.int p4), .val (.int p5), .val (.int p6), .val (.int (2 : Int32)), .val (.ref b6), .val (.int (((0 : Int32) + p1) + p2))] [(.int (own_sum [p1, p2]))])) (fun t kt => st9 t kt) ?_
    refine own_go (B := T9.setTop (mkF m 120 #[.val (.int p1), .val (.int p2), .val (.int p3), .val (.int p4), .val (.int p5), .val (.int p6), .val (.int (2 : Int32)), .val (.ref b6), .val (.int (((0 : Int32) + p1) + p2))] [(.int (1 : Int32))])) (fun t kt => ?_) ?_
    · show Steps p.tables e below (T9.setTop (mkF m 110 #[.val (.int p1), .val (.int p2), .val (.int p3), .val (.int p4), .val (.int p5), .val (.int p6), .val (.int (2 : Int32)), .val (.ref b6), .val (.int (((0 : Int32) + p1) + p2))] [(.int (own_sum [p1, p2]))])) _
      refine XS.iload X9.here hx rfl (hb hby at_110) rfl ?_
      show Steps p.tables e below (T9.setTop (mkF m 112 #[.val (.int p1), .val (.int p2), .val (.int p3), .val (.int p4), .val (.int p5), .val (.int p6), .val (.int (2 : Int32)), .val (.ref b6), .val (.int (((0 : Int32) + p1) + p2))] [(.int (((0 : Int32) + p1) + p2)), (.int (own_sum [p1, p2]))])) _
      refine XS.icmpNo X9.here hx rfl (hb hby at_112) rfl (teq rfl).2 ?_
      show Steps p.tables e below (T9.setTop (mkF m 115 #[.val (.int p1), .val (.int p2), .val (.int p3), .val (.int p4), .val (.int p5), .val (.int p6), .val (.int (2 : Int32)), .val (.ref b6), .val (.int (((0 : Int32) + p1) + p2))] [])) _
      refine XS.iconst X9.here hx rfl (hb hby at_115) ?_
      show Steps p.tables e below (T9.setTop (mkF m 116 #[.val (.int p1), .val (.int p2), .val (.int p3), .val (.int p4), .val (.int p5), .val (.int p6), .val (.int (2 : Int32)), .val (.ref b6), .val (.int (((0 : Int32) + p1) + p2))] [(.int (1 : Int32))])) _
      refine XS.goto X9.here hx rfl (pc0 := 116) (pc' := 120) rfl (hb hby at_116) (by decide) (by decide) ?_
      exact kt
    obtain ⟨fs, hr, hrun, hended, hW, hsame⟩ := X9.leave (v := some (.int (1 : Int32))) (fun h => by rw [Bd.returns] at h; cases h)
    refine ⟨_, _, ?_, hrun, hended, _, _, rfl, ?_, ⟨_, rfl⟩, hW, hsame.mono (by decide) (by decide)⟩
    · show Steps p.tables e below (T9.setTop (mkF m 120 #[.val (.int p1), .val (.int p2), .val (.int p3), .val (.int p4), .val (.int p5), .val (.int p6), .val (.int (2 : Int32)), .val (.ref b6), .val (.int (((0 : Int32) + p1) + p2))] [(.int (1 : Int32))])) _
      exact retN X9 hx (t := .boolean) Bd.returns (by simp) (hb hby at_120) hr
    · show Q0 Z p1 p2 p3 p4 p5 p6 h0 n0 _ T9.heap _
      rw [e9]
      exact ⟨rfl, N9⟩
  · rw [hk]
    refine own_go (B := s₁.setTop (mkF m 12 #[.val (.int p1), .val (.int p2), .val (.int p3), .val (.int p4), .val (.int p5), .val (.int p6), .val (.int (3 : Int32)), .unset, .unset] [(.int (3 : Int32))])) (fun t kt => ?_) ?_
    · show Steps p.tables e below (s₁.setTop (mkF m 8 #[.val (.int p1), .val (.int p2), .val (.int p3), .val (.int p4), .val (.int p5), .val (.int p6), .unset, .unset, .unset] [(.int (3 : Int32))])) _
      refine XS.istore X0.here hx rfl (hb hby at_8) rfl (l' := #[.val (.int p1), .val (.int p2), .val (.int p3), .val (.int p4), .val (.int p5), .val (.int p6), .val (.int (3 : Int32)), .unset, .unset]) rfl ?_
      show Steps p.tables e below (s₁.setTop (mkF m 10 #[.val (.int p1), .val (.int p2), .val (.int p3), .val (.int p4), .val (.int p5), .val (.int p6), .val (.int (3 : Int32)), .unset, .unset] [])) _
      refine XS.iload X0.here hx rfl (hb hby at_10) rfl ?_
      exact kt
    obtain ⟨T10, h10, k10, X10, e10, E10, A10, st10⟩ := newP X0 hx hZ (hw _ (List.mem_of_getElem? (i := 1) rfl)) e0 (g := (mkF m 12 #[.val (.int p1), .val (.int p2), .val (.int p3), .val (.int p4), .val (.int p5), .val (.int p6), .val (.int (3 : Int32)), .unset, .unset] [(.int (3 : Int32))])) rfl (hb hby at_12) rfl (by decide) (cap := 3) (by decide) (by decide) (by decide) (by decide)
    obtain ⟨b10, g10⟩ : ∃ z, z = h0.size := ⟨_, rfl⟩
    rw [← g10] at A10 st10
    refine own_go (B := T10.setTop (mkF m 14 #[.val (.int p1), .val (.int p2), .val (.int p3), .val (.int p4), .val (.int p5), .val (.int p6), .val (.int (3 : Int32)), .unset, .unset] [(.ref b10)])) (fun t kt => st10 t kt) ?_
    have gb : n0 ≤ b10 := Nat.le_trans Z0 (Nat.le_of_eq g10.symm)
    have Z1 : n0 ≤ h10.size := Nat.le_trans Z0 E10.1
    have V0 : Arv Z h10 b10 k10 .int (3 : Int32) [(.int (0 : Int32)), (.int (0 : Int32)), (.int (0 : Int32))] (.int (0 : Int32)) := (Arv.new A10 (by decide)).pad (pad_rep [] (.int (0 : Int32)) 3)
    refine own_go (B := T10.setTop (mkF m 28 #[.val (.int p1), .val (.int p2), .val (.int p3), .val (.int p4), .val (.int p5), .val (.int p6), .val (.int (3 : Int32)), .val (.ref b10), .val (.int (0 : Int32))] [(.int p1), (.int (0 : Int32)), (.ref b10)])) (fun t kt => ?_) ?_
    · show Steps p.tables e below (T10.setTop (mkF m 14 #[.val (.int p1), .val (.int p2), .val (.int p3), .val (.int p4), .val (.int p5), .val (.int p6), .val (.int (3 : Int32)), .unset, .unset] [(.ref b10)])) _
      refine XS.astore X10.here hx rfl (hb hby at_14) rfl rfl (l' := #[.val (.int p1), .val (.int p2), .val (.int p3), .val (.int p4), .val (.int p5), .val (.int p6), .val (.int (3 : Int32)), .val (.ref b10), .unset]) rfl ?_
      show Steps p.tables e below (T10.setTop (mkF m 16 #[.val (.int p1), .val (.int p2), .val (.int p3), .val (.int p4), .val (.int p5), .val (.int p6), .val (.int (3 : Int32)), .val (.ref b10), .unset] [])) _
      refine XS.iconst X10.here hx rfl (hb hby at_16) ?_
      show Steps p.tables e below (T10.setTop (mkF m 17 #[.val (.int p1), .val (.int p2), .val (.int p3), .val (.int p4), .val (.int p5), .val (.int p6), .val (.int (3 : Int32)), .val (.ref b10), .unset] [(.int (0 : Int32))])) _
      refine XS.istore X10.here hx rfl (hb hby at_17) rfl (l' := #[.val (.int p1), .val (.int p2), .val (.int p3), .val (.int p4), .val (.int p5), .val (.int p6), .val (.int (3 : Int32)), .val (.ref b10), .val (.int (0 : Int32))]) rfl ?_
      show Steps p.tables e below (T10.setTop (mkF m 19 #[.val (.int p1), .val (.int p2), .val (.int p3), .val (.int p4), .val (.int p5), .val (.int p6), .val (.int (3 : Int32)), .val (.ref b10), .val (.int (0 : Int32))] [])) _
      refine XS.iload X10.here hx rfl (hb hby at_19) rfl ?_
      show Steps p.tables e below (T10.setTop (mkF m 21 #[.val (.int p1), .val (.int p2), .val (.int p3), .val (.int p4), .val (.int p5), .val (.int p6), .val (.int (3 : Int32)), .val (.ref b10), .val (.int (0 : Int32))] [(.int (3 : Int32))])) _
      refine XS.ifNo X10.here hx rfl (hb hby at_21) rfl ((if0 _ _).trans (tlt (by decide)).2.2.2) ?_
      show Steps p.tables e below (T10.setTop (mkF m 24 #[.val (.int p1), .val (.int p2), .val (.int p3), .val (.int p4), .val (.int p5), .val (.int p6), .val (.int (3 : Int32)), .val (.ref b10), .val (.int (0 : Int32))] [])) _
      refine XS.aload X10.here hx rfl (hb hby at_24) rfl rfl ?_
      show Steps p.tables e below (T10.setTop (mkF m 26 #[.val (.int p1), .val (.int p2), .val (.int p3), .val (.int p4), .val (.int p5), .val (.int p6), .val (.int (3 : Int32)), .val (.ref b10), .val (.int (0 : Int32))] [(.ref b10)])) _
      refine XS.iconst X10.here hx rfl (hb hby at_26) ?_
      show Steps p.tables e below (T10.setTop (mkF m 27 #[.val (.int p1), .val (.int p2), .val (.int p3), .val (.int p4), .val (.int p5), .val (.int p6), .val (.int (3 : Int32)), .val (.ref b10), .val (.int (0 : Int32))] [(.int (0 : Int32)), (.ref b10)])) _
      refine XS.iloadN X10.here hx rfl (hb hby at_27) rfl ?_
      exact kt
    obtain ⟨cl0, Ar0, q0, S0, M0, H0, U0⟩ := V0
    obtain ⟨T11, h11, X11, e11, W11, st11⟩ := stI X10 hx hZ e10 Ar0 (j := (0 : Int32)) (inb_of S0 ⟨by decide, by decide⟩) (g := (mkF m 28 #[.val (.int p1), .val (.int p2), .val (.int p3), .val (.int p4), .val (.int p5), .val (.int p6), .val (.int (3 : Int32)), .val (.ref b10), .val (.int (0 : Int32))] [(.int p1), (.int (0 : Int32)), (.ref b10)])) rfl rfl (hb hby at_28)
    have N11 := Fr.snoc X11 N0 gb
    refine own_go (B := T11.setTop (mkF m 29 #[.val (.int p1), .val (.int p2), .val (.int p3), .val (.int p4), .val (.int p5), .val (.int p6), .val (.int (3 : Int32)), .val (.ref b10), .val (.int (0 : Int32))] [])) (fun t kt => st11 t kt) ?_
    have V1 : Arv Z h11 b10 k10 .int (3 : Int32) [(.int p1), (.int (0 : Int32)), (.int (0 : Int32))] (.int (0 : Int32)) := Arv.set Ar0 q0 S0 M0 H0 U0 rfl W11 0 rfl (Nat.le_of_ble_eq_true rfl)
    have Z2 : n0 ≤ h11.size := Nat.le_trans Z1 (Keep.of_wr W11).1
    refine own_go (B := T11.setTop (mkF m 45 #[.val (.int p1), .val (.int p2), .val (.int p3), .val (.int p4), .val (.int p5), .val (.int p6), .val (.int (3 : Int32)), .val (.ref b10), .val (.int ((0 : Int32) + p1))] [(.int p2), (.int (1 : Int32)), (.ref b10)])) (fun t kt => ?_) ?_
    · show Steps p.tables e below (T11.setTop (mkF m 29 #[.val (.int p1), .val (.int p2), .val (.int p3), .val (.int p4), .val (.int p5), .val (.int p6), .val (.int (3 : Int32)), .val (.ref b10), .val (.int (0 : Int32))] [])) _
      refine XS.iload X11.here hx rfl (hb hby at_29) rfl ?_
      show Steps p.tables e below (T11.setTop (mkF m 31 #[.val (.int p1), .val (.int p2), .val (.int p3), .val (.int p4), .val (.int p5), .val (.int p6), .val (.int (3 : Int32)), .val (.ref b10), .val (.int (0 : Int32))] [(.int (0 : Int32))])) _
      refine XS.iloadN X11.here hx rfl (hb hby at_31) rfl ?_
      show Steps p.tables e below (T11.setTop (mkF m 32 #[.val (.int p1), .val (.int p2), .val (.int p3), .val (.int p4), .val (.int p5), .val (.int p6), .val (.int (3 : Int32)), .val (.ref b10), .val (.int (0 : Int32))] [(.int p1), (.int (0 : Int32))])) _
      refine XS.iadd X11.here hx rfl (hb hby at_32) rfl ?_
      show Steps p.tables e below (T11.setTop (mkF m 33 #[.val (.int p1), .val (.int p2), .val (.int p3), .val (.int p4), .val (.int p5), .val (.int p6), .val (.int (3 : Int32)), .val (.ref b10), .val (.int (0 : Int32))] [(.int ((0 : Int32) + p1))])) _
      refine XS.istore X11.here hx rfl (hb hby at_33) rfl (l' := #[.val (.int p1), .val (.int p2), .val (.int p3), .val (.int p4), .val (.int p5), .val (.int p6), .val (.int (3 : Int32)), .val (.ref b10), .val (.int ((0 : Int32) + p1))]) rfl ?_
      show Steps p.tables e below (T11.setTop (mkF m 35 #[.val (.int p1), .val (.int p2), .val (.int p3), .val (.int p4), .val (.int p5), .val (.int p6), .val (.int (3 : Int32)), .val (.ref b10), .val (.int ((0 : Int32) + p1))] [])) _
      refine XS.iload X11.here hx rfl (hb hby at_35) rfl ?_
      show Steps p.tables e below (T11.setTop (mkF m 37 #[.val (.int p1), .val (.int p2), .val (.int p3), .val (.int p4), .val (.int p5), .val (.int p6), .val (.int (3 : Int32)), .val (.ref b10), .val (.int ((0 : Int32) + p1))] [(.int (3 : Int32))])) _
      refine XS.iconst X11.here hx rfl (hb hby at_37) ?_
      show Steps p.tables e below (T11.setTop (mkF m 38 #[.val (.int p1), .val (.int p2), .val (.int p3), .val (.int p4), .val (.int p5), .val (.int p6), .val (.int (3 : Int32)), .val (.ref b10), .val (.int ((0 : Int32) + p1))] [(.int (1 : Int32)), (.int (3 : Int32))])) _
      refine XS.icmpNo X11.here hx rfl (hb hby at_38) rfl (tlt (by decide)).2.2.2 ?_
      show Steps p.tables e below (T11.setTop (mkF m 41 #[.val (.int p1), .val (.int p2), .val (.int p3), .val (.int p4), .val (.int p5), .val (.int p6), .val (.int (3 : Int32)), .val (.ref b10), .val (.int ((0 : Int32) + p1))] [])) _
      refine XS.aload X11.here hx rfl (hb hby at_41) rfl rfl ?_
      show Steps p.tables e below (T11.setTop (mkF m 43 #[.val (.int p1), .val (.int p2), .val (.int p3), .val (.int p4), .val (.int p5), .val (.int p6), .val (.int (3 : Int32)), .val (.ref b10), .val (.int ((0 : Int32) + p1))] [(.ref b10)])) _
      refine XS.iconst X11.here hx rfl (hb hby at_43) ?_
      show Steps p.tables e below (T11.setTop (mkF m 44 #[.val (.int p1), .val (.int p2), .val (.int p3), .val (.int p4), .val (.int p5), .val (.int p6), .val (.int (3 : Int32)), .val (.ref b10), .val (.int ((0 : Int32) + p1))] [(.int (1 : Int32)), (.ref b10)])) _
      refine XS.iloadN X11.here hx rfl (hb hby at_44) rfl ?_
      exact kt
    obtain ⟨cl1, Ar1, q1, S1, M1, H1, U1⟩ := V1
    obtain ⟨T12, h12, X12, e12, W12, st12⟩ := stI X11 hx hZ e11 Ar1 (j := (1 : Int32)) (inb_of S1 ⟨by decide, by decide⟩) (g := (mkF m 45 #[.val (.int p1), .val (.int p2), .val (.int p3), .val (.int p4), .val (.int p5), .val (.int p6), .val (.int (3 : Int32)), .val (.ref b10), .val (.int ((0 : Int32) + p1))] [(.int p2), (.int (1 : Int32)), (.ref b10)])) rfl rfl (hb hby at_45)
    have N12 := Fr.snoc X12 N11 gb
    refine own_go (B := T12.setTop (mkF m 46 #[.val (.int p1), .val (.int p2), .val (.int p3), .val (.int p4), .val (.int p5), .val (.int p6), .val (.int (3 : Int32)), .val (.ref b10), .val (.int ((0 : Int32) + p1))] [])) (fun t kt => st12 t kt) ?_
    have V2 : Arv Z h12 b10 k10 .int (3 : Int32) [(.int p1), (.int p2), (.int (0 : Int32))] (.int (0 : Int32)) := Arv.set Ar1 q1 S1 M1 H1 U1 rfl W12 1 rfl (Nat.le_of_ble_eq_true rfl)
    have Z3 : n0 ≤ h12.size := Nat.le_trans Z2 (Keep.of_wr W12).1
    refine own_go (B := T12.setTop (mkF m 62 #[.val (.int p1), .val (.int p2), .val (.int p3), .val (.int p4), .val (.int p5), .val (.int p6), .val (.int (3 : Int32)), .val (.ref b10), .val (.int (((0 : Int32) + p1) + p2))] [(.int p3), (.int (2 : Int32)), (.ref b10)])) (fun t kt => ?_) ?_
    · show Steps p.tables e below (T12.setTop (mkF m 46 #[.val (.int p1), .val (.int p2), .val (.int p3), .val (.int p4), .val (.int p5), .val (.int p6), .val (.int (3 : Int32)), .val (.ref b10), .val (.int ((0 : Int32) + p1))] [])) _
      refine XS.iload X12.here hx rfl (hb hby at_46) rfl ?_
      show Steps p.tables e below (T12.setTop (mkF m 48 #[.val (.int p1), .val (.int p2), .val (.int p3), .val (.int p4), .val (.int p5), .val (.int p6), .val (.int (3 : Int32)), .val (.ref b10), .val (.int ((0 : Int32) + p1))] [(.int ((0 : Int32) + p1))])) _
      refine XS.iloadN X12.here hx rfl (hb hby at_48) rfl ?_
      show Steps p.tables e below (T12.setTop (mkF m 49 #[.val (.int p1), .val (.int p2), .val (.int p3), .val (.int p4), .val (.int p5), .val (.int p6), .val (.int (3 : Int32)), .val (.ref b10), .val (.int ((0 : Int32) + p1))] [(.int p2), (.int ((0 : Int32) + p1))])) _
      refine XS.iadd X12.here hx rfl (hb hby at_49) rfl ?_
      show Steps p.tables e below (T12.setTop (mkF m 50 #[.val (.int p1), .val (.int p2), .val (.int p3), .val (.int p4), .val (.int p5), .val (.int p6), .val (.int (3 : Int32)), .val (.ref b10), .val (.int ((0 : Int32) + p1))] [(.int (((0 : Int32) + p1) + p2))])) _
      refine XS.istore X12.here hx rfl (hb hby at_50) rfl (l' := #[.val (.int p1), .val (.int p2), .val (.int p3), .val (.int p4), .val (.int p5), .val (.int p6), .val (.int (3 : Int32)), .val (.ref b10), .val (.int (((0 : Int32) + p1) + p2))]) rfl ?_
      show Steps p.tables e below (T12.setTop (mkF m 52 #[.val (.int p1), .val (.int p2), .val (.int p3), .val (.int p4), .val (.int p5), .val (.int p6), .val (.int (3 : Int32)), .val (.ref b10), .val (.int (((0 : Int32) + p1) + p2))] [])) _
      refine XS.iload X12.here hx rfl (hb hby at_52) rfl ?_
      show Steps p.tables e below (T12.setTop (mkF m 54 #[.val (.int p1), .val (.int p2), .val (.int p3), .val (.int p4), .val (.int p5), .val (.int p6), .val (.int (3 : Int32)), .val (.ref b10), .val (.int (((0 : Int32) + p1) + p2))] [(.int (3 : Int32))])) _
      refine XS.iconst X12.here hx rfl (hb hby at_54) ?_
      show Steps p.tables e below (T12.setTop (mkF m 55 #[.val (.int p1), .val (.int p2), .val (.int p3), .val (.int p4), .val (.int p5), .val (.int p6), .val (.int (3 : Int32)), .val (.ref b10), .val (.int (((0 : Int32) + p1) + p2))] [(.int (2 : Int32)), (.int (3 : Int32))])) _
      refine XS.icmpNo X12.here hx rfl (hb hby at_55) rfl (tlt (by decide)).2.2.2 ?_
      show Steps p.tables e below (T12.setTop (mkF m 58 #[.val (.int p1), .val (.int p2), .val (.int p3), .val (.int p4), .val (.int p5), .val (.int p6), .val (.int (3 : Int32)), .val (.ref b10), .val (.int (((0 : Int32) + p1) + p2))] [])) _
      refine XS.aload X12.here hx rfl (hb hby at_58) rfl rfl ?_
      show Steps p.tables e below (T12.setTop (mkF m 60 #[.val (.int p1), .val (.int p2), .val (.int p3), .val (.int p4), .val (.int p5), .val (.int p6), .val (.int (3 : Int32)), .val (.ref b10), .val (.int (((0 : Int32) + p1) + p2))] [(.ref b10)])) _
      refine XS.iconst X12.here hx rfl (hb hby at_60) ?_
      show Steps p.tables e below (T12.setTop (mkF m 61 #[.val (.int p1), .val (.int p2), .val (.int p3), .val (.int p4), .val (.int p5), .val (.int p6), .val (.int (3 : Int32)), .val (.ref b10), .val (.int (((0 : Int32) + p1) + p2))] [(.int (2 : Int32)), (.ref b10)])) _
      refine XS.iloadN X12.here hx rfl (hb hby at_61) rfl ?_
      exact kt
    obtain ⟨cl2, Ar2, q2, S2, M2, H2, U2⟩ := V2
    obtain ⟨T13, h13, X13, e13, W13, st13⟩ := stI X12 hx hZ e12 Ar2 (j := (2 : Int32)) (inb_of S2 ⟨by decide, by decide⟩) (g := (mkF m 62 #[.val (.int p1), .val (.int p2), .val (.int p3), .val (.int p4), .val (.int p5), .val (.int p6), .val (.int (3 : Int32)), .val (.ref b10), .val (.int (((0 : Int32) + p1) + p2))] [(.int p3), (.int (2 : Int32)), (.ref b10)])) rfl rfl (hb hby at_62)
    have N13 := Fr.snoc X13 N12 gb
    refine own_go (B := T13.setTop (mkF m 63 #[.val (.int p1), .val (.int p2), .val (.int p3), .val (.int p4), .val (.int p5), .val (.int p6), .val (.int (3 : Int32)), .val (.ref b10), .val (.int (((0 : Int32) + p1) + p2))] [])) (fun t kt => st13 t kt) ?_
    have V3 : Arv Z h13 b10 k10 .int (3 : Int32) [(.int p1), (.int p2), (.int p3)] (.int (0 : Int32)) := Arv.set Ar2 q2 S2 M2 H2 U2 rfl W13 2 rfl (Nat.le_of_ble_eq_true rfl)
    have Z4 : n0 ≤ h13.size := Nat.le_trans Z3 (Keep.of_wr W13).1
    refine own_go (B := T13.setTop (mkF m 107 #[.val (.int p1), .val (.int p2), .val (.int p3), .val (.int p4), .val (.int p5), .val (.int p6), .val (.int (3 : Int32)), .val (.ref b10), .val (.int ((((0 : Int32) + p1) + p2) + p3))] [(.ref b10)])) (fun t kt => ?_) ?_
    · show Steps p.tables e below (T13.setTop (mkF m 63 #[.val (.int p1), .val (.int p2), .val (.int p3), .val (.int p4), .val (.int p5), .val (.int p6), .val (.int (3 : Int32)), .val (.ref b10), .val (.int (((0 : Int32) + p1) + p2))] [])) _
      refine XS.iload X13.here hx rfl (hb hby at_63) rfl ?_
      show Steps p.tables e below (T13.setTop (mkF m 65 #[.val (.int p1), .val (.int p2), .val (.int p3), .val (.int p4), .val (.int p5), .val (.int p6), .val (.int (3 : Int32)), .val (.ref b10), .val (.int (((0 : Int32) + p1) + p2))] [(.int (((0 : Int32) + p1) + p2))])) _
      refine XS.iloadN X13.here hx rfl (hb hby at_65) rfl ?_
      show Steps p.tables e below (T13.setTop (mkF m 66 #[.val (.int p1), .val (.int p2), .val (.int p3), .val (.int p4), .val (.int p5), .val (.int p6), .val (.int (3 : Int32)), .val (.ref b10), .val (.int (((0 : Int32) + p1) + p2))] [(.int p3), (.int (((0 : Int32) + p1) + p2))])) _
      refine XS.iadd X13.here hx rfl (hb hby at_66) rfl ?_
      show Steps p.tables e below (T13.setTop (mkF m 67 #[.val (.int p1), .val (.int p2), .val (.int p3), .val (.int p4), .val (.int p5), .val (.int p6), .val (.int (3 : Int32)), .val (.ref b10), .val (.int (((0 : Int32) + p1) + p2))] [(.int ((((0 : Int32) + p1) + p2) + p3))])) _
      refine XS.istore X13.here hx rfl (hb hby at_67) rfl (l' := #[.val (.int p1), .val (.int p2), .val (.int p3), .val (.int p4), .val (.int p5), .val (.int p6), .val (.int (3 : Int32)), .val (.ref b10), .val (.int ((((0 : Int32) + p1) + p2) + p3))]) rfl ?_
      show Steps p.tables e below (T13.setTop (mkF m 69 #[.val (.int p1), .val (.int p2), .val (.int p3), .val (.int p4), .val (.int p5), .val (.int p6), .val (.int (3 : Int32)), .val (.ref b10), .val (.int ((((0 : Int32) + p1) + p2) + p3))] [])) _
      refine XS.iload X13.here hx rfl (hb hby at_69) rfl ?_
      show Steps p.tables e below (T13.setTop (mkF m 71 #[.val (.int p1), .val (.int p2), .val (.int p3), .val (.int p4), .val (.int p5), .val (.int p6), .val (.int (3 : Int32)), .val (.ref b10), .val (.int ((((0 : Int32) + p1) + p2) + p3))] [(.int (3 : Int32))])) _
      refine XS.iconst X13.here hx rfl (hb hby at_71) ?_
      show Steps p.tables e below (T13.setTop (mkF m 72 #[.val (.int p1), .val (.int p2), .val (.int p3), .val (.int p4), .val (.int p5), .val (.int p6), .val (.int (3 : Int32)), .val (.ref b10), .val (.int ((((0 : Int32) + p1) + p2) + p3))] [(.int (3 : Int32)), (.int (3 : Int32))])) _
      refine XS.icmpYes X13.here hx rfl (pc0 := 72) (pc' := 86) rfl (hb hby at_72) rfl (flt (by decide)).2.2.2 (by decide) (by decide) ?_
      show Steps p.tables e below (T13.setTop (mkF m 86 #[.val (.int p1), .val (.int p2), .val (.int p3), .val (.int p4), .val (.int p5), .val (.int p6), .val (.int (3 : Int32)), .val (.ref b10), .val (.int ((((0 : Int32) + p1) + p2) + p3))] [])) _
      refine XS.iload X13.here hx rfl (hb hby at_86) rfl ?_
      show Steps p.tables e below (T13.setTop (mkF m 88 #[.val (.int p1), .val (.int p2), .val (.int p3), .val (.int p4), .val (.int p5), .val (.int p6), .val (.int (3 : Int32)), .val (.ref b10), .val (.int ((((0 : Int32) + p1) + p2) + p3))] [(.int (3 : Int32))])) _
      refine XS.iconst X13.here hx rfl (hb hby at_88) ?_
      show Steps p.tables e below (T13.setTop (mkF m 89 #[.val (.int p1), .val (.int p2), .val (.int p3), .val (.int p4), .val (.int p5), .val (.int p6), .val (.int (3 : Int32)), .val (.ref b10), .val (.int ((((0 : Int32) + p1) + p2) + p3))] [(.int (4 : Int32)), (.int (3 : Int32))])) _
      refine XS.icmpYes X13.here hx rfl (pc0 := 89) (pc' := 105) rfl (hb hby at_89) rfl (flt (by decide)).2.2.2 (by decide) (by decide) ?_
      show Steps p.tables e below (T13.setTop (mkF m 105 #[.val (.int p1), .val (.int p2), .val (.int p3), .val (.int p4), .val (.int p5), .val (.int p6), .val (.int (3 : Int32)), .val (.ref b10), .val (.int ((((0 : Int32) + p1) + p2) + p3))] [])) _
      refine XS.aload X13.here hx rfl (hb hby at_105) rfl rfl ?_
      exact kt
    obtain ⟨_, _, ⟨T14, L14, k14, n14⟩, -, X14, ⟨Lc14, hQ14, l14, y14, z14⟩, st14⟩ := Jvm.LawKit.callS X13 hx (y := (⟨"org/fairgate/cli/Inside", "all", "([I)I"⟩ : MethodName)) hown (mvT hZ (hw _ (List.mem_of_getElem? (i := 2) rfl))) (mvT hZ (hw _ (List.mem_of_getElem? (i := 3) rfl))) (mvT hZ (hw _ (List.mem_of_getElem? (i := 4) rfl))) (mvT hZ (hw _ (List.mem_of_getElem? (i := 5) rfl))) (by decide) (backOf (W := 0) (rm1 l Z a0 hw [] b10 k10 [p1, p2, p3] h13 n0 Z4 (Nat.le_of_ble_eq_true rfl) V3) hZ (hw _ (List.mem_of_getElem? (i := 5) rfl)) (hw _ (List.mem_of_getElem? (i := 4) rfl)) (by decide) (by decide)) (g := (mkF m 107 #[.val (.int p1), .val (.int p2), .val (.int p3), .val (.int p4), .val (.int p5), .val (.int p6), .val (.int (3 : Int32)), .val (.ref b10), .val (.int ((((0 : Int32) + p1) + p2) + p3))] [(.ref b10)])) rfl (by rw [hml]; rfl) (argsL := [(.ref b10)]) (rest := []) (lenOf pd_0 rfl) rfl (by show 2 * 0 + _ ≤ _; exact Nat.le_of_eq rfl) (hb hby at_107) (fun _ _ => ⟨rfl, e13, (by decide : (0 + 1) + 0 ≤ _), (by decide : (0 + 3) + 0 ≤ _)⟩)
    dsimp only [Pt.U, Pt.locs, Pt.cells, Pt.slots] at X14 l14 y14 z14 st14 hQ14
    subst l14 y14 z14
    obtain ⟨rfl, N14q, e14⟩ := hQ14
    have N14 := Fr.app N13 N14q
    refine own_go (B := T14.setTop (mkF m 110 #[.val (.int p1), .val (.int p2), .val (.int p3), .val (.int p4), .val (.int p5), .val (.int p6), .val (.int (3 : Int32)), .val (.ref b10), .val (.int ((((0 : Int32) + p1) + p2) + p3))] [(.int (own_sum [p1, p2, p3]))])) (fun t kt => st14 t kt) ?_
    refine own_go (B := T14.setTop (mkF m 120 #[.val (.int p1), .val (.int p2), .val (.int p3), .val (.int p4), .val (.int p5), .val (.int p6), .val (.int (3 : Int32)), .val (.ref b10), .val (.int ((((0 : Int32) + p1) + p2) + p3))] [(.int (1 : Int32))])) (fun t kt => ?_) ?_
    · show Steps p.tables e below (T14.setTop (mkF m 110 #[.val (.int p1), .val (.int p2), .val (.int p3), .val (.int p4), .val (.int p5), .val (.int p6), .val (.int (3 : Int32)), .val (.ref b10), .val (.int ((((0 : Int32) + p1) + p2) + p3))] [(.int (own_sum [p1, p2, p3]))])) _
      refine XS.iload X14.here hx rfl (hb hby at_110) rfl ?_
      show Steps p.tables e below (T14.setTop (mkF m 112 #[.val (.int p1), .val (.int p2), .val (.int p3), .val (.int p4), .val (.int p5), .val (.int p6), .val (.int (3 : Int32)), .val (.ref b10), .val (.int ((((0 : Int32) + p1) + p2) + p3))] [(.int ((((0 : Int32) + p1) + p2) + p3)), (.int (own_sum [p1, p2, p3]))])) _
      refine XS.icmpNo X14.here hx rfl (hb hby at_112) rfl (teq rfl).2 ?_
      show Steps p.tables e below (T14.setTop (mkF m 115 #[.val (.int p1), .val (.int p2), .val (.int p3), .val (.int p4), .val (.int p5), .val (.int p6), .val (.int (3 : Int32)), .val (.ref b10), .val (.int ((((0 : Int32) + p1) + p2) + p3))] [])) _
      refine XS.iconst X14.here hx rfl (hb hby at_115) ?_
      show Steps p.tables e below (T14.setTop (mkF m 116 #[.val (.int p1), .val (.int p2), .val (.int p3), .val (.int p4), .val (.int p5), .val (.int p6), .val (.int (3 : Int32)), .val (.ref b10), .val (.int ((((0 : Int32) + p1) + p2) + p3))] [(.int (1 : Int32))])) _
      refine XS.goto X14.here hx rfl (pc0 := 116) (pc' := 120) rfl (hb hby at_116) (by decide) (by decide) ?_
      exact kt
    obtain ⟨fs, hr, hrun, hended, hW, hsame⟩ := X14.leave (v := some (.int (1 : Int32))) (fun h => by rw [Bd.returns] at h; cases h)
    refine ⟨_, _, ?_, hrun, hended, _, _, rfl, ?_, ⟨_, rfl⟩, hW, hsame.mono (by decide) (by decide)⟩
    · show Steps p.tables e below (T14.setTop (mkF m 120 #[.val (.int p1), .val (.int p2), .val (.int p3), .val (.int p4), .val (.int p5), .val (.int p6), .val (.int (3 : Int32)), .val (.ref b10), .val (.int ((((0 : Int32) + p1) + p2) + p3))] [(.int (1 : Int32))])) _
      exact retN X14 hx (t := .boolean) Bd.returns (by simp) (hb hby at_120) hr
    · show Q0 Z p1 p2 p3 p4 p5 p6 h0 n0 _ T14.heap _
      rw [e14]
      exact ⟨rfl, N14⟩
  · rw [hk]
    refine own_go (B := s₁.setTop (mkF m 12 #[.val (.int p1), .val (.int p2), .val (.int p3), .val (.int p4), .val (.int p5), .val (.int p6), .val (.int (4 : Int32)), .unset, .unset] [(.int (4 : Int32))])) (fun t kt => ?_) ?_
    · show Steps p.tables e below (s₁.setTop (mkF m 8 #[.val (.int p1), .val (.int p2), .val (.int p3), .val (.int p4), .val (.int p5), .val (.int p6), .unset, .unset, .unset] [(.int (4 : Int32))])) _
      refine XS.istore X0.here hx rfl (hb hby at_8) rfl (l' := #[.val (.int p1), .val (.int p2), .val (.int p3), .val (.int p4), .val (.int p5), .val (.int p6), .val (.int (4 : Int32)), .unset, .unset]) rfl ?_
      show Steps p.tables e below (s₁.setTop (mkF m 10 #[.val (.int p1), .val (.int p2), .val (.int p3), .val (.int p4), .val (.int p5), .val (.int p6), .val (.int (4 : Int32)), .unset, .unset] [])) _
      refine XS.iload X0.here hx rfl (hb hby at_10) rfl ?_
      exact kt
    obtain ⟨T15, h15, k15, X15, e15, E15, A15, st15⟩ := newP X0 hx hZ (hw _ (List.mem_of_getElem? (i := 1) rfl)) e0 (g := (mkF m 12 #[.val (.int p1), .val (.int p2), .val (.int p3), .val (.int p4), .val (.int p5), .val (.int p6), .val (.int (4 : Int32)), .unset, .unset] [(.int (4 : Int32))])) rfl (hb hby at_12) rfl (by decide) (cap := 4) (by decide) (by decide) (by decide) (by decide)
    obtain ⟨b15, g15⟩ : ∃ z, z = h0.size := ⟨_, rfl⟩
    rw [← g15] at A15 st15
    refine own_go (B := T15.setTop (mkF m 14 #[.val (.int p1), .val (.int p2), .val (.int p3), .val (.int p4), .val (.int p5), .val (.int p6), .val (.int (4 : Int32)), .unset, .unset] [(.ref b15)])) (fun t kt => st15 t kt) ?_
    have gb : n0 ≤ b15 := Nat.le_trans Z0 (Nat.le_of_eq g15.symm)
    have Z1 : n0 ≤ h15.size := Nat.le_trans Z0 E15.1
    have V0 : Arv Z h15 b15 k15 .int (4 : Int32) [(.int (0 : Int32)), (.int (0 : Int32)), (.int (0 : Int32)), (.int (0 : Int32))] (.int (0 : Int32)) := (Arv.new A15 (by decide)).pad (pad_rep [] (.int (0 : Int32)) 4)
    refine own_go (B := T15.setTop (mkF m 28 #[.val (.int p1), .val (.int p2), .val (.int p3), .val (.int p4), .val (.int p5), .val (.int p6), .val (.int (4 : Int32)), .val (.ref b15), .val (.int (0 : Int32))] [(.int p1), (.int (0 : Int32)), (.ref b15)])) (fun t kt => ?_) ?_
    · show Steps p.tables e below (T15.setTop (mkF m 14 #[.val (.int p1), .val (.int p2), .val (.int p3), .val (.int p4), .val (.int p5), .val (.int p6), .val (.int (4 : Int32)), .unset, .unset] [(.ref b15)])) _
      refine XS.astore X15.here hx rfl (hb hby at_14) rfl rfl (l' := #[.val (.int p1), .val (.int p2), .val (.int p3), .val (.int p4), .val (.int p5), .val (.int p6), .val (.int (4 : Int32)), .val (.ref b15), .unset]) rfl ?_
      show Steps p.tables e below (T15.setTop (mkF m 16 #[.val (.int p1), .val (.int p2), .val (.int p3), .val (.int p4), .val (.int p5), .val (.int p6), .val (.int (4 : Int32)), .val (.ref b15), .unset] [])) _
      refine XS.iconst X15.here hx rfl (hb hby at_16) ?_
      show Steps p.tables e below (T15.setTop (mkF m 17 #[.val (.int p1), .val (.int p2), .val (.int p3), .val (.int p4), .val (.int p5), .val (.int p6), .val (.int (4 : Int32)), .val (.ref b15), .unset] [(.int (0 : Int32))])) _
      refine XS.istore X15.here hx rfl (hb hby at_17) rfl (l' := #[.val (.int p1), .val (.int p2), .val (.int p3), .val (.int p4), .val (.int p5), .val (.int p6), .val (.int (4 : Int32)), .val (.ref b15), .val (.int (0 : Int32))]) rfl ?_
      show Steps p.tables e below (T15.setTop (mkF m 19 #[.val (.int p1), .val (.int p2), .val (.int p3), .val (.int p4), .val (.int p5), .val (.int p6), .val (.int (4 : Int32)), .val (.ref b15), .val (.int (0 : Int32))] [])) _
      refine XS.iload X15.here hx rfl (hb hby at_19) rfl ?_
      show Steps p.tables e below (T15.setTop (mkF m 21 #[.val (.int p1), .val (.int p2), .val (.int p3), .val (.int p4), .val (.int p5), .val (.int p6), .val (.int (4 : Int32)), .val (.ref b15), .val (.int (0 : Int32))] [(.int (4 : Int32))])) _
      refine XS.ifNo X15.here hx rfl (hb hby at_21) rfl ((if0 _ _).trans (tlt (by decide)).2.2.2) ?_
      show Steps p.tables e below (T15.setTop (mkF m 24 #[.val (.int p1), .val (.int p2), .val (.int p3), .val (.int p4), .val (.int p5), .val (.int p6), .val (.int (4 : Int32)), .val (.ref b15), .val (.int (0 : Int32))] [])) _
      refine XS.aload X15.here hx rfl (hb hby at_24) rfl rfl ?_
      show Steps p.tables e below (T15.setTop (mkF m 26 #[.val (.int p1), .val (.int p2), .val (.int p3), .val (.int p4), .val (.int p5), .val (.int p6), .val (.int (4 : Int32)), .val (.ref b15), .val (.int (0 : Int32))] [(.ref b15)])) _
      refine XS.iconst X15.here hx rfl (hb hby at_26) ?_
      show Steps p.tables e below (T15.setTop (mkF m 27 #[.val (.int p1), .val (.int p2), .val (.int p3), .val (.int p4), .val (.int p5), .val (.int p6), .val (.int (4 : Int32)), .val (.ref b15), .val (.int (0 : Int32))] [(.int (0 : Int32)), (.ref b15)])) _
      refine XS.iloadN X15.here hx rfl (hb hby at_27) rfl ?_
      exact kt
    obtain ⟨cl0, Ar0, q0, S0, M0, H0, U0⟩ := V0
    obtain ⟨T16, h16, X16, e16, W16, st16⟩ := stI X15 hx hZ e15 Ar0 (j := (0 : Int32)) (inb_of S0 ⟨by decide, by decide⟩) (g := (mkF m 28 #[.val (.int p1), .val (.int p2), .val (.int p3), .val (.int p4), .val (.int p5), .val (.int p6), .val (.int (4 : Int32)), .val (.ref b15), .val (.int (0 : Int32))] [(.int p1), (.int (0 : Int32)), (.ref b15)])) rfl rfl (hb hby at_28)
    have N16 := Fr.snoc X16 N0 gb
    refine own_go (B := T16.setTop (mkF m 29 #[.val (.int p1), .val (.int p2), .val (.int p3), .val (.int p4), .val (.int p5), .val (.int p6), .val (.int (4 : Int32)), .val (.ref b15), .val (.int (0 : Int32))] [])) (fun t kt => st16 t kt) ?_
    have V1 : Arv Z h16 b15 k15 .int (4 : Int32) [(.int p1), (.int (0 : Int32)), (.int (0 : Int32)), (.int (0 : Int32))] (.int (0 : Int32)) := Arv.set Ar0 q0 S0 M0 H0 U0 rfl W16 0 rfl (Nat.le_of_ble_eq_true rfl)
    have Z2 : n0 ≤ h16.size := Nat.le_trans Z1 (Keep.of_wr W16).1
    refine own_go (B := T16.setTop (mkF m 45 #[.val (.int p1), .val (.int p2), .val (.int p3), .val (.int p4), .val (.int p5), .val (.int p6), .val (.int (4 : Int32)), .val (.ref b15), .val (.int ((0 : Int32) + p1))] [(.int p2), (.int (1 : Int32)), (.ref b15)])) (fun t kt => ?_) ?_
    · show Steps p.tables e below (T16.setTop (mkF m 29 #[.val (.int p1), .val (.int p2), .val (.int p3), .val (.int p4), .val (.int p5), .val (.int p6), .val (.int (4 : Int32)), .val (.ref b15), .val (.int (0 : Int32))] [])) _
      refine XS.iload X16.here hx rfl (hb hby at_29) rfl ?_
      show Steps p.tables e below (T16.setTop (mkF m 31 #[.val (.int p1), .val (.int p2), .val (.int p3), .val (.int p4), .val (.int p5), .val (.int p6), .val (.int (4 : Int32)), .val (.ref b15), .val (.int (0 : Int32))] [(.int (0 : Int32))])) _
      refine XS.iloadN X16.here hx rfl (hb hby at_31) rfl ?_
      show Steps p.tables e below (T16.setTop (mkF m 32 #[.val (.int p1), .val (.int p2), .val (.int p3), .val (.int p4), .val (.int p5), .val (.int p6), .val (.int (4 : Int32)), .val (.ref b15), .val (.int (0 : Int32))] [(.int p1), (.int (0 : Int32))])) _
      refine XS.iadd X16.here hx rfl (hb hby at_32) rfl ?_
      show Steps p.tables e below (T16.setTop (mkF m 33 #[.val (.int p1), .val (.int p2), .val (.int p3), .val (.int p4), .val (.int p5), .val (.int p6), .val (.int (4 : Int32)), .val (.ref b15), .val (.int (0 : Int32))] [(.int ((0 : Int32) + p1))])) _
      refine XS.istore X16.here hx rfl (hb hby at_33) rfl (l' := #[.val (.int p1), .val (.int p2), .val (.int p3), .val (.int p4), .val (.int p5), .val (.int p6), .val (.int (4 : Int32)), .val (.ref b15), .val (.int ((0 : Int32) + p1))]) rfl ?_
      show Steps p.tables e below (T16.setTop (mkF m 35 #[.val (.int p1), .val (.int p2), .val (.int p3), .val (.int p4), .val (.int p5), .val (.int p6), .val (.int (4 : Int32)), .val (.ref b15), .val (.int ((0 : Int32) + p1))] [])) _
      refine XS.iload X16.here hx rfl (hb hby at_35) rfl ?_
      show Steps p.tables e below (T16.setTop (mkF m 37 #[.val (.int p1), .val (.int p2), .val (.int p3), .val (.int p4), .val (.int p5), .val (.int p6), .val (.int (4 : Int32)), .val (.ref b15), .val (.int ((0 : Int32) + p1))] [(.int (4 : Int32))])) _
      refine XS.iconst X16.here hx rfl (hb hby at_37) ?_
      show Steps p.tables e below (T16.setTop (mkF m 38 #[.val (.int p1), .val (.int p2), .val (.int p3), .val (.int p4), .val (.int p5), .val (.int p6), .val (.int (4 : Int32)), .val (.ref b15), .val (.int ((0 : Int32) + p1))] [(.int (1 : Int32)), (.int (4 : Int32))])) _
      refine XS.icmpNo X16.here hx rfl (hb hby at_38) rfl (tlt (by decide)).2.2.2 ?_
      show Steps p.tables e below (T16.setTop (mkF m 41 #[.val (.int p1), .val (.int p2), .val (.int p3), .val (.int p4), .val (.int p5), .val (.int p6), .val (.int (4 : Int32)), .val (.ref b15), .val (.int ((0 : Int32) + p1))] [])) _
      refine XS.aload X16.here hx rfl (hb hby at_41) rfl rfl ?_
      show Steps p.tables e below (T16.setTop (mkF m 43 #[.val (.int p1), .val (.int p2), .val (.int p3), .val (.int p4), .val (.int p5), .val (.int p6), .val (.int (4 : Int32)), .val (.ref b15), .val (.int ((0 : Int32) + p1))] [(.ref b15)])) _
      refine XS.iconst X16.here hx rfl (hb hby at_43) ?_
      show Steps p.tables e below (T16.setTop (mkF m 44 #[.val (.int p1), .val (.int p2), .val (.int p3), .val (.int p4), .val (.int p5), .val (.int p6), .val (.int (4 : Int32)), .val (.ref b15), .val (.int ((0 : Int32) + p1))] [(.int (1 : Int32)), (.ref b15)])) _
      refine XS.iloadN X16.here hx rfl (hb hby at_44) rfl ?_
      exact kt
    obtain ⟨cl1, Ar1, q1, S1, M1, H1, U1⟩ := V1
    obtain ⟨T17, h17, X17, e17, W17, st17⟩ := stI X16 hx hZ e16 Ar1 (j := (1 : Int32)) (inb_of S1 ⟨by decide, by decide⟩) (g := (mkF m 45 #[.val (.int p1), .val (.int p2), .val (.int p3), .val (.int p4), .val (.int p5), .val (.int p6), .val (.int (4 : Int32)), .val (.ref b15), .val (.int ((0 : Int32) + p1))] [(.int p2), (.int (1 : Int32)), (.ref b15)])) rfl rfl (hb hby at_45)
    have N17 := Fr.snoc X17 N16 gb
    refine own_go (B := T17.setTop (mkF m 46 #[.val (.int p1), .val (.int p2), .val (.int p3), .val (.int p4), .val (.int p5), .val (.int p6), .val (.int (4 : Int32)), .val (.ref b15), .val (.int ((0 : Int32) + p1))] [])) (fun t kt => st17 t kt) ?_
    have V2 : Arv Z h17 b15 k15 .int (4 : Int32) [(.int p1), (.int p2), (.int (0 : Int32)), (.int (0 : Int32))] (.int (0 : Int32)) := Arv.set Ar1 q1 S1 M1 H1 U1 rfl W17 1 rfl (Nat.le_of_ble_eq_true rfl)
    have Z3 : n0 ≤ h17.size := Nat.le_trans Z2 (Keep.of_wr W17).1
    refine own_go (B := T17.setTop (mkF m 62 #[.val (.int p1), .val (.int p2), .val (.int p3), .val (.int p4), .val (.int p5), .val (.int p6), .val (.int (4 : Int32)), .val (.ref b15), .val (.int (((0 : Int32) + p1) + p2))] [(.int p3), (.int (2 : Int32)), (.ref b15)])) (fun t kt => ?_) ?_
    · show Steps p.tables e below (T17.setTop (mkF m 46 #[.val (.int p1), .val (.int p2), .val (.int p3), .val (.int p4), .val (.int p5), .val (.int p6), .val (.int (4 : Int32)), .val (.ref b15), .val (.int ((0 : Int32) + p1))] [])) _
      refine XS.iload X17.here hx rfl (hb hby at_46) rfl ?_
      show Steps p.tables e below (T17.setTop (mkF m 48 #[.val (.int p1), .val (.int p2), .val (.int p3), .val (.int p4), .val (.int p5), .val (.int p6), .val (.int (4 : Int32)), .val (.ref b15), .val (.int ((0 : Int32) + p1))] [(.int ((0 : Int32) + p1))])) _
      refine XS.iloadN X17.here hx rfl (hb hby at_48) rfl ?_
      show Steps p.tables e below (T17.setTop (mkF m 49 #[.val (.int p1), .val (.int p2), .val (.int p3), .val (.int p4), .val (.int p5), .val (.int p6), .val (.int (4 : Int32)), .val (.ref b15), .val (.int ((0 : Int32) + p1))] [(.int p2), (.int ((0 : Int32) + p1))])) _
      refine XS.iadd X17.here hx rfl (hb hby at_49) rfl ?_
      show Steps p.tables e below (T17.setTop (mkF m 50 #[.val (.int p1), .val (.int p2), .val (.int p3), .val (.int p4), .val (.int p5), .val (.int p6), .val (.int (4 : Int32)), .val (.ref b15), .val (.int ((0 : Int32) + p1))] [(.int (((0 : Int32) + p1) + p2))])) _
      refine XS.istore X17.here hx rfl (hb hby at_50) rfl (l' := #[.val (.int p1), .val (.int p2), .val (.int p3), .val (.int p4), .val (.int p5), .val (.int p6), .val (.int (4 : Int32)), .val (.ref b15), .val (.int (((0 : Int32) + p1) + p2))]) rfl ?_
      show Steps p.tables e below (T17.setTop (mkF m 52 #[.val (.int p1), .val (.int p2), .val (.int p3), .val (.int p4), .val (.int p5), .val (.int p6), .val (.int (4 : Int32)), .val (.ref b15), .val (.int (((0 : Int32) + p1) + p2))] [])) _
      refine XS.iload X17.here hx rfl (hb hby at_52) rfl ?_
      show Steps p.tables e below (T17.setTop (mkF m 54 #[.val (.int p1), .val (.int p2), .val (.int p3), .val (.int p4), .val (.int p5), .val (.int p6), .val (.int (4 : Int32)), .val (.ref b15), .val (.int (((0 : Int32) + p1) + p2))] [(.int (4 : Int32))])) _
      refine XS.iconst X17.here hx rfl (hb hby at_54) ?_
      show Steps p.tables e below (T17.setTop (mkF m 55 #[.val (.int p1), .val (.int p2), .val (.int p3), .val (.int p4), .val (.int p5), .val (.int p6), .val (.int (4 : Int32)), .val (.ref b15), .val (.int (((0 : Int32) + p1) + p2))] [(.int (2 : Int32)), (.int (4 : Int32))])) _
      refine XS.icmpNo X17.here hx rfl (hb hby at_55) rfl (tlt (by decide)).2.2.2 ?_
      show Steps p.tables e below (T17.setTop (mkF m 58 #[.val (.int p1), .val (.int p2), .val (.int p3), .val (.int p4), .val (.int p5), .val (.int p6), .val (.int (4 : Int32)), .val (.ref b15), .val (.int (((0 : Int32) + p1) + p2))] [])) _
      refine XS.aload X17.here hx rfl (hb hby at_58) rfl rfl ?_
      show Steps p.tables e below (T17.setTop (mkF m 60 #[.val (.int p1), .val (.int p2), .val (.int p3), .val (.int p4), .val (.int p5), .val (.int p6), .val (.int (4 : Int32)), .val (.ref b15), .val (.int (((0 : Int32) + p1) + p2))] [(.ref b15)])) _
      refine XS.iconst X17.here hx rfl (hb hby at_60) ?_
      show Steps p.tables e below (T17.setTop (mkF m 61 #[.val (.int p1), .val (.int p2), .val (.int p3), .val (.int p4), .val (.int p5), .val (.int p6), .val (.int (4 : Int32)), .val (.ref b15), .val (.int (((0 : Int32) + p1) + p2))] [(.int (2 : Int32)), (.ref b15)])) _
      refine XS.iloadN X17.here hx rfl (hb hby at_61) rfl ?_
      exact kt
    obtain ⟨cl2, Ar2, q2, S2, M2, H2, U2⟩ := V2
    obtain ⟨T18, h18, X18, e18, W18, st18⟩ := stI X17 hx hZ e17 Ar2 (j := (2 : Int32)) (inb_of S2 ⟨by decide, by decide⟩) (g := (mkF m 62 #[.val (.int p1), .val (.int p2), .val (.int p3), .val (.int p4), .val (.int p5), .val (.int p6), .val (.int (4 : Int32)), .val (.ref b15), .val (.int (((0 : Int32) + p1) + p2))] [(.int p3), (.int (2 : Int32)), (.ref b15)])) rfl rfl (hb hby at_62)
    have N18 := Fr.snoc X18 N17 gb
    refine own_go (B := T18.setTop (mkF m 63 #[.val (.int p1), .val (.int p2), .val (.int p3), .val (.int p4), .val (.int p5), .val (.int p6), .val (.int (4 : Int32)), .val (.ref b15), .val (.int (((0 : Int32) + p1) + p2))] [])) (fun t kt => st18 t kt) ?_
    have V3 : Arv Z h18 b15 k15 .int (4 : Int32) [(.int p1), (.int p2), (.int p3), (.int (0 : Int32))] (.int (0 : Int32)) := Arv.set Ar2 q2 S2 M2 H2 U2 rfl W18 2 rfl (Nat.le_of_ble_eq_true rfl)
    have Z4 : n0 ≤ h18.size := Nat.le_trans Z3 (Keep.of_wr W18).1
    refine own_go (B := T18.setTop (mkF m 79 #[.val (.int p1), .val (.int p2), .val (.int p3), .val (.int p4), .val (.int p5), .val (.int p6), .val (.int (4 : Int32)), .val (.ref b15), .val (.int ((((0 : Int32) + p1) + p2) + p3))] [(.int p4), (.int (3 : Int32)), (.ref b15)])) (fun t kt => ?_) ?_
    · show Steps p.tables e below (T18.setTop (mkF m 63 #[.val (.int p1), .val (.int p2), .val (.int p3), .val (.int p4), .val (.int p5), .val (.int p6), .val (.int (4 : Int32)), .val (.ref b15), .val (.int (((0 : Int32) + p1) + p2))] [])) _
      refine XS.iload X18.here hx rfl (hb hby at_63) rfl ?_
      show Steps p.tables e below (T18.setTop (mkF m 65 #[.val (.int p1), .val (.int p2), .val (.int p3), .val (.int p4), .val (.int p5), .val (.int p6), .val (.int (4 : Int32)), .val (.ref b15), .val (.int (((0 : Int32) + p1) + p2))] [(.int (((0 : Int32) + p1) + p2))])) _
      refine XS.iloadN X18.here hx rfl (hb hby at_65) rfl ?_
      show Steps p.tables e below (T18.setTop (mkF m 66 #[.val (.int p1), .val (.int p2), .val (.int p3), .val (.int p4), .val (.int p5), .val (.int p6), .val (.int (4 : Int32)), .val (.ref b15), .val (.int (((0 : Int32) + p1) + p2))] [(.int p3), (.int (((0 : Int32) + p1) + p2))])) _
      refine XS.iadd X18.here hx rfl (hb hby at_66) rfl ?_
      show Steps p.tables e below (T18.setTop (mkF m 67 #[.val (.int p1), .val (.int p2), .val (.int p3), .val (.int p4), .val (.int p5), .val (.int p6), .val (.int (4 : Int32)), .val (.ref b15), .val (.int (((0 : Int32) + p1) + p2))] [(.int ((((0 : Int32) + p1) + p2) + p3))])) _
      refine XS.istore X18.here hx rfl (hb hby at_67) rfl (l' := #[.val (.int p1), .val (.int p2), .val (.int p3), .val (.int p4), .val (.int p5), .val (.int p6), .val (.int (4 : Int32)), .val (.ref b15), .val (.int ((((0 : Int32) + p1) + p2) + p3))]) rfl ?_
      show Steps p.tables e below (T18.setTop (mkF m 69 #[.val (.int p1), .val (.int p2), .val (.int p3), .val (.int p4), .val (.int p5), .val (.int p6), .val (.int (4 : Int32)), .val (.ref b15), .val (.int ((((0 : Int32) + p1) + p2) + p3))] [])) _
      refine XS.iload X18.here hx rfl (hb hby at_69) rfl ?_
      show Steps p.tables e below (T18.setTop (mkF m 71 #[.val (.int p1), .val (.int p2), .val (.int p3), .val (.int p4), .val (.int p5), .val (.int p6), .val (.int (4 : Int32)), .val (.ref b15), .val (.int ((((0 : Int32) + p1) + p2) + p3))] [(.int (4 : Int32))])) _
      refine XS.iconst X18.here hx rfl (hb hby at_71) ?_
      show Steps p.tables e below (T18.setTop (mkF m 72 #[.val (.int p1), .val (.int p2), .val (.int p3), .val (.int p4), .val (.int p5), .val (.int p6), .val (.int (4 : Int32)), .val (.ref b15), .val (.int ((((0 : Int32) + p1) + p2) + p3))] [(.int (3 : Int32)), (.int (4 : Int32))])) _
      refine XS.icmpNo X18.here hx rfl (hb hby at_72) rfl (tlt (by decide)).2.2.2 ?_
      show Steps p.tables e below (T18.setTop (mkF m 75 #[.val (.int p1), .val (.int p2), .val (.int p3), .val (.int p4), .val (.int p5), .val (.int p6), .val (.int (4 : Int32)), .val (.ref b15), .val (.int ((((0 : Int32) + p1) + p2) + p3))] [])) _
      refine XS.aload X18.here hx rfl (hb hby at_75) rfl rfl ?_
      show Steps p.tables e below (T18.setTop (mkF m 77 #[.val (.int p1), .val (.int p2), .val (.int p3), .val (.int p4), .val (.int p5), .val (.int p6), .val (.int (4 : Int32)), .val (.ref b15), .val (.int ((((0 : Int32) + p1) + p2) + p3))] [(.ref b15)])) _
      refine XS.iconst X18.here hx rfl (hb hby at_77) ?_
      show Steps p.tables e below (T18.setTop (mkF m 78 #[.val (.int p1), .val (.int p2), .val (.int p3), .val (.int p4), .val (.int p5), .val (.int p6), .val (.int (4 : Int32)), .val (.ref b15), .val (.int ((((0 : Int32) + p1) + p2) + p3))] [(.int (3 : Int32)), (.ref b15)])) _
      refine XS.iloadN X18.here hx rfl (hb hby at_78) rfl ?_
      exact kt
    obtain ⟨cl3, Ar3, q3, S3, M3, H3, U3⟩ := V3
    obtain ⟨T19, h19, X19, e19, W19, st19⟩ := stI X18 hx hZ e18 Ar3 (j := (3 : Int32)) (inb_of S3 ⟨by decide, by decide⟩) (g := (mkF m 79 #[.val (.int p1), .val (.int p2), .val (.int p3), .val (.int p4), .val (.int p5), .val (.int p6), .val (.int (4 : Int32)), .val (.ref b15), .val (.int ((((0 : Int32) + p1) + p2) + p3))] [(.int p4), (.int (3 : Int32)), (.ref b15)])) rfl rfl (hb hby at_79)
    have N19 := Fr.snoc X19 N18 gb
    refine own_go (B := T19.setTop (mkF m 80 #[.val (.int p1), .val (.int p2), .val (.int p3), .val (.int p4), .val (.int p5), .val (.int p6), .val (.int (4 : Int32)), .val (.ref b15), .val (.int ((((0 : Int32) + p1) + p2) + p3))] [])) (fun t kt => st19 t kt) ?_
    have V4 : Arv Z h19 b15 k15 .int (4 : Int32) [(.int p1), (.int p2), (.int p3), (.int p4)] (.int (0 : Int32)) := Arv.set Ar3 q3 S3 M3 H3 U3 rfl W19 3 rfl (Nat.le_of_ble_eq_true rfl)
    have Z5 : n0 ≤ h19.size := Nat.le_trans Z4 (Keep.of_wr W19).1
    refine own_go (B := T19.setTop (mkF m 107 #[.val (.int p1), .val (.int p2), .val (.int p3), .val (.int p4), .val (.int p5), .val (.int p6), .val (.int (4 : Int32)), .val (.ref b15), .val (.int (((((0 : Int32) + p1) + p2) + p3) + p4))] [(.ref b15)])) (fun t kt => ?_) ?_
    · show Steps p.tables e below (T19.setTop (mkF m 80 #[.val (.int p1), .val (.int p2), .val (.int p3), .val (.int p4), .val (.int p5), .val (.int p6), .val (.int (4 : Int32)), .val (.ref b15), .val (.int ((((0 : Int32) + p1) + p2) + p3))] [])) _
      refine XS.iload X19.here hx rfl (hb hby at_80) rfl ?_
      show Steps p.tables e below (T19.setTop (mkF m 82 #[.val (.int p1), .val (.int p2), .val (.int p3), .val (.int p4), .val (.int p5), .val (.int p6), .val (.int (4 : Int32)), .val (.ref b15), .val (.int ((((0 : Int32) + p1) + p2) + p3))] [(.int ((((0 : Int32) + p1) + p2) + p3))])) _
      refine XS.iloadN X19.here hx rfl (hb hby at_82) rfl ?_
      show Steps p.tables e below (T19.setTop (mkF m 83 #[.val (.int p1), .val (.int p2), .val (.int p3), .val (.int p4), .val (.int p5), .val (.int p6), .val (.int (4 : Int32)), .val (.ref b15), .val (.int ((((0 : Int32) + p1) + p2) + p3))] [(.int p4), (.int ((((0 : Int32) + p1) + p2) + p3))])) _
      refine XS.iadd X19.here hx rfl (hb hby at_83) rfl ?_
      show Steps p.tables e below (T19.setTop (mkF m 84 #[.val (.int p1), .val (.int p2), .val (.int p3), .val (.int p4), .val (.int p5), .val (.int p6), .val (.int (4 : Int32)), .val (.ref b15), .val (.int ((((0 : Int32) + p1) + p2) + p3))] [(.int (((((0 : Int32) + p1) + p2) + p3) + p4))])) _
      refine XS.istore X19.here hx rfl (hb hby at_84) rfl (l' := #[.val (.int p1), .val (.int p2), .val (.int p3), .val (.int p4), .val (.int p5), .val (.int p6), .val (.int (4 : Int32)), .val (.ref b15), .val (.int (((((0 : Int32) + p1) + p2) + p3) + p4))]) rfl ?_
      show Steps p.tables e below (T19.setTop (mkF m 86 #[.val (.int p1), .val (.int p2), .val (.int p3), .val (.int p4), .val (.int p5), .val (.int p6), .val (.int (4 : Int32)), .val (.ref b15), .val (.int (((((0 : Int32) + p1) + p2) + p3) + p4))] [])) _
      refine XS.iload X19.here hx rfl (hb hby at_86) rfl ?_
      show Steps p.tables e below (T19.setTop (mkF m 88 #[.val (.int p1), .val (.int p2), .val (.int p3), .val (.int p4), .val (.int p5), .val (.int p6), .val (.int (4 : Int32)), .val (.ref b15), .val (.int (((((0 : Int32) + p1) + p2) + p3) + p4))] [(.int (4 : Int32))])) _
      refine XS.iconst X19.here hx rfl (hb hby at_88) ?_
      show Steps p.tables e below (T19.setTop (mkF m 89 #[.val (.int p1), .val (.int p2), .val (.int p3), .val (.int p4), .val (.int p5), .val (.int p6), .val (.int (4 : Int32)), .val (.ref b15), .val (.int (((((0 : Int32) + p1) + p2) + p3) + p4))] [(.int (4 : Int32)), (.int (4 : Int32))])) _
      refine XS.icmpYes X19.here hx rfl (pc0 := 89) (pc' := 105) rfl (hb hby at_89) rfl (flt (by decide)).2.2.2 (by decide) (by decide) ?_
      show Steps p.tables e below (T19.setTop (mkF m 105 #[.val (.int p1), .val (.int p2), .val (.int p3), .val (.int p4), .val (.int p5), .val (.int p6), .val (.int (4 : Int32)), .val (.ref b15), .val (.int (((((0 : Int32) + p1) + p2) + p3) + p4))] [])) _
      refine XS.aload X19.here hx rfl (hb hby at_105) rfl rfl ?_
      exact kt
    obtain ⟨_, _, ⟨T20, L20, k20, n20⟩, -, X20, ⟨Lc20, hQ20, l20, y20, z20⟩, st20⟩ := Jvm.LawKit.callS X19 hx (y := (⟨"org/fairgate/cli/Inside", "all", "([I)I"⟩ : MethodName)) hown (mvT hZ (hw _ (List.mem_of_getElem? (i := 2) rfl))) (mvT hZ (hw _ (List.mem_of_getElem? (i := 3) rfl))) (mvT hZ (hw _ (List.mem_of_getElem? (i := 4) rfl))) (mvT hZ (hw _ (List.mem_of_getElem? (i := 5) rfl))) (by decide) (backOf (W := 0) (rm1 l Z a0 hw [] b15 k15 [p1, p2, p3, p4] h19 n0 Z5 (Nat.le_of_ble_eq_true rfl) V4) hZ (hw _ (List.mem_of_getElem? (i := 5) rfl)) (hw _ (List.mem_of_getElem? (i := 4) rfl)) (by decide) (by decide)) (g := (mkF m 107 #[.val (.int p1), .val (.int p2), .val (.int p3), .val (.int p4), .val (.int p5), .val (.int p6), .val (.int (4 : Int32)), .val (.ref b15), .val (.int (((((0 : Int32) + p1) + p2) + p3) + p4))] [(.ref b15)])) rfl (by rw [hml]; rfl) (argsL := [(.ref b15)]) (rest := []) (lenOf pd_0 rfl) rfl (by show 2 * 0 + _ ≤ _; exact Nat.le_of_eq rfl) (hb hby at_107) (fun _ _ => ⟨rfl, e19, (by decide : (0 + 1) + 0 ≤ _), (by decide : (0 + 4) + 0 ≤ _)⟩)
    dsimp only [Pt.U, Pt.locs, Pt.cells, Pt.slots] at X20 l20 y20 z20 st20 hQ20
    subst l20 y20 z20
    obtain ⟨rfl, N20q, e20⟩ := hQ20
    have N20 := Fr.app N19 N20q
    refine own_go (B := T20.setTop (mkF m 110 #[.val (.int p1), .val (.int p2), .val (.int p3), .val (.int p4), .val (.int p5), .val (.int p6), .val (.int (4 : Int32)), .val (.ref b15), .val (.int (((((0 : Int32) + p1) + p2) + p3) + p4))] [(.int (own_sum [p1, p2, p3, p4]))])) (fun t kt => st20 t kt) ?_
    refine own_go (B := T20.setTop (mkF m 120 #[.val (.int p1), .val (.int p2), .val (.int p3), .val (.int p4), .val (.int p5), .val (.int p6), .val (.int (4 : Int32)), .val (.ref b15), .val (.int (((((0 : Int32) + p1) + p2) + p3) + p4))] [(.int (1 : Int32))])) (fun t kt => ?_) ?_
    · show Steps p.tables e below (T20.setTop (mkF m 110 #[.val (.int p1), .val (.int p2), .val (.int p3), .val (.int p4), .val (.int p5), .val (.int p6), .val (.int (4 : Int32)), .val (.ref b15), .val (.int (((((0 : Int32) + p1) + p2) + p3) + p4))] [(.int (own_sum [p1, p2, p3, p4]))])) _
      refine XS.iload X20.here hx rfl (hb hby at_110) rfl ?_
      show Steps p.tables e below (T20.setTop (mkF m 112 #[.val (.int p1), .val (.int p2), .val (.int p3), .val (.int p4), .val (.int p5), .val (.int p6), .val (.int (4 : Int32)), .val (.ref b15), .val (.int (((((0 : Int32) + p1) + p2) + p3) + p4))] [(.int (((((0 : Int32) + p1) + p2) + p3) + p4)), (.int (own_sum [p1, p2, p3, p4]))])) _
      refine XS.icmpNo X20.here hx rfl (hb hby at_112) rfl (teq rfl).2 ?_
      show Steps p.tables e below (T20.setTop (mkF m 115 #[.val (.int p1), .val (.int p2), .val (.int p3), .val (.int p4), .val (.int p5), .val (.int p6), .val (.int (4 : Int32)), .val (.ref b15), .val (.int (((((0 : Int32) + p1) + p2) + p3) + p4))] [])) _
      refine XS.iconst X20.here hx rfl (hb hby at_115) ?_
      show Steps p.tables e below (T20.setTop (mkF m 116 #[.val (.int p1), .val (.int p2), .val (.int p3), .val (.int p4), .val (.int p5), .val (.int p6), .val (.int (4 : Int32)), .val (.ref b15), .val (.int (((((0 : Int32) + p1) + p2) + p3) + p4))] [(.int (1 : Int32))])) _
      refine XS.goto X20.here hx rfl (pc0 := 116) (pc' := 120) rfl (hb hby at_116) (by decide) (by decide) ?_
      exact kt
    obtain ⟨fs, hr, hrun, hended, hW, hsame⟩ := X20.leave (v := some (.int (1 : Int32))) (fun h => by rw [Bd.returns] at h; cases h)
    refine ⟨_, _, ?_, hrun, hended, _, _, rfl, ?_, ⟨_, rfl⟩, hW, hsame.mono (by decide) (by decide)⟩
    · show Steps p.tables e below (T20.setTop (mkF m 120 #[.val (.int p1), .val (.int p2), .val (.int p3), .val (.int p4), .val (.int p5), .val (.int p6), .val (.int (4 : Int32)), .val (.ref b15), .val (.int (((((0 : Int32) + p1) + p2) + p3) + p4))] [(.int (1 : Int32))])) _
      exact retN X20 hx (t := .boolean) Bd.returns (by simp) (hb hby at_120) hr
    · show Q0 Z p1 p2 p3 p4 p5 p6 h0 n0 _ T20.heap _
      rw [e20]
      exact ⟨rfl, N20⟩
  · rw [hk]
    refine own_go (B := s₁.setTop (mkF m 12 #[.val (.int p1), .val (.int p2), .val (.int p3), .val (.int p4), .val (.int p5), .val (.int p6), .val (.int (5 : Int32)), .unset, .unset] [(.int (5 : Int32))])) (fun t kt => ?_) ?_
    · show Steps p.tables e below (s₁.setTop (mkF m 8 #[.val (.int p1), .val (.int p2), .val (.int p3), .val (.int p4), .val (.int p5), .val (.int p6), .unset, .unset, .unset] [(.int (5 : Int32))])) _
      refine XS.istore X0.here hx rfl (hb hby at_8) rfl (l' := #[.val (.int p1), .val (.int p2), .val (.int p3), .val (.int p4), .val (.int p5), .val (.int p6), .val (.int (5 : Int32)), .unset, .unset]) rfl ?_
      show Steps p.tables e below (s₁.setTop (mkF m 10 #[.val (.int p1), .val (.int p2), .val (.int p3), .val (.int p4), .val (.int p5), .val (.int p6), .val (.int (5 : Int32)), .unset, .unset] [])) _
      refine XS.iload X0.here hx rfl (hb hby at_10) rfl ?_
      exact kt
    obtain ⟨T21, h21, k21, X21, e21, E21, A21, st21⟩ := newP X0 hx hZ (hw _ (List.mem_of_getElem? (i := 1) rfl)) e0 (g := (mkF m 12 #[.val (.int p1), .val (.int p2), .val (.int p3), .val (.int p4), .val (.int p5), .val (.int p6), .val (.int (5 : Int32)), .unset, .unset] [(.int (5 : Int32))])) rfl (hb hby at_12) rfl (by decide) (cap := 5) (by decide) (by decide) (by decide) (by decide)
    obtain ⟨b21, g21⟩ : ∃ z, z = h0.size := ⟨_, rfl⟩
    rw [← g21] at A21 st21
    refine own_go (B := T21.setTop (mkF m 14 #[.val (.int p1), .val (.int p2), .val (.int p3), .val (.int p4), .val (.int p5), .val (.int p6), .val (.int (5 : Int32)), .unset, .unset] [(.ref b21)])) (fun t kt => st21 t kt) ?_
    have gb : n0 ≤ b21 := Nat.le_trans Z0 (Nat.le_of_eq g21.symm)
    have Z1 : n0 ≤ h21.size := Nat.le_trans Z0 E21.1
    have V0 : Arv Z h21 b21 k21 .int (5 : Int32) [(.int (0 : Int32)), (.int (0 : Int32)), (.int (0 : Int32)), (.int (0 : Int32)), (.int (0 : Int32))] (.int (0 : Int32)) := (Arv.new A21 (by decide)).pad (pad_rep [] (.int (0 : Int32)) 5)
    refine own_go (B := T21.setTop (mkF m 28 #[.val (.int p1), .val (.int p2), .val (.int p3), .val (.int p4), .val (.int p5), .val (.int p6), .val (.int (5 : Int32)), .val (.ref b21), .val (.int (0 : Int32))] [(.int p1), (.int (0 : Int32)), (.ref b21)])) (fun t kt => ?_) ?_
    · show Steps p.tables e below (T21.setTop (mkF m 14 #[.val (.int p1), .val (.int p2), .val (.int p3), .val (.int p4), .val (.int p5), .val (.int p6), .val (.int (5 : Int32)), .unset, .unset] [(.ref b21)])) _
      refine XS.astore X21.here hx rfl (hb hby at_14) rfl rfl (l' := #[.val (.int p1), .val (.int p2), .val (.int p3), .val (.int p4), .val (.int p5), .val (.int p6), .val (.int (5 : Int32)), .val (.ref b21), .unset]) rfl ?_
      show Steps p.tables e below (T21.setTop (mkF m 16 #[.val (.int p1), .val (.int p2), .val (.int p3), .val (.int p4), .val (.int p5), .val (.int p6), .val (.int (5 : Int32)), .val (.ref b21), .unset] [])) _
      refine XS.iconst X21.here hx rfl (hb hby at_16) ?_
      show Steps p.tables e below (T21.setTop (mkF m 17 #[.val (.int p1), .val (.int p2), .val (.int p3), .val (.int p4), .val (.int p5), .val (.int p6), .val (.int (5 : Int32)), .val (.ref b21), .unset] [(.int (0 : Int32))])) _
      refine XS.istore X21.here hx rfl (hb hby at_17) rfl (l' := #[.val (.int p1), .val (.int p2), .val (.int p3), .val (.int p4), .val (.int p5), .val (.int p6), .val (.int (5 : Int32)), .val (.ref b21), .val (.int (0 : Int32))]) rfl ?_
      show Steps p.tables e below (T21.setTop (mkF m 19 #[.val (.int p1), .val (.int p2), .val (.int p3), .val (.int p4), .val (.int p5), .val (.int p6), .val (.int (5 : Int32)), .val (.ref b21), .val (.int (0 : Int32))] [])) _
      refine XS.iload X21.here hx rfl (hb hby at_19) rfl ?_
      show Steps p.tables e below (T21.setTop (mkF m 21 #[.val (.int p1), .val (.int p2), .val (.int p3), .val (.int p4), .val (.int p5), .val (.int p6), .val (.int (5 : Int32)), .val (.ref b21), .val (.int (0 : Int32))] [(.int (5 : Int32))])) _
      refine XS.ifNo X21.here hx rfl (hb hby at_21) rfl ((if0 _ _).trans (tlt (by decide)).2.2.2) ?_
      show Steps p.tables e below (T21.setTop (mkF m 24 #[.val (.int p1), .val (.int p2), .val (.int p3), .val (.int p4), .val (.int p5), .val (.int p6), .val (.int (5 : Int32)), .val (.ref b21), .val (.int (0 : Int32))] [])) _
      refine XS.aload X21.here hx rfl (hb hby at_24) rfl rfl ?_
      show Steps p.tables e below (T21.setTop (mkF m 26 #[.val (.int p1), .val (.int p2), .val (.int p3), .val (.int p4), .val (.int p5), .val (.int p6), .val (.int (5 : Int32)), .val (.ref b21), .val (.int (0 : Int32))] [(.ref b21)])) _
      refine XS.iconst X21.here hx rfl (hb hby at_26) ?_
      show Steps p.tables e below (T21.setTop (mkF m 27 #[.val (.int p1), .val (.int p2), .val (.int p3), .val (.int p4), .val (.int p5), .val (.int p6), .val (.int (5 : Int32)), .val (.ref b21), .val (.int (0 : Int32))] [(.int (0 : Int32)), (.ref b21)])) _
      refine XS.iloadN X21.here hx rfl (hb hby at_27) rfl ?_
      exact kt
    obtain ⟨cl0, Ar0, q0, S0, M0, H0, U0⟩ := V0
    obtain ⟨T22, h22, X22, e22, W22, st22⟩ := stI X21 hx hZ e21 Ar0 (j := (0 : Int32)) (inb_of S0 ⟨by decide, by decide⟩) (g := (mkF m 28 #[.val (.int p1), .val (.int p2), .val (.int p3), .val (.int p4), .val (.int p5), .val (.int p6), .val (.int (5 : Int32)), .val (.ref b21), .val (.int (0 : Int32))] [(.int p1), (.int (0 : Int32)), (.ref b21)])) rfl rfl (hb hby at_28)
    have N22 := Fr.snoc X22 N0 gb
    refine own_go (B := T22.setTop (mkF m 29 #[.val (.int p1), .val (.int p2), .val (.int p3), .val (.int p4), .val (.int p5), .val (.int p6), .val (.int (5 : Int32)), .val (.ref b21), .val (.int (0 : Int32))] [])) (fun t kt => st22 t kt) ?_
    have V1 : Arv Z h22 b21 k21 .int (5 : Int32) [(.int p1), (.int (0 : Int32)), (.int (0 : Int32)), (.int (0 : Int32)), (.int (0 : Int32))] (.int (0 : Int32)) := Arv.set Ar0 q0 S0 M0 H0 U0 rfl W22 0 rfl (Nat.le_of_ble_eq_true rfl)
    have Z2 : n0 ≤ h22.size := Nat.le_trans Z1 (Keep.of_wr W22).1
    refine own_go (B := T22.setTop (mkF m 45 #[.val (.int p1), .val (.int p2), .val (.int p3), .val (.int p4), .val (.int p5), .val (.int p6), .val (.int (5 : Int32)), .val (.ref b21), .val (.int ((0 : Int32) + p1))] [(.int p2), (.int (1 : Int32)), (.ref b21)])) (fun t kt => ?_) ?_
    · show Steps p.tables e below (T22.setTop (mkF m 29 #[.val (.int p1), .val (.int p2), .val (.int p3), .val (.int p4), .val (.int p5), .val (.int p6), .val (.int (5 : Int32)), .val (.ref b21), .val (.int (0 : Int32))] [])) _
      refine XS.iload X22.here hx rfl (hb hby at_29) rfl ?_
      show Steps p.tables e below (T22.setTop (mkF m 31 #[.val (.int p1), .val (.int p2), .val (.int p3), .val (.int p4), .val (.int p5), .val (.int p6), .val (.int (5 : Int32)), .val (.ref b21), .val (.int (0 : Int32))] [(.int (0 : Int32))])) _
      refine XS.iloadN X22.here hx rfl (hb hby at_31) rfl ?_
      show Steps p.tables e below (T22.setTop (mkF m 32 #[.val (.int p1), .val (.int p2), .val (.int p3), .val (.int p4), .val (.int p5), .val (.int p6), .val (.int (5 : Int32)), .val (.ref b21), .val (.int (0 : Int32))] [(.int p1), (.int (0 : Int32))])) _
      refine XS.iadd X22.here hx rfl (hb hby at_32) rfl ?_
      show Steps p.tables e below (T22.setTop (mkF m 33 #[.val (.int p1), .val (.int p2), .val (.int p3), .val (.int p4), .val (.int p5), .val (.int p6), .val (.int (5 : Int32)), .val (.ref b21), .val (.int (0 : Int32))] [(.int ((0 : Int32) + p1))])) _
      refine XS.istore X22.here hx rfl (hb hby at_33) rfl (l' := #[.val (.int p1), .val (.int p2), .val (.int p3), .val (.int p4), .val (.int p5), .val (.int p6), .val (.int (5 : Int32)), .val (.ref b21), .val (.int ((0 : Int32) + p1))]) rfl ?_
      show Steps p.tables e below (T22.setTop (mkF m 35 #[.val (.int p1), .val (.int p2), .val (.int p3), .val (.int p4), .val (.int p5), .val (.int p6), .val (.int (5 : Int32)), .val (.ref b21), .val (.int ((0 : Int32) + p1))] [])) _
      refine XS.iload X22.here hx rfl (hb hby at_35) rfl ?_
      show Steps p.tables e below (T22.setTop (mkF m 37 #[.val (.int p1), .val (.int p2), .val (.int p3), .val (.int p4), .val (.int p5), .val (.int p6), .val (.int (5 : Int32)), .val (.ref b21), .val (.int ((0 : Int32) + p1))] [(.int (5 : Int32))])) _
      refine XS.iconst X22.here hx rfl (hb hby at_37) ?_
      show Steps p.tables e below (T22.setTop (mkF m 38 #[.val (.int p1), .val (.int p2), .val (.int p3), .val (.int p4), .val (.int p5), .val (.int p6), .val (.int (5 : Int32)), .val (.ref b21), .val (.int ((0 : Int32) + p1))] [(.int (1 : Int32)), (.int (5 : Int32))])) _
      refine XS.icmpNo X22.here hx rfl (hb hby at_38) rfl (tlt (by decide)).2.2.2 ?_
      show Steps p.tables e below (T22.setTop (mkF m 41 #[.val (.int p1), .val (.int p2), .val (.int p3), .val (.int p4), .val (.int p5), .val (.int p6), .val (.int (5 : Int32)), .val (.ref b21), .val (.int ((0 : Int32) + p1))] [])) _
      refine XS.aload X22.here hx rfl (hb hby at_41) rfl rfl ?_
      show Steps p.tables e below (T22.setTop (mkF m 43 #[.val (.int p1), .val (.int p2), .val (.int p3), .val (.int p4), .val (.int p5), .val (.int p6), .val (.int (5 : Int32)), .val (.ref b21), .val (.int ((0 : Int32) + p1))] [(.ref b21)])) _
      refine XS.iconst X22.here hx rfl (hb hby at_43) ?_
      show Steps p.tables e below (T22.setTop (mkF m 44 #[.val (.int p1), .val (.int p2), .val (.int p3), .val (.int p4), .val (.int p5), .val (.int p6), .val (.int (5 : Int32)), .val (.ref b21), .val (.int ((0 : Int32) + p1))] [(.int (1 : Int32)), (.ref b21)])) _
      refine XS.iloadN X22.here hx rfl (hb hby at_44) rfl ?_
      exact kt
    obtain ⟨cl1, Ar1, q1, S1, M1, H1, U1⟩ := V1
    obtain ⟨T23, h23, X23, e23, W23, st23⟩ := stI X22 hx hZ e22 Ar1 (j := (1 : Int32)) (inb_of S1 ⟨by decide, by decide⟩) (g := (mkF m 45 #[.val (.int p1), .val (.int p2), .val (.int p3), .val (.int p4), .val (.int p5), .val (.int p6), .val (.int (5 : Int32)), .val (.ref b21), .val (.int ((0 : Int32) + p1))] [(.int p2), (.int (1 : Int32)), (.ref b21)])) rfl rfl (hb hby at_45)
    have N23 := Fr.snoc X23 N22 gb
    refine own_go (B := T23.setTop (mkF m 46 #[.val (.int p1), .val (.int p2), .val (.int p3), .val (.int p4), .val (.int p5), .val (.int p6), .val (.int (5 : Int32)), .val (.ref b21), .val (.int ((0 : Int32) + p1))] [])) (fun t kt => st23 t kt) ?_
    have V2 : Arv Z h23 b21 k21 .int (5 : Int32) [(.int p1), (.int p2), (.int (0 : Int32)), (.int (0 : Int32)), (.int (0 : Int32))] (.int (0 : Int32)) := Arv.set Ar1 q1 S1 M1 H1 U1 rfl W23 1 rfl (Nat.le_of_ble_eq_true rfl)
    have Z3 : n0 ≤ h23.size := Nat.le_trans Z2 (Keep.of_wr W23).1
    refine own_go (B := T23.setTop (mkF m 62 #[.val (.int p1), .val (.int p2), .val (.int p3), .val (.int p4), .val (.int p5), .val (.int p6), .val (.int (5 : Int32)), .val (.ref b21), .val (.int (((0 : Int32) + p1) + p2))] [(.int p3), (.int (2 : Int32)), (.ref b21)])) (fun t kt => ?_) ?_
    · show Steps p.tables e below (T23.setTop (mkF m 46 #[.val (.int p1), .val (.int p2), .val (.int p3), .val (.int p4), .val (.int p5), .val (.int p6), .val (.int (5 : Int32)), .val (.ref b21), .val (.int ((0 : Int32) + p1))] [])) _
      refine XS.iload X23.here hx rfl (hb hby at_46) rfl ?_
      show Steps p.tables e below (T23.setTop (mkF m 48 #[.val (.int p1), .val (.int p2), .val (.int p3), .val (.int p4), .val (.int p5), .val (.int p6), .val (.int (5 : Int32)), .val (.ref b21), .val (.int ((0 : Int32) + p1))] [(.int ((0 : Int32) + p1))])) _
      refine XS.iloadN X23.here hx rfl (hb hby at_48) rfl ?_
      show Steps p.tables e below (T23.setTop (mkF m 49 #[.val (.int p1), .val (.int p2), .val (.int p3), .val (.int p4), .val (.int p5), .val (.int p6), .val (.int (5 : Int32)), .val (.ref b21), .val (.int ((0 : Int32) + p1))] [(.int p2), (.int ((0 : Int32) + p1))])) _
      refine XS.iadd X23.here hx rfl (hb hby at_49) rfl ?_
      show Steps p.tables e below (T23.setTop (mkF m 50 #[.val (.int p1), .val (.int p2), .val (.int p3), .val (.int p4), .val (.int p5), .val (.int p6), .val (.int (5 : Int32)), .val (.ref b21), .val (.int ((0 : Int32) + p1))] [(.int (((0 : Int32) + p1) + p2))])) _
      refine XS.istore X23.here hx rfl (hb hby at_50) rfl (l' := #[.val (.int p1), .val (.int p2), .val (.int p3), .val (.int p4), .val (.int p5), .val (.int p6), .val (.int (5 : Int32)), .val (.ref b21), .val (.int (((0 : Int32) + p1) + p2))]) rfl ?_
      show Steps p.tables e below (T23.setTop (mkF m 52 #[.val (.int p1), .val (.int p2), .val (.int p3), .val (.int p4), .val (.int p5), .val (.int p6), .val (.int (5 : Int32)), .val (.ref b21), .val (.int (((0 : Int32) + p1) + p2))] [])) _
      refine XS.iload X23.here hx rfl (hb hby at_52) rfl ?_
      show Steps p.tables e below (T23.setTop (mkF m 54 #[.val (.int p1), .val (.int p2), .val (.int p3), .val (.int p4), .val (.int p5), .val (.int p6), .val (.int (5 : Int32)), .val (.ref b21), .val (.int (((0 : Int32) + p1) + p2))] [(.int (5 : Int32))])) _
      refine XS.iconst X23.here hx rfl (hb hby at_54) ?_
      show Steps p.tables e below (T23.setTop (mkF m 55 #[.val (.int p1), .val (.int p2), .val (.int p3), .val (.int p4), .val (.int p5), .val (.int p6), .val (.int (5 : Int32)), .val (.ref b21), .val (.int (((0 : Int32) + p1) + p2))] [(.int (2 : Int32)), (.int (5 : Int32))])) _
      refine XS.icmpNo X23.here hx rfl (hb hby at_55) rfl (tlt (by decide)).2.2.2 ?_
      show Steps p.tables e below (T23.setTop (mkF m 58 #[.val (.int p1), .val (.int p2), .val (.int p3), .val (.int p4), .val (.int p5), .val (.int p6), .val (.int (5 : Int32)), .val (.ref b21), .val (.int (((0 : Int32) + p1) + p2))] [])) _
      refine XS.aload X23.here hx rfl (hb hby at_58) rfl rfl ?_
      show Steps p.tables e below (T23.setTop (mkF m 60 #[.val (.int p1), .val (.int p2), .val (.int p3), .val (.int p4), .val (.int p5), .val (.int p6), .val (.int (5 : Int32)), .val (.ref b21), .val (.int (((0 : Int32) + p1) + p2))] [(.ref b21)])) _
      refine XS.iconst X23.here hx rfl (hb hby at_60) ?_
      show Steps p.tables e below (T23.setTop (mkF m 61 #[.val (.int p1), .val (.int p2), .val (.int p3), .val (.int p4), .val (.int p5), .val (.int p6), .val (.int (5 : Int32)), .val (.ref b21), .val (.int (((0 : Int32) + p1) + p2))] [(.int (2 : Int32)), (.ref b21)])) _
      refine XS.iloadN X23.here hx rfl (hb hby at_61) rfl ?_
      exact kt
    obtain ⟨cl2, Ar2, q2, S2, M2, H2, U2⟩ := V2
    obtain ⟨T24, h24, X24, e24, W24, st24⟩ := stI X23 hx hZ e23 Ar2 (j := (2 : Int32)) (inb_of S2 ⟨by decide, by decide⟩) (g := (mkF m 62 #[.val (.int p1), .val (.int p2), .val (.int p3), .val (.int p4), .val (.int p5), .val (.int p6), .val (.int (5 : Int32)), .val (.ref b21), .val (.int (((0 : Int32) + p1) + p2))] [(.int p3), (.int (2 : Int32)), (.ref b21)])) rfl rfl (hb hby at_62)
    have N24 := Fr.snoc X24 N23 gb
    refine own_go (B := T24.setTop (mkF m 63 #[.val (.int p1), .val (.int p2), .val (.int p3), .val (.int p4), .val (.int p5), .val (.int p6), .val (.int (5 : Int32)), .val (.ref b21), .val (.int (((0 : Int32) + p1) + p2))] [])) (fun t kt => st24 t kt) ?_
    have V3 : Arv Z h24 b21 k21 .int (5 : Int32) [(.int p1), (.int p2), (.int p3), (.int (0 : Int32)), (.int (0 : Int32))] (.int (0 : Int32)) := Arv.set Ar2 q2 S2 M2 H2 U2 rfl W24 2 rfl (Nat.le_of_ble_eq_true rfl)
    have Z4 : n0 ≤ h24.size := Nat.le_trans Z3 (Keep.of_wr W24).1
    refine own_go (B := T24.setTop (mkF m 79 #[.val (.int p1), .val (.int p2), .val (.int p3), .val (.int p4), .val (.int p5), .val (.int p6), .val (.int (5 : Int32)), .val (.ref b21), .val (.int ((((0 : Int32) + p1) + p2) + p3))] [(.int p4), (.int (3 : Int32)), (.ref b21)])) (fun t kt => ?_) ?_
    · show Steps p.tables e below (T24.setTop (mkF m 63 #[.val (.int p1), .val (.int p2), .val (.int p3), .val (.int p4), .val (.int p5), .val (.int p6), .val (.int (5 : Int32)), .val (.ref b21), .val (.int (((0 : Int32) + p1) + p2))] [])) _
      refine XS.iload X24.here hx rfl (hb hby at_63) rfl ?_
      show Steps p.tables e below (T24.setTop (mkF m 65 #[.val (.int p1), .val (.int p2), .val (.int p3), .val (.int p4), .val (.int p5), .val (.int p6), .val (.int (5 : Int32)), .val (.ref b21), .val (.int (((0 : Int32) + p1) + p2))] [(.int (((0 : Int32) + p1) + p2))])) _
      refine XS.iloadN X24.here hx rfl (hb hby at_65) rfl ?_
      show Steps p.tables e below (T24.setTop (mkF m 66 #[.val (.int p1), .val (.int p2), .val (.int p3), .val (.int p4), .val (.int p5), .val (.int p6), .val (.int (5 : Int32)), .val (.ref b21), .val (.int (((0 : Int32) + p1) + p2))] [(.int p3), (.int (((0 : Int32) + p1) + p2))])) _
      refine XS.iadd X24.here hx rfl (hb hby at_66) rfl ?_
      show Steps p.tables e below (T24.setTop (mkF m 67 #[.val (.int p1), .val (.int p2), .val (.int p3), .val (.int p4), .val (.int p5), .val (.int p6), .val (.int (5 : Int32)), .val (.ref b21), .val (.int (((0 : Int32) + p1) + p2))] [(.int ((((0 : Int32) + p1) + p2) + p3))])) _
      refine XS.istore X24.here hx rfl (hb hby at_67) rfl (l' := #[.val (.int p1), .val (.int p2), .val (.int p3), .val (.int p4), .val (.int p5), .val (.int p6), .val (.int (5 : Int32)), .val (.ref b21), .val (.int ((((0 : Int32) + p1) + p2) + p3))]) rfl ?_
      show Steps p.tables e below (T24.setTop (mkF m 69 #[.val (.int p1), .val (.int p2), .val (.int p3), .val (.int p4), .val (.int p5), .val (.int p6), .val (.int (5 : Int32)), .val (.ref b21), .val (.int ((((0 : Int32) + p1) + p2) + p3))] [])) _
      refine XS.iload X24.here hx rfl (hb hby at_69) rfl ?_
      show Steps p.tables e below (T24.setTop (mkF m 71 #[.val (.int p1), .val (.int p2), .val (.int p3), .val (.int p4), .val (.int p5), .val (.int p6), .val (.int (5 : Int32)), .val (.ref b21), .val (.int ((((0 : Int32) + p1) + p2) + p3))] [(.int (5 : Int32))])) _
      refine XS.iconst X24.here hx rfl (hb hby at_71) ?_
      show Steps p.tables e below (T24.setTop (mkF m 72 #[.val (.int p1), .val (.int p2), .val (.int p3), .val (.int p4), .val (.int p5), .val (.int p6), .val (.int (5 : Int32)), .val (.ref b21), .val (.int ((((0 : Int32) + p1) + p2) + p3))] [(.int (3 : Int32)), (.int (5 : Int32))])) _
      refine XS.icmpNo X24.here hx rfl (hb hby at_72) rfl (tlt (by decide)).2.2.2 ?_
      show Steps p.tables e below (T24.setTop (mkF m 75 #[.val (.int p1), .val (.int p2), .val (.int p3), .val (.int p4), .val (.int p5), .val (.int p6), .val (.int (5 : Int32)), .val (.ref b21), .val (.int ((((0 : Int32) + p1) + p2) + p3))] [])) _
      refine XS.aload X24.here hx rfl (hb hby at_75) rfl rfl ?_
      show Steps p.tables e below (T24.setTop (mkF m 77 #[.val (.int p1), .val (.int p2), .val (.int p3), .val (.int p4), .val (.int p5), .val (.int p6), .val (.int (5 : Int32)), .val (.ref b21), .val (.int ((((0 : Int32) + p1) + p2) + p3))] [(.ref b21)])) _
      refine XS.iconst X24.here hx rfl (hb hby at_77) ?_
      show Steps p.tables e below (T24.setTop (mkF m 78 #[.val (.int p1), .val (.int p2), .val (.int p3), .val (.int p4), .val (.int p5), .val (.int p6), .val (.int (5 : Int32)), .val (.ref b21), .val (.int ((((0 : Int32) + p1) + p2) + p3))] [(.int (3 : Int32)), (.ref b21)])) _
      refine XS.iloadN X24.here hx rfl (hb hby at_78) rfl ?_
      exact kt
    obtain ⟨cl3, Ar3, q3, S3, M3, H3, U3⟩ := V3
    obtain ⟨T25, h25, X25, e25, W25, st25⟩ := stI X24 hx hZ e24 Ar3 (j := (3 : Int32)) (inb_of S3 ⟨by decide, by decide⟩) (g := (mkF m 79 #[.val (.int p1), .val (.int p2), .val (.int p3), .val (.int p4), .val (.int p5), .val (.int p6), .val (.int (5 : Int32)), .val (.ref b21), .val (.int ((((0 : Int32) + p1) + p2) + p3))] [(.int p4), (.int (3 : Int32)), (.ref b21)])) rfl rfl (hb hby at_79)
    have N25 := Fr.snoc X25 N24 gb
    refine own_go (B := T25.setTop (mkF m 80 #[.val (.int p1), .val (.int p2), .val (.int p3), .val (.int p4), .val (.int p5), .val (.int p6), .val (.int (5 : Int32)), .val (.ref b21), .val (.int ((((0 : Int32) + p1) + p2) + p3))] [])) (fun t kt => st25 t kt) ?_
    have V4 : Arv Z h25 b21 k21 .int (5 : Int32) [(.int p1), (.int p2), (.int p3), (.int p4), (.int (0 : Int32))] (.int (0 : Int32)) := Arv.set Ar3 q3 S3 M3 H3 U3 rfl W25 3 rfl (Nat.le_of_ble_eq_true rfl)
    have Z5 : n0 ≤ h25.size := Nat.le_trans Z4 (Keep.of_wr W25).1
    refine own_go (B := T25.setTop (mkF m 97 #[.val (.int p1), .val (.int p2), .val (.int p3), .val (.int p4), .val (.int p5), .val (.int p6), .val (.int (5 : Int32)), .val (.ref b21), .val (.int (((((0 : Int32) + p1) + p2) + p3) + p4))] [(.int p5), (.int (4 : Int32)), (.ref b21)])) (fun t kt => ?_) ?_
    · show Steps p.tables e below (T25.setTop (mkF m 80 #[.val (.int p1), .val (.int p2), .val (.int p3), .val (.int p4), .val (.int p5), .val (.int p6), .val (.int (5 : Int32)), .val (.ref b21), .val (.int ((((0 : Int32) + p1) + p2) + p3))] [])) _
      refine XS.iload X25.here hx rfl (hb hby at_80) rfl ?_
      show Steps p.tables e below (T25.setTop (mkF m 82 #[.val (.int p1), .val (.int p2), .val (.int p3), .val (.int p4), .val (.int p5), .val (.int p6), .val (.int (5 : Int32)), .val (.ref b21), .val (.int ((((0 : Int32) + p1) + p2) + p3))] [(.int ((((0 : Int32) + p1) + p2) + p3))])) _
      refine XS.iloadN X25.here hx rfl (hb hby at_82) rfl ?_
      show Steps p.tables e below (T25.setTop (mkF m 83 #[.val (.int p1), .val (.int p2), .val (.int p3), .val (.int p4), .val (.int p5), .val (.int p6), .val (.int (5 : Int32)), .val (.ref b21), .val (.int ((((0 : Int32) + p1) + p2) + p3))] [(.int p4), (.int ((((0 : Int32) + p1) + p2) + p3))])) _
      refine XS.iadd X25.here hx rfl (hb hby at_83) rfl ?_
      show Steps p.tables e below (T25.setTop (mkF m 84 #[.val (.int p1), .val (.int p2), .val (.int p3), .val (.int p4), .val (.int p5), .val (.int p6), .val (.int (5 : Int32)), .val (.ref b21), .val (.int ((((0 : Int32) + p1) + p2) + p3))] [(.int (((((0 : Int32) + p1) + p2) + p3) + p4))])) _
      refine XS.istore X25.here hx rfl (hb hby at_84) rfl (l' := #[.val (.int p1), .val (.int p2), .val (.int p3), .val (.int p4), .val (.int p5), .val (.int p6), .val (.int (5 : Int32)), .val (.ref b21), .val (.int (((((0 : Int32) + p1) + p2) + p3) + p4))]) rfl ?_
      show Steps p.tables e below (T25.setTop (mkF m 86 #[.val (.int p1), .val (.int p2), .val (.int p3), .val (.int p4), .val (.int p5), .val (.int p6), .val (.int (5 : Int32)), .val (.ref b21), .val (.int (((((0 : Int32) + p1) + p2) + p3) + p4))] [])) _
      refine XS.iload X25.here hx rfl (hb hby at_86) rfl ?_
      show Steps p.tables e below (T25.setTop (mkF m 88 #[.val (.int p1), .val (.int p2), .val (.int p3), .val (.int p4), .val (.int p5), .val (.int p6), .val (.int (5 : Int32)), .val (.ref b21), .val (.int (((((0 : Int32) + p1) + p2) + p3) + p4))] [(.int (5 : Int32))])) _
      refine XS.iconst X25.here hx rfl (hb hby at_88) ?_
      show Steps p.tables e below (T25.setTop (mkF m 89 #[.val (.int p1), .val (.int p2), .val (.int p3), .val (.int p4), .val (.int p5), .val (.int p6), .val (.int (5 : Int32)), .val (.ref b21), .val (.int (((((0 : Int32) + p1) + p2) + p3) + p4))] [(.int (4 : Int32)), (.int (5 : Int32))])) _
      refine XS.icmpNo X25.here hx rfl (hb hby at_89) rfl (tlt (by decide)).2.2.2 ?_
      show Steps p.tables e below (T25.setTop (mkF m 92 #[.val (.int p1), .val (.int p2), .val (.int p3), .val (.int p4), .val (.int p5), .val (.int p6), .val (.int (5 : Int32)), .val (.ref b21), .val (.int (((((0 : Int32) + p1) + p2) + p3) + p4))] [])) _
      refine XS.aload X25.here hx rfl (hb hby at_92) rfl rfl ?_
      show Steps p.tables e below (T25.setTop (mkF m 94 #[.val (.int p1), .val (.int p2), .val (.int p3), .val (.int p4), .val (.int p5), .val (.int p6), .val (.int (5 : Int32)), .val (.ref b21), .val (.int (((((0 : Int32) + p1) + p2) + p3) + p4))] [(.ref b21)])) _
      refine XS.iconst X25.here hx rfl (hb hby at_94) ?_
      show Steps p.tables e below (T25.setTop (mkF m 95 #[.val (.int p1), .val (.int p2), .val (.int p3), .val (.int p4), .val (.int p5), .val (.int p6), .val (.int (5 : Int32)), .val (.ref b21), .val (.int (((((0 : Int32) + p1) + p2) + p3) + p4))] [(.int (4 : Int32)), (.ref b21)])) _
      refine XS.iload X25.here hx rfl (hb hby at_95) rfl ?_
      exact kt
    obtain ⟨cl4, Ar4, q4, S4, M4, H4, U4⟩ := V4
    obtain ⟨T26, h26, X26, e26, W26, st26⟩ := stI X25 hx hZ e25 Ar4 (j := (4 : Int32)) (inb_of S4 ⟨by decide, by decide⟩) (g := (mkF m 97 #[.val (.int p1), .val (.int p2), .val (.int p3), .val (.int p4), .val (.int p5), .val (.int p6), .val (.int (5 : Int32)), .val (.ref b21), .val (.int (((((0 : Int32) + p1) + p2) + p3) + p4))] [(.int p5), (.int (4 : Int32)), (.ref b21)])) rfl rfl (hb hby at_97)
    have N26 := Fr.snoc X26 N25 gb
    refine own_go (B := T26.setTop (mkF m 98 #[.val (.int p1), .val (.int p2), .val (.int p3), .val (.int p4), .val (.int p5), .val (.int p6), .val (.int (5 : Int32)), .val (.ref b21), .val (.int (((((0 : Int32) + p1) + p2) + p3) + p4))] [])) (fun t kt => st26 t kt) ?_
    have V5 : Arv Z h26 b21 k21 .int (5 : Int32) [(.int p1), (.int p2), (.int p3), (.int p4), (.int p5)] (.int (0 : Int32)) := Arv.set Ar4 q4 S4 M4 H4 U4 rfl W26 4 rfl (Nat.le_of_ble_eq_true rfl)
    have Z6 : n0 ≤ h26.size := Nat.le_trans Z5 (Keep.of_wr W26).1
    refine own_go (B := T26.setTop (mkF m 107 #[.val (.int p1), .val (.int p2), .val (.int p3), .val (.int p4), .val (.int p5), .val (.int p6), .val (.int (5 : Int32)), .val (.ref b21), .val (.int ((((((0 : Int32) + p1) + p2) + p3) + p4) + p5))] [(.ref b21)])) (fun t kt => ?_) ?_
    · show Steps p.tables e below (T26.setTop (mkF m 98 #[.val (.int p1), .val (.int p2), .val (.int p3), .val (.int p4), .val (.int p5), .val (.int p6), .val (.int (5 : Int32)), .val (.ref b21), .val (.int (((((0 : Int32) + p1) + p2) + p3) + p4))] [])) _
      refine XS.iload X26.here hx rfl (hb hby at_98) rfl ?_
      show Steps p.tables e below (T26.setTop (mkF m 100 #[.val (.int p1), .val (.int p2), .val (.int p3), .val (.int p4), .val (.int p5), .val (.int p6), .val (.int (5 : Int32)), .val (.ref b21), .val (.int (((((0 : Int32) + p1) + p2) + p3) + p4))] [(.int (((((0 : Int32) + p1) + p2) + p3) + p4))])) _
      refine XS.iload X26.here hx rfl (hb hby at_100) rfl ?_
      show Steps p.tables e below (T26.setTop (mkF m 102 #[.val (.int p1), .val (.int p2), .val (.int p3), .val (.int p4), .val (.int p5), .val (.int p6), .val (.int (5 : Int32)), .val (.ref b21), .val (.int (((((0 : Int32) + p1) + p2) + p3) + p4))] [(.int p5), (.int (((((0 : Int32) + p1) + p2) + p3) + p4))])) _
      refine XS.iadd X26.here hx rfl (hb hby at_102) rfl ?_
      show Steps p.tables e below (T26.setTop (mkF m 103 #[.val (.int p1), .val (.int p2), .val (.int p3), .val (.int p4), .val (.int p5), .val (.int p6), .val (.int (5 : Int32)), .val (.ref b21), .val (.int (((((0 : Int32) + p1) + p2) + p3) + p4))] [(.int ((((((0 : Int32) + p1) + p2) + p3) + p4) + p5))])) _
      refine XS.istore X26.here hx rfl (hb hby at_103) rfl (l' := #[.val (.int p1), .val (.int p2), .val (.int p3), .val (.int p4), .val (.int p5), .val (.int p6), .val (.int (5 : Int32)), .val (.ref b21), .val (.int ((((((0 : Int32) + p1) + p2) + p3) + p4) + p5))]) rfl ?_
      show Steps p.tables e below (T26.setTop (mkF m 105 #[.val (.int p1), .val (.int p2), .val (.int p3), .val (.int p4), .val (.int p5), .val (.int p6), .val (.int (5 : Int32)), .val (.ref b21), .val (.int ((((((0 : Int32) + p1) + p2) + p3) + p4) + p5))] [])) _
      refine XS.aload X26.here hx rfl (hb hby at_105) rfl rfl ?_
      exact kt
    obtain ⟨_, _, ⟨T27, L27, k27, n27⟩, -, X27, ⟨Lc27, hQ27, l27, y27, z27⟩, st27⟩ := Jvm.LawKit.callS X26 hx (y := (⟨"org/fairgate/cli/Inside", "all", "([I)I"⟩ : MethodName)) hown (mvT hZ (hw _ (List.mem_of_getElem? (i := 2) rfl))) (mvT hZ (hw _ (List.mem_of_getElem? (i := 3) rfl))) (mvT hZ (hw _ (List.mem_of_getElem? (i := 4) rfl))) (mvT hZ (hw _ (List.mem_of_getElem? (i := 5) rfl))) (by decide) (backOf (W := 0) (rm1 l Z a0 hw [] b21 k21 [p1, p2, p3, p4, p5] h26 n0 Z6 (Nat.le_of_ble_eq_true rfl) V5) hZ (hw _ (List.mem_of_getElem? (i := 5) rfl)) (hw _ (List.mem_of_getElem? (i := 4) rfl)) (by decide) (by decide)) (g := (mkF m 107 #[.val (.int p1), .val (.int p2), .val (.int p3), .val (.int p4), .val (.int p5), .val (.int p6), .val (.int (5 : Int32)), .val (.ref b21), .val (.int ((((((0 : Int32) + p1) + p2) + p3) + p4) + p5))] [(.ref b21)])) rfl (by rw [hml]; rfl) (argsL := [(.ref b21)]) (rest := []) (lenOf pd_0 rfl) rfl (by show 2 * 0 + _ ≤ _; exact Nat.le_of_eq rfl) (hb hby at_107) (fun _ _ => ⟨rfl, e26, (by decide : (0 + 1) + 0 ≤ _), (by decide : (0 + 5) + 0 ≤ _)⟩)
    dsimp only [Pt.U, Pt.locs, Pt.cells, Pt.slots] at X27 l27 y27 z27 st27 hQ27
    subst l27 y27 z27
    obtain ⟨rfl, N27q, e27⟩ := hQ27
    have N27 := Fr.app N26 N27q
    refine own_go (B := T27.setTop (mkF m 110 #[.val (.int p1), .val (.int p2), .val (.int p3), .val (.int p4), .val (.int p5), .val (.int p6), .val (.int (5 : Int32)), .val (.ref b21), .val (.int ((((((0 : Int32) + p1) + p2) + p3) + p4) + p5))] [(.int (own_sum [p1, p2, p3, p4, p5]))])) (fun t kt => st27 t kt) ?_
    refine own_go (B := T27.setTop (mkF m 120 #[.val (.int p1), .val (.int p2), .val (.int p3), .val (.int p4), .val (.int p5), .val (.int p6), .val (.int (5 : Int32)), .val (.ref b21), .val (.int ((((((0 : Int32) + p1) + p2) + p3) + p4) + p5))] [(.int (1 : Int32))])) (fun t kt => ?_) ?_
    · show Steps p.tables e below (T27.setTop (mkF m 110 #[.val (.int p1), .val (.int p2), .val (.int p3), .val (.int p4), .val (.int p5), .val (.int p6), .val (.int (5 : Int32)), .val (.ref b21), .val (.int ((((((0 : Int32) + p1) + p2) + p3) + p4) + p5))] [(.int (own_sum [p1, p2, p3, p4, p5]))])) _
      refine XS.iload X27.here hx rfl (hb hby at_110) rfl ?_
      show Steps p.tables e below (T27.setTop (mkF m 112 #[.val (.int p1), .val (.int p2), .val (.int p3), .val (.int p4), .val (.int p5), .val (.int p6), .val (.int (5 : Int32)), .val (.ref b21), .val (.int ((((((0 : Int32) + p1) + p2) + p3) + p4) + p5))] [(.int ((((((0 : Int32) + p1) + p2) + p3) + p4) + p5)), (.int (own_sum [p1, p2, p3, p4, p5]))])) _
      refine XS.icmpNo X27.here hx rfl (hb hby at_112) rfl (teq rfl).2 ?_
      show Steps p.tables e below (T27.setTop (mkF m 115 #[.val (.int p1), .val (.int p2), .val (.int p3), .val (.int p4), .val (.int p5), .val (.int p6), .val (.int (5 : Int32)), .val (.ref b21), .val (.int ((((((0 : Int32) + p1) + p2) + p3) + p4) + p5))] [])) _
      refine XS.iconst X27.here hx rfl (hb hby at_115) ?_
      show Steps p.tables e below (T27.setTop (mkF m 116 #[.val (.int p1), .val (.int p2), .val (.int p3), .val (.int p4), .val (.int p5), .val (.int p6), .val (.int (5 : Int32)), .val (.ref b21), .val (.int ((((((0 : Int32) + p1) + p2) + p3) + p4) + p5))] [(.int (1 : Int32))])) _
      refine XS.goto X27.here hx rfl (pc0 := 116) (pc' := 120) rfl (hb hby at_116) (by decide) (by decide) ?_
      exact kt
    obtain ⟨fs, hr, hrun, hended, hW, hsame⟩ := X27.leave (v := some (.int (1 : Int32))) (fun h => by rw [Bd.returns] at h; cases h)
    refine ⟨_, _, ?_, hrun, hended, _, _, rfl, ?_, ⟨_, rfl⟩, hW, hsame.mono (by decide) (by decide)⟩
    · show Steps p.tables e below (T27.setTop (mkF m 120 #[.val (.int p1), .val (.int p2), .val (.int p3), .val (.int p4), .val (.int p5), .val (.int p6), .val (.int (5 : Int32)), .val (.ref b21), .val (.int ((((((0 : Int32) + p1) + p2) + p3) + p4) + p5))] [(.int (1 : Int32))])) _
      exact retN X27 hx (t := .boolean) Bd.returns (by simp) (hb hby at_120) hr
    · show Q0 Z p1 p2 p3 p4 p5 p6 h0 n0 _ T27.heap _
      rw [e27]
      exact ⟨rfl, N27⟩
set_option maxRecDepth 65536 in
set_option maxHeartbeats 40000000 in
theorem comes_1 {Post : Tables → Env → Array Value → State → Outcome → State → Prop} (hpost : ∀ tb e args s v u, (limb_1_1.after args s (.returned v) u = true ∧ limb_1_2.after args s (.returned v) u = true ∧ True) → FrameEnd s (.returned v) u (Jvm.fieldLocs frame_1_writes args s ++ Jvm.arrayLocs frame_1_arrays args s ++ Jvm.staticLocs frame_1_statics s) 16 128 → Post tb e args s (.returned v) u) :
    ArmFor flags0 classFile x code maxLocals ret World_1 tables_1 room_1 Calls_1 rest_1 Pre_1 Post := by
  intro l hfl _ _ p e ha hc hk s m args below hf hA hF happ hP
  obtain ⟨hcalls, hrest, hpre⟩ := hP
  obtain ⟨-, -, -, hnamed, -, -, -, hat⟩ := (Spec.applies_iff hf).mp happ
  obtain ⟨hg, hn⟩ := and_e (Cond.before_iff.mp (show (Jvm.Cond.and given_1 narrow_1).before args s = true from hpre))
  obtain ⟨gg1, gg2⟩ := and_e hg
  obtain ⟨gg3, gg4⟩ := and_e gg2
  obtain ⟨gg5, gg6⟩ := and_e gg4
  obtain ⟨gg7, gg8⟩ := and_e gg6
  obtain ⟨gg9, gg10⟩ := and_e gg8
  obtain ⟨gg11, gg12⟩ := and_e gg10
  obtain ⟨w0, w1, w2, w3, w4, w5, rfl⟩ : ∃ w0 w1 w2 w3 w4 w5 : Value, args = #[w0, w1, w2, w3, w4, w5] := by
    have hs : args.size = 6 := by simpa [Cond.value, given_1] using gg1
    obtain ⟨L⟩ := args
    match L, hs with
    | [w0, w1, w2, w3, w4, w5], _ => exact ⟨w0, w1, w2, w3, w4, w5, rfl⟩
  have hw := fun d (hd : d ∈ tables_1) => atoms_spec (ws := Jvm.Cond.code x code maxLocals ret :: tables_1) hat d (List.mem_cons_of_mem _ hd)
  obtain ⟨i0, ei0⟩ := is_v gg3
  obtain rfl : w0 = (.int i0) := Option.some.inj ei0
  obtain ⟨i1, ei1⟩ := is_v gg5
  obtain rfl : w1 = (.int i1) := Option.some.inj ei1
  obtain ⟨i2, ei2⟩ := is_v gg7
  obtain rfl : w2 = (.int i2) := Option.some.inj ei2
  obtain ⟨i3, ei3⟩ := is_v gg9
  obtain rfl : w3 = (.int i3) := Option.some.inj ei3
  obtain ⟨i4, ei4⟩ := is_v gg11
  obtain rfl : w4 = (.int i4) := Option.some.inj ei4
  obtain ⟨i5, ei5⟩ := is_v gg12
  obtain rfl : w5 = (.int i5) := Option.some.inj ei5
  obtain ⟨n, o, h1, h2, h3, _, L, rfl, ⟨rfl, N⟩, hq⟩ := rm0 l s _ hw tables_1 i0 i1 i2 i3 i4 i5  s.heap s.heap.size (Nat.le_refl _)  p e ha hc hk s m _ below hf ((Spec.applies_iff_loose hf).mp happ).1 ⟨rfl, State.Warmed39.refl s, rfl⟩ trivial
  refine ⟨n, _, h1, h2, h3, hpost _ _ _ _ _ _ ⟨Cond.after_iff.mpr rfl, Cond.after_iff.mpr (eq_i res_at (Term.int_eval (1)) rfl), trivial⟩ ⟨hq.1, hq.2.1, (hq.2.2.sift fun y hy => Or.inr (N y hy)).mono (by decide) (by decide)⟩⟩
theorem main_1_1 : Claimed_1_1 := comes_1 fun _ _ _ _ _ _ h hF => ⟨h.1, hF⟩
theorem main_1_2 : Claimed_1_2 := comes_1 fun _ _ _ _ _ _ h hF => ⟨h.2.1, hF⟩
end Jvm.Pilot.@@N@@
namespace Jvm.Pilot.@@N@@
open Jvm Jvm.ClassFile Sem Op Lib Jvm.Free Jvm.Stand Jvm.Pilot.@@N@@.Jvm.D
/-! MADE BY PROGRAM (witnessworld.py) out of the Statement's table words and the real class files: 9 classes; the members and pool entries that the words name. The judged class is class 1, her method 1. -/
namespace start1
open Jvm.ClassFile
def u (s : String) : CpInfo := .utf8 (stringToUtf16 s)
/-- a pool by its gaps: so many unusable entries, then the entry; so many at the end -/
def gap : Nat → List CpInfo → List CpInfo
  | 0, r => r
  | n + 1, r => .unusable :: gap n r
def poolList (es : List (Nat × CpInfo)) (last : Nat) : List CpInfo := es.foldr (fun e r => gap e.1 (e.2 :: r)) (gap last [])
def pool (es : List (Nat × CpInfo)) (last : Nat) : Array CpInfo := ⟨poolList es last⟩
def fileOf (pool : Array CpInfo) (this : Nat) (attrs : Array Attribute := #[]) (ms : Array MethodInfo := #[]) (fl : Nat := 33) (sup : Nat := 0) (ifs : Array Nat := #[]) (fds : Array FieldInfo := #[]) : ClassFile where
  minorVersion := 0
  majorVersion := 65
  constantPool := pool
  accessFlags := fl
  thisClass := this
  superClass := sup
  interfaces := ifs
  fields := fds
  methods := ms
  attributes := attrs
def plain (name : String) (sup : Option ClassId) : Class where
  name := name
  kind := .ordinary
  loader := none
  accessFlags := 33
  super := sup
  interfaces := #[]
  cf := none
  fields := #[]
  methods := #[]
  instanceTypes := #[]
  staticTypes := #[]
  resolved := #[]
  callSites := []
  init := .initialized
  statics := none
  mirror := none

def pool0 : Array CpInfo := pool [(5, u "<init>"), (0, u "()V"), (1, .class_ 10), (1, u "java/lang/Object")] 113

def k0m0 : Method := { name := "<init>", desc := "()V", sig := { parameters := [], returnType := none }, accessFlags := 1, code := none }
/-- java/lang/Object -/
def k0 : Class := { plain "java/lang/Object" none with
  accessFlags := 33
  interfaces := #[]
  cf := some (fileOf pool0 8 #[] #[{ accessFlags := 1, nameIndex := 5, descriptorIndex := 6, attributes := #[] }] 33 0 #[] #[])
  fields := #[]
  methods := #[k0m0]
  instanceTypes := #[]
  staticTypes := #[]
  resolved := Array.replicate 124 none
  statics := none }

def pool1 : Array CpInfo := pool [(2, .class_ 4), (1, u "java/lang/Object"), (0, u "<init>"), (0, u "()V"), (0, .integer 2147483647), (0, .methodref 9 10), (0, .class_ 11), (0, .nameAndType 12 13), (0, u "org/fairgate/cli/Inside"), (0, u "all"), (0, u "([I)I"), (0, .class_ 15), (0, u "org/fairgate/cli/InsideAllPinLaw"), (2, u "law"), (0, u "(IIIIII)Z")] 5

def k1m0 : Method := { name := "<init>", desc := "()V", sig := { parameters := [], returnType := none }, accessFlags := 1, code := none }
def k1c1 : Code := { maxStack := 3, maxLocals := 9, code := code, exceptionTable := #[], attributes := #[] }
def k1m1 : Method := { name := "law", desc := "(IIIIII)Z", sig := { parameters := [.int, .int, .int, .int, .int, .int], returnType := some .boolean }, accessFlags := 9, code := some k1c1 }
/-- org/fairgate/cli/InsideAllPinLaw -/
def k1 : Class := { plain "org/fairgate/cli/InsideAllPinLaw" (some 0) with
  accessFlags := 49
  interfaces := #[]
  cf := some (fileOf pool1 14 #[] #[{ accessFlags := 1, nameIndex := 5, descriptorIndex := 6, attributes := #[] }, { accessFlags := 9, nameIndex := 18, descriptorIndex := 19, attributes := #[] }] 49 2 #[] #[])
  fields := #[]
  methods := #[k1m0, k1m1]
  instanceTypes := #[]
  staticTypes := #[]
  resolved := Array.replicate 25 none
  statics := none }

def pool2 : Array CpInfo := pool [(2, .class_ 4), (1, u "java/lang/Object"), (0, u "<init>"), (0, u "()V"), (1, .class_ 10), (1, u "org/fairgate/cli/Inside"), (4, .class_ 16), (0, u "org/fairgate/cli/Inside$Packed"), (3, .class_ 21), (0, u "org/fairgate/cli/Inside$Copied"), (18, u "all"), (0, u "([I)I"), (3, .class_ 46), (0, u "org/fairgate/cli/Inside$Seen")] 4

def k2m0 : Method := { name := "<init>", desc := "()V", sig := { parameters := [], returnType := none }, accessFlags := 2, code := none }
def k2c1 : Code := { maxStack := 2, maxLocals := 6, code := prog_62_method_5_code, exceptionTable := #[], attributes := #[] }
def k2m1 : Method := { name := "all", desc := "([I)I", sig := { parameters := [(.array .int)], returnType := some .int }, accessFlags := 8, code := some k2c1 }
/-- org/fairgate/cli/Inside -/
def k2 : Class := { plain "org/fairgate/cli/Inside" (some 0) with
  accessFlags := 1056
  interfaces := #[]
  cf := some (fileOf pool2 8 #[.nestMembers #[20, 15, 45]] #[{ accessFlags := 2, nameIndex := 5, descriptorIndex := 6, attributes := #[] }, { accessFlags := 8, nameIndex := 40, descriptorIndex := 41, attributes := #[] }] 1056 2 #[] #[])
  fields := #[]
  methods := #[k2m0, k2m1]
  instanceTypes := #[]
  staticTypes := #[]
  resolved := Array.replicate 51 none
  statics := none }

def pool3 : Array CpInfo := pool [(1, u "java/lang/Cloneable"), (0, .class_ 1), (0, u "java/lang/Object"), (0, .class_ 3)] 3

/-- java/lang/Cloneable -/
def k3 : Class := { plain "java/lang/Cloneable" (some 0) with
  accessFlags := 1537
  interfaces := #[]
  cf := some (fileOf pool3 2 #[] #[] 1537 4 #[] #[])
  fields := #[]
  methods := #[]
  instanceTypes := #[]
  staticTypes := #[]
  resolved := Array.replicate 8 none
  statics := none }

def pool4 : Array CpInfo := pool [(1, u "java/io/Serializable"), (0, .class_ 1), (0, u "java/lang/Object"), (0, .class_ 3)] 3

/-- java/io/Serializable -/
def k4 : Class := { plain "java/io/Serializable" (some 0) with
  accessFlags := 1537
  interfaces := #[]
  cf := some (fileOf pool4 2 #[] #[] 1537 4 #[] #[])
  fields := #[]
  methods := #[]
  instanceTypes := #[]
  staticTypes := #[]
  resolved := Array.replicate 8 none
  statics := none }

/-- the primitive byte -/
def k5 : Class := { plain "byte" none with kind := .primitive 'B', accessFlags := 0x411 }
/-- [B -/
def k6 : Class := { plain "[B" (some 0) with kind := .array 5 .byte, interfaces := #[3, 4], accessFlags := 1041 }

/-- the primitive int -/
def k7 : Class := { plain "int" none with kind := .primitive 'I', accessFlags := 0x411 }
/-- [I -/
def k8 : Class := { plain "[I" (some 0) with kind := .array 7 .int, interfaces := #[3, 4], accessFlags := 1041 }

def heap : Heap := #[]
def classes : Array Class := #[k0, k1, k2, k3, k4, k5, k6, k7, k8]
def interned : List (Array UInt16 × Addr) := []
def slotsUsed : Nat := 0
def theMethod : MethodId := ⟨1, 1⟩
def args0 : Array Value := #[.int 1, .int 2, .int 3, .int 4, .int 5, .int 6]
def aboutOver (below : List Frame) : State where
  vm := { classes := classes, interned := interned.toArray }
  heap := heap
  slotsUsed := slotsUsed
  threads := #[{ frames := .invoking theMethod args0 :: below }]
def below0 : List Frame := [.native { method := ⟨0, 0⟩, args := #[] }]
def about1 : State := aboutOver below0
def p0 : Program := .bare "" "" ""
def e0 : Env := launch0.env 0 0 0
theorem w_frames : about1.frames = Frame.invoking theMethod args0 :: below0 := rfl
set_option maxRecDepth 65536 in
theorem w_args : argsFit about1.vm theMethod args0 = true := by decide +kernel
set_option maxRecDepth 65536 in
theorem w_heap : heapFits about1 = true := by decide +kernel
set_option maxRecDepth 65536 in
theorem w_runnable : about1.curStatus? = some .runnable := by decide +kernel
set_option maxRecDepth 65536 in
theorem w_alone : about1.alone = true := by decide +kernel
set_option maxRecDepth 65536 in
theorem w_named : about1.methodNamed? x = some theMethod := by decide +kernel
set_option maxRecDepth 65536 in
theorem w_hears : about1.hears theMethod below0 = true := by decide +kernel
set_option maxRecDepth 65536 in
theorem w_ripe : about1.ripe theMethod args0 below0 = true := by decide +kernel
theorem w_running : about1.status = .running := rfl
set_option maxRecDepth 65536 in
theorem w_room : about1.hasRoom e0.platform room_1 = true :=
  launch0.hasRoom_least _ room_1 (by decide +kernel) (by decide +kernel) (by decide +kernel) (by decide +kernel) (by decide +kernel) (by decide +kernel)
theorem allAtoms_all (ts : List Jvm.Cond) (a : Array Jvm.Value) (st : Jvm.State) : (allAtoms ts).before a st = ts.all (fun c => c.before a st) := by
  induction ts with
  | nil => rfl
  | cons c t ih =>
    show (Jvm.Cond.and c (allAtoms t)).before a st = _
    rw [Jvm.Cond.before_and, ih, List.all_cons]
def words1 : List Jvm.Cond := Jvm.Cond.code x code maxLocals ret :: tables_1
/-- a 'code' word, met by the world's own term for the bytes: nothing is compared byte by byte -/
theorem code_word {y : MethodName} {bytes : ByteArray} {mx : Nat} {rt : Option FieldType} {a : Array Value} {s : State} {m : MethodId} {meth : Method} {c : Code} (h1 : s.methodNamed? y = some m) (h2 : s.vm.method? m = some meth) (h3 : meth.code = some c) (h4 : c.code = bytes)
    (h5 : (c.maxLocals == mx && c.exceptionTable.isEmpty && decide (c.maxStack ≤ mostOperands) && decide (meth.sig.returnType = rt) && !meth.locks && decide (parseMethodDescriptor y.desc = some meth.sig)) = true) : (Jvm.Cond.code y bytes mx rt).before a s = true := by
  simp only [Bool.and_eq_true, beq_iff_eq, Bool.not_eq_true', decide_eq_true_eq] at h5
  obtain ⟨⟨⟨⟨⟨g1, g2⟩, g3⟩, g4⟩, g5⟩, g6⟩ := h5
  simp [Cond.before, Cond.holds, Cond.value, h1, h2, h3, h4, g1, g2, g3, g4, g5, g6]
def isCode : Jvm.Cond → Bool
  | .code _ _ _ _ => true
  | _ => false
theorem all_split {L : List Jvm.Cond} {P : Jvm.Cond → Bool} (h1 : L.all (fun c => isCode c || P c) = true) (h2 : ∀ c ∈ L.filter isCode, P c = true) : L.all P = true := by
  refine List.all_eq_true.mpr fun c hc => ?_
  have h := List.all_eq_true.mp h1 c hc
  rcases Bool.eq_false_or_eq_true (isCode c) with hi | hi
  · exact h2 c (List.mem_filter.mpr ⟨hc, hi⟩)
  · simpa [hi] using h
set_option maxRecDepth 65536 in
theorem w_c0 : (Jvm.Cond.code x code maxLocals ret).before args0 about1 = true := code_word (m := ⟨1, 1⟩) (meth := k1m1) (c := k1c1) (by decide +kernel) rfl rfl rfl (by decide +kernel)
set_option maxRecDepth 65536 in
theorem w_c1 : (Jvm.Cond.code ({ cls := "org/fairgate/cli/Inside", name := "all", desc := "([I)I" } : Jvm.MethodName) prog_62_method_5_code (6 : Nat) (Option.some Jvm.ClassFile.FieldType.int)).before args0 about1 = true := code_word (m := ⟨2, 1⟩) (meth := k2m1) (c := k2c1) (by decide +kernel) rfl rfl rfl (by decide +kernel)
def codes1 : List Jvm.Cond := [Jvm.Cond.code x code maxLocals ret, Jvm.Cond.code ({ cls := "org/fairgate/cli/Inside", name := "all", desc := "([I)I" } : Jvm.MethodName) prog_62_method_5_code (6 : Nat) (Option.some Jvm.ClassFile.FieldType.int)]
set_option maxRecDepth 65536 in
theorem codes_eq : words1.filter isCode = codes1 := rfl
theorem w_codes : ∀ c ∈ words1.filter isCode, c.before args0 about1 = true := by
  rw [codes_eq]
  intro c hc
  simp only [codes1, List.mem_cons, List.not_mem_nil, or_false] at hc
  rcases hc with rfl | rfl
  · exact w_c0
  · exact w_c1
set_option maxRecDepth 65536 in
theorem w_t1 : words1.all (fun c => isCode c || c.before args0 about1) = true := by decide +kernel
theorem w_tables : (allAtoms (Jvm.Cond.code x code maxLocals ret :: tables_1)).before args0 about1 = true := by
  rw [allAtoms_all]
  show words1.all (fun c => c.before args0 about1) = true
  refine all_split ?_ w_codes
  rw [w_t1]
set_option maxRecDepth 65536 in
theorem w_case : (Jvm.Cond.and given_1 narrow_1).before args0 about1 = true := by decide +kernel
theorem w_applies : (headSpec (Jvm.Cond.code x code maxLocals ret :: tables_1) room_1).applies x e0.platform about1 = true :=
  (Spec.applies_iff w_frames).mpr ⟨w_running, w_runnable, w_alone, w_named, w_hears, w_ripe, w_room, w_tables⟩
theorem atStart : AtStart classFile x code maxLocals ret World_1 tables_1 room_1 Calls_1 rest_1 Pre_1 launch0 p0 e0 about1 theMethod args0 below0 :=
  ⟨lists_1, trivial, launch0.admits_env _ _ _, launch0.least_env, fairChoices_fair.cas, fairChoices_fair.clock, w_frames, w_args, w_heap, w_applies, trivial, trivial, w_case⟩
end start1
theorem witness_1 : WitnessClaimed_1 := ⟨start1.p0, start1.e0, start1.about1, start1.theMethod, start1.args0, start1.below0, start1.atStart⟩
end Jvm.Pilot.@@N@@
