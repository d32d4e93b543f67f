import JvmDerived
import JvmDerived.Pilot.@@N@@Statement
import JvmDerived.Pilot.@@N@@Code
set_option linter.unusedVariables false
set_option linter.unusedSimpArgs false
namespace Jvm.RoadKit
open Sem ClassFile Op Lib Jvm.Stand Jvm.Free Jvm.LawKit
section New
variable {p : Program} {l : Launch} {e : Env} {R : Room} {s : State} {m : MethodId} {args : Array Value} {below : List Frame} {meth : Method} {c : Code} {T : State} {locs : List Loc} {cells slots : Nat}
theorem retI (X : Stand p l e R s m args below meth c T locs cells slots) (hx : p.tables.exec = Jvm.exec) {pc : Nat} {Ls : Array Slot} {z : Int32} {rest : List Value} (hret : meth.sig.returnType = some .int) (hd : decode c.code pc = .ok (.ireturn, 1)) {fs : List Frame}
    (hl : ∀ (f : JFrame) (acts : List Action), f.method = m → f.locked = none → f.entered = [] → (doReturn e (T.setTop f) acts (some (.int z))).1 = T.setFrames fs) : Steps p.tables e below (T.setTop (mkF m pc Ls (.int z :: rest))) (T.setFrames fs) := by
  have hm' : T.vm.method? m = some meth := X.method'
  have hn : narrow .int (.int z) = .int z := rfl
  show Steps p.tables e below (T.setTop { method := m, pc := pc, locals := Ls, stack := _ :: rest, locked := none }) _
  jvm_step X.here [X.here.top, hx, hd, hm', hret, hn]
  first | (intro acts; rw [hl _ acts rfl rfl rfl]) | rw [hl _ _ rfl rfl rfl]
  exact Steps.refl _
end New
end Jvm.RoadKit
namespace Jvm.Pilot.@@N@@
open Jvm Jvm.ClassFile Sem Op Lib Jvm.Free Jvm.Stand Jvm.LawKit Jvm.RoadKit Bundle Jvm.Pilot.@@N@@.Jvm.D
/-- the goal of a walk, carried over a piece of it -/
theorem own_go {tb : Tables} {e : Env} {below : List Frame} {A B : State} {P : State → Outcome → Prop} (st : ∀ t, Steps tb e below B t → Steps tb e below A t) (h : ∃ s₂ o, Steps tb e below B s₂ ∧ P s₂ o) : ∃ s₂ o, Steps tb e below A s₂ ∧ P s₂ o := by
  obtain ⟨s₂, o, h1, h2⟩ := h
  exact ⟨s₂, o, st _ h1, h2⟩
/-- a boolean as the int that the machine holds -/
def own_i (b : Bool) : Int32 := if b = true then 1 else 0
theorem own_i1 {b : Bool} (h : b = true) : ¬ (own_i b = 0) := by subst h; decide
theorem own_i0 {b : Bool} (h : ¬ b = true) : own_i b = 0 := by cases b; · rfl
                                                               · exact absurd rfl h
theorem own_it {b : Bool} (h : b = true) : own_i b = 1 := by subst h; rfl
theorem own_nb (b : Bool) : nar .boolean (own_i b) = own_i b := by cases b <;> decide
theorem own_nar (x : Int32) : nar .byte (x.toInt8.toInt32) = x.toInt8.toInt32 := by
  show (x.toInt8.toInt32).toInt8.toInt32 = x.toInt8.toInt32
  rw [Int8.toInt8_toInt32]
/-- what the law's own helper returns -/
def own_e (w k : Int32) : Int32 := (((((w.toUInt32 >>> (((8 : Int32) * k) &&& 31).toUInt32).toInt32) &&& (255 : Int32)) ^^^ (128 : Int32)) - (128 : Int32))
theorem own_all : ∀ z : BitVec 8, (((z.setWidth 32) ^^^ 128#32) - 128#32) = z.signExtend 32 := by decide +kernel
theorem own_low (y : BitVec 32) : y &&& 255#32 = (y.setWidth 8).setWidth 32 := by
  apply BitVec.eq_of_toNat_eq
  rw [BitVec.toNat_and, BitVec.toNat_setWidth, BitVec.toNat_setWidth]
  have h : y.toNat &&& 255 = y.toNat % 256 := Nat.and_two_pow_sub_one_eq_mod y.toNat 8
  show y.toNat &&& 255 = _
  rw [h]
  have := y.isLt
  omega
theorem own_sx (y : Int32) : ((y &&& (255 : Int32)) ^^^ (128 : Int32)) - (128 : Int32) = y.toInt8.toInt32 := by
  apply Int32.toBitVec_inj.mp
  rw [Int32.toBitVec_sub, Int32.toBitVec_xor, Int32.toBitVec_and, Int8.toBitVec_toInt32, Int32.toBitVec_toInt8, show (255 : Int32).toBitVec = 255#32 from rfl, show (128 : Int32).toBitVec = 128#32 from rfl, own_low, BitVec.signExtend_eq_setWidth_of_le y.toBitVec (by decide : 8 ≤ 32)]
  exact own_all _
theorem own_e0 (w : Int32) : (w.toInt8.toInt32) = own_e w (0 : Int32) := by
  have h : ((w.toUInt32 >>> (((8 : Int32) * (0 : Int32)) &&& 31).toUInt32).toInt32) = w := by
    apply Int32.toBitVec_inj.mp
    show w.toBitVec >>> 0 = w.toBitVec
    exact BitVec.ushiftRight_zero _
  rw [own_e, h, own_sx]
theorem own_e1 (w : Int32) : (((w.toUInt32 >>> ((8 : Int32) &&& 31).toUInt32).toInt32).toInt8.toInt32) = own_e w (1 : Int32) := (own_sx _).symm
theorem own_e2 (w : Int32) : (((w.toUInt32 >>> ((16 : Int32) &&& 31).toUInt32).toInt32).toInt8.toInt32) = own_e w (2 : Int32) := (own_sx _).symm
theorem own_e3 (w : Int32) : (((w.toUInt32 >>> ((24 : Int32) &&& 31).toUInt32).toInt32).toInt8.toInt32) = own_e w (3 : Int32) := (own_sx _).symm
theorem own_len (x : Int32) : ((x &&& (7 : Int32)) % (5 : Int32)) = (0 : Int32) ∨ ((x &&& (7 : Int32)) % (5 : Int32)) = (1 : Int32) ∨ ((x &&& (7 : Int32)) % (5 : Int32)) = (2 : Int32) ∨ ((x &&& (7 : Int32)) % (5 : Int32)) = (3 : Int32) ∨ ((x &&& (7 : Int32)) % (5 : Int32)) = (4 : Int32) := by
  have e : (x &&& (7 : Int32)).toBitVec.toNat ≤ 7 := by
    rw [Int32.toBitVec_and, BitVec.toNat_and]
    exact Nat.and_le_right
  have h0 : 0 ≤ (x &&& (7 : Int32)).toInt := by
    show 0 ≤ BitVec.toInt _
    rw [BitVec.toInt_eq_toNat_cond, if_pos (by omega)]
    omega
  have h1 : ((x &&& (7 : Int32)) % (5 : Int32)).toInt = (x &&& (7 : Int32)).toInt % 5 := by
    rw [Int32.toInt_mod, show (5 : Int32).toInt = 5 from rfl, Int.tmod_eq_emod_of_nonneg h0]
  simp only [← Int32.toInt_inj, h1, show (0 : Int32).toInt = 0 from rfl, show (1 : Int32).toInt = 1 from rfl, show (2 : Int32).toInt = 2 from rfl, show (3 : Int32).toInt = 3 from rfl, show (4 : Int32).toInt = 4 from rfl]
  omega
theorem d1_0 : decode prog_1_method_2_code 0 = .ok (.aload_n 0, 1) := by decide +kernel
theorem d1_1 : decode prog_1_method_2_code 1 = .ok (.arraylength, 1) := by decide +kernel
theorem d1_2 : decode prog_1_method_2_code 2 = .ok (.newarray .int, 2) := by decide +kernel
theorem d1_4 : decode prog_1_method_2_code 4 = .ok (.astore_n 1, 1) := by decide +kernel
theorem d1_5 : decode prog_1_method_2_code 5 = .ok (.iconst 0, 1) := by decide +kernel
theorem d1_6 : decode prog_1_method_2_code 6 = .ok (.istore_n 2, 1) := by decide +kernel
theorem d1_7 : decode prog_1_method_2_code 7 = .ok (.iload_n 2, 1) := by decide +kernel
theorem d1_8 : decode prog_1_method_2_code 8 = .ok (.aload_n 0, 1) := by decide +kernel
theorem d1_9 : decode prog_1_method_2_code 9 = .ok (.arraylength, 1) := by decide +kernel
theorem d1_10 : decode prog_1_method_2_code 10 = .ok (.if_icmp .ge 15, 3) := by decide +kernel
theorem d1_13 : decode prog_1_method_2_code 13 = .ok (.aload_n 1, 1) := by decide +kernel
theorem d1_14 : decode prog_1_method_2_code 14 = .ok (.iload_n 2, 1) := by decide +kernel
theorem d1_15 : decode prog_1_method_2_code 15 = .ok (.aload_n 0, 1) := by decide +kernel
theorem d1_16 : decode prog_1_method_2_code 16 = .ok (.iload_n 2, 1) := by decide +kernel
theorem d1_17 : decode prog_1_method_2_code 17 = .ok (.baload, 1) := by decide +kernel
theorem d1_18 : decode prog_1_method_2_code 18 = .ok (.iastore, 1) := by decide +kernel
theorem d1_19 : decode prog_1_method_2_code 19 = .ok (.iinc 2 1, 3) := by decide +kernel
theorem d1_22 : decode prog_1_method_2_code 22 = .ok (.goto (-15), 3) := by decide +kernel
theorem d1_25 : decode prog_1_method_2_code 25 = .ok (.aload_n 1, 1) := by decide +kernel
theorem d1_26 : decode prog_1_method_2_code 26 = .ok (.areturn, 1) := by decide +kernel
theorem d2_0 : decode method_2_code 0 = .ok (.iload_n 0, 1) := by decide +kernel
theorem d2_1 : decode method_2_code 1 = .ok (.bipush 8, 2) := by decide +kernel
theorem d2_3 : decode method_2_code 3 = .ok (.iload_n 1, 1) := by decide +kernel
theorem d2_4 : decode method_2_code 4 = .ok (.imul, 1) := by decide +kernel
theorem d2_5 : decode method_2_code 5 = .ok (.iushr, 1) := by decide +kernel
theorem d2_6 : decode method_2_code 6 = .ok (.sipush 255, 3) := by decide +kernel
theorem d2_9 : decode method_2_code 9 = .ok (.iand, 1) := by decide +kernel
theorem d2_10 : decode method_2_code 10 = .ok (.sipush 128, 3) := by decide +kernel
theorem d2_13 : decode method_2_code 13 = .ok (.ixor, 1) := by decide +kernel
theorem d2_14 : decode method_2_code 14 = .ok (.sipush 128, 3) := by decide +kernel
theorem d2_17 : decode method_2_code 17 = .ok (.isub, 1) := by decide +kernel
theorem d2_18 : decode method_2_code 18 = .ok (.ireturn, 1) := by decide +kernel
theorem pd_0 : parseMethodDescriptor "([B)[I" = some ⟨[(.array .byte)], some (.array .int)⟩ := by decide +kernel
theorem pd_1 : parseMethodDescriptor "(II)I" = some ⟨[.int, .int], some .int⟩ := by decide +kernel
theorem pn_0 : plainName "needlemark/CompiledPatternSymbolsPinLaw" = true := by first | (simp [plainName, overriddenIn]; done) | decide +kernel
theorem pn_1 : plainName "needlemark/CompiledPattern" = true := by first | (simp [plainName, overriddenIn]; done) | decide +kernel
theorem ef_2 (m : MethodId) (x0 : Int32) (x1 : Int32) : entryFrame m #[(.int x0), (.int x1)] 2 = mkF m 0 #[.val (.int x0), .val (.int x1)] [] := by first | (simp [entryFrame, mkF, argsToLocals, Value.category]; done) | rfl
def Q2 (Z : State) (p1 p2 : Int32) (h0 : Heap) (n0 : Nat) (v : Option Value) (h : Heap) (L : List Loc) : Prop := v = some (.int (own_e p1 p2)) ∧ Fr n0 L ∧ h = h0
set_option maxRecDepth 65536 in
set_option maxHeartbeats 40000000 in
theorem rm2 (l : Launch) (Z : State) (a0 : Array Value) (hw : ∀ d ∈ tables_1, d.before a0 Z = true) (ws : List Jvm.Cond) (p1 : Int32) (p2 : Int32)  (h0 : Heap) (n0 : Nat) (Z0 : n0 ≤ h0.size)  :
    MetFree l (⟨"needlemark/CompiledPatternSymbolsPinLaw", "expected", "(II)I"⟩ : MethodName) (head1 (Jvm.Cond.code (⟨"needlemark/CompiledPatternSymbolsPinLaw", "expected", "(II)I"⟩ : MethodName) method_2_code 2 (some .int) :: ws) ({ frames := 0, cells := 0, slots := 0, locals := 0 } : Room)) (fun a U => a = #[(.int p1), (.int p2)] ∧ Z.Warmed39 U.vm ∧ U.heap = h0) (fun _ _ _ _ _ => True) (fun _ U o U' => ∃ v L, o = .returned v ∧ Q2 Z p1 p2 h0 n0 v U'.heap L ∧ FrameEnd U o U' L ({ frames := 0, cells := 0, slots := 0, locals := 0 } : Room).cells ({ frames := 0, cells := 0, slots := 0, locals := 0 } : Room).slots) := by
  refine MetFree.of_bodySF (plainFor_of_name pn_0) hisR ?_
  intro p e s m args below meth c s₁ Bd hml0 hP hK
  obtain ⟨rfl, hZ, hh⟩ := hP
  have hx := Bd.exec
  have hby := Bd.bytes
  have hml : c.maxLocals = 2 := hml0
  have hown : s.vm.findClass "needlemark/CompiledPatternSymbolsPinLaw" = some m.cls := findClass_of_methodNamed Bd.named
  have hnm := (name_of_methodNamed Bd.named Bd.method).1
  have X0 : Stand p l e ({ frames := 0, cells := 0, slots := 0, locals := 0 } : Room) s m #[(.int p1), (.int p2)] below meth c s₁ [] 0 0 := Stand.of_body Bd
  have e0 : s₁.heap = h0 := by rw [← hh, Bd.state]; rfl
  have N0 := Fr.nil n0
  refine own_go (B := s₁.setTop (mkF m 0 #[.val (.int p1), .val (.int p2)] [])) (fun t kt => castTop (ef_2 m p1 p2) kt) ?_
  refine own_go (B := s₁.setTop (mkF m 18 #[.val (.int p1), .val (.int p2)] [(.int (own_e p1 p2))])) (fun t kt => ?_) ?_
  · show Steps p.tables e below (s₁.setTop (mkF m 0 #[.val (.int p1), .val (.int p2)] [])) _
    refine XS.iloadN X0.here hx rfl (hb hby d2_0) rfl ?_
    show Steps p.tables e below (s₁.setTop (mkF m 1 #[.val (.int p1), .val (.int p2)] [(.int p1)])) _
    refine XS.bipush X0.here hx rfl (hb hby d2_1) ?_
    show Steps p.tables e below (s₁.setTop (mkF m 3 #[.val (.int p1), .val (.int p2)] [(.int (8 : Int32)), (.int p1)])) _
    refine XS.iloadN X0.here hx rfl (hb hby d2_3) rfl ?_
    show Steps p.tables e below (s₁.setTop (mkF m 4 #[.val (.int p1), .val (.int p2)] [(.int p2), (.int (8 : Int32)), (.int p1)])) _
    refine XS.imul X0.here hx rfl (hb hby d2_4) rfl ?_
    show Steps p.tables e below (s₁.setTop (mkF m 5 #[.val (.int p1), .val (.int p2)] [(.int ((8 : Int32) * p2)), (.int p1)])) _
    refine XS.iushr X0.here hx rfl (hb hby d2_5) rfl ?_
    show Steps p.tables e below (s₁.setTop (mkF m 6 #[.val (.int p1), .val (.int p2)] [(.int ((p1.toUInt32 >>> (((8 : Int32) * p2) &&& 31).toUInt32).toInt32))])) _
    refine XS.sipush X0.here hx rfl (hb hby d2_6) ?_
    show Steps p.tables e below (s₁.setTop (mkF m 9 #[.val (.int p1), .val (.int p2)] [(.int (255 : Int32)), (.int ((p1.toUInt32 >>> (((8 : Int32) * p2) &&& 31).toUInt32).toInt32))])) _
    refine XS.iand X0.here hx rfl (hb hby d2_9) rfl ?_
    show Steps p.tables e below (s₁.setTop (mkF m 10 #[.val (.int p1), .val (.int p2)] [(.int (((p1.toUInt32 >>> (((8 : Int32) * p2) &&& 31).toUInt32).toInt32) &&& (255 : Int32)))])) _
    refine XS.sipush X0.here hx rfl (hb hby d2_10) ?_
    show Steps p.tables e below (s₁.setTop (mkF m 13 #[.val (.int p1), .val (.int p2)] [(.int (128 : Int32)), (.int (((p1.toUInt32 >>> (((8 : Int32) * p2) &&& 31).toUInt32).toInt32) &&& (255 : Int32)))])) _
    refine XS.ixor X0.here hx rfl (hb hby d2_13) rfl ?_
    show Steps p.tables e below (s₁.setTop (mkF m 14 #[.val (.int p1), .val (.int p2)] [(.int ((((p1.toUInt32 >>> (((8 : Int32) * p2) &&& 31).toUInt32).toInt32) &&& (255 : Int32)) ^^^ (128 : Int32)))])) _
    refine XS.sipush X0.here hx rfl (hb hby d2_14) ?_
    show Steps p.tables e below (s₁.setTop (mkF m 17 #[.val (.int p1), .val (.int p2)] [(.int (128 : Int32)), (.int ((((p1.toUInt32 >>> (((8 : Int32) * p2) &&& 31).toUInt32).toInt32) &&& (255 : Int32)) ^^^ (128 : Int32)))])) _
    refine XS.isub X0.here hx rfl (hb hby d2_17) rfl ?_
    exact kt
  obtain ⟨fs, hr, hrun, hended, hW, hsame⟩ := X0.leave (v := some (.int (own_e p1 p2))) (fun h => by rw [Bd.returns] at h; cases h)
  refine ⟨_, _, ?_, hrun, hended, _, _, rfl, ?_, ⟨_, rfl⟩, hW, hsame.mono (by decide) (by decide)⟩
  · show Steps p.tables e below (s₁.setTop (mkF m 18 #[.val (.int p1), .val (.int p2)] [(.int (own_e p1 p2))])) _
    exact retI X0 hx Bd.returns (hb hby d2_18) hr
  · show Q2 Z p1 p2 h0 n0 _ s₁.heap _
    rw [e0]
    exact ⟨rfl, N0, rfl⟩
theorem ef_1 (m : MethodId) (x0 : Addr) : entryFrame m #[(.ref x0)] 3 = mkF m 0 #[.val (.ref x0), .unset, .unset] [] := by first | (simp [entryFrame, mkF, argsToLocals, Value.category]; done) | rfl
def Q1_0 (Z : State) (a1 : Addr)  (h0 : Heap) (n0 : Nat) (v : Option Value) (h : Heap) (L : List Loc) : Prop := ∃ (b : Addr) (kb : ClassId), v = some (.ref b) ∧ Fr n0 L ∧ Keep h0 h [] ∧ h0.size ≤ b ∧ Arv Z h b kb .int (0 : Int32) [] (.int (0 : Int32))
set_option maxRecDepth 65536 in
set_option maxHeartbeats 40000000 in
theorem rm1_0 (l : Launch) (Z : State) (a0 : Array Value) (hw : ∀ d ∈ tables_1, d.before a0 Z = true) (ws : List Jvm.Cond) (a1 : Addr) (ka : ClassId)  (h0 : Heap) (n0 : Nat) (Z0 : n0 ≤ h0.size) (Va : Arv Z h0 a1 ka .byte (0 : Int32) [] (.int (0 : Int32))) :
    MetFree l (⟨"needlemark/CompiledPattern", "symbols", "([B)[I"⟩ : MethodName) (head1 (Jvm.Cond.code (⟨"needlemark/CompiledPattern", "symbols", "([B)[I"⟩ : MethodName) prog_1_method_2_code 3 (some (.array .int)) :: ws) ({ frames := 0, cells := 1, slots := 0, locals := 0 } : Room)) (fun a U => a = #[(.ref a1)] ∧ Z.Warmed39 U.vm ∧ U.heap = h0) (fun _ _ _ _ _ => True) (fun _ U o U' => ∃ v L, o = .returned v ∧ Q1_0 Z a1  h0 n0 v U'.heap L ∧ FrameEnd U o U' L ({ frames := 0, cells := 1, slots := 0, locals := 0 } : Room).cells ({ frames := 0, cells := 1, slots := 0, locals := 0 } : Room).slots) := by
  refine MetFree.of_bodySF (plainFor_of_name pn_1) hisR ?_
  intro p e s m args below meth c s₁ Bd hml0 hP hK
  obtain ⟨rfl, hZ, hh⟩ := hP
  have hx := Bd.exec
  have hby := Bd.bytes
  have hml : c.maxLocals = 3 := hml0
  have hown : s.vm.findClass "needlemark/CompiledPattern" = some m.cls := findClass_of_methodNamed Bd.named
  have hnm := (name_of_methodNamed Bd.named Bd.method).1
  have X0 : Stand p l e ({ frames := 0, cells := 1, slots := 0, locals := 0 } : Room) s m #[(.ref a1)] below meth c s₁ [] 0 0 := Stand.of_body Bd
  have e0 : s₁.heap = h0 := by rw [← hh, Bd.state]; rfl
  have N0 := Fr.nil n0
  refine own_go (B := s₁.setTop (mkF m 0 #[.val (.ref a1), .unset, .unset] [])) (fun t kt => castTop (ef_1 m a1) kt) ?_
  obtain ⟨cl, Ar, qa, S, M, H, U⟩ := Va
  have Va : Arv Z h0 a1 ka .byte (0 : Int32) [] (.int (0 : Int32)) := ⟨cl, Ar, qa, S, M, H, U⟩
  refine own_go (B := s₁.setTop (mkF m 2 #[.val (.ref a1), .unset, .unset] [(.int (0 : Int32))])) (fun t kt => ?_) ?_
  · show Steps p.tables e below (s₁.setTop (mkF m 0 #[.val (.ref a1), .unset, .unset] [])) _
    refine XS.aloadN X0.here hx rfl (hb hby d1_0) rfl rfl ?_
    show Steps p.tables e below (s₁.setTop (mkF m 1 #[.val (.ref a1), .unset, .unset] [(.ref a1)])) _
    refine X0.arraylength hx (cell := cl) (by rw [e0]; exact Ar.1) (State.isArrayOf_alike hZ.alike Ar.2.1) (g := (mkF m 1 #[.val (.ref a1), .unset, .unset] [(.ref a1)])) rfl rfl (hb hby d1_1) _ ?_
    rw [len_of S M]
    exact kt
  obtain ⟨T1, h1, k1, X1, e1, E1, A1, st1⟩ := newP X0 hx hZ (hw _ (List.mem_of_getElem? (i := 5) rfl)) e0 (g := (mkF m 2 #[.val (.ref a1), .unset, .unset] [(.int (0 : Int32))])) rfl (hb hby d1_2) rfl (by decide) (cap := 0) (by decide) (by decide) (by decide) (by decide)
  obtain ⟨b1, g1⟩ : ∃ z, z = h0.size := ⟨_, rfl⟩
  rw [← g1] at A1 st1
  refine own_go (B := T1.setTop (mkF m 4 #[.val (.ref a1), .unset, .unset] [(.ref b1)])) (fun t kt => st1 t kt) ?_
  have gb : n0 ≤ b1 := Nat.le_trans Z0 (Nat.le_of_eq g1.symm)
  have hne : a1 ≠ b1 := Nat.ne_of_lt (Nat.lt_of_lt_of_le Va.lt (Nat.le_of_eq g1.symm))
  have K0 : Keep h0 h1 [] := (Keep.refl h0 []).ext E1
  have V0 : Arv Z h1 b1 k1 .int (0 : Int32) [] (.int (0 : Int32)) := Arv.new A1 (by decide)
  have Ar0 := Ar.ext E1
  refine own_go (B := T1.setTop (mkF m 26 #[.val (.ref a1), .val (.ref b1), .val (.int (0 : Int32))] [(.ref b1)])) (fun t kt => ?_) ?_
  · show Steps p.tables e below (T1.setTop (mkF m 4 #[.val (.ref a1), .unset, .unset] [(.ref b1)])) _
    refine XS.astoreN X1.here hx rfl (hb hby d1_4) rfl rfl (l' := #[.val (.ref a1), .val (.ref b1), .unset]) rfl ?_
    show Steps p.tables e below (T1.setTop (mkF m 5 #[.val (.ref a1), .val (.ref b1), .unset] [])) _
    refine XS.iconst X1.here hx rfl (hb hby d1_5) ?_
    show Steps p.tables e below (T1.setTop (mkF m 6 #[.val (.ref a1), .val (.ref b1), .unset] [(.int (0 : Int32))])) _
    refine XS.istoreN X1.here hx rfl (hb hby d1_6) rfl (l' := #[.val (.ref a1), .val (.ref b1), .val (.int (0 : Int32))]) rfl ?_
    show Steps p.tables e below (T1.setTop (mkF m 7 #[.val (.ref a1), .val (.ref b1), .val (.int (0 : Int32))] [])) _
    refine XS.iloadN X1.here hx rfl (hb hby d1_7) rfl ?_
    show Steps p.tables e below (T1.setTop (mkF m 8 #[.val (.ref a1), .val (.ref b1), .val (.int (0 : Int32))] [(.int (0 : Int32))])) _
    refine XS.aloadN X1.here hx rfl (hb hby d1_8) rfl rfl ?_
    show Steps p.tables e below (T1.setTop (mkF m 9 #[.val (.ref a1), .val (.ref b1), .val (.int (0 : Int32))] [(.ref a1), (.int (0 : Int32))])) _
    refine X1.arraylength hx (cell := cl) (by rw [e1]; exact Ar0.1) (State.isArrayOf_alike hZ.alike Ar0.2.1) (g := (mkF m 9 #[.val (.ref a1), .val (.ref b1), .val (.int (0 : Int32))] [(.ref a1), (.int (0 : Int32))])) rfl rfl (hb hby d1_9) _ ?_
    rw [len_of S M]
    show Steps p.tables e below (T1.setTop (mkF m 10 #[.val (.ref a1), .val (.ref b1), .val (.int (0 : Int32))] [(.int (0 : Int32)), (.int (0 : Int32))])) _
    refine XS.icmpYes X1.here hx rfl (pc0 := 10) (pc' := 25) rfl (hb hby d1_10) rfl (flt (by decide)).2.1 (by decide) (by decide) ?_
    show Steps p.tables e below (T1.setTop (mkF m 25 #[.val (.ref a1), .val (.ref b1), .val (.int (0 : Int32))] [])) _
    refine XS.aloadN X1.here hx rfl (hb hby d1_25) rfl rfl ?_
    exact kt
  obtain ⟨fs, hr, hrun, hended, hW, hsame⟩ := X1.leave (v := some (.ref b1)) (fun h => by rw [Bd.returns] at h; cases h)
  refine ⟨_, _, ?_, hrun, hended, _, _, rfl, ?_, ⟨_, rfl⟩, hW, hsame.mono (by decide) (by decide)⟩
  · show Steps p.tables e below (T1.setTop (mkF m 26 #[.val (.ref a1), .val (.ref b1), .val (.int (0 : Int32))] [(.ref b1)])) _
    exact retOut X1 hx Bd.returns rfl (Or.inr (Or.inr (Or.inr (Or.inr ⟨rfl, rfl, rfl⟩)))) (hb hby d1_26) hr
  · show Q1_0 Z a1  h0 n0 _ T1.heap _
    rw [e1]
    exact ⟨b1, k1, rfl, N0, K0, Nat.le_of_eq g1.symm, V0⟩
def Q1_1 (Z : State) (a1 : Addr) (x0 : Int32) (h0 : Heap) (n0 : Nat) (v : Option Value) (h : Heap) (L : List Loc) : Prop := ∃ (b : Addr) (kb : ClassId), v = some (.ref b) ∧ Fr n0 L ∧ Keep h0 h [] ∧ h0.size ≤ b ∧ Arv Z h b kb .int (1 : Int32) [(.int x0)] (.int (0 : Int32))
set_option maxRecDepth 65536 in
set_option maxHeartbeats 40000000 in
theorem rm1_1 (l : Launch) (Z : State) (a0 : Array Value) (hw : ∀ d ∈ tables_1, d.before a0 Z = true) (ws : List Jvm.Cond) (a1 : Addr) (ka : ClassId) (x0 : Int32) (h0 : Heap) (n0 : Nat) (Z0 : n0 ≤ h0.size) (Va : Arv Z h0 a1 ka .byte (1 : Int32) [(.int x0)] (.int (0 : Int32))) :
    MetFree l (⟨"needlemark/CompiledPattern", "symbols", "([B)[I"⟩ : MethodName) (head1 (Jvm.Cond.code (⟨"needlemark/CompiledPattern", "symbols", "([B)[I"⟩ : MethodName) prog_1_method_2_code 3 (some (.array .int)) :: ws) ({ frames := 0, cells := 1, slots := 1, locals := 0 } : Room)) (fun a U => a = #[(.ref a1)] ∧ Z.Warmed39 U.vm ∧ U.heap = h0) (fun _ _ _ _ _ => True) (fun _ U o U' => ∃ v L, o = .returned v ∧ Q1_1 Z a1 x0 h0 n0 v U'.heap L ∧ FrameEnd U o U' L ({ frames := 0, cells := 1, slots := 1, locals := 0 } : Room).cells ({ frames := 0, cells := 1, slots := 1, locals := 0 } : Room).slots) := by
  refine MetFree.of_bodySF (plainFor_of_name pn_1) hisR ?_
  intro p e s m args below meth c s₁ Bd hml0 hP hK
  obtain ⟨rfl, hZ, hh⟩ := hP
  have hx := Bd.exec
  have hby := Bd.bytes
  have hml : c.maxLocals = 3 := hml0
  have hown : s.vm.findClass "needlemark/CompiledPattern" = some m.cls := findClass_of_methodNamed Bd.named
  have hnm := (name_of_methodNamed Bd.named Bd.method).1
  have X0 : Stand p l e ({ frames := 0, cells := 1, slots := 1, locals := 0 } : Room) s m #[(.ref a1)] below meth c s₁ [] 0 0 := Stand.of_body Bd
  have e0 : s₁.heap = h0 := by rw [← hh, Bd.state]; rfl
  have N0 := Fr.nil n0
  refine own_go (B := s₁.setTop (mkF m 0 #[.val (.ref a1), .unset, .unset] [])) (fun t kt => castTop (ef_1 m a1) kt) ?_
  obtain ⟨cl, Ar, qa, S, M, H, U⟩ := Va
  have Va : Arv Z h0 a1 ka .byte (1 : Int32) [(.int x0)] (.int (0 : Int32)) := ⟨cl, Ar, qa, S, M, H, U⟩
  refine own_go (B := s₁.setTop (mkF m 2 #[.val (.ref a1), .unset, .unset] [(.int (1 : Int32))])) (fun t kt => ?_) ?_
  · show Steps p.tables e below (s₁.setTop (mkF m 0 #[.val (.ref a1), .unset, .unset] [])) _
    refine XS.aloadN X0.here hx rfl (hb hby d1_0) rfl rfl ?_
    show Steps p.tables e below (s₁.setTop (mkF m 1 #[.val (.ref a1), .unset, .unset] [(.ref a1)])) _
    refine X0.arraylength hx (cell := cl) (by rw [e0]; exact Ar.1) (State.isArrayOf_alike hZ.alike Ar.2.1) (g := (mkF m 1 #[.val (.ref a1), .unset, .unset] [(.ref a1)])) rfl rfl (hb hby d1_1) _ ?_
    rw [len_of S M]
    exact kt
  obtain ⟨T2, h2, k2, X2, e2, E2, A2, st2⟩ := newP X0 hx hZ (hw _ (List.mem_of_getElem? (i := 5) rfl)) e0 (g := (mkF m 2 #[.val (.ref a1), .unset, .unset] [(.int (1 : Int32))])) rfl (hb hby d1_2) rfl (by decide) (cap := 1) (by decide) (by decide) (by decide) (by decide)
  obtain ⟨b2, g2⟩ : ∃ z, z = h0.size := ⟨_, rfl⟩
  rw [← g2] at A2 st2
  refine own_go (B := T2.setTop (mkF m 4 #[.val (.ref a1), .unset, .unset] [(.ref b2)])) (fun t kt => st2 t kt) ?_
  have gb : n0 ≤ b2 := Nat.le_trans Z0 (Nat.le_of_eq g2.symm)
  have hne : a1 ≠ b2 := Nat.ne_of_lt (Nat.lt_of_lt_of_le Va.lt (Nat.le_of_eq g2.symm))
  have K0 : Keep h0 h2 [] := (Keep.refl h0 []).ext E2
  have V0 : Arv Z h2 b2 k2 .int (1 : Int32) [(.int (0 : Int32))] (.int (0 : Int32)) := (Arv.new A2 (by decide)).pad (pad_rep [] (.int (0 : Int32)) 1)
  have Ar0 := Ar.ext E2
  refine own_go (B := T2.setTop (mkF m 18 #[.val (.ref a1), .val (.ref b2), .val (.int (0 : Int32))] [(.int x0), (.int (0 : Int32)), (.ref b2)])) (fun t kt => ?_) ?_
  · show Steps p.tables e below (T2.setTop (mkF m 4 #[.val (.ref a1), .unset, .unset] [(.ref b2)])) _
    refine XS.astoreN X2.here hx rfl (hb hby d1_4) rfl rfl (l' := #[.val (.ref a1), .val (.ref b2), .unset]) rfl ?_
    show Steps p.tables e below (T2.setTop (mkF m 5 #[.val (.ref a1), .val (.ref b2), .unset] [])) _
    refine XS.iconst X2.here hx rfl (hb hby d1_5) ?_
    show Steps p.tables e below (T2.setTop (mkF m 6 #[.val (.ref a1), .val (.ref b2), .unset] [(.int (0 : Int32))])) _
    refine XS.istoreN X2.here hx rfl (hb hby d1_6) rfl (l' := #[.val (.ref a1), .val (.ref b2), .val (.int (0 : Int32))]) rfl ?_
    show Steps p.tables e below (T2.setTop (mkF m 7 #[.val (.ref a1), .val (.ref b2), .val (.int (0 : Int32))] [])) _
    refine XS.iloadN X2.here hx rfl (hb hby d1_7) rfl ?_
    show Steps p.tables e below (T2.setTop (mkF m 8 #[.val (.ref a1), .val (.ref b2), .val (.int (0 : Int32))] [(.int (0 : Int32))])) _
    refine XS.aloadN X2.here hx rfl (hb hby d1_8) rfl rfl ?_
    show Steps p.tables e below (T2.setTop (mkF m 9 #[.val (.ref a1), .val (.ref b2), .val (.int (0 : Int32))] [(.ref a1), (.int (0 : Int32))])) _
    refine X2.arraylength hx (cell := cl) (by rw [e2]; exact Ar0.1) (State.isArrayOf_alike hZ.alike Ar0.2.1) (g := (mkF m 9 #[.val (.ref a1), .val (.ref b2), .val (.int (0 : Int32))] [(.ref a1), (.int (0 : Int32))])) rfl rfl (hb hby d1_9) _ ?_
    rw [len_of S M]
    show Steps p.tables e below (T2.setTop (mkF m 10 #[.val (.ref a1), .val (.ref b2), .val (.int (0 : Int32))] [(.int (1 : Int32)), (.int (0 : Int32))])) _
    refine XS.icmpNo X2.here hx rfl (hb hby d1_10) rfl (tlt (by decide)).2.1 ?_
    show Steps p.tables e below (T2.setTop (mkF m 13 #[.val (.ref a1), .val (.ref b2), .val (.int (0 : Int32))] [])) _
    refine XS.aloadN X2.here hx rfl (hb hby d1_13) rfl rfl ?_
    show Steps p.tables e below (T2.setTop (mkF m 14 #[.val (.ref a1), .val (.ref b2), .val (.int (0 : Int32))] [(.ref b2)])) _
    refine XS.iloadN X2.here hx rfl (hb hby d1_14) rfl ?_
    show Steps p.tables e below (T2.setTop (mkF m 15 #[.val (.ref a1), .val (.ref b2), .val (.int (0 : Int32))] [(.int (0 : Int32)), (.ref b2)])) _
    refine XS.aloadN X2.here hx rfl (hb hby d1_15) rfl rfl ?_
    show Steps p.tables e below (T2.setTop (mkF m 16 #[.val (.ref a1), .val (.ref b2), .val (.int (0 : Int32))] [(.ref a1), (.int (0 : Int32)), (.ref b2)])) _
    refine XS.iloadN X2.here hx rfl (hb hby d1_16) rfl ?_
    show Steps p.tables e below (T2.setTop (mkF m 17 #[.val (.ref a1), .val (.ref b2), .val (.int (0 : Int32))] [(.int (0 : Int32)), (.ref a1), (.int (0 : Int32)), (.ref b2)])) _
    refine X2.baloadBytes hx (j := (0 : Int32)) (v := (.int x0)) (by rw [e2]; exact Ar0.1) (State.isArrayOf_alike hZ.alike Ar0.2.1) Ar0.2.2 (inb_of S ⟨by decide, by decide⟩) (H.at (inb_of S ⟨by decide, by decide⟩) rfl) (g := (mkF m 17 #[.val (.ref a1), .val (.ref b2), .val (.int (0 : Int32))] [(.int (0 : Int32)), (.ref a1), (.int (0 : Int32)), (.ref b2)])) rfl rfl (hb hby d1_17) _ ?_
    exact kt
  obtain ⟨cv0, Av0, qv0, Sv0, Mv0, Hv0, Uv0⟩ := V0
  obtain ⟨T3, h3, X3, e3, W3, st3⟩ := stI X2 hx hZ e2 Av0 (j := (0 : Int32)) (inb_of Sv0 ⟨by decide, by decide⟩) (g := (mkF m 18 #[.val (.ref a1), .val (.ref b2), .val (.int (0 : Int32))] [(.int x0), (.int (0 : Int32)), (.ref b2)])) rfl rfl (hb hby d1_18)
  have N3 := Fr.snoc X3 N0 gb
  refine own_go (B := T3.setTop (mkF m 19 #[.val (.ref a1), .val (.ref b2), .val (.int (0 : Int32))] [])) (fun t kt => st3 t kt) ?_
  have V1 : Arv Z h3 b2 k2 .int (1 : Int32) [(.int x0)] (.int (0 : Int32)) := Arv.set Av0 qv0 Sv0 Mv0 Hv0 Uv0 rfl W3 0 rfl (Nat.le_of_ble_eq_true rfl)
  have Ar1 := Ar0.other W3 hne
  have K1 : Keep h0 h3 [] := K0.wr W3 (Or.inr (Nat.le_of_eq g2.symm))
  refine own_go (B := T3.setTop (mkF m 7 #[.val (.ref a1), .val (.ref b2), .val (.int ((0 : Int32) + (1 : Int32)))] [])) (fun t kt => ?_) ?_
  · show Steps p.tables e below (T3.setTop (mkF m 19 #[.val (.ref a1), .val (.ref b2), .val (.int (0 : Int32))] [])) _
    refine XS.iinc X3.here hx rfl (hb hby d1_19) rfl (l' := #[.val (.ref a1), .val (.ref b2), .val (.int ((0 : Int32) + (1 : Int32)))]) rfl ?_
    show Steps p.tables e below (T3.setTop (mkF m 22 #[.val (.ref a1), .val (.ref b2), .val (.int ((0 : Int32) + (1 : Int32)))] [])) _
    refine XS.goto X3.here hx rfl (pc0 := 22) (pc' := 7) rfl (hb hby d1_22) (by decide) (by decide) ?_
    exact kt
  rw [show ((0 : Int32) + (1 : Int32)) = (1 : Int32) from by decide]
  refine own_go (B := T3.setTop (mkF m 26 #[.val (.ref a1), .val (.ref b2), .val (.int (1 : Int32))] [(.ref b2)])) (fun t kt => ?_) ?_
  · show Steps p.tables e below (T3.setTop (mkF m 7 #[.val (.ref a1), .val (.ref b2), .val (.int (1 : Int32))] [])) _
    refine XS.iloadN X3.here hx rfl (hb hby d1_7) rfl ?_
    show Steps p.tables e below (T3.setTop (mkF m 8 #[.val (.ref a1), .val (.ref b2), .val (.int (1 : Int32))] [(.int (1 : Int32))])) _
    refine XS.aloadN X3.here hx rfl (hb hby d1_8) rfl rfl ?_
    show Steps p.tables e below (T3.setTop (mkF m 9 #[.val (.ref a1), .val (.ref b2), .val (.int (1 : Int32))] [(.ref a1), (.int (1 : Int32))])) _
    refine X3.arraylength hx (cell := cl) (by rw [e3]; exact Ar1.1) (State.isArrayOf_alike hZ.alike Ar1.2.1) (g := (mkF m 9 #[.val (.ref a1), .val (.ref b2), .val (.int (1 : Int32))] [(.ref a1), (.int (1 : Int32))])) rfl rfl (hb hby d1_9) _ ?_
    rw [len_of S M]
    show Steps p.tables e below (T3.setTop (mkF m 10 #[.val (.ref a1), .val (.ref b2), .val (.int (1 : Int32))] [(.int (1 : Int32)), (.int (1 : Int32))])) _
    refine XS.icmpYes X3.here hx rfl (pc0 := 10) (pc' := 25) rfl (hb hby d1_10) rfl (flt (by decide)).2.1 (by decide) (by decide) ?_
    show Steps p.tables e below (T3.setTop (mkF m 25 #[.val (.ref a1), .val (.ref b2), .val (.int (1 : Int32))] [])) _
    refine XS.aloadN X3.here hx rfl (hb hby d1_25) rfl rfl ?_
    exact kt
  obtain ⟨fs, hr, hrun, hended, hW, hsame⟩ := X3.leave (v := some (.ref b2)) (fun h => by rw [Bd.returns] at h; cases h)
  refine ⟨_, _, ?_, hrun, hended, _, _, rfl, ?_, ⟨_, rfl⟩, hW, hsame.mono (by decide) (by decide)⟩
  · show Steps p.tables e below (T3.setTop (mkF m 26 #[.val (.ref a1), .val (.ref b2), .val (.int (1 : Int32))] [(.ref b2)])) _
    exact retOut X3 hx Bd.returns rfl (Or.inr (Or.inr (Or.inr (Or.inr ⟨rfl, rfl, rfl⟩)))) (hb hby d1_26) hr
  · show Q1_1 Z a1 x0 h0 n0 _ T3.heap _
    rw [e3]
    exact ⟨b2, k2, rfl, N3, K1, Nat.le_of_eq g2.symm, V1⟩
def Q1_2 (Z : State) (a1 : Addr) (x0 x1 : Int32) (h0 : Heap) (n0 : Nat) (v : Option Value) (h : Heap) (L : List Loc) : Prop := ∃ (b : Addr) (kb : ClassId), v = some (.ref b) ∧ Fr n0 L ∧ Keep h0 h [] ∧ h0.size ≤ b ∧ Arv Z h b kb .int (2 : Int32) [(.int x0), (.int x1)] (.int (0 : Int32))
set_option maxRecDepth 65536 in
set_option maxHeartbeats 40000000 in
theorem rm1_2 (l : Launch) (Z : State) (a0 : Array Value) (hw : ∀ d ∈ tables_1, d.before a0 Z = true) (ws : List Jvm.Cond) (a1 : Addr) (ka : ClassId) (x0 x1 : Int32) (h0 : Heap) (n0 : Nat) (Z0 : n0 ≤ h0.size) (Va : Arv Z h0 a1 ka .byte (2 : Int32) [(.int x0), (.int x1)] (.int (0 : Int32))) :
    MetFree l (⟨"needlemark/CompiledPattern", "symbols", "([B)[I"⟩ : MethodName) (head1 (Jvm.Cond.code (⟨"needlemark/CompiledPattern", "symbols", "([B)[I"⟩ : MethodName) prog_1_method_2_code 3 (some (.array .int)) :: ws) ({ frames := 0, cells := 1, slots := 2, locals := 0 } : Room)) (fun a U => a = #[(.ref a1)] ∧ Z.Warmed39 U.vm ∧ U.heap = h0) (fun _ _ _ _ _ => True) (fun _ U o U' => ∃ v L, o = .returned v ∧ Q1_2 Z a1 x0 x1 h0 n0 v U'.heap L ∧ FrameEnd U o U' L ({ frames := 0, cells := 1, slots := 2, locals := 0 } : Room).cells ({ frames := 0, cells := 1, slots := 2, locals := 0 } : Room).slots) := by
  refine MetFree.of_bodySF (plainFor_of_name pn_1) hisR ?_
  intro p e s m args below meth c s₁ Bd hml0 hP hK
  obtain ⟨rfl, hZ, hh⟩ := hP
  have hx := Bd.exec
  have hby := Bd.bytes
  have hml : c.maxLocals = 3 := hml0
  have hown : s.vm.findClass "needlemark/CompiledPattern" = some m.cls := findClass_of_methodNamed Bd.named
  have hnm := (name_of_methodNamed Bd.named Bd.method).1
  have X0 : Stand p l e ({ frames := 0, cells := 1, slots := 2, locals := 0 } : Room) s m #[(.ref a1)] below meth c s₁ [] 0 0 := Stand.of_body Bd
  have e0 : s₁.heap = h0 := by rw [← hh, Bd.state]; rfl
  have N0 := Fr.nil n0
  refine own_go (B := s₁.setTop (mkF m 0 #[.val (.ref a1), .unset, .unset] [])) (fun t kt => castTop (ef_1 m a1) kt) ?_
  obtain ⟨cl, Ar, qa, S, M, H, U⟩ := Va
  have Va : Arv Z h0 a1 ka .byte (2 : Int32) [(.int x0), (.int x1)] (.int (0 : Int32)) := ⟨cl, Ar, qa, S, M, H, U⟩
  refine own_go (B := s₁.setTop (mkF m 2 #[.val (.ref a1), .unset, .unset] [(.int (2 : Int32))])) (fun t kt => ?_) ?_
  · show Steps p.tables e below (s₁.setTop (mkF m 0 #[.val (.ref a1), .unset, .unset] [])) _
    refine XS.aloadN X0.here hx rfl (hb hby d1_0) rfl rfl ?_
    show Steps p.tables e below (s₁.setTop (mkF m 1 #[.val (.ref a1), .unset, .unset] [(.ref a1)])) _
    refine X0.arraylength hx (cell := cl) (by rw [e0]; exact Ar.1) (State.isArrayOf_alike hZ.alike Ar.2.1) (g := (mkF m 1 #[.val (.ref a1), .unset, .unset] [(.ref a1)])) rfl rfl (hb hby d1_1) _ ?_
    rw [len_of S M]
    exact kt
  obtain ⟨T4, h4, k4, X4, e4, E4, A4, st4⟩ := newP X0 hx hZ (hw _ (List.mem_of_getElem? (i := 5) rfl)) e0 (g := (mkF m 2 #[.val (.ref a1), .unset, .unset] [(.int (2 : Int32))])) rfl (hb hby d1_2) rfl (by decide) (cap := 2) (by decide) (by decide) (by decide) (by decide)
  obtain ⟨b4, g4⟩ : ∃ z, z = h0.size := ⟨_, rfl⟩
  rw [← g4] at A4 st4
  refine own_go (B := T4.setTop (mkF m 4 #[.val (.ref a1), .unset, .unset] [(.ref b4)])) (fun t kt => st4 t kt) ?_
  have gb : n0 ≤ b4 := Nat.le_trans Z0 (Nat.le_of_eq g4.symm)
  have hne : a1 ≠ b4 := Nat.ne_of_lt (Nat.lt_of_lt_of_le Va.lt (Nat.le_of_eq g4.symm))
  have K0 : Keep h0 h4 [] := (Keep.refl h0 []).ext E4
  have V0 : Arv Z h4 b4 k4 .int (2 : Int32) [(.int (0 : Int32)), (.int (0 : Int32))] (.int (0 : Int32)) := (Arv.new A4 (by decide)).pad (pad_rep [] (.int (0 : Int32)) 2)
  have Ar0 := Ar.ext E4
  refine own_go (B := T4.setTop (mkF m 18 #[.val (.ref a1), .val (.ref b4), .val (.int (0 : Int32))] [(.int x0), (.int (0 : Int32)), (.ref b4)])) (fun t kt => ?_) ?_
  · show Steps p.tables e below (T4.setTop (mkF m 4 #[.val (.ref a1), .unset, .unset] [(.ref b4)])) _
    refine XS.astoreN X4.here hx rfl (hb hby d1_4) rfl rfl (l' := #[.val (.ref a1), .val (.ref b4), .unset]) rfl ?_
    show Steps p.tables e below (T4.setTop (mkF m 5 #[.val (.ref a1), .val (.ref b4), .unset] [])) _
    refine XS.iconst X4.here hx rfl (hb hby d1_5) ?_
    show Steps p.tables e below (T4.setTop (mkF m 6 #[.val (.ref a1), .val (.ref b4), .unset] [(.int (0 : Int32))])) _
    refine XS.istoreN X4.here hx rfl (hb hby d1_6) rfl (l' := #[.val (.ref a1), .val (.ref b4), .val (.int (0 : Int32))]) rfl ?_
    show Steps p.tables e below (T4.setTop (mkF m 7 #[.val (.ref a1), .val (.ref b4), .val (.int (0 : Int32))] [])) _
    refine XS.iloadN X4.here hx rfl (hb hby d1_7) rfl ?_
    show Steps p.tables e below (T4.setTop (mkF m 8 #[.val (.ref a1), .val (.ref b4), .val (.int (0 : Int32))] [(.int (0 : Int32))])) _
    refine XS.aloadN X4.here hx rfl (hb hby d1_8) rfl rfl ?_
    show Steps p.tables e below (T4.setTop (mkF m 9 #[.val (.ref a1), .val (.ref b4), .val (.int (0 : Int32))] [(.ref a1), (.int (0 : Int32))])) _
    refine X4.arraylength hx (cell := cl) (by rw [e4]; exact Ar0.1) (State.isArrayOf_alike hZ.alike Ar0.2.1) (g := (mkF m 9 #[.val (.ref a1), .val (.ref b4), .val (.int (0 : Int32))] [(.ref a1), (.int (0 : Int32))])) rfl rfl (hb hby d1_9) _ ?_
    rw [len_of S M]
    show Steps p.tables e below (T4.setTop (mkF m 10 #[.val (.ref a1), .val (.ref b4), .val (.int (0 : Int32))] [(.int (2 : Int32)), (.int (0 : Int32))])) _
    refine XS.icmpNo X4.here hx rfl (hb hby d1_10) rfl (tlt (by decide)).2.1 ?_
    show Steps p.tables e below (T4.setTop (mkF m 13 #[.val (.ref a1), .val (.ref b4), .val (.int (0 : Int32))] [])) _
    refine XS.aloadN X4.here hx rfl (hb hby d1_13) rfl rfl ?_
    show Steps p.tables e below (T4.setTop (mkF m 14 #[.val (.ref a1), .val (.ref b4), .val (.int (0 : Int32))] [(.ref b4)])) _
    refine XS.iloadN X4.here hx rfl (hb hby d1_14) rfl ?_
    show Steps p.tables e below (T4.setTop (mkF m 15 #[.val (.ref a1), .val (.ref b4), .val (.int (0 : Int32))] [(.int (0 : Int32)), (.ref b4)])) _
    refine XS.aloadN X4.here hx rfl (hb hby d1_15) rfl rfl ?_
    show Steps p.tables e below (T4.setTop (mkF m 16 #[.val (.ref a1), .val (.ref b4), .val (.int (0 : Int32))] [(.ref a1), (.int (0 : Int32)), (.ref b4)])) _
    refine XS.iloadN X4.here hx rfl (hb hby d1_16) rfl ?_
    show Steps p.tables e below (T4.setTop (mkF m 17 #[.val (.ref a1), .val (.ref b4), .val (.int (0 : Int32))] [(.int (0 : Int32)), (.ref a1), (.int (0 : Int32)), (.ref b4)])) _
    refine X4.baloadBytes hx (j := (0 : Int32)) (v := (.int x0)) (by rw [e4]; exact Ar0.1) (State.isArrayOf_alike hZ.alike Ar0.2.1) Ar0.2.2 (inb_of S ⟨by decide, by decide⟩) (H.at (inb_of S ⟨by decide, by decide⟩) rfl) (g := (mkF m 17 #[.val (.ref a1), .val (.ref b4), .val (.int (0 : Int32))] [(.int (0 : Int32)), (.ref a1), (.int (0 : Int32)), (.ref b4)])) rfl rfl (hb hby d1_17) _ ?_
    exact kt
  obtain ⟨cv0, Av0, qv0, Sv0, Mv0, Hv0, Uv0⟩ := V0
  obtain ⟨T5, h5, X5, e5, W5, st5⟩ := stI X4 hx hZ e4 Av0 (j := (0 : Int32)) (inb_of Sv0 ⟨by decide, by decide⟩) (g := (mkF m 18 #[.val (.ref a1), .val (.ref b4), .val (.int (0 : Int32))] [(.int x0), (.int (0 : Int32)), (.ref b4)])) rfl rfl (hb hby d1_18)
  have N5 := Fr.snoc X5 N0 gb
  refine own_go (B := T5.setTop (mkF m 19 #[.val (.ref a1), .val (.ref b4), .val (.int (0 : Int32))] [])) (fun t kt => st5 t kt) ?_
  have V1 : Arv Z h5 b4 k4 .int (2 : Int32) [(.int x0), (.int (0 : Int32))] (.int (0 : Int32)) := Arv.set Av0 qv0 Sv0 Mv0 Hv0 Uv0 rfl W5 0 rfl (Nat.le_of_ble_eq_true rfl)
  have Ar1 := Ar0.other W5 hne
  have K1 : Keep h0 h5 [] := K0.wr W5 (Or.inr (Nat.le_of_eq g4.symm))
  refine own_go (B := T5.setTop (mkF m 7 #[.val (.ref a1), .val (.ref b4), .val (.int ((0 : Int32) + (1 : Int32)))] [])) (fun t kt => ?_) ?_
  · show Steps p.tables e below (T5.setTop (mkF m 19 #[.val (.ref a1), .val (.ref b4), .val (.int (0 : Int32))] [])) _
    refine XS.iinc X5.here hx rfl (hb hby d1_19) rfl (l' := #[.val (.ref a1), .val (.ref b4), .val (.int ((0 : Int32) + (1 : Int32)))]) rfl ?_
    show Steps p.tables e below (T5.setTop (mkF m 22 #[.val (.ref a1), .val (.ref b4), .val (.int ((0 : Int32) + (1 : Int32)))] [])) _
    refine XS.goto X5.here hx rfl (pc0 := 22) (pc' := 7) rfl (hb hby d1_22) (by decide) (by decide) ?_
    exact kt
  rw [show ((0 : Int32) + (1 : Int32)) = (1 : Int32) from by decide]
  refine own_go (B := T5.setTop (mkF m 18 #[.val (.ref a1), .val (.ref b4), .val (.int (1 : Int32))] [(.int x1), (.int (1 : Int32)), (.ref b4)])) (fun t kt => ?_) ?_
  · show Steps p.tables e below (T5.setTop (mkF m 7 #[.val (.ref a1), .val (.ref b4), .val (.int (1 : Int32))] [])) _
    refine XS.iloadN X5.here hx rfl (hb hby d1_7) rfl ?_
    show Steps p.tables e below (T5.setTop (mkF m 8 #[.val (.ref a1), .val (.ref b4), .val (.int (1 : Int32))] [(.int (1 : Int32))])) _
    refine XS.aloadN X5.here hx rfl (hb hby d1_8) rfl rfl ?_
    show Steps p.tables e below (T5.setTop (mkF m 9 #[.val (.ref a1), .val (.ref b4), .val (.int (1 : Int32))] [(.ref a1), (.int (1 : Int32))])) _
    refine X5.arraylength hx (cell := cl) (by rw [e5]; exact Ar1.1) (State.isArrayOf_alike hZ.alike Ar1.2.1) (g := (mkF m 9 #[.val (.ref a1), .val (.ref b4), .val (.int (1 : Int32))] [(.ref a1), (.int (1 : Int32))])) rfl rfl (hb hby d1_9) _ ?_
    rw [len_of S M]
    show Steps p.tables e below (T5.setTop (mkF m 10 #[.val (.ref a1), .val (.ref b4), .val (.int (1 : Int32))] [(.int (2 : Int32)), (.int (1 : Int32))])) _
    refine XS.icmpNo X5.here hx rfl (hb hby d1_10) rfl (tlt (by decide)).2.1 ?_
    show Steps p.tables e below (T5.setTop (mkF m 13 #[.val (.ref a1), .val (.ref b4), .val (.int (1 : Int32))] [])) _
    refine XS.aloadN X5.here hx rfl (hb hby d1_13) rfl rfl ?_
    show Steps p.tables e below (T5.setTop (mkF m 14 #[.val (.ref a1), .val (.ref b4), .val (.int (1 : Int32))] [(.ref b4)])) _
    refine XS.iloadN X5.here hx rfl (hb hby d1_14) rfl ?_
    show Steps p.tables e below (T5.setTop (mkF m 15 #[.val (.ref a1), .val (.ref b4), .val (.int (1 : Int32))] [(.int (1 : Int32)), (.ref b4)])) _
    refine XS.aloadN X5.here hx rfl (hb hby d1_15) rfl rfl ?_
    show Steps p.tables e below (T5.setTop (mkF m 16 #[.val (.ref a1), .val (.ref b4), .val (.int (1 : Int32))] [(.ref a1), (.int (1 : Int32)), (.ref b4)])) _
    refine XS.iloadN X5.here hx rfl (hb hby d1_16) rfl ?_
    show Steps p.tables e below (T5.setTop (mkF m 17 #[.val (.ref a1), .val (.ref b4), .val (.int (1 : Int32))] [(.int (1 : Int32)), (.ref a1), (.int (1 : Int32)), (.ref b4)])) _
    refine X5.baloadBytes hx (j := (1 : Int32)) (v := (.int x1)) (by rw [e5]; exact Ar1.1) (State.isArrayOf_alike hZ.alike Ar1.2.1) Ar1.2.2 (inb_of S ⟨by decide, by decide⟩) (H.at (inb_of S ⟨by decide, by decide⟩) rfl) (g := (mkF m 17 #[.val (.ref a1), .val (.ref b4), .val (.int (1 : Int32))] [(.int (1 : Int32)), (.ref a1), (.int (1 : Int32)), (.ref b4)])) rfl rfl (hb hby d1_17) _ ?_
    exact kt
  obtain ⟨cv1, Av1, qv1, Sv1, Mv1, Hv1, Uv1⟩ := V1
  obtain ⟨T6, h6, X6, e6, W6, st6⟩ := stI X5 hx hZ e5 Av1 (j := (1 : Int32)) (inb_of Sv1 ⟨by decide, by decide⟩) (g := (mkF m 18 #[.val (.ref a1), .val (.ref b4), .val (.int (1 : Int32))] [(.int x1), (.int (1 : Int32)), (.ref b4)])) rfl rfl (hb hby d1_18)
  have N6 := Fr.snoc X6 N5 gb
  refine own_go (B := T6.setTop (mkF m 19 #[.val (.ref a1), .val (.ref b4), .val (.int (1 : Int32))] [])) (fun t kt => st6 t kt) ?_
  have V2 : Arv Z h6 b4 k4 .int (2 : Int32) [(.int x0), (.int x1)] (.int (0 : Int32)) := Arv.set Av1 qv1 Sv1 Mv1 Hv1 Uv1 rfl W6 1 rfl (Nat.le_of_ble_eq_true rfl)
  have Ar2 := Ar1.other W6 hne
  have K2 : Keep h0 h6 [] := K1.wr W6 (Or.inr (Nat.le_of_eq g4.symm))
  refine own_go (B := T6.setTop (mkF m 7 #[.val (.ref a1), .val (.ref b4), .val (.int ((1 : Int32) + (1 : Int32)))] [])) (fun t kt => ?_) ?_
  · show Steps p.tables e below (T6.setTop (mkF m 19 #[.val (.ref a1), .val (.ref b4), .val (.int (1 : Int32))] [])) _
    refine XS.iinc X6.here hx rfl (hb hby d1_19) rfl (l' := #[.val (.ref a1), .val (.ref b4), .val (.int ((1 : Int32) + (1 : Int32)))]) rfl ?_
    show Steps p.tables e below (T6.setTop (mkF m 22 #[.val (.ref a1), .val (.ref b4), .val (.int ((1 : Int32) + (1 : Int32)))] [])) _
    refine XS.goto X6.here hx rfl (pc0 := 22) (pc' := 7) rfl (hb hby d1_22) (by decide) (by decide) ?_
    exact kt
  rw [show ((1 : Int32) + (1 : Int32)) = (2 : Int32) from by decide]
  refine own_go (B := T6.setTop (mkF m 26 #[.val (.ref a1), .val (.ref b4), .val (.int (2 : Int32))] [(.ref b4)])) (fun t kt => ?_) ?_
  · show Steps p.tables e below (T6.setTop (mkF m 7 #[.val (.ref a1), .val (.ref b4), .val (.int (2 : Int32))] [])) _
    refine XS.iloadN X6.here hx rfl (hb hby d1_7) rfl ?_
    show Steps p.tables e below (T6.setTop (mkF m 8 #[.val (.ref a1), .val (.ref b4), .val (.int (2 : Int32))] [(.int (2 : Int32))])) _
    refine XS.aloadN X6.here hx rfl (hb hby d1_8) rfl rfl ?_
    show Steps p.tables e below (T6.setTop (mkF m 9 #[.val (.ref a1), .val (.ref b4), .val (.int (2 : Int32))] [(.ref a1), (.int (2 : Int32))])) _
    refine X6.arraylength hx (cell := cl) (by rw [e6]; exact Ar2.1) (State.isArrayOf_alike hZ.alike Ar2.2.1) (g := (mkF m 9 #[.val (.ref a1), .val (.ref b4), .val (.int (2 : Int32))] [(.ref a1), (.int (2 : Int32))])) rfl rfl (hb hby d1_9) _ ?_
    rw [len_of S M]
    show Steps p.tables e below (T6.setTop (mkF m 10 #[.val (.ref a1), .val (.ref b4), .val (.int (2 : Int32))] [(.int (2 : Int32)), (.int (2 : Int32))])) _
    refine XS.icmpYes X6.here hx rfl (pc0 := 10) (pc' := 25) rfl (hb hby d1_10) rfl (flt (by decide)).2.1 (by decide) (by decide) ?_
    show Steps p.tables e below (T6.setTop (mkF m 25 #[.val (.ref a1), .val (.ref b4), .val (.int (2 : Int32))] [])) _
    refine XS.aloadN X6.here hx rfl (hb hby d1_25) rfl rfl ?_
    exact kt
  obtain ⟨fs, hr, hrun, hended, hW, hsame⟩ := X6.leave (v := some (.ref b4)) (fun h => by rw [Bd.returns] at h; cases h)
  refine ⟨_, _, ?_, hrun, hended, _, _, rfl, ?_, ⟨_, rfl⟩, hW, hsame.mono (by decide) (by decide)⟩
  · show Steps p.tables e below (T6.setTop (mkF m 26 #[.val (.ref a1), .val (.ref b4), .val (.int (2 : Int32))] [(.ref b4)])) _
    exact retOut X6 hx Bd.returns rfl (Or.inr (Or.inr (Or.inr (Or.inr ⟨rfl, rfl, rfl⟩)))) (hb hby d1_26) hr
  · show Q1_2 Z a1 x0 x1 h0 n0 _ T6.heap _
    rw [e6]
    exact ⟨b4, k4, rfl, N6, K2, Nat.le_of_eq g4.symm, V2⟩
def Q1_3 (Z : State) (a1 : Addr) (x0 x1 x2 : Int32) (h0 : Heap) (n0 : Nat) (v : Option Value) (h : Heap) (L : List Loc) : Prop := ∃ (b : Addr) (kb : ClassId), v = some (.ref b) ∧ Fr n0 L ∧ Keep h0 h [] ∧ h0.size ≤ b ∧ Arv Z h b kb .int (3 : Int32) [(.int x0), (.int x1), (.int x2)] (.int (0 : Int32))
set_option maxRecDepth 65536 in
set_option maxHeartbeats 40000000 in
theorem rm1_3 (l : Launch) (Z : State) (a0 : Array Value) (hw : ∀ d ∈ tables_1, d.before a0 Z = true) (ws : List Jvm.Cond) (a1 : Addr) (ka : ClassId) (x0 x1 x2 : Int32) (h0 : Heap) (n0 : Nat) (Z0 : n0 ≤ h0.size) (Va : Arv Z h0 a1 ka .byte (3 : Int32) [(.int x0), (.int x1), (.int x2)] (.int (0 : Int32))) :
    MetFree l (⟨"needlemark/CompiledPattern", "symbols", "([B)[I"⟩ : MethodName) (head1 (Jvm.Cond.code (⟨"needlemark/CompiledPattern", "symbols", "([B)[I"⟩ : MethodName) prog_1_method_2_code 3 (some (.array .int)) :: ws) ({ frames := 0, cells := 1, slots := 3, locals := 0 } : Room)) (fun a U => a = #[(.ref a1)] ∧ Z.Warmed39 U.vm ∧ U.heap = h0) (fun _ _ _ _ _ => True) (fun _ U o U' => ∃ v L, o = .returned v ∧ Q1_3 Z a1 x0 x1 x2 h0 n0 v U'.heap L ∧ FrameEnd U o U' L ({ frames := 0, cells := 1, slots := 3, locals := 0 } : Room).cells ({ frames := 0, cells := 1, slots := 3, locals := 0 } : Room).slots) := by
  refine MetFree.of_bodySF (plainFor_of_name pn_1) hisR ?_
  intro p e s m args below meth c s₁ Bd hml0 hP hK
  obtain ⟨rfl, hZ, hh⟩ := hP
  have hx := Bd.exec
  have hby := Bd.bytes
  have hml : c.maxLocals = 3 := hml0
  have hown : s.vm.findClass "needlemark/CompiledPattern" = some m.cls := findClass_of_methodNamed Bd.named
  have hnm := (name_of_methodNamed Bd.named Bd.method).1
  have X0 : Stand p l e ({ frames := 0, cells := 1, slots := 3, locals := 0 } : Room) s m #[(.ref a1)] below meth c s₁ [] 0 0 := Stand.of_body Bd
  have e0 : s₁.heap = h0 := by rw [← hh, Bd.state]; rfl
  have N0 := Fr.nil n0
  refine own_go (B := s₁.setTop (mkF m 0 #[.val (.ref a1), .unset, .unset] [])) (fun t kt => castTop (ef_1 m a1) kt) ?_
  obtain ⟨cl, Ar, qa, S, M, H, U⟩ := Va
  have Va : Arv Z h0 a1 ka .byte (3 : Int32) [(.int x0), (.int x1), (.int x2)] (.int (0 : Int32)) := ⟨cl, Ar, qa, S, M, H, U⟩
  refine own_go (B := s₁.setTop (mkF m 2 #[.val (.ref a1), .unset, .unset] [(.int (3 : Int32))])) (fun t kt => ?_) ?_
  · show Steps p.tables e below (s₁.setTop (mkF m 0 #[.val (.ref a1), .unset, .unset] [])) _
    refine XS.aloadN X0.here hx rfl (hb hby d1_0) rfl rfl ?_
    show Steps p.tables e below (s₁.setTop (mkF m 1 #[.val (.ref a1), .unset, .unset] [(.ref a1)])) _
    refine X0.arraylength hx (cell := cl) (by rw [e0]; exact Ar.1) (State.isArrayOf_alike hZ.alike Ar.2.1) (g := (mkF m 1 #[.val (.ref a1), .unset, .unset] [(.ref a1)])) rfl rfl (hb hby d1_1) _ ?_
    rw [len_of S M]
    exact kt
  obtain ⟨T7, h7, k7, X7, e7, E7, A7, st7⟩ := newP X0 hx hZ (hw _ (List.mem_of_getElem? (i := 5) rfl)) e0 (g := (mkF m 2 #[.val (.ref a1), .unset, .unset] [(.int (3 : Int32))])) rfl (hb hby d1_2) rfl (by decide) (cap := 3) (by decide) (by decide) (by decide) (by decide)
  obtain ⟨b7, g7⟩ : ∃ z, z = h0.size := ⟨_, rfl⟩
  rw [← g7] at A7 st7
  refine own_go (B := T7.setTop (mkF m 4 #[.val (.ref a1), .unset, .unset] [(.ref b7)])) (fun t kt => st7 t kt) ?_
  have gb : n0 ≤ b7 := Nat.le_trans Z0 (Nat.le_of_eq g7.symm)
  have hne : a1 ≠ b7 := Nat.ne_of_lt (Nat.lt_of_lt_of_le Va.lt (Nat.le_of_eq g7.symm))
  have K0 : Keep h0 h7 [] := (Keep.refl h0 []).ext E7
  have V0 : Arv Z h7 b7 k7 .int (3 : Int32) [(.int (0 : Int32)), (.int (0 : Int32)), (.int (0 : Int32))] (.int (0 : Int32)) := (Arv.new A7 (by decide)).pad (pad_rep [] (.int (0 : Int32)) 3)
  have Ar0 := Ar.ext E7
  refine own_go (B := T7.setTop (mkF m 18 #[.val (.ref a1), .val (.ref b7), .val (.int (0 : Int32))] [(.int x0), (.int (0 : Int32)), (.ref b7)])) (fun t kt => ?_) ?_
  · show Steps p.tables e below (T7.setTop (mkF m 4 #[.val (.ref a1), .unset, .unset] [(.ref b7)])) _
    refine XS.astoreN X7.here hx rfl (hb hby d1_4) rfl rfl (l' := #[.val (.ref a1), .val (.ref b7), .unset]) rfl ?_
    show Steps p.tables e below (T7.setTop (mkF m 5 #[.val (.ref a1), .val (.ref b7), .unset] [])) _
    refine XS.iconst X7.here hx rfl (hb hby d1_5) ?_
    show Steps p.tables e below (T7.setTop (mkF m 6 #[.val (.ref a1), .val (.ref b7), .unset] [(.int (0 : Int32))])) _
    refine XS.istoreN X7.here hx rfl (hb hby d1_6) rfl (l' := #[.val (.ref a1), .val (.ref b7), .val (.int (0 : Int32))]) rfl ?_
    show Steps p.tables e below (T7.setTop (mkF m 7 #[.val (.ref a1), .val (.ref b7), .val (.int (0 : Int32))] [])) _
    refine XS.iloadN X7.here hx rfl (hb hby d1_7) rfl ?_
    show Steps p.tables e below (T7.setTop (mkF m 8 #[.val (.ref a1), .val (.ref b7), .val (.int (0 : Int32))] [(.int (0 : Int32))])) _
    refine XS.aloadN X7.here hx rfl (hb hby d1_8) rfl rfl ?_
    show Steps p.tables e below (T7.setTop (mkF m 9 #[.val (.ref a1), .val (.ref b7), .val (.int (0 : Int32))] [(.ref a1), (.int (0 : Int32))])) _
    refine X7.arraylength hx (cell := cl) (by rw [e7]; exact Ar0.1) (State.isArrayOf_alike hZ.alike Ar0.2.1) (g := (mkF m 9 #[.val (.ref a1), .val (.ref b7), .val (.int (0 : Int32))] [(.ref a1), (.int (0 : Int32))])) rfl rfl (hb hby d1_9) _ ?_
    rw [len_of S M]
    show Steps p.tables e below (T7.setTop (mkF m 10 #[.val (.ref a1), .val (.ref b7), .val (.int (0 : Int32))] [(.int (3 : Int32)), (.int (0 : Int32))])) _
    refine XS.icmpNo X7.here hx rfl (hb hby d1_10) rfl (tlt (by decide)).2.1 ?_
    show Steps p.tables e below (T7.setTop (mkF m 13 #[.val (.ref a1), .val (.ref b7), .val (.int (0 : Int32))] [])) _
    refine XS.aloadN X7.here hx rfl (hb hby d1_13) rfl rfl ?_
    show Steps p.tables e below (T7.setTop (mkF m 14 #[.val (.ref a1), .val (.ref b7), .val (.int (0 : Int32))] [(.ref b7)])) _
    refine XS.iloadN X7.here hx rfl (hb hby d1_14) rfl ?_
    show Steps p.tables e below (T7.setTop (mkF m 15 #[.val (.ref a1), .val (.ref b7), .val (.int (0 : Int32))] [(.int (0 : Int32)), (.ref b7)])) _
    refine XS.aloadN X7.here hx rfl (hb hby d1_15) rfl rfl ?_
    show Steps p.tables e below (T7.setTop (mkF m 16 #[.val (.ref a1), .val (.ref b7), .val (.int (0 : Int32))] [(.ref a1), (.int (0 : Int32)), (.ref b7)])) _
    refine XS.iloadN X7.here hx rfl (hb hby d1_16) rfl ?_
    show Steps p.tables e below (T7.setTop (mkF m 17 #[.val (.ref a1), .val (.ref b7), .val (.int (0 : Int32))] [(.int (0 : Int32)), (.ref a1), (.int (0 : Int32)), (.ref b7)])) _
    refine X7.baloadBytes hx (j := (0 : Int32)) (v := (.int x0)) (by rw [e7]; exact Ar0.1) (State.isArrayOf_alike hZ.alike Ar0.2.1) Ar0.2.2 (inb_of S ⟨by decide, by decide⟩) (H.at (inb_of S ⟨by decide, by decide⟩) rfl) (g := (mkF m 17 #[.val (.ref a1), .val (.ref b7), .val (.int (0 : Int32))] [(.int (0 : Int32)), (.ref a1), (.int (0 : Int32)), (.ref b7)])) rfl rfl (hb hby d1_17) _ ?_
    exact kt
  obtain ⟨cv0, Av0, qv0, Sv0, Mv0, Hv0, Uv0⟩ := V0
  obtain ⟨T8, h8, X8, e8, W8, st8⟩ := stI X7 hx hZ e7 Av0 (j := (0 : Int32)) (inb_of Sv0 ⟨by decide, by decide⟩) (g := (mkF m 18 #[.val (.ref a1), .val (.ref b7), .val (.int (0 : Int32))] [(.int x0), (.int (0 : Int32)), (.ref b7)])) rfl rfl (hb hby d1_18)
  have N8 := Fr.snoc X8 N0 gb
  refine own_go (B := T8.setTop (mkF m 19 #[.val (.ref a1), .val (.ref b7), .val (.int (0 : Int32))] [])) (fun t kt => st8 t kt) ?_
  have V1 : Arv Z h8 b7 k7 .int (3 : Int32) [(.int x0), (.int (0 : Int32)), (.int (0 : Int32))] (.int (0 : Int32)) := Arv.set Av0 qv0 Sv0 Mv0 Hv0 Uv0 rfl W8 0 rfl (Nat.le_of_ble_eq_true rfl)
  have Ar1 := Ar0.other W8 hne
  have K1 : Keep h0 h8 [] := K0.wr W8 (Or.inr (Nat.le_of_eq g7.symm))
  refine own_go (B := T8.setTop (mkF m 7 #[.val (.ref a1), .val (.ref b7), .val (.int ((0 : Int32) + (1 : Int32)))] [])) (fun t kt => ?_) ?_
  · show Steps p.tables e below (T8.setTop (mkF m 19 #[.val (.ref a1), .val (.ref b7), .val (.int (0 : Int32))] [])) _
    refine XS.iinc X8.here hx rfl (hb hby d1_19) rfl (l' := #[.val (.ref a1), .val (.ref b7), .val (.int ((0 : Int32) + (1 : Int32)))]) rfl ?_
    show Steps p.tables e below (T8.setTop (mkF m 22 #[.val (.ref a1), .val (.ref b7), .val (.int ((0 : Int32) + (1 : Int32)))] [])) _
    refine XS.goto X8.here hx rfl (pc0 := 22) (pc' := 7) rfl (hb hby d1_22) (by decide) (by decide) ?_
    exact kt
  rw [show ((0 : Int32) + (1 : Int32)) = (1 : Int32) from by decide]
  refine own_go (B := T8.setTop (mkF m 18 #[.val (.ref a1), .val (.ref b7), .val (.int (1 : Int32))] [(.int x1), (.int (1 : Int32)), (.ref b7)])) (fun t kt => ?_) ?_
  · show Steps p.tables e below (T8.setTop (mkF m 7 #[.val (.ref a1), .val (.ref b7), .val (.int (1 : Int32))] [])) _
    refine XS.iloadN X8.here hx rfl (hb hby d1_7) rfl ?_
    show Steps p.tables e below (T8.setTop (mkF m 8 #[.val (.ref a1), .val (.ref b7), .val (.int (1 : Int32))] [(.int (1 : Int32))])) _
    refine XS.aloadN X8.here hx rfl (hb hby d1_8) rfl rfl ?_
    show Steps p.tables e below (T8.setTop (mkF m 9 #[.val (.ref a1), .val (.ref b7), .val (.int (1 : Int32))] [(.ref a1), (.int (1 : Int32))])) _
    refine X8.arraylength hx (cell := cl) (by rw [e8]; exact Ar1.1) (State.isArrayOf_alike hZ.alike Ar1.2.1) (g := (mkF m 9 #[.val (.ref a1), .val (.ref b7), .val (.int (1 : Int32))] [(.ref a1), (.int (1 : Int32))])) rfl rfl (hb hby d1_9) _ ?_
    rw [len_of S M]
    show Steps p.tables e below (T8.setTop (mkF m 10 #[.val (.ref a1), .val (.ref b7), .val (.int (1 : Int32))] [(.int (3 : Int32)), (.int (1 : Int32))])) _
    refine XS.icmpNo X8.here hx rfl (hb hby d1_10) rfl (tlt (by decide)).2.1 ?_
    show Steps p.tables e below (T8.setTop (mkF m 13 #[.val (.ref a1), .val (.ref b7), .val (.int (1 : Int32))] [])) _
    refine XS.aloadN X8.here hx rfl (hb hby d1_13) rfl rfl ?_
    show Steps p.tables e below (T8.setTop (mkF m 14 #[.val (.ref a1), .val (.ref b7), .val (.int (1 : Int32))] [(.ref b7)])) _
    refine XS.iloadN X8.here hx rfl (hb hby d1_14) rfl ?_
    show Steps p.tables e below (T8.setTop (mkF m 15 #[.val (.ref a1), .val (.ref b7), .val (.int (1 : Int32))] [(.int (1 : Int32)), (.ref b7)])) _
    refine XS.aloadN X8.here hx rfl (hb hby d1_15) rfl rfl ?_
    show Steps p.tables e below (T8.setTop (mkF m 16 #[.val (.ref a1), .val (.ref b7), .val (.int (1 : Int32))] [(.ref a1), (.int (1 : Int32)), (.ref b7)])) _
    refine XS.iloadN X8.here hx rfl (hb hby d1_16) rfl ?_
    show Steps p.tables e below (T8.setTop (mkF m 17 #[.val (.ref a1), .val (.ref b7), .val (.int (1 : Int32))] [(.int (1 : Int32)), (.ref a1), (.int (1 : Int32)), (.ref b7)])) _
    refine X8.baloadBytes hx (j := (1 : Int32)) (v := (.int x1)) (by rw [e8]; exact Ar1.1) (State.isArrayOf_alike hZ.alike Ar1.2.1) Ar1.2.2 (inb_of S ⟨by decide, by decide⟩) (H.at (inb_of S ⟨by decide, by decide⟩) rfl) (g := (mkF m 17 #[.val (.ref a1), .val (.ref b7), .val (.int (1 : Int32))] [(.int (1 : Int32)), (.ref a1), (.int (1 : Int32)), (.ref b7)])) rfl rfl (hb hby d1_17) _ ?_
    exact kt
  obtain ⟨cv1, Av1, qv1, Sv1, Mv1, Hv1, Uv1⟩ := V1
  obtain ⟨T9, h9, X9, e9, W9, st9⟩ := stI X8 hx hZ e8 Av1 (j := (1 : Int32)) (inb_of Sv1 ⟨by decide, by decide⟩) (g := (mkF m 18 #[.val (.ref a1), .val (.ref b7), .val (.int (1 : Int32))] [(.int x1), (.int (1 : Int32)), (.ref b7)])) rfl rfl (hb hby d1_18)
  have N9 := Fr.snoc X9 N8 gb
  refine own_go (B := T9.setTop (mkF m 19 #[.val (.ref a1), .val (.ref b7), .val (.int (1 : Int32))] [])) (fun t kt => st9 t kt) ?_
  have V2 : Arv Z h9 b7 k7 .int (3 : Int32) [(.int x0), (.int x1), (.int (0 : Int32))] (.int (0 : Int32)) := Arv.set Av1 qv1 Sv1 Mv1 Hv1 Uv1 rfl W9 1 rfl (Nat.le_of_ble_eq_true rfl)
  have Ar2 := Ar1.other W9 hne
  have K2 : Keep h0 h9 [] := K1.wr W9 (Or.inr (Nat.le_of_eq g7.symm))
  refine own_go (B := T9.setTop (mkF m 7 #[.val (.ref a1), .val (.ref b7), .val (.int ((1 : Int32) + (1 : Int32)))] [])) (fun t kt => ?_) ?_
  · show Steps p.tables e below (T9.setTop (mkF m 19 #[.val (.ref a1), .val (.ref b7), .val (.int (1 : Int32))] [])) _
    refine XS.iinc X9.here hx rfl (hb hby d1_19) rfl (l' := #[.val (.ref a1), .val (.ref b7), .val (.int ((1 : Int32) + (1 : Int32)))]) rfl ?_
    show Steps p.tables e below (T9.setTop (mkF m 22 #[.val (.ref a1), .val (.ref b7), .val (.int ((1 : Int32) + (1 : Int32)))] [])) _
    refine XS.goto X9.here hx rfl (pc0 := 22) (pc' := 7) rfl (hb hby d1_22) (by decide) (by decide) ?_
    exact kt
  rw [show ((1 : Int32) + (1 : Int32)) = (2 : Int32) from by decide]
  refine own_go (B := T9.setTop (mkF m 18 #[.val (.ref a1), .val (.ref b7), .val (.int (2 : Int32))] [(.int x2), (.int (2 : Int32)), (.ref b7)])) (fun t kt => ?_) ?_
  · show Steps p.tables e below (T9.setTop (mkF m 7 #[.val (.ref a1), .val (.ref b7), .val (.int (2 : Int32))] [])) _
    refine XS.iloadN X9.here hx rfl (hb hby d1_7) rfl ?_
    show Steps p.tables e below (T9.setTop (mkF m 8 #[.val (.ref a1), .val (.ref b7), .val (.int (2 : Int32))] [(.int (2 : Int32))])) _
    refine XS.aloadN X9.here hx rfl (hb hby d1_8) rfl rfl ?_
    show Steps p.tables e below (T9.setTop (mkF m 9 #[.val (.ref a1), .val (.ref b7), .val (.int (2 : Int32))] [(.ref a1), (.int (2 : Int32))])) _
    refine X9.arraylength hx (cell := cl) (by rw [e9]; exact Ar2.1) (State.isArrayOf_alike hZ.alike Ar2.2.1) (g := (mkF m 9 #[.val (.ref a1), .val (.ref b7), .val (.int (2 : Int32))] [(.ref a1), (.int (2 : Int32))])) rfl rfl (hb hby d1_9) _ ?_
    rw [len_of S M]
    show Steps p.tables e below (T9.setTop (mkF m 10 #[.val (.ref a1), .val (.ref b7), .val (.int (2 : Int32))] [(.int (3 : Int32)), (.int (2 : Int32))])) _
    refine XS.icmpNo X9.here hx rfl (hb hby d1_10) rfl (tlt (by decide)).2.1 ?_
    show Steps p.tables e below (T9.setTop (mkF m 13 #[.val (.ref a1), .val (.ref b7), .val (.int (2 : Int32))] [])) _
    refine XS.aloadN X9.here hx rfl (hb hby d1_13) rfl rfl ?_
    show Steps p.tables e below (T9.setTop (mkF m 14 #[.val (.ref a1), .val (.ref b7), .val (.int (2 : Int32))] [(.ref b7)])) _
    refine XS.iloadN X9.here hx rfl (hb hby d1_14) rfl ?_
    show Steps p.tables e below (T9.setTop (mkF m 15 #[.val (.ref a1), .val (.ref b7), .val (.int (2 : Int32))] [(.int (2 : Int32)), (.ref b7)])) _
    refine XS.aloadN X9.here hx rfl (hb hby d1_15) rfl rfl ?_
    show Steps p.tables e below (T9.setTop (mkF m 16 #[.val (.ref a1), .val (.ref b7), .val (.int (2 : Int32))] [(.ref a1), (.int (2 : Int32)), (.ref b7)])) _
    refine XS.iloadN X9.here hx rfl (hb hby d1_16) rfl ?_
    show Steps p.tables e below (T9.setTop (mkF m 17 #[.val (.ref a1), .val (.ref b7), .val (.int (2 : Int32))] [(.int (2 : Int32)), (.ref a1), (.int (2 : Int32)), (.ref b7)])) _
    refine X9.baloadBytes hx (j := (2 : Int32)) (v := (.int x2)) (by rw [e9]; exact Ar2.1) (State.isArrayOf_alike hZ.alike Ar2.2.1) Ar2.2.2 (inb_of S ⟨by decide, by decide⟩) (H.at (inb_of S ⟨by decide, by decide⟩) rfl) (g := (mkF m 17 #[.val (.ref a1), .val (.ref b7), .val (.int (2 : Int32))] [(.int (2 : Int32)), (.ref a1), (.int (2 : Int32)), (.ref b7)])) rfl rfl (hb hby d1_17) _ ?_
    exact kt
  obtain ⟨cv2, Av2, qv2, Sv2, Mv2, Hv2, Uv2⟩ := V2
  obtain ⟨T10, h10, X10, e10, W10, st10⟩ := stI X9 hx hZ e9 Av2 (j := (2 : Int32)) (inb_of Sv2 ⟨by decide, by decide⟩) (g := (mkF m 18 #[.val (.ref a1), .val (.ref b7), .val (.int (2 : Int32))] [(.int x2), (.int (2 : Int32)), (.ref b7)])) rfl rfl (hb hby d1_18)
  have N10 := Fr.snoc X10 N9 gb
  refine own_go (B := T10.setTop (mkF m 19 #[.val (.ref a1), .val (.ref b7), .val (.int (2 : Int32))] [])) (fun t kt => st10 t kt) ?_
  have V3 : Arv Z h10 b7 k7 .int (3 : Int32) [(.int x0), (.int x1), (.int x2)] (.int (0 : Int32)) := Arv.set Av2 qv2 Sv2 Mv2 Hv2 Uv2 rfl W10 2 rfl (Nat.le_of_ble_eq_true rfl)
  have Ar3 := Ar2.other W10 hne
  have K3 : Keep h0 h10 [] := K2.wr W10 (Or.inr (Nat.le_of_eq g7.symm))
  refine own_go (B := T10.setTop (mkF m 7 #[.val (.ref a1), .val (.ref b7), .val (.int ((2 : Int32) + (1 : Int32)))] [])) (fun t kt => ?_) ?_
  · show Steps p.tables e below (T10.setTop (mkF m 19 #[.val (.ref a1), .val (.ref b7), .val (.int (2 : Int32))] [])) _
    refine XS.iinc X10.here hx rfl (hb hby d1_19) rfl (l' := #[.val (.ref a1), .val (.ref b7), .val (.int ((2 : Int32) + (1 : Int32)))]) rfl ?_
    show Steps p.tables e below (T10.setTop (mkF m 22 #[.val (.ref a1), .val (.ref b7), .val (.int ((2 : Int32) + (1 : Int32)))] [])) _
    refine XS.goto X10.here hx rfl (pc0 := 22) (pc' := 7) rfl (hb hby d1_22) (by decide) (by decide) ?_
    exact kt
  rw [show ((2 : Int32) + (1 : Int32)) = (3 : Int32) from by decide]
  refine own_go (B := T10.setTop (mkF m 26 #[.val (.ref a1), .val (.ref b7), .val (.int (3 : Int32))] [(.ref b7)])) (fun t kt => ?_) ?_
  · show Steps p.tables e below (T10.setTop (mkF m 7 #[.val (.ref a1), .val (.ref b7), .val (.int (3 : Int32))] [])) _
    refine XS.iloadN X10.here hx rfl (hb hby d1_7) rfl ?_
    show Steps p.tables e below (T10.setTop (mkF m 8 #[.val (.ref a1), .val (.ref b7), .val (.int (3 : Int32))] [(.int (3 : Int32))])) _
    refine XS.aloadN X10.here hx rfl (hb hby d1_8) rfl rfl ?_
    show Steps p.tables e below (T10.setTop (mkF m 9 #[.val (.ref a1), .val (.ref b7), .val (.int (3 : Int32))] [(.ref a1), (.int (3 : Int32))])) _
    refine X10.arraylength hx (cell := cl) (by rw [e10]; exact Ar3.1) (State.isArrayOf_alike hZ.alike Ar3.2.1) (g := (mkF m 9 #[.val (.ref a1), .val (.ref b7), .val (.int (3 : Int32))] [(.ref a1), (.int (3 : Int32))])) rfl rfl (hb hby d1_9) _ ?_
    rw [len_of S M]
    show Steps p.tables e below (T10.setTop (mkF m 10 #[.val (.ref a1), .val (.ref b7), .val (.int (3 : Int32))] [(.int (3 : Int32)), (.int (3 : Int32))])) _
    refine XS.icmpYes X10.here hx rfl (pc0 := 10) (pc' := 25) rfl (hb hby d1_10) rfl (flt (by decide)).2.1 (by decide) (by decide) ?_
    show Steps p.tables e below (T10.setTop (mkF m 25 #[.val (.ref a1), .val (.ref b7), .val (.int (3 : Int32))] [])) _
    refine XS.aloadN X10.here hx rfl (hb hby d1_25) rfl rfl ?_
    exact kt
  obtain ⟨fs, hr, hrun, hended, hW, hsame⟩ := X10.leave (v := some (.ref b7)) (fun h => by rw [Bd.returns] at h; cases h)
  refine ⟨_, _, ?_, hrun, hended, _, _, rfl, ?_, ⟨_, rfl⟩, hW, hsame.mono (by decide) (by decide)⟩
  · show Steps p.tables e below (T10.setTop (mkF m 26 #[.val (.ref a1), .val (.ref b7), .val (.int (3 : Int32))] [(.ref b7)])) _
    exact retOut X10 hx Bd.returns rfl (Or.inr (Or.inr (Or.inr (Or.inr ⟨rfl, rfl, rfl⟩)))) (hb hby d1_26) hr
  · show Q1_3 Z a1 x0 x1 x2 h0 n0 _ T10.heap _
    rw [e10]
    exact ⟨b7, k7, rfl, N10, K3, Nat.le_of_eq g7.symm, V3⟩
def Q1_4 (Z : State) (a1 : Addr) (x0 x1 x2 x3 : Int32) (h0 : Heap) (n0 : Nat) (v : Option Value) (h : Heap) (L : List Loc) : Prop := ∃ (b : Addr) (kb : ClassId), v = some (.ref b) ∧ Fr n0 L ∧ Keep h0 h [] ∧ h0.size ≤ b ∧ Arv Z h b kb .int (4 : Int32) [(.int x0), (.int x1), (.int x2), (.int x3)] (.int (0 : Int32))
set_option maxRecDepth 65536 in
set_option maxHeartbeats 40000000 in
theorem rm1_4 (l : Launch) (Z : State) (a0 : Array Value) (hw : ∀ d ∈ tables_1, d.before a0 Z = true) (ws : List Jvm.Cond) (a1 : Addr) (ka : ClassId) (x0 x1 x2 x3 : Int32) (h0 : Heap) (n0 : Nat) (Z0 : n0 ≤ h0.size) (Va : Arv Z h0 a1 ka .byte (4 : Int32) [(.int x0), (.int x1), (.int x2), (.int x3)] (.int (0 : Int32))) :
    MetFree l (⟨"needlemark/CompiledPattern", "symbols", "([B)[I"⟩ : MethodName) (head1 (Jvm.Cond.code (⟨"needlemark/CompiledPattern", "symbols", "([B)[I"⟩ : MethodName) prog_1_method_2_code 3 (some (.array .int)) :: ws) ({ frames := 0, cells := 1, slots := 4, locals := 0 } : Room)) (fun a U => a = #[(.ref a1)] ∧ Z.Warmed39 U.vm ∧ U.heap = h0) (fun _ _ _ _ _ => True) (fun _ U o U' => ∃ v L, o = .returned v ∧ Q1_4 Z a1 x0 x1 x2 x3 h0 n0 v U'.heap L ∧ FrameEnd U o U' L ({ frames := 0, cells := 1, slots := 4, locals := 0 } : Room).cells ({ frames := 0, cells := 1, slots := 4, locals := 0 } : Room).slots) := by
  refine MetFree.of_bodySF (plainFor_of_name pn_1) hisR ?_
  intro p e s m args below meth c s₁ Bd hml0 hP hK
  obtain ⟨rfl, hZ, hh⟩ := hP
  have hx := Bd.exec
  have hby := Bd.bytes
  have hml : c.maxLocals = 3 := hml0
  have hown : s.vm.findClass "needlemark/CompiledPattern" = some m.cls := findClass_of_methodNamed Bd.named
  have hnm := (name_of_methodNamed Bd.named Bd.method).1
  have X0 : Stand p l e ({ frames := 0, cells := 1, slots := 4, locals := 0 } : Room) s m #[(.ref a1)] below meth c s₁ [] 0 0 := Stand.of_body Bd
  have e0 : s₁.heap = h0 := by rw [← hh, Bd.state]; rfl
  have N0 := Fr.nil n0
  refine own_go (B := s₁.setTop (mkF m 0 #[.val (.ref a1), .unset, .unset] [])) (fun t kt => castTop (ef_1 m a1) kt) ?_
  obtain ⟨cl, Ar, qa, S, M, H, U⟩ := Va
  have Va : Arv Z h0 a1 ka .byte (4 : Int32) [(.int x0), (.int x1), (.int x2), (.int x3)] (.int (0 : Int32)) := ⟨cl, Ar, qa, S, M, H, U⟩
  refine own_go (B := s₁.setTop (mkF m 2 #[.val (.ref a1), .unset, .unset] [(.int (4 : Int32))])) (fun t kt => ?_) ?_
  · show Steps p.tables e below (s₁.setTop (mkF m 0 #[.val (.ref a1), .unset, .unset] [])) _
    refine XS.aloadN X0.here hx rfl (hb hby d1_0) rfl rfl ?_
    show Steps p.tables e below (s₁.setTop (mkF m 1 #[.val (.ref a1), .unset, .unset] [(.ref a1)])) _
    refine X0.arraylength hx (cell := cl) (by rw [e0]; exact Ar.1) (State.isArrayOf_alike hZ.alike Ar.2.1) (g := (mkF m 1 #[.val (.ref a1), .unset, .unset] [(.ref a1)])) rfl rfl (hb hby d1_1) _ ?_
    rw [len_of S M]
    exact kt
  obtain ⟨T11, h11, k11, X11, e11, E11, A11, st11⟩ := newP X0 hx hZ (hw _ (List.mem_of_getElem? (i := 5) rfl)) e0 (g := (mkF m 2 #[.val (.ref a1), .unset, .unset] [(.int (4 : Int32))])) rfl (hb hby d1_2) rfl (by decide) (cap := 4) (by decide) (by decide) (by decide) (by decide)
  obtain ⟨b11, g11⟩ : ∃ z, z = h0.size := ⟨_, rfl⟩
  rw [← g11] at A11 st11
  refine own_go (B := T11.setTop (mkF m 4 #[.val (.ref a1), .unset, .unset] [(.ref b11)])) (fun t kt => st11 t kt) ?_
  have gb : n0 ≤ b11 := Nat.le_trans Z0 (Nat.le_of_eq g11.symm)
  have hne : a1 ≠ b11 := Nat.ne_of_lt (Nat.lt_of_lt_of_le Va.lt (Nat.le_of_eq g11.symm))
  have K0 : Keep h0 h11 [] := (Keep.refl h0 []).ext E11
  have V0 : Arv Z h11 b11 k11 .int (4 : Int32) [(.int (0 : Int32)), (.int (0 : Int32)), (.int (0 : Int32)), (.int (0 : Int32))] (.int (0 : Int32)) := (Arv.new A11 (by decide)).pad (pad_rep [] (.int (0 : Int32)) 4)
  have Ar0 := Ar.ext E11
  refine own_go (B := T11.setTop (mkF m 18 #[.val (.ref a1), .val (.ref b11), .val (.int (0 : Int32))] [(.int x0), (.int (0 : Int32)), (.ref b11)])) (fun t kt => ?_) ?_
  · show Steps p.tables e below (T11.setTop (mkF m 4 #[.val (.ref a1), .unset, .unset] [(.ref b11)])) _
    refine XS.astoreN X11.here hx rfl (hb hby d1_4) rfl rfl (l' := #[.val (.ref a1), .val (.ref b11), .unset]) rfl ?_
    show Steps p.tables e below (T11.setTop (mkF m 5 #[.val (.ref a1), .val (.ref b11), .unset] [])) _
    refine XS.iconst X11.here hx rfl (hb hby d1_5) ?_
    show Steps p.tables e below (T11.setTop (mkF m 6 #[.val (.ref a1), .val (.ref b11), .unset] [(.int (0 : Int32))])) _
    refine XS.istoreN X11.here hx rfl (hb hby d1_6) rfl (l' := #[.val (.ref a1), .val (.ref b11), .val (.int (0 : Int32))]) rfl ?_
    show Steps p.tables e below (T11.setTop (mkF m 7 #[.val (.ref a1), .val (.ref b11), .val (.int (0 : Int32))] [])) _
    refine XS.iloadN X11.here hx rfl (hb hby d1_7) rfl ?_
    show Steps p.tables e below (T11.setTop (mkF m 8 #[.val (.ref a1), .val (.ref b11), .val (.int (0 : Int32))] [(.int (0 : Int32))])) _
    refine XS.aloadN X11.here hx rfl (hb hby d1_8) rfl rfl ?_
    show Steps p.tables e below (T11.setTop (mkF m 9 #[.val (.ref a1), .val (.ref b11), .val (.int (0 : Int32))] [(.ref a1), (.int (0 : Int32))])) _
    refine X11.arraylength hx (cell := cl) (by rw [e11]; exact Ar0.1) (State.isArrayOf_alike hZ.alike Ar0.2.1) (g := (mkF m 9 #[.val (.ref a1), .val (.ref b11), .val (.int (0 : Int32))] [(.ref a1), (.int (0 : Int32))])) rfl rfl (hb hby d1_9) _ ?_
    rw [len_of S M]
    show Steps p.tables e below (T11.setTop (mkF m 10 #[.val (.ref a1), .val (.ref b11), .val (.int (0 : Int32))] [(.int (4 : Int32)), (.int (0 : Int32))])) _
    refine XS.icmpNo X11.here hx rfl (hb hby d1_10) rfl (tlt (by decide)).2.1 ?_
    show Steps p.tables e below (T11.setTop (mkF m 13 #[.val (.ref a1), .val (.ref b11), .val (.int (0 : Int32))] [])) _
    refine XS.aloadN X11.here hx rfl (hb hby d1_13) rfl rfl ?_
    show Steps p.tables e below (T11.setTop (mkF m 14 #[.val (.ref a1), .val (.ref b11), .val (.int (0 : Int32))] [(.ref b11)])) _
    refine XS.iloadN X11.here hx rfl (hb hby d1_14) rfl ?_
    show Steps p.tables e below (T11.setTop (mkF m 15 #[.val (.ref a1), .val (.ref b11), .val (.int (0 : Int32))] [(.int (0 : Int32)), (.ref b11)])) _
    refine XS.aloadN X11.here hx rfl (hb hby d1_15) rfl rfl ?_
    show Steps p.tables e below (T11.setTop (mkF m 16 #[.val (.ref a1), .val (.ref b11), .val (.int (0 : Int32))] [(.ref a1), (.int (0 : Int32)), (.ref b11)])) _
    refine XS.iloadN X11.here hx rfl (hb hby d1_16) rfl ?_
    show Steps p.tables e below (T11.setTop (mkF m 17 #[.val (.ref a1), .val (.ref b11), .val (.int (0 : Int32))] [(.int (0 : Int32)), (.ref a1), (.int (0 : Int32)), (.ref b11)])) _
    refine X11.baloadBytes hx (j := (0 : Int32)) (v := (.int x0)) (by rw [e11]; exact Ar0.1) (State.isArrayOf_alike hZ.alike Ar0.2.1) Ar0.2.2 (inb_of S ⟨by decide, by decide⟩) (H.at (inb_of S ⟨by decide, by decide⟩) rfl) (g := (mkF m 17 #[.val (.ref a1), .val (.ref b11), .val (.int (0 : Int32))] [(.int (0 : Int32)), (.ref a1), (.int (0 : Int32)), (.ref b11)])) rfl rfl (hb hby d1_17) _ ?_
    exact kt
  obtain ⟨cv0, Av0, qv0, Sv0, Mv0, Hv0, Uv0⟩ := V0
  obtain ⟨T12, h12, X12, e12, W12, st12⟩ := stI X11 hx hZ e11 Av0 (j := (0 : Int32)) (inb_of Sv0 ⟨by decide, by decide⟩) (g := (mkF m 18 #[.val (.ref a1), .val (.ref b11), .val (.int (0 : Int32))] [(.int x0), (.int (0 : Int32)), (.ref b11)])) rfl rfl (hb hby d1_18)
  have N12 := Fr.snoc X12 N0 gb
  refine own_go (B := T12.setTop (mkF m 19 #[.val (.ref a1), .val (.ref b11), .val (.int (0 : Int32))] [])) (fun t kt => st12 t kt) ?_
  have V1 : Arv Z h12 b11 k11 .int (4 : Int32) [(.int x0), (.int (0 : Int32)), (.int (0 : Int32)), (.int (0 : Int32))] (.int (0 : Int32)) := Arv.set Av0 qv0 Sv0 Mv0 Hv0 Uv0 rfl W12 0 rfl (Nat.le_of_ble_eq_true rfl)
  have Ar1 := Ar0.other W12 hne
  have K1 : Keep h0 h12 [] := K0.wr W12 (Or.inr (Nat.le_of_eq g11.symm))
  refine own_go (B := T12.setTop (mkF m 7 #[.val (.ref a1), .val (.ref b11), .val (.int ((0 : Int32) + (1 : Int32)))] [])) (fun t kt => ?_) ?_
  · show Steps p.tables e below (T12.setTop (mkF m 19 #[.val (.ref a1), .val (.ref b11), .val (.int (0 : Int32))] [])) _
    refine XS.iinc X12.here hx rfl (hb hby d1_19) rfl (l' := #[.val (.ref a1), .val (.ref b11), .val (.int ((0 : Int32) + (1 : Int32)))]) rfl ?_
    show Steps p.tables e below (T12.setTop (mkF m 22 #[.val (.ref a1), .val (.ref b11), .val (.int ((0 : Int32) + (1 : Int32)))] [])) _
    refine XS.goto X12.here hx rfl (pc0 := 22) (pc' := 7) rfl (hb hby d1_22) (by decide) (by decide) ?_
    exact kt
  rw [show ((0 : Int32) + (1 : Int32)) = (1 : Int32) from by decide]
  refine own_go (B := T12.setTop (mkF m 18 #[.val (.ref a1), .val (.ref b11), .val (.int (1 : Int32))] [(.int x1), (.int (1 : Int32)), (.ref b11)])) (fun t kt => ?_) ?_
  · show Steps p.tables e below (T12.setTop (mkF m 7 #[.val (.ref a1), .val (.ref b11), .val (.int (1 : Int32))] [])) _
    refine XS.iloadN X12.here hx rfl (hb hby d1_7) rfl ?_
    show Steps p.tables e below (T12.setTop (mkF m 8 #[.val (.ref a1), .val (.ref b11), .val (.int (1 : Int32))] [(.int (1 : Int32))])) _
    refine XS.aloadN X12.here hx rfl (hb hby d1_8) rfl rfl ?_
    show Steps p.tables e below (T12.setTop (mkF m 9 #[.val (.ref a1), .val (.ref b11), .val (.int (1 : Int32))] [(.ref a1), (.int (1 : Int32))])) _
    refine X12.arraylength hx (cell := cl) (by rw [e12]; exact Ar1.1) (State.isArrayOf_alike hZ.alike Ar1.2.1) (g := (mkF m 9 #[.val (.ref a1), .val (.ref b11), .val (.int (1 : Int32))] [(.ref a1), (.int (1 : Int32))])) rfl rfl (hb hby d1_9) _ ?_
    rw [len_of S M]
    show Steps p.tables e below (T12.setTop (mkF m 10 #[.val (.ref a1), .val (.ref b11), .val (.int (1 : Int32))] [(.int (4 : Int32)), (.int (1 : Int32))])) _
    refine XS.icmpNo X12.here hx rfl (hb hby d1_10) rfl (tlt (by decide)).2.1 ?_
    show Steps p.tables e below (T12.setTop (mkF m 13 #[.val (.ref a1), .val (.ref b11), .val (.int (1 : Int32))] [])) _
    refine XS.aloadN X12.here hx rfl (hb hby d1_13) rfl rfl ?_
    show Steps p.tables e below (T12.setTop (mkF m 14 #[.val (.ref a1), .val (.ref b11), .val (.int (1 : Int32))] [(.ref b11)])) _
    refine XS.iloadN X12.here hx rfl (hb hby d1_14) rfl ?_
    show Steps p.tables e below (T12.setTop (mkF m 15 #[.val (.ref a1), .val (.ref b11), .val (.int (1 : Int32))] [(.int (1 : Int32)), (.ref b11)])) _
    refine XS.aloadN X12.here hx rfl (hb hby d1_15) rfl rfl ?_
    show Steps p.tables e below (T12.setTop (mkF m 16 #[.val (.ref a1), .val (.ref b11), .val (.int (1 : Int32))] [(.ref a1), (.int (1 : Int32)), (.ref b11)])) _
    refine XS.iloadN X12.here hx rfl (hb hby d1_16) rfl ?_
    show Steps p.tables e below (T12.setTop (mkF m 17 #[.val (.ref a1), .val (.ref b11), .val (.int (1 : Int32))] [(.int (1 : Int32)), (.ref a1), (.int (1 : Int32)), (.ref b11)])) _
    refine X12.baloadBytes hx (j := (1 : Int32)) (v := (.int x1)) (by rw [e12]; exact Ar1.1) (State.isArrayOf_alike hZ.alike Ar1.2.1) Ar1.2.2 (inb_of S ⟨by decide, by decide⟩) (H.at (inb_of S ⟨by decide, by decide⟩) rfl) (g := (mkF m 17 #[.val (.ref a1), .val (.ref b11), .val (.int (1 : Int32))] [(.int (1 : Int32)), (.ref a1), (.int (1 : Int32)), (.ref b11)])) rfl rfl (hb hby d1_17) _ ?_
    exact kt
  obtain ⟨cv1, Av1, qv1, Sv1, Mv1, Hv1, Uv1⟩ := V1
  obtain ⟨T13, h13, X13, e13, W13, st13⟩ := stI X12 hx hZ e12 Av1 (j := (1 : Int32)) (inb_of Sv1 ⟨by decide, by decide⟩) (g := (mkF m 18 #[.val (.ref a1), .val (.ref b11), .val (.int (1 : Int32))] [(.int x1), (.int (1 : Int32)), (.ref b11)])) rfl rfl (hb hby d1_18)
  have N13 := Fr.snoc X13 N12 gb
  refine own_go (B := T13.setTop (mkF m 19 #[.val (.ref a1), .val (.ref b11), .val (.int (1 : Int32))] [])) (fun t kt => st13 t kt) ?_
  have V2 : Arv Z h13 b11 k11 .int (4 : Int32) [(.int x0), (.int x1), (.int (0 : Int32)), (.int (0 : Int32))] (.int (0 : Int32)) := Arv.set Av1 qv1 Sv1 Mv1 Hv1 Uv1 rfl W13 1 rfl (Nat.le_of_ble_eq_true rfl)
  have Ar2 := Ar1.other W13 hne
  have K2 : Keep h0 h13 [] := K1.wr W13 (Or.inr (Nat.le_of_eq g11.symm))
  refine own_go (B := T13.setTop (mkF m 7 #[.val (.ref a1), .val (.ref b11), .val (.int ((1 : Int32) + (1 : Int32)))] [])) (fun t kt => ?_) ?_
  · show Steps p.tables e below (T13.setTop (mkF m 19 #[.val (.ref a1), .val (.ref b11), .val (.int (1 : Int32))] [])) _
    refine XS.iinc X13.here hx rfl (hb hby d1_19) rfl (l' := #[.val (.ref a1), .val (.ref b11), .val (.int ((1 : Int32) + (1 : Int32)))]) rfl ?_
    show Steps p.tables e below (T13.setTop (mkF m 22 #[.val (.ref a1), .val (.ref b11), .val (.int ((1 : Int32) + (1 : Int32)))] [])) _
    refine XS.goto X13.here hx rfl (pc0 := 22) (pc' := 7) rfl (hb hby d1_22) (by decide) (by decide) ?_
    exact kt
  rw [show ((1 : Int32) + (1 : Int32)) = (2 : Int32) from by decide]
  refine own_go (B := T13.setTop (mkF m 18 #[.val (.ref a1), .val (.ref b11), .val (.int (2 : Int32))] [(.int x2), (.int (2 : Int32)), (.ref b11)])) (fun t kt => ?_) ?_
  · show Steps p.tables e below (T13.setTop (mkF m 7 #[.val (.ref a1), .val (.ref b11), .val (.int (2 : Int32))] [])) _
    refine XS.iloadN X13.here hx rfl (hb hby d1_7) rfl ?_
    show Steps p.tables e below (T13.setTop (mkF m 8 #[.val (.ref a1), .val (.ref b11), .val (.int (2 : Int32))] [(.int (2 : Int32))])) _
    refine XS.aloadN X13.here hx rfl (hb hby d1_8) rfl rfl ?_
    show Steps p.tables e below (T13.setTop (mkF m 9 #[.val (.ref a1), .val (.ref b11), .val (.int (2 : Int32))] [(.ref a1), (.int (2 : Int32))])) _
    refine X13.arraylength hx (cell := cl) (by rw [e13]; exact Ar2.1) (State.isArrayOf_alike hZ.alike Ar2.2.1) (g := (mkF m 9 #[.val (.ref a1), .val (.ref b11), .val (.int (2 : Int32))] [(.ref a1), (.int (2 : Int32))])) rfl rfl (hb hby d1_9) _ ?_
    rw [len_of S M]
    show Steps p.tables e below (T13.setTop (mkF m 10 #[.val (.ref a1), .val (.ref b11), .val (.int (2 : Int32))] [(.int (4 : Int32)), (.int (2 : Int32))])) _
    refine XS.icmpNo X13.here hx rfl (hb hby d1_10) rfl (tlt (by decide)).2.1 ?_
    show Steps p.tables e below (T13.setTop (mkF m 13 #[.val (.ref a1), .val (.ref b11), .val (.int (2 : Int32))] [])) _
    refine XS.aloadN X13.here hx rfl (hb hby d1_13) rfl rfl ?_
    show Steps p.tables e below (T13.setTop (mkF m 14 #[.val (.ref a1), .val (.ref b11), .val (.int (2 : Int32))] [(.ref b11)])) _
    refine XS.iloadN X13.here hx rfl (hb hby d1_14) rfl ?_
    show Steps p.tables e below (T13.setTop (mkF m 15 #[.val (.ref a1), .val (.ref b11), .val (.int (2 : Int32))] [(.int (2 : Int32)), (.ref b11)])) _
    refine XS.aloadN X13.here hx rfl (hb hby d1_15) rfl rfl ?_
    show Steps p.tables e below (T13.setTop (mkF m 16 #[.val (.ref a1), .val (.ref b11), .val (.int (2 : Int32))] [(.ref a1), (.int (2 : Int32)), (.ref b11)])) _
    refine XS.iloadN X13.here hx rfl (hb hby d1_16) rfl ?_
    show Steps p.tables e below (T13.setTop (mkF m 17 #[.val (.ref a1), .val (.ref b11), .val (.int (2 : Int32))] [(.int (2 : Int32)), (.ref a1), (.int (2 : Int32)), (.ref b11)])) _
    refine X13.baloadBytes hx (j := (2 : Int32)) (v := (.int x2)) (by rw [e13]; exact Ar2.1) (State.isArrayOf_alike hZ.alike Ar2.2.1) Ar2.2.2 (inb_of S ⟨by decide, by decide⟩) (H.at (inb_of S ⟨by decide, by decide⟩) rfl) (g := (mkF m 17 #[.val (.ref a1), .val (.ref b11), .val (.int (2 : Int32))] [(.int (2 : Int32)), (.ref a1), (.int (2 : Int32)), (.ref b11)])) rfl rfl (hb hby d1_17) _ ?_
    exact kt
  obtain ⟨cv2, Av2, qv2, Sv2, Mv2, Hv2, Uv2⟩ := V2
  obtain ⟨T14, h14, X14, e14, W14, st14⟩ := stI X13 hx hZ e13 Av2 (j := (2 : Int32)) (inb_of Sv2 ⟨by decide, by decide⟩) (g := (mkF m 18 #[.val (.ref a1), .val (.ref b11), .val (.int (2 : Int32))] [(.int x2), (.int (2 : Int32)), (.ref b11)])) rfl rfl (hb hby d1_18)
  have N14 := Fr.snoc X14 N13 gb
  refine own_go (B := T14.setTop (mkF m 19 #[.val (.ref a1), .val (.ref b11), .val (.int (2 : Int32))] [])) (fun t kt => st14 t kt) ?_
  have V3 : Arv Z h14 b11 k11 .int (4 : Int32) [(.int x0), (.int x1), (.int x2), (.int (0 : Int32))] (.int (0 : Int32)) := Arv.set Av2 qv2 Sv2 Mv2 Hv2 Uv2 rfl W14 2 rfl (Nat.le_of_ble_eq_true rfl)
  have Ar3 := Ar2.other W14 hne
  have K3 : Keep h0 h14 [] := K2.wr W14 (Or.inr (Nat.le_of_eq g11.symm))
  refine own_go (B := T14.setTop (mkF m 7 #[.val (.ref a1), .val (.ref b11), .val (.int ((2 : Int32) + (1 : Int32)))] [])) (fun t kt => ?_) ?_
  · show Steps p.tables e below (T14.setTop (mkF m 19 #[.val (.ref a1), .val (.ref b11), .val (.int (2 : Int32))] [])) _
    refine XS.iinc X14.here hx rfl (hb hby d1_19) rfl (l' := #[.val (.ref a1), .val (.ref b11), .val (.int ((2 : Int32) + (1 : Int32)))]) rfl ?_
    show Steps p.tables e below (T14.setTop (mkF m 22 #[.val (.ref a1), .val (.ref b11), .val (.int ((2 : Int32) + (1 : Int32)))] [])) _
    refine XS.goto X14.here hx rfl (pc0 := 22) (pc' := 7) rfl (hb hby d1_22) (by decide) (by decide) ?_
    exact kt
  rw [show ((2 : Int32) + (1 : Int32)) = (3 : Int32) from by decide]
  refine own_go (B := T14.setTop (mkF m 18 #[.val (.ref a1), .val (.ref b11), .val (.int (3 : Int32))] [(.int x3), (.int (3 : Int32)), (.ref b11)])) (fun t kt => ?_) ?_
  · show Steps p.tables e below (T14.setTop (mkF m 7 #[.val (.ref a1), .val (.ref b11), .val (.int (3 : Int32))] [])) _
    refine XS.iloadN X14.here hx rfl (hb hby d1_7) rfl ?_
    show Steps p.tables e below (T14.setTop (mkF m 8 #[.val (.ref a1), .val (.ref b11), .val (.int (3 : Int32))] [(.int (3 : Int32))])) _
    refine XS.aloadN X14.here hx rfl (hb hby d1_8) rfl rfl ?_
    show Steps p.tables e below (T14.setTop (mkF m 9 #[.val (.ref a1), .val (.ref b11), .val (.int (3 : Int32))] [(.ref a1), (.int (3 : Int32))])) _
    refine X14.arraylength hx (cell := cl) (by rw [e14]; exact Ar3.1) (State.isArrayOf_alike hZ.alike Ar3.2.1) (g := (mkF m 9 #[.val (.ref a1), .val (.ref b11), .val (.int (3 : Int32))] [(.ref a1), (.int (3 : Int32))])) rfl rfl (hb hby d1_9) _ ?_
    rw [len_of S M]
    show Steps p.tables e below (T14.setTop (mkF m 10 #[.val (.ref a1), .val (.ref b11), .val (.int (3 : Int32))] [(.int (4 : Int32)), (.int (3 : Int32))])) _
    refine XS.icmpNo X14.here hx rfl (hb hby d1_10) rfl (tlt (by decide)).2.1 ?_
    show Steps p.tables e below (T14.setTop (mkF m 13 #[.val (.ref a1), .val (.ref b11), .val (.int (3 : Int32))] [])) _
    refine XS.aloadN X14.here hx rfl (hb hby d1_13) rfl rfl ?_
    show Steps p.tables e below (T14.setTop (mkF m 14 #[.val (.ref a1), .val (.ref b11), .val (.int (3 : Int32))] [(.ref b11)])) _
    refine XS.iloadN X14.here hx rfl (hb hby d1_14) rfl ?_
    show Steps p.tables e below (T14.setTop (mkF m 15 #[.val (.ref a1), .val (.ref b11), .val (.int (3 : Int32))] [(.int (3 : Int32)), (.ref b11)])) _
    refine XS.aloadN X14.here hx rfl (hb hby d1_15) rfl rfl ?_
    show Steps p.tables e below (T14.setTop (mkF m 16 #[.val (.ref a1), .val (.ref b11), .val (.int (3 : Int32))] [(.ref a1), (.int (3 : Int32)), (.ref b11)])) _
    refine XS.iloadN X14.here hx rfl (hb hby d1_16) rfl ?_
    show Steps p.tables e below (T14.setTop (mkF m 17 #[.val (.ref a1), .val (.ref b11), .val (.int (3 : Int32))] [(.int (3 : Int32)), (.ref a1), (.int (3 : Int32)), (.ref b11)])) _
    refine X14.baloadBytes hx (j := (3 : Int32)) (v := (.int x3)) (by rw [e14]; exact Ar3.1) (State.isArrayOf_alike hZ.alike Ar3.2.1) Ar3.2.2 (inb_of S ⟨by decide, by decide⟩) (H.at (inb_of S ⟨by decide, by decide⟩) rfl) (g := (mkF m 17 #[.val (.ref a1), .val (.ref b11), .val (.int (3 : Int32))] [(.int (3 : Int32)), (.ref a1), (.int (3 : Int32)), (.ref b11)])) rfl rfl (hb hby d1_17) _ ?_
    exact kt
  obtain ⟨cv3, Av3, qv3, Sv3, Mv3, Hv3, Uv3⟩ := V3
  obtain ⟨T15, h15, X15, e15, W15, st15⟩ := stI X14 hx hZ e14 Av3 (j := (3 : Int32)) (inb_of Sv3 ⟨by decide, by decide⟩) (g := (mkF m 18 #[.val (.ref a1), .val (.ref b11), .val (.int (3 : Int32))] [(.int x3), (.int (3 : Int32)), (.ref b11)])) rfl rfl (hb hby d1_18)
  have N15 := Fr.snoc X15 N14 gb
  refine own_go (B := T15.setTop (mkF m 19 #[.val (.ref a1), .val (.ref b11), .val (.int (3 : Int32))] [])) (fun t kt => st15 t kt) ?_
  have V4 : Arv Z h15 b11 k11 .int (4 : Int32) [(.int x0), (.int x1), (.int x2), (.int x3)] (.int (0 : Int32)) := Arv.set Av3 qv3 Sv3 Mv3 Hv3 Uv3 rfl W15 3 rfl (Nat.le_of_ble_eq_true rfl)
  have Ar4 := Ar3.other W15 hne
  have K4 : Keep h0 h15 [] := K3.wr W15 (Or.inr (Nat.le_of_eq g11.symm))
  refine own_go (B := T15.setTop (mkF m 7 #[.val (.ref a1), .val (.ref b11), .val (.int ((3 : Int32) + (1 : Int32)))] [])) (fun t kt => ?_) ?_
  · show Steps p.tables e below (T15.setTop (mkF m 19 #[.val (.ref a1), .val (.ref b11), .val (.int (3 : Int32))] [])) _
    refine XS.iinc X15.here hx rfl (hb hby d1_19) rfl (l' := #[.val (.ref a1), .val (.ref b11), .val (.int ((3 : Int32) + (1 : Int32)))]) rfl ?_
    show Steps p.tables e below (T15.setTop (mkF m 22 #[.val (.ref a1), .val (.ref b11), .val (.int ((3 : Int32) + (1 : Int32)))] [])) _
    refine XS.goto X15.here hx rfl (pc0 := 22) (pc' := 7) rfl (hb hby d1_22) (by decide) (by decide) ?_
    exact kt
  rw [show ((3 : Int32) + (1 : Int32)) = (4 : Int32) from by decide]
  refine own_go (B := T15.setTop (mkF m 26 #[.val (.ref a1), .val (.ref b11), .val (.int (4 : Int32))] [(.ref b11)])) (fun t kt => ?_) ?_
  · show Steps p.tables e below (T15.setTop (mkF m 7 #[.val (.ref a1), .val (.ref b11), .val (.int (4 : Int32))] [])) _
    refine XS.iloadN X15.here hx rfl (hb hby d1_7) rfl ?_
    show Steps p.tables e below (T15.setTop (mkF m 8 #[.val (.ref a1), .val (.ref b11), .val (.int (4 : Int32))] [(.int (4 : Int32))])) _
    refine XS.aloadN X15.here hx rfl (hb hby d1_8) rfl rfl ?_
    show Steps p.tables e below (T15.setTop (mkF m 9 #[.val (.ref a1), .val (.ref b11), .val (.int (4 : Int32))] [(.ref a1), (.int (4 : Int32))])) _
    refine X15.arraylength hx (cell := cl) (by rw [e15]; exact Ar4.1) (State.isArrayOf_alike hZ.alike Ar4.2.1) (g := (mkF m 9 #[.val (.ref a1), .val (.ref b11), .val (.int (4 : Int32))] [(.ref a1), (.int (4 : Int32))])) rfl rfl (hb hby d1_9) _ ?_
    rw [len_of S M]
    show Steps p.tables e below (T15.setTop (mkF m 10 #[.val (.ref a1), .val (.ref b11), .val (.int (4 : Int32))] [(.int (4 : Int32)), (.int (4 : Int32))])) _
    refine XS.icmpYes X15.here hx rfl (pc0 := 10) (pc' := 25) rfl (hb hby d1_10) rfl (flt (by decide)).2.1 (by decide) (by decide) ?_
    show Steps p.tables e below (T15.setTop (mkF m 25 #[.val (.ref a1), .val (.ref b11), .val (.int (4 : Int32))] [])) _
    refine XS.aloadN X15.here hx rfl (hb hby d1_25) rfl rfl ?_
    exact kt
  obtain ⟨fs, hr, hrun, hended, hW, hsame⟩ := X15.leave (v := some (.ref b11)) (fun h => by rw [Bd.returns] at h; cases h)
  refine ⟨_, _, ?_, hrun, hended, _, _, rfl, ?_, ⟨_, rfl⟩, hW, hsame.mono (by decide) (by decide)⟩
  · show Steps p.tables e below (T15.setTop (mkF m 26 #[.val (.ref a1), .val (.ref b11), .val (.int (4 : Int32))] [(.ref b11)])) _
    exact retOut X15 hx Bd.returns rfl (Or.inr (Or.inr (Or.inr (Or.inr ⟨rfl, rfl, rfl⟩)))) (hb hby d1_26) hr
  · show Q1_4 Z a1 x0 x1 x2 x3 h0 n0 _ T15.heap _
    rw [e15]
    exact ⟨b11, k11, rfl, N15, K4, Nat.le_of_eq g11.symm, V4⟩
theorem ef_0 (m : MethodId) (x0 : Int32) (x1 : Int32) : entryFrame m #[(.int x0), (.int x1)] maxLocals = mkF m 0 #[.val (.int x0), .val (.int x1), .unset, .unset, .unset, .unset, .unset] [] := by first | (simp [entryFrame, mkF, argsToLocals, Value.category, maxLocals]; done) | rfl
def Q0 (Z : State) (p1 p2 : Int32) (h0 : Heap) (n0 : Nat) (v : Option Value) (h : Heap) (L : List Loc) : Prop := v = some (.int (1 : Int32)) ∧ Fr n0 L
set_option maxRecDepth 65536 in
set_option maxHeartbeats 40000000 in
theorem rm0 (l : Launch) (Z : State) (a0 : Array Value) (hw : ∀ d ∈ tables_1, d.before a0 Z = true) (ws : List Jvm.Cond) (p1 : Int32) (p2 : Int32)  (h0 : Heap) (n0 : Nat) (Z0 : n0 ≤ h0.size)  :
    MetFree l x (head1 (Jvm.Cond.code x code maxLocals ret :: ws) room_1) (fun a U => a = #[(.int p1), (.int p2)] ∧ Z.Warmed39 U.vm ∧ U.heap = h0) (fun _ _ _ _ _ => True) (fun _ U o U' => ∃ v L, o = .returned v ∧ Q0 Z p1 p2 h0 n0 v U'.heap L ∧ FrameEnd U o U' L room_1.cells room_1.slots) := by
  refine MetFree.of_bodySF (plainFor_of_name pn_0) hisR ?_
  intro p e s m args below meth c s₁ Bd hml0 hP hK
  obtain ⟨rfl, hZ, hh⟩ := hP
  have hx := Bd.exec
  have hby := Bd.bytes
  have hml : c.maxLocals = 7 := hml0
  have hown : s.vm.findClass "needlemark/CompiledPatternSymbolsPinLaw" = some m.cls := findClass_of_methodNamed Bd.named
  have hnm := (name_of_methodNamed Bd.named Bd.method).1
  have X0 : Stand p l e room_1 s m #[(.int p1), (.int p2)] below meth c s₁ [] 0 0 := Stand.of_body Bd
  have e0 : s₁.heap = h0 := by rw [← hh, Bd.state]; rfl
  have N0 := Fr.nil n0
  refine own_go (B := s₁.setTop (mkF m 0 #[.val (.int p1), .val (.int p2), .unset, .unset, .unset, .unset, .unset] [])) (fun t kt => castTop (ef_0 m p1 p2) kt) ?_
  refine own_go (B := s₁.setTop (mkF m 6 #[.val (.int p1), .val (.int p2), .unset, .unset, .unset, .unset, .unset] [(.int ((p1 &&& (7 : Int32)) % (5 : Int32)))])) (fun t kt => ?_) ?_
  · show Steps p.tables e below (s₁.setTop (mkF m 0 #[.val (.int p1), .val (.int p2), .unset, .unset, .unset, .unset, .unset] [])) _
    refine XS.iloadN X0.here hx rfl (hb hby at_0) rfl ?_
    show Steps p.tables e below (s₁.setTop (mkF m 1 #[.val (.int p1), .val (.int p2), .unset, .unset, .unset, .unset, .unset] [(.int p1)])) _
    refine XS.bipush X0.here hx rfl (hb hby at_1) ?_
    show Steps p.tables e below (s₁.setTop (mkF m 3 #[.val (.int p1), .val (.int p2), .unset, .unset, .unset, .unset, .unset] [(.int (7 : Int32)), (.int p1)])) _
    refine XS.iand X0.here hx rfl (hb hby at_3) rfl ?_
    show Steps p.tables e below (s₁.setTop (mkF m 4 #[.val (.int p1), .val (.int p2), .unset, .unset, .unset, .unset, .unset] [(.int (p1 &&& (7 : Int32)))])) _
    refine XS.iconst X0.here hx rfl (hb hby at_4) ?_
    show Steps p.tables e below (s₁.setTop (mkF m 5 #[.val (.int p1), .val (.int p2), .unset, .unset, .unset, .unset, .unset] [(.int (5 : Int32)), (.int (p1 &&& (7 : Int32)))])) _
    refine iremM X0 hx rfl (hb hby at_5) rfl (by decide) ?_
    exact kt
  rcases own_len p1 with hk | hk | hk | hk | hk
  · rw [hk]
    refine own_go (B := s₁.setTop (mkF m 8 #[.val (.int p1), .val (.int p2), .val (.int (0 : Int32)), .unset, .unset, .unset, .unset] [(.int (0 : Int32))])) (fun t kt => ?_) ?_
    · show Steps p.tables e below (s₁.setTop (mkF m 6 #[.val (.int p1), .val (.int p2), .unset, .unset, .unset, .unset, .unset] [(.int (0 : Int32))])) _
      refine XS.istoreN X0.here hx rfl (hb hby at_6) rfl (l' := #[.val (.int p1), .val (.int p2), .val (.int (0 : Int32)), .unset, .unset, .unset, .unset]) rfl ?_
      show Steps p.tables e below (s₁.setTop (mkF m 7 #[.val (.int p1), .val (.int p2), .val (.int (0 : Int32)), .unset, .unset, .unset, .unset] [])) _
      refine XS.iloadN X0.here hx rfl (hb hby at_7) rfl ?_
      exact kt
    obtain ⟨T16, h16, k16, X16, e16, E16, A16, st16⟩ := newP X0 hx hZ (hw _ (List.mem_of_getElem? (i := 0) rfl)) e0 (g := (mkF m 8 #[.val (.int p1), .val (.int p2), .val (.int (0 : Int32)), .unset, .unset, .unset, .unset] [(.int (0 : Int32))])) rfl (hb hby at_8) rfl (by decide) (cap := 0) (by decide) (by decide) (by decide) (by decide)
    obtain ⟨b16, g16⟩ : ∃ z, z = h0.size := ⟨_, rfl⟩
    rw [← g16] at A16 st16
    refine own_go (B := T16.setTop (mkF m 10 #[.val (.int p1), .val (.int p2), .val (.int (0 : Int32)), .unset, .unset, .unset, .unset] [(.ref b16)])) (fun t kt => st16 t kt) ?_
    have gb : n0 ≤ b16 := Nat.le_trans Z0 (Nat.le_of_eq g16.symm)
    have Z1 : n0 ≤ h16.size := Nat.le_trans Z0 E16.1
    have V0 : Arv Z h16 b16 k16 .byte (0 : Int32) [] (.int (0 : Int32)) := Arv.new A16 (by decide)
    refine own_go (B := T16.setTop (mkF m 60 #[.val (.int p1), .val (.int p2), .val (.int (0 : Int32)), .val (.ref b16), .unset, .unset, .unset] [(.ref b16)])) (fun t kt => ?_) ?_
    · show Steps p.tables e below (T16.setTop (mkF m 10 #[.val (.int p1), .val (.int p2), .val (.int (0 : Int32)), .unset, .unset, .unset, .unset] [(.ref b16)])) _
      refine XS.astoreN X16.here hx rfl (hb hby at_10) rfl rfl (l' := #[.val (.int p1), .val (.int p2), .val (.int (0 : Int32)), .val (.ref b16), .unset, .unset, .unset]) rfl ?_
      show Steps p.tables e below (T16.setTop (mkF m 11 #[.val (.int p1), .val (.int p2), .val (.int (0 : Int32)), .val (.ref b16), .unset, .unset, .unset] [])) _
      refine XS.iloadN X16.here hx rfl (hb hby at_11) rfl ?_
      show Steps p.tables e below (T16.setTop (mkF m 12 #[.val (.int p1), .val (.int p2), .val (.int (0 : Int32)), .val (.ref b16), .unset, .unset, .unset] [(.int (0 : Int32))])) _
      refine XS.ifYes X16.here hx rfl (pc0 := 12) (pc' := 20) rfl (hb hby at_12) rfl ((if0 _ _).trans (flt (by decide)).2.2.2) (by decide) (by decide) ?_
      show Steps p.tables e below (T16.setTop (mkF m 20 #[.val (.int p1), .val (.int p2), .val (.int (0 : Int32)), .val (.ref b16), .unset, .unset, .unset] [])) _
      refine XS.iloadN X16.here hx rfl (hb hby at_20) rfl ?_
      show Steps p.tables e below (T16.setTop (mkF m 21 #[.val (.int p1), .val (.int p2), .val (.int (0 : Int32)), .val (.ref b16), .unset, .unset, .unset] [(.int (0 : Int32))])) _
      refine XS.iconst X16.here hx rfl (hb hby at_21) ?_
      show Steps p.tables e below (T16.setTop (mkF m 22 #[.val (.int p1), .val (.int p2), .val (.int (0 : Int32)), .val (.ref b16), .unset, .unset, .unset] [(.int (1 : Int32)), (.int (0 : Int32))])) _
      refine XS.icmpYes X16.here hx rfl (pc0 := 22) (pc' := 33) rfl (hb hby at_22) rfl (flt (by decide)).2.2.2 (by decide) (by decide) ?_
      show Steps p.tables e below (T16.setTop (mkF m 33 #[.val (.int p1), .val (.int p2), .val (.int (0 : Int32)), .val (.ref b16), .unset, .unset, .unset] [])) _
      refine XS.iloadN X16.here hx rfl (hb hby at_33) rfl ?_
      show Steps p.tables e below (T16.setTop (mkF m 34 #[.val (.int p1), .val (.int p2), .val (.int (0 : Int32)), .val (.ref b16), .unset, .unset, .unset] [(.int (0 : Int32))])) _
      refine XS.iconst X16.here hx rfl (hb hby at_34) ?_
      show Steps p.tables e below (T16.setTop (mkF m 35 #[.val (.int p1), .val (.int p2), .val (.int (0 : Int32)), .val (.ref b16), .unset, .unset, .unset] [(.int (2 : Int32)), (.int (0 : Int32))])) _
      refine XS.icmpYes X16.here hx rfl (pc0 := 35) (pc' := 46) rfl (hb hby at_35) rfl (flt (by decide)).2.2.2 (by decide) (by decide) ?_
      show Steps p.tables e below (T16.setTop (mkF m 46 #[.val (.int p1), .val (.int p2), .val (.int (0 : Int32)), .val (.ref b16), .unset, .unset, .unset] [])) _
      refine XS.iloadN X16.here hx rfl (hb hby at_46) rfl ?_
      show Steps p.tables e below (T16.setTop (mkF m 47 #[.val (.int p1), .val (.int p2), .val (.int (0 : Int32)), .val (.ref b16), .unset, .unset, .unset] [(.int (0 : Int32))])) _
      refine XS.iconst X16.here hx rfl (hb hby at_47) ?_
      show Steps p.tables e below (T16.setTop (mkF m 48 #[.val (.int p1), .val (.int p2), .val (.int (0 : Int32)), .val (.ref b16), .unset, .unset, .unset] [(.int (3 : Int32)), (.int (0 : Int32))])) _
      refine XS.icmpYes X16.here hx rfl (pc0 := 48) (pc' := 59) rfl (hb hby at_48) rfl (flt (by decide)).2.2.2 (by decide) (by decide) ?_
      show Steps p.tables e below (T16.setTop (mkF m 59 #[.val (.int p1), .val (.int p2), .val (.int (0 : Int32)), .val (.ref b16), .unset, .unset, .unset] [])) _
      refine XS.aloadN X16.here hx rfl (hb hby at_59) rfl rfl ?_
      exact kt
    obtain ⟨_, _, ⟨T17, L17, k17, n17⟩, -, X17, ⟨Lc17, hQ17, l17, y17, z17⟩, st17⟩ := Jvm.LawKit.callS X16 hx (y := (⟨"needlemark/CompiledPattern", "symbols", "([B)[I"⟩ : MethodName)) hown (mvT hZ (hw _ (List.mem_of_getElem? (i := 1) rfl))) (mvT hZ (hw _ (List.mem_of_getElem? (i := 2) rfl))) (mvT hZ (hw _ (List.mem_of_getElem? (i := 3) rfl))) (mvT hZ (hw _ (List.mem_of_getElem? (i := 4) rfl))) (by decide) (backOf (W := 0) (rm1_0 l Z a0 hw [] b16 k16  h16 n0 Z1 V0) hZ (hw _ (List.mem_of_getElem? (i := 4) rfl)) (hw _ (List.mem_of_getElem? (i := 3) rfl)) (by decide) (by decide)) (g := (mkF m 60 #[.val (.int p1), .val (.int p2), .val (.int (0 : Int32)), .val (.ref b16), .unset, .unset, .unset] [(.ref b16)])) rfl (by rw [hml]; rfl) (argsL := [(.ref b16)]) (rest := []) (lenOf pd_0 rfl) rfl (by show 2 * 0 + _ ≤ _; exact Nat.le_of_eq rfl) (hb hby at_60) (fun _ _ => ⟨rfl, e16, (by decide : (0 + 1) + 1 ≤ _), (by decide : (0 + 0) + 0 ≤ _)⟩)
    dsimp only [Pt.U, Pt.locs, Pt.cells, Pt.slots] at X17 l17 y17 z17 st17 hQ17
    subst l17 y17 z17
    obtain ⟨r17, kr17, rfl, N17q, K17, G17, V17⟩ := hQ17
    have N17 := Fr.app N0 N17q
    refine own_go (B := T17.setTop (mkF m 63 #[.val (.int p1), .val (.int p2), .val (.int (0 : Int32)), .val (.ref b16), .unset, .unset, .unset] [(.ref r17)])) (fun t kt => st17 t kt) ?_
    have Zb : n0 ≤ T17.heap.size := Nat.le_trans Z1 K17.1
    have Vb := V0.keep K17 nin0
    have Lr := V17.lt
    refine own_go (B := T17.setTop (mkF m 66 #[.val (.int p1), .val (.int p2), .val (.int (0 : Int32)), .val (.ref b16), .val (.ref r17), .unset, .unset] [(.ref b16)])) (fun t kt => ?_) ?_
    · show Steps p.tables e below (T17.setTop (mkF m 63 #[.val (.int p1), .val (.int p2), .val (.int (0 : Int32)), .val (.ref b16), .unset, .unset, .unset] [(.ref r17)])) _
      refine XS.astore X17.here hx rfl (hb hby at_63) rfl rfl (l' := #[.val (.int p1), .val (.int p2), .val (.int (0 : Int32)), .val (.ref b16), .val (.ref r17), .unset, .unset]) rfl ?_
      show Steps p.tables e below (T17.setTop (mkF m 65 #[.val (.int p1), .val (.int p2), .val (.int (0 : Int32)), .val (.ref b16), .val (.ref r17), .unset, .unset] [])) _
      refine XS.aloadN X17.here hx rfl (hb hby at_65) rfl rfl ?_
      exact kt
    obtain ⟨_, _, ⟨T18, L18, k18, n18⟩, -, X18, ⟨Lc18, hQ18, l18, y18, z18⟩, st18⟩ := Jvm.LawKit.callS X17 hx (y := (⟨"needlemark/CompiledPattern", "symbols", "([B)[I"⟩ : MethodName)) hown (mvT hZ (hw _ (List.mem_of_getElem? (i := 1) rfl))) (mvT hZ (hw _ (List.mem_of_getElem? (i := 2) rfl))) (mvT hZ (hw _ (List.mem_of_getElem? (i := 3) rfl))) (mvT hZ (hw _ (List.mem_of_getElem? (i := 4) rfl))) (by decide) (backOf (W := 0) (rm1_0 l Z a0 hw [] b16 k16  T17.heap n0 Zb Vb) hZ (hw _ (List.mem_of_getElem? (i := 4) rfl)) (hw _ (List.mem_of_getElem? (i := 3) rfl)) (by decide) (by decide)) (g := (mkF m 66 #[.val (.int p1), .val (.int p2), .val (.int (0 : Int32)), .val (.ref b16), .val (.ref r17), .unset, .unset] [(.ref b16)])) rfl (by rw [hml]; rfl) (argsL := [(.ref b16)]) (rest := []) (lenOf pd_0 rfl) rfl (by show 2 * 0 + _ ≤ _; exact Nat.le_of_eq rfl) (hb hby at_66) (fun _ _ => ⟨rfl, rfl, (by decide : ((0 + 1) + 1) + 1 ≤ _), (by decide : ((0 + 0) + 0) + 0 ≤ _)⟩)
    dsimp only [Pt.U, Pt.locs, Pt.cells, Pt.slots] at X18 l18 y18 z18 st18 hQ18
    subst l18 y18 z18
    obtain ⟨r18, kr18, rfl, N18q, K18, G18, V18⟩ := hQ18
    have N18 := Fr.app N17 N18q
    refine own_go (B := T18.setTop (mkF m 69 #[.val (.int p1), .val (.int p2), .val (.int (0 : Int32)), .val (.ref b16), .val (.ref r17), .unset, .unset] [(.ref r18)])) (fun t kt => st18 t kt) ?_
    have Zc : n0 ≤ T18.heap.size := Nat.le_trans Zb K18.1
    have Vb' := Vb.keep K18 nin0
    have Vr' := V17.keep K18 nin0
    have hne : r17 ≠ r18 := Nat.ne_of_lt (Nat.lt_of_lt_of_le Lr G18)
    obtain ⟨hf, ehf⟩ : ∃ z : Heap, z = T18.heap := ⟨_, rfl⟩
    rw [← ehf] at Zc Vb' Vr' V18
    obtain ⟨cb, Ab, -, Sb, Mb, Hb, -⟩ := Vb'
    obtain ⟨cr, Ar, -, Sr, Mr, Hr, -⟩ := Vr'
    obtain ⟨cs, As, -, Ss, Ms, Hs, -⟩ := V18
    refine own_go (B := T18.setTop (mkF m 315 #[.val (.int p1), .val (.int p2), .val (.int (0 : Int32)), .val (.ref b16), .val (.ref r17), .val (.ref r18), .val (.int (1 : Int32))] [(.int (1 : Int32))])) (fun t kt => ?_) ?_
    · show Steps p.tables e below (T18.setTop (mkF m 69 #[.val (.int p1), .val (.int p2), .val (.int (0 : Int32)), .val (.ref b16), .val (.ref r17), .unset, .unset] [(.ref r18)])) _
      refine XS.astore X18.here hx rfl (hb hby at_69) rfl rfl (l' := #[.val (.int p1), .val (.int p2), .val (.int (0 : Int32)), .val (.ref b16), .val (.ref r17), .val (.ref r18), .unset]) rfl ?_
      show Steps p.tables e below (T18.setTop (mkF m 71 #[.val (.int p1), .val (.int p2), .val (.int (0 : Int32)), .val (.ref b16), .val (.ref r17), .val (.ref r18), .unset] [])) _
      refine XS.aload X18.here hx rfl (hb hby at_71) rfl rfl ?_
      show Steps p.tables e below (T18.setTop (mkF m 73 #[.val (.int p1), .val (.int p2), .val (.int (0 : Int32)), .val (.ref b16), .val (.ref r17), .val (.ref r18), .unset] [(.ref r17)])) _
      refine XS.ifnullNo X18.here hx rfl (hb hby at_73) rfl ?_
      show Steps p.tables e below (T18.setTop (mkF m 76 #[.val (.int p1), .val (.int p2), .val (.int (0 : Int32)), .val (.ref b16), .val (.ref r17), .val (.ref r18), .unset] [])) _
      refine XS.aload X18.here hx rfl (hb hby at_76) rfl rfl ?_
      show Steps p.tables e below (T18.setTop (mkF m 78 #[.val (.int p1), .val (.int p2), .val (.int (0 : Int32)), .val (.ref b16), .val (.ref r17), .val (.ref r18), .unset] [(.ref r18)])) _
      refine XS.ifnullNo X18.here hx rfl (hb hby at_78) rfl ?_
      show Steps p.tables e below (T18.setTop (mkF m 81 #[.val (.int p1), .val (.int p2), .val (.int (0 : Int32)), .val (.ref b16), .val (.ref r17), .val (.ref r18), .unset] [])) _
      refine XS.aload X18.here hx rfl (hb hby at_81) rfl rfl ?_
      show Steps p.tables e below (T18.setTop (mkF m 83 #[.val (.int p1), .val (.int p2), .val (.int (0 : Int32)), .val (.ref b16), .val (.ref r17), .val (.ref r18), .unset] [(.ref r17)])) _
      refine XS.aload X18.here hx rfl (hb hby at_83) rfl rfl ?_
      show Steps p.tables e below (T18.setTop (mkF m 85 #[.val (.int p1), .val (.int p2), .val (.int (0 : Int32)), .val (.ref b16), .val (.ref r17), .val (.ref r18), .unset] [(.ref r18), (.ref r17)])) _
      refine Jvm.RoadKit.acmp (g := (mkF m 85 #[.val (.int p1), .val (.int p2), .val (.int (0 : Int32)), .val (.ref b16), .val (.ref r17), .val (.ref r18), .unset] [(.ref r18), (.ref r17)])) X18 hx rfl rfl rfl (pc0 := 85) (pc' := 90) (same := false) rfl (hb hby at_85) rfl (decide_eq_false fun q => hne (Value.ref.inj q)) (by decide) (by decide) ?_
      show Steps p.tables e below (T18.setTop (mkF m 90 #[.val (.int p1), .val (.int p2), .val (.int (0 : Int32)), .val (.ref b16), .val (.ref r17), .val (.ref r18), .unset] [])) _
      refine XS.aload X18.here hx rfl (hb hby at_90) rfl rfl ?_
      show Steps p.tables e below (T18.setTop (mkF m 92 #[.val (.int p1), .val (.int p2), .val (.int (0 : Int32)), .val (.ref b16), .val (.ref r17), .val (.ref r18), .unset] [(.ref r17)])) _
      refine X18.arraylength hx (cell := cr) (by rw [ehf.symm]; exact Ar.1) (State.isArrayOf_alike hZ.alike Ar.2.1) (g := (mkF m 92 #[.val (.int p1), .val (.int p2), .val (.int (0 : Int32)), .val (.ref b16), .val (.ref r17), .val (.ref r18), .unset] [(.ref r17)])) rfl rfl (hb hby at_92) _ ?_
      rw [len_of Sr Mr]
      show Steps p.tables e below (T18.setTop (mkF m 93 #[.val (.int p1), .val (.int p2), .val (.int (0 : Int32)), .val (.ref b16), .val (.ref r17), .val (.ref r18), .unset] [(.int (0 : Int32))])) _
      refine XS.iloadN X18.here hx rfl (hb hby at_93) rfl ?_
      show Steps p.tables e below (T18.setTop (mkF m 94 #[.val (.int p1), .val (.int p2), .val (.int (0 : Int32)), .val (.ref b16), .val (.ref r17), .val (.ref r18), .unset] [(.int (0 : Int32)), (.int (0 : Int32))])) _
      refine XS.icmpNo X18.here hx rfl (hb hby at_94) rfl (teq rfl).2 ?_
      show Steps p.tables e below (T18.setTop (mkF m 97 #[.val (.int p1), .val (.int p2), .val (.int (0 : Int32)), .val (.ref b16), .val (.ref r17), .val (.ref r18), .unset] [])) _
      refine XS.aload X18.here hx rfl (hb hby at_97) rfl rfl ?_
      show Steps p.tables e below (T18.setTop (mkF m 99 #[.val (.int p1), .val (.int p2), .val (.int (0 : Int32)), .val (.ref b16), .val (.ref r17), .val (.ref r18), .unset] [(.ref r18)])) _
      refine X18.arraylength hx (cell := cs) (by rw [ehf.symm]; exact As.1) (State.isArrayOf_alike hZ.alike As.2.1) (g := (mkF m 99 #[.val (.int p1), .val (.int p2), .val (.int (0 : Int32)), .val (.ref b16), .val (.ref r17), .val (.ref r18), .unset] [(.ref r18)])) rfl rfl (hb hby at_99) _ ?_
      rw [len_of Ss Ms]
      show Steps p.tables e below (T18.setTop (mkF m 100 #[.val (.int p1), .val (.int p2), .val (.int (0 : Int32)), .val (.ref b16), .val (.ref r17), .val (.ref r18), .unset] [(.int (0 : Int32))])) _
      refine XS.iloadN X18.here hx rfl (hb hby at_100) rfl ?_
      show Steps p.tables e below (T18.setTop (mkF m 101 #[.val (.int p1), .val (.int p2), .val (.int (0 : Int32)), .val (.ref b16), .val (.ref r17), .val (.ref r18), .unset] [(.int (0 : Int32)), (.int (0 : Int32))])) _
      refine XS.icmpYes X18.here hx rfl (pc0 := 101) (pc' := 106) rfl (hb hby at_101) rfl (teq rfl).1 (by decide) (by decide) ?_
      show Steps p.tables e below (T18.setTop (mkF m 106 #[.val (.int p1), .val (.int p2), .val (.int (0 : Int32)), .val (.ref b16), .val (.ref r17), .val (.ref r18), .unset] [])) _
      refine XS.iconst X18.here hx rfl (hb hby at_106) ?_
      show Steps p.tables e below (T18.setTop (mkF m 107 #[.val (.int p1), .val (.int p2), .val (.int (0 : Int32)), .val (.ref b16), .val (.ref r17), .val (.ref r18), .unset] [(.int (1 : Int32))])) _
      refine XS.istore X18.here hx rfl (hb hby at_107) rfl (l' := #[.val (.int p1), .val (.int p2), .val (.int (0 : Int32)), .val (.ref b16), .val (.ref r17), .val (.ref r18), .val (.int (1 : Int32))]) rfl ?_
      show Steps p.tables e below (T18.setTop (mkF m 109 #[.val (.int p1), .val (.int p2), .val (.int (0 : Int32)), .val (.ref b16), .val (.ref r17), .val (.ref r18), .val (.int (1 : Int32))] [])) _
      refine XS.iloadN X18.here hx rfl (hb hby at_109) rfl ?_
      show Steps p.tables e below (T18.setTop (mkF m 110 #[.val (.int p1), .val (.int p2), .val (.int (0 : Int32)), .val (.ref b16), .val (.ref r17), .val (.ref r18), .val (.int (1 : Int32))] [(.int (0 : Int32))])) _
      refine XS.ifYes X18.here hx rfl (pc0 := 110) (pc' := 157) rfl (hb hby at_110) rfl ((if0 _ _).trans (flt (by decide)).2.2.2) (by decide) (by decide) ?_
      show Steps p.tables e below (T18.setTop (mkF m 157 #[.val (.int p1), .val (.int p2), .val (.int (0 : Int32)), .val (.ref b16), .val (.ref r17), .val (.ref r18), .val (.int (1 : Int32))] [])) _
      refine XS.iloadN X18.here hx rfl (hb hby at_157) rfl ?_
      show Steps p.tables e below (T18.setTop (mkF m 158 #[.val (.int p1), .val (.int p2), .val (.int (0 : Int32)), .val (.ref b16), .val (.ref r17), .val (.ref r18), .val (.int (1 : Int32))] [(.int (0 : Int32))])) _
      refine XS.iconst X18.here hx rfl (hb hby at_158) ?_
      show Steps p.tables e below (T18.setTop (mkF m 159 #[.val (.int p1), .val (.int p2), .val (.int (0 : Int32)), .val (.ref b16), .val (.ref r17), .val (.ref r18), .val (.int (1 : Int32))] [(.int (1 : Int32)), (.int (0 : Int32))])) _
      refine XS.icmpYes X18.here hx rfl (pc0 := 159) (pc' := 209) rfl (hb hby at_159) rfl (flt (by decide)).2.2.2 (by decide) (by decide) ?_
      show Steps p.tables e below (T18.setTop (mkF m 209 #[.val (.int p1), .val (.int p2), .val (.int (0 : Int32)), .val (.ref b16), .val (.ref r17), .val (.ref r18), .val (.int (1 : Int32))] [])) _
      refine XS.iloadN X18.here hx rfl (hb hby at_209) rfl ?_
      show Steps p.tables e below (T18.setTop (mkF m 210 #[.val (.int p1), .val (.int p2), .val (.int (0 : Int32)), .val (.ref b16), .val (.ref r17), .val (.ref r18), .val (.int (1 : Int32))] [(.int (0 : Int32))])) _
      refine XS.iconst X18.here hx rfl (hb hby at_210) ?_
      show Steps p.tables e below (T18.setTop (mkF m 211 #[.val (.int p1), .val (.int p2), .val (.int (0 : Int32)), .val (.ref b16), .val (.ref r17), .val (.ref r18), .val (.int (1 : Int32))] [(.int (2 : Int32)), (.int (0 : Int32))])) _
      refine XS.icmpYes X18.here hx rfl (pc0 := 211) (pc' := 261) rfl (hb hby at_211) rfl (flt (by decide)).2.2.2 (by decide) (by decide) ?_
      show Steps p.tables e below (T18.setTop (mkF m 261 #[.val (.int p1), .val (.int p2), .val (.int (0 : Int32)), .val (.ref b16), .val (.ref r17), .val (.ref r18), .val (.int (1 : Int32))] [])) _
      refine XS.iloadN X18.here hx rfl (hb hby at_261) rfl ?_
      show Steps p.tables e below (T18.setTop (mkF m 262 #[.val (.int p1), .val (.int p2), .val (.int (0 : Int32)), .val (.ref b16), .val (.ref r17), .val (.ref r18), .val (.int (1 : Int32))] [(.int (0 : Int32))])) _
      refine XS.iconst X18.here hx rfl (hb hby at_262) ?_
      show Steps p.tables e below (T18.setTop (mkF m 263 #[.val (.int p1), .val (.int p2), .val (.int (0 : Int32)), .val (.ref b16), .val (.ref r17), .val (.ref r18), .val (.int (1 : Int32))] [(.int (3 : Int32)), (.int (0 : Int32))])) _
      refine XS.icmpYes X18.here hx rfl (pc0 := 263) (pc' := 313) rfl (hb hby at_263) rfl (flt (by decide)).2.2.2 (by decide) (by decide) ?_
      show Steps p.tables e below (T18.setTop (mkF m 313 #[.val (.int p1), .val (.int p2), .val (.int (0 : Int32)), .val (.ref b16), .val (.ref r17), .val (.ref r18), .val (.int (1 : Int32))] [])) _
      refine XS.iload X18.here hx rfl (hb hby at_313) rfl ?_
      exact kt
    obtain ⟨fs, hr, hrun, hended, hW, hsame⟩ := X18.leave (v := some (.int (1 : Int32))) (fun h => by rw [Bd.returns] at h; cases h)
    refine ⟨_, _, ?_, hrun, hended, _, _, rfl, ?_, ⟨_, rfl⟩, hW, hsame.mono (by decide) (by decide)⟩
    · show Steps p.tables e below (T18.setTop (mkF m 315 #[.val (.int p1), .val (.int p2), .val (.int (0 : Int32)), .val (.ref b16), .val (.ref r17), .val (.ref r18), .val (.int (1 : Int32))] [(.int (1 : Int32))])) _
      exact retN X18 hx (t := .boolean) Bd.returns (by simp) (hb hby at_315) hr
    · show Q0 Z p1 p2 h0 n0 _ T18.heap _
      rw [ehf.symm]
      exact ⟨rfl, N18⟩
  · rw [hk]
    refine own_go (B := s₁.setTop (mkF m 8 #[.val (.int p1), .val (.int p2), .val (.int (1 : Int32)), .unset, .unset, .unset, .unset] [(.int (1 : Int32))])) (fun t kt => ?_) ?_
    · show Steps p.tables e below (s₁.setTop (mkF m 6 #[.val (.int p1), .val (.int p2), .unset, .unset, .unset, .unset, .unset] [(.int (1 : Int32))])) _
      refine XS.istoreN X0.here hx rfl (hb hby at_6) rfl (l' := #[.val (.int p1), .val (.int p2), .val (.int (1 : Int32)), .unset, .unset, .unset, .unset]) rfl ?_
      show Steps p.tables e below (s₁.setTop (mkF m 7 #[.val (.int p1), .val (.int p2), .val (.int (1 : Int32)), .unset, .unset, .unset, .unset] [])) _
      refine XS.iloadN X0.here hx rfl (hb hby at_7) rfl ?_
      exact kt
    obtain ⟨T19, h19, k19, X19, e19, E19, A19, st19⟩ := newP X0 hx hZ (hw _ (List.mem_of_getElem? (i := 0) rfl)) e0 (g := (mkF m 8 #[.val (.int p1), .val (.int p2), .val (.int (1 : Int32)), .unset, .unset, .unset, .unset] [(.int (1 : Int32))])) rfl (hb hby at_8) rfl (by decide) (cap := 1) (by decide) (by decide) (by decide) (by decide)
    obtain ⟨b19, g19⟩ : ∃ z, z = h0.size := ⟨_, rfl⟩
    rw [← g19] at A19 st19
    refine own_go (B := T19.setTop (mkF m 10 #[.val (.int p1), .val (.int p2), .val (.int (1 : Int32)), .unset, .unset, .unset, .unset] [(.ref b19)])) (fun t kt => st19 t kt) ?_
    have gb : n0 ≤ b19 := Nat.le_trans Z0 (Nat.le_of_eq g19.symm)
    have Z1 : n0 ≤ h19.size := Nat.le_trans Z0 E19.1
    have V0 : Arv Z h19 b19 k19 .byte (1 : Int32) [(.int (0 : Int32))] (.int (0 : Int32)) := (Arv.new A19 (by decide)).pad (pad_rep [] (.int (0 : Int32)) 1)
    refine own_go (B := T19.setTop (mkF m 19 #[.val (.int p1), .val (.int p2), .val (.int (1 : Int32)), .val (.ref b19), .unset, .unset, .unset] [(.int (p2.toInt8.toInt32)), (.int (0 : Int32)), (.ref b19)])) (fun t kt => ?_) ?_
    · show Steps p.tables e below (T19.setTop (mkF m 10 #[.val (.int p1), .val (.int p2), .val (.int (1 : Int32)), .unset, .unset, .unset, .unset] [(.ref b19)])) _
      refine XS.astoreN X19.here hx rfl (hb hby at_10) rfl rfl (l' := #[.val (.int p1), .val (.int p2), .val (.int (1 : Int32)), .val (.ref b19), .unset, .unset, .unset]) rfl ?_
      show Steps p.tables e below (T19.setTop (mkF m 11 #[.val (.int p1), .val (.int p2), .val (.int (1 : Int32)), .val (.ref b19), .unset, .unset, .unset] [])) _
      refine XS.iloadN X19.here hx rfl (hb hby at_11) rfl ?_
      show Steps p.tables e below (T19.setTop (mkF m 12 #[.val (.int p1), .val (.int p2), .val (.int (1 : Int32)), .val (.ref b19), .unset, .unset, .unset] [(.int (1 : Int32))])) _
      refine XS.ifNo X19.here hx rfl (hb hby at_12) rfl ((if0 _ _).trans (tlt (by decide)).2.2.2) ?_
      show Steps p.tables e below (T19.setTop (mkF m 15 #[.val (.int p1), .val (.int p2), .val (.int (1 : Int32)), .val (.ref b19), .unset, .unset, .unset] [])) _
      refine XS.aloadN X19.here hx rfl (hb hby at_15) rfl rfl ?_
      show Steps p.tables e below (T19.setTop (mkF m 16 #[.val (.int p1), .val (.int p2), .val (.int (1 : Int32)), .val (.ref b19), .unset, .unset, .unset] [(.ref b19)])) _
      refine XS.iconst X19.here hx rfl (hb hby at_16) ?_
      show Steps p.tables e below (T19.setTop (mkF m 17 #[.val (.int p1), .val (.int p2), .val (.int (1 : Int32)), .val (.ref b19), .unset, .unset, .unset] [(.int (0 : Int32)), (.ref b19)])) _
      refine XS.iloadN X19.here hx rfl (hb hby at_17) rfl ?_
      show Steps p.tables e below (T19.setTop (mkF m 18 #[.val (.int p1), .val (.int p2), .val (.int (1 : Int32)), .val (.ref b19), .unset, .unset, .unset] [(.int p2), (.int (0 : Int32)), (.ref b19)])) _
      refine XS.i2b X19.here hx rfl (hb hby at_18) rfl ?_
      exact kt
    obtain ⟨cv0, Av0, qv0, Sv0, Mv0, Hv0, Uv0⟩ := V0
    obtain ⟨T20, h20, X20, e20, W20, st20⟩ := stB X19 hx hZ e19 Av0 (j := (0 : Int32)) (inb_of Sv0 ⟨by decide, by decide⟩) (g := (mkF m 19 #[.val (.int p1), .val (.int p2), .val (.int (1 : Int32)), .val (.ref b19), .unset, .unset, .unset] [(.int (p2.toInt8.toInt32)), (.int (0 : Int32)), (.ref b19)])) rfl rfl (hb hby at_19)
    have N20 := Fr.snoc X20 N0 gb
    refine own_go (B := T20.setTop (mkF m 20 #[.val (.int p1), .val (.int p2), .val (.int (1 : Int32)), .val (.ref b19), .unset, .unset, .unset] [])) (fun t kt => st20 t kt) ?_
    rw [own_nar] at W20
    have V1 : Arv Z h20 b19 k19 .byte (1 : Int32) [(.int (p2.toInt8.toInt32))] (.int (0 : Int32)) := Arv.set Av0 qv0 Sv0 Mv0 Hv0 Uv0 (fits_nar_byte _) W20 0 rfl (Nat.le_of_ble_eq_true rfl)
    have Z2 : n0 ≤ h20.size := Nat.le_trans Z1 (Keep.of_wr W20).1
    refine own_go (B := T20.setTop (mkF m 60 #[.val (.int p1), .val (.int p2), .val (.int (1 : Int32)), .val (.ref b19), .unset, .unset, .unset] [(.ref b19)])) (fun t kt => ?_) ?_
    · show Steps p.tables e below (T20.setTop (mkF m 20 #[.val (.int p1), .val (.int p2), .val (.int (1 : Int32)), .val (.ref b19), .unset, .unset, .unset] [])) _
      refine XS.iloadN X20.here hx rfl (hb hby at_20) rfl ?_
      show Steps p.tables e below (T20.setTop (mkF m 21 #[.val (.int p1), .val (.int p2), .val (.int (1 : Int32)), .val (.ref b19), .unset, .unset, .unset] [(.int (1 : Int32))])) _
      refine XS.iconst X20.here hx rfl (hb hby at_21) ?_
      show Steps p.tables e below (T20.setTop (mkF m 22 #[.val (.int p1), .val (.int p2), .val (.int (1 : Int32)), .val (.ref b19), .unset, .unset, .unset] [(.int (1 : Int32)), (.int (1 : Int32))])) _
      refine XS.icmpYes X20.here hx rfl (pc0 := 22) (pc' := 33) rfl (hb hby at_22) rfl (flt (by decide)).2.2.2 (by decide) (by decide) ?_
      show Steps p.tables e below (T20.setTop (mkF m 33 #[.val (.int p1), .val (.int p2), .val (.int (1 : Int32)), .val (.ref b19), .unset, .unset, .unset] [])) _
      refine XS.iloadN X20.here hx rfl (hb hby at_33) rfl ?_
      show Steps p.tables e below (T20.setTop (mkF m 34 #[.val (.int p1), .val (.int p2), .val (.int (1 : Int32)), .val (.ref b19), .unset, .unset, .unset] [(.int (1 : Int32))])) _
      refine XS.iconst X20.here hx rfl (hb hby at_34) ?_
      show Steps p.tables e below (T20.setTop (mkF m 35 #[.val (.int p1), .val (.int p2), .val (.int (1 : Int32)), .val (.ref b19), .unset, .unset, .unset] [(.int (2 : Int32)), (.int (1 : Int32))])) _
      refine XS.icmpYes X20.here hx rfl (pc0 := 35) (pc' := 46) rfl (hb hby at_35) rfl (flt (by decide)).2.2.2 (by decide) (by decide) ?_
      show Steps p.tables e below (T20.setTop (mkF m 46 #[.val (.int p1), .val (.int p2), .val (.int (1 : Int32)), .val (.ref b19), .unset, .unset, .unset] [])) _
      refine XS.iloadN X20.here hx rfl (hb hby at_46) rfl ?_
      show Steps p.tables e below (T20.setTop (mkF m 47 #[.val (.int p1), .val (.int p2), .val (.int (1 : Int32)), .val (.ref b19), .unset, .unset, .unset] [(.int (1 : Int32))])) _
      refine XS.iconst X20.here hx rfl (hb hby at_47) ?_
      show Steps p.tables e below (T20.setTop (mkF m 48 #[.val (.int p1), .val (.int p2), .val (.int (1 : Int32)), .val (.ref b19), .unset, .unset, .unset] [(.int (3 : Int32)), (.int (1 : Int32))])) _
      refine XS.icmpYes X20.here hx rfl (pc0 := 48) (pc' := 59) rfl (hb hby at_48) rfl (flt (by decide)).2.2.2 (by decide) (by decide) ?_
      show Steps p.tables e below (T20.setTop (mkF m 59 #[.val (.int p1), .val (.int p2), .val (.int (1 : Int32)), .val (.ref b19), .unset, .unset, .unset] [])) _
      refine XS.aloadN X20.here hx rfl (hb hby at_59) rfl rfl ?_
      exact kt
    obtain ⟨_, _, ⟨T21, L21, k21, n21⟩, -, X21, ⟨Lc21, hQ21, l21, y21, z21⟩, st21⟩ := Jvm.LawKit.callS X20 hx (y := (⟨"needlemark/CompiledPattern", "symbols", "([B)[I"⟩ : MethodName)) hown (mvT hZ (hw _ (List.mem_of_getElem? (i := 1) rfl))) (mvT hZ (hw _ (List.mem_of_getElem? (i := 2) rfl))) (mvT hZ (hw _ (List.mem_of_getElem? (i := 3) rfl))) (mvT hZ (hw _ (List.mem_of_getElem? (i := 4) rfl))) (by decide) (backOf (W := 0) (rm1_1 l Z a0 hw [] b19 k19 (p2.toInt8.toInt32) h20 n0 Z2 V1) hZ (hw _ (List.mem_of_getElem? (i := 4) rfl)) (hw _ (List.mem_of_getElem? (i := 3) rfl)) (by decide) (by decide)) (g := (mkF m 60 #[.val (.int p1), .val (.int p2), .val (.int (1 : Int32)), .val (.ref b19), .unset, .unset, .unset] [(.ref b19)])) rfl (by rw [hml]; rfl) (argsL := [(.ref b19)]) (rest := []) (lenOf pd_0 rfl) rfl (by show 2 * 0 + _ ≤ _; exact Nat.le_of_eq rfl) (hb hby at_60) (fun _ _ => ⟨rfl, e20, (by decide : (0 + 1) + 1 ≤ _), (by decide : (0 + 1) + 1 ≤ _)⟩)
    dsimp only [Pt.U, Pt.locs, Pt.cells, Pt.slots] at X21 l21 y21 z21 st21 hQ21
    subst l21 y21 z21
    obtain ⟨r21, kr21, rfl, N21q, K21, G21, V21⟩ := hQ21
    have N21 := Fr.app N20 N21q
    refine own_go (B := T21.setTop (mkF m 63 #[.val (.int p1), .val (.int p2), .val (.int (1 : Int32)), .val (.ref b19), .unset, .unset, .unset] [(.ref r21)])) (fun t kt => st21 t kt) ?_
    have Zb : n0 ≤ T21.heap.size := Nat.le_trans Z2 K21.1
    have Vb := V1.keep K21 nin0
    have Lr := V21.lt
    refine own_go (B := T21.setTop (mkF m 66 #[.val (.int p1), .val (.int p2), .val (.int (1 : Int32)), .val (.ref b19), .val (.ref r21), .unset, .unset] [(.ref b19)])) (fun t kt => ?_) ?_
    · show Steps p.tables e below (T21.setTop (mkF m 63 #[.val (.int p1), .val (.int p2), .val (.int (1 : Int32)), .val (.ref b19), .unset, .unset, .unset] [(.ref r21)])) _
      refine XS.astore X21.here hx rfl (hb hby at_63) rfl rfl (l' := #[.val (.int p1), .val (.int p2), .val (.int (1 : Int32)), .val (.ref b19), .val (.ref r21), .unset, .unset]) rfl ?_
      show Steps p.tables e below (T21.setTop (mkF m 65 #[.val (.int p1), .val (.int p2), .val (.int (1 : Int32)), .val (.ref b19), .val (.ref r21), .unset, .unset] [])) _
      refine XS.aloadN X21.here hx rfl (hb hby at_65) rfl rfl ?_
      exact kt
    obtain ⟨_, _, ⟨T22, L22, k22, n22⟩, -, X22, ⟨Lc22, hQ22, l22, y22, z22⟩, st22⟩ := Jvm.LawKit.callS X21 hx (y := (⟨"needlemark/CompiledPattern", "symbols", "([B)[I"⟩ : MethodName)) hown (mvT hZ (hw _ (List.mem_of_getElem? (i := 1) rfl))) (mvT hZ (hw _ (List.mem_of_getElem? (i := 2) rfl))) (mvT hZ (hw _ (List.mem_of_getElem? (i := 3) rfl))) (mvT hZ (hw _ (List.mem_of_getElem? (i := 4) rfl))) (by decide) (backOf (W := 0) (rm1_1 l Z a0 hw [] b19 k19 (p2.toInt8.toInt32) T21.heap n0 Zb Vb) hZ (hw _ (List.mem_of_getElem? (i := 4) rfl)) (hw _ (List.mem_of_getElem? (i := 3) rfl)) (by decide) (by decide)) (g := (mkF m 66 #[.val (.int p1), .val (.int p2), .val (.int (1 : Int32)), .val (.ref b19), .val (.ref r21), .unset, .unset] [(.ref b19)])) rfl (by rw [hml]; rfl) (argsL := [(.ref b19)]) (rest := []) (lenOf pd_0 rfl) rfl (by show 2 * 0 + _ ≤ _; exact Nat.le_of_eq rfl) (hb hby at_66) (fun _ _ => ⟨rfl, rfl, (by decide : ((0 + 1) + 1) + 1 ≤ _), (by decide : ((0 + 1) + 1) + 1 ≤ _)⟩)
    dsimp only [Pt.U, Pt.locs, Pt.cells, Pt.slots] at X22 l22 y22 z22 st22 hQ22
    subst l22 y22 z22
    obtain ⟨r22, kr22, rfl, N22q, K22, G22, V22⟩ := hQ22
    have N22 := Fr.app N21 N22q
    refine own_go (B := T22.setTop (mkF m 69 #[.val (.int p1), .val (.int p2), .val (.int (1 : Int32)), .val (.ref b19), .val (.ref r21), .unset, .unset] [(.ref r22)])) (fun t kt => st22 t kt) ?_
    have Zc : n0 ≤ T22.heap.size := Nat.le_trans Zb K22.1
    have Vb' := Vb.keep K22 nin0
    have Vr' := V21.keep K22 nin0
    have hne : r21 ≠ r22 := Nat.ne_of_lt (Nat.lt_of_lt_of_le Lr G22)
    obtain ⟨hf, ehf⟩ : ∃ z : Heap, z = T22.heap := ⟨_, rfl⟩
    rw [← ehf] at Zc Vb' Vr' V22
    obtain ⟨cb, Ab, -, Sb, Mb, Hb, -⟩ := Vb'
    obtain ⟨cr, Ar, -, Sr, Mr, Hr, -⟩ := Vr'
    obtain ⟨cs, As, -, Ss, Ms, Hs, -⟩ := V22
    refine own_go (B := T22.setTop (mkF m 124 #[.val (.int p1), .val (.int p2), .val (.int (1 : Int32)), .val (.ref b19), .val (.ref r21), .val (.ref r22), .val (.int (1 : Int32))] [(.int (0 : Int32)), (.int p2), (.int (p2.toInt8.toInt32))])) (fun t kt => ?_) ?_
    · show Steps p.tables e below (T22.setTop (mkF m 69 #[.val (.int p1), .val (.int p2), .val (.int (1 : Int32)), .val (.ref b19), .val (.ref r21), .unset, .unset] [(.ref r22)])) _
      refine XS.astore X22.here hx rfl (hb hby at_69) rfl rfl (l' := #[.val (.int p1), .val (.int p2), .val (.int (1 : Int32)), .val (.ref b19), .val (.ref r21), .val (.ref r22), .unset]) rfl ?_
      show Steps p.tables e below (T22.setTop (mkF m 71 #[.val (.int p1), .val (.int p2), .val (.int (1 : Int32)), .val (.ref b19), .val (.ref r21), .val (.ref r22), .unset] [])) _
      refine XS.aload X22.here hx rfl (hb hby at_71) rfl rfl ?_
      show Steps p.tables e below (T22.setTop (mkF m 73 #[.val (.int p1), .val (.int p2), .val (.int (1 : Int32)), .val (.ref b19), .val (.ref r21), .val (.ref r22), .unset] [(.ref r21)])) _
      refine XS.ifnullNo X22.here hx rfl (hb hby at_73) rfl ?_
      show Steps p.tables e below (T22.setTop (mkF m 76 #[.val (.int p1), .val (.int p2), .val (.int (1 : Int32)), .val (.ref b19), .val (.ref r21), .val (.ref r22), .unset] [])) _
      refine XS.aload X22.here hx rfl (hb hby at_76) rfl rfl ?_
      show Steps p.tables e below (T22.setTop (mkF m 78 #[.val (.int p1), .val (.int p2), .val (.int (1 : Int32)), .val (.ref b19), .val (.ref r21), .val (.ref r22), .unset] [(.ref r22)])) _
      refine XS.ifnullNo X22.here hx rfl (hb hby at_78) rfl ?_
      show Steps p.tables e below (T22.setTop (mkF m 81 #[.val (.int p1), .val (.int p2), .val (.int (1 : Int32)), .val (.ref b19), .val (.ref r21), .val (.ref r22), .unset] [])) _
      refine XS.aload X22.here hx rfl (hb hby at_81) rfl rfl ?_
      show Steps p.tables e below (T22.setTop (mkF m 83 #[.val (.int p1), .val (.int p2), .val (.int (1 : Int32)), .val (.ref b19), .val (.ref r21), .val (.ref r22), .unset] [(.ref r21)])) _
      refine XS.aload X22.here hx rfl (hb hby at_83) rfl rfl ?_
      show Steps p.tables e below (T22.setTop (mkF m 85 #[.val (.int p1), .val (.int p2), .val (.int (1 : Int32)), .val (.ref b19), .val (.ref r21), .val (.ref r22), .unset] [(.ref r22), (.ref r21)])) _
      refine Jvm.RoadKit.acmp (g := (mkF m 85 #[.val (.int p1), .val (.int p2), .val (.int (1 : Int32)), .val (.ref b19), .val (.ref r21), .val (.ref r22), .unset] [(.ref r22), (.ref r21)])) X22 hx rfl rfl rfl (pc0 := 85) (pc' := 90) (same := false) rfl (hb hby at_85) rfl (decide_eq_false fun q => hne (Value.ref.inj q)) (by decide) (by decide) ?_
      show Steps p.tables e below (T22.setTop (mkF m 90 #[.val (.int p1), .val (.int p2), .val (.int (1 : Int32)), .val (.ref b19), .val (.ref r21), .val (.ref r22), .unset] [])) _
      refine XS.aload X22.here hx rfl (hb hby at_90) rfl rfl ?_
      show Steps p.tables e below (T22.setTop (mkF m 92 #[.val (.int p1), .val (.int p2), .val (.int (1 : Int32)), .val (.ref b19), .val (.ref r21), .val (.ref r22), .unset] [(.ref r21)])) _
      refine X22.arraylength hx (cell := cr) (by rw [ehf.symm]; exact Ar.1) (State.isArrayOf_alike hZ.alike Ar.2.1) (g := (mkF m 92 #[.val (.int p1), .val (.int p2), .val (.int (1 : Int32)), .val (.ref b19), .val (.ref r21), .val (.ref r22), .unset] [(.ref r21)])) rfl rfl (hb hby at_92) _ ?_
      rw [len_of Sr Mr]
      show Steps p.tables e below (T22.setTop (mkF m 93 #[.val (.int p1), .val (.int p2), .val (.int (1 : Int32)), .val (.ref b19), .val (.ref r21), .val (.ref r22), .unset] [(.int (1 : Int32))])) _
      refine XS.iloadN X22.here hx rfl (hb hby at_93) rfl ?_
      show Steps p.tables e below (T22.setTop (mkF m 94 #[.val (.int p1), .val (.int p2), .val (.int (1 : Int32)), .val (.ref b19), .val (.ref r21), .val (.ref r22), .unset] [(.int (1 : Int32)), (.int (1 : Int32))])) _
      refine XS.icmpNo X22.here hx rfl (hb hby at_94) rfl (teq rfl).2 ?_
      show Steps p.tables e below (T22.setTop (mkF m 97 #[.val (.int p1), .val (.int p2), .val (.int (1 : Int32)), .val (.ref b19), .val (.ref r21), .val (.ref r22), .unset] [])) _
      refine XS.aload X22.here hx rfl (hb hby at_97) rfl rfl ?_
      show Steps p.tables e below (T22.setTop (mkF m 99 #[.val (.int p1), .val (.int p2), .val (.int (1 : Int32)), .val (.ref b19), .val (.ref r21), .val (.ref r22), .unset] [(.ref r22)])) _
      refine X22.arraylength hx (cell := cs) (by rw [ehf.symm]; exact As.1) (State.isArrayOf_alike hZ.alike As.2.1) (g := (mkF m 99 #[.val (.int p1), .val (.int p2), .val (.int (1 : Int32)), .val (.ref b19), .val (.ref r21), .val (.ref r22), .unset] [(.ref r22)])) rfl rfl (hb hby at_99) _ ?_
      rw [len_of Ss Ms]
      show Steps p.tables e below (T22.setTop (mkF m 100 #[.val (.int p1), .val (.int p2), .val (.int (1 : Int32)), .val (.ref b19), .val (.ref r21), .val (.ref r22), .unset] [(.int (1 : Int32))])) _
      refine XS.iloadN X22.here hx rfl (hb hby at_100) rfl ?_
      show Steps p.tables e below (T22.setTop (mkF m 101 #[.val (.int p1), .val (.int p2), .val (.int (1 : Int32)), .val (.ref b19), .val (.ref r21), .val (.ref r22), .unset] [(.int (1 : Int32)), (.int (1 : Int32))])) _
      refine XS.icmpYes X22.here hx rfl (pc0 := 101) (pc' := 106) rfl (hb hby at_101) rfl (teq rfl).1 (by decide) (by decide) ?_
      show Steps p.tables e below (T22.setTop (mkF m 106 #[.val (.int p1), .val (.int p2), .val (.int (1 : Int32)), .val (.ref b19), .val (.ref r21), .val (.ref r22), .unset] [])) _
      refine XS.iconst X22.here hx rfl (hb hby at_106) ?_
      show Steps p.tables e below (T22.setTop (mkF m 107 #[.val (.int p1), .val (.int p2), .val (.int (1 : Int32)), .val (.ref b19), .val (.ref r21), .val (.ref r22), .unset] [(.int (1 : Int32))])) _
      refine XS.istore X22.here hx rfl (hb hby at_107) rfl (l' := #[.val (.int p1), .val (.int p2), .val (.int (1 : Int32)), .val (.ref b19), .val (.ref r21), .val (.ref r22), .val (.int (1 : Int32))]) rfl ?_
      show Steps p.tables e below (T22.setTop (mkF m 109 #[.val (.int p1), .val (.int p2), .val (.int (1 : Int32)), .val (.ref b19), .val (.ref r21), .val (.ref r22), .val (.int (1 : Int32))] [])) _
      refine XS.iloadN X22.here hx rfl (hb hby at_109) rfl ?_
      show Steps p.tables e below (T22.setTop (mkF m 110 #[.val (.int p1), .val (.int p2), .val (.int (1 : Int32)), .val (.ref b19), .val (.ref r21), .val (.ref r22), .val (.int (1 : Int32))] [(.int (1 : Int32))])) _
      refine XS.ifNo X22.here hx rfl (hb hby at_110) rfl ((if0 _ _).trans (tlt (by decide)).2.2.2) ?_
      show Steps p.tables e below (T22.setTop (mkF m 113 #[.val (.int p1), .val (.int p2), .val (.int (1 : Int32)), .val (.ref b19), .val (.ref r21), .val (.ref r22), .val (.int (1 : Int32))] [])) _
      refine XS.iload X22.here hx rfl (hb hby at_113) rfl ?_
      show Steps p.tables e below (T22.setTop (mkF m 115 #[.val (.int p1), .val (.int p2), .val (.int (1 : Int32)), .val (.ref b19), .val (.ref r21), .val (.ref r22), .val (.int (1 : Int32))] [(.int (1 : Int32))])) _
      refine XS.ifNo X22.here hx rfl (hb hby at_115) rfl ((if0 _ _).trans (feq (by decide)).1) ?_
      show Steps p.tables e below (T22.setTop (mkF m 118 #[.val (.int p1), .val (.int p2), .val (.int (1 : Int32)), .val (.ref b19), .val (.ref r21), .val (.ref r22), .val (.int (1 : Int32))] [])) _
      refine XS.aload X22.here hx rfl (hb hby at_118) rfl rfl ?_
      show Steps p.tables e below (T22.setTop (mkF m 120 #[.val (.int p1), .val (.int p2), .val (.int (1 : Int32)), .val (.ref b19), .val (.ref r21), .val (.ref r22), .val (.int (1 : Int32))] [(.ref r21)])) _
      refine XS.iconst X22.here hx rfl (hb hby at_120) ?_
      show Steps p.tables e below (T22.setTop (mkF m 121 #[.val (.int p1), .val (.int p2), .val (.int (1 : Int32)), .val (.ref b19), .val (.ref r21), .val (.ref r22), .val (.int (1 : Int32))] [(.int (0 : Int32)), (.ref r21)])) _
      refine X22.iaload hx (j := (0 : Int32)) (v := (.int (p2.toInt8.toInt32))) (by rw [ehf.symm]; exact Ar.1) (State.isArrayOf_alike hZ.alike Ar.2.1) Ar.2.2 (inb_of Sr ⟨by decide, by decide⟩) (Hr.at (inb_of Sr ⟨by decide, by decide⟩) rfl) (g := (mkF m 121 #[.val (.int p1), .val (.int p2), .val (.int (1 : Int32)), .val (.ref b19), .val (.ref r21), .val (.ref r22), .val (.int (1 : Int32))] [(.int (0 : Int32)), (.ref r21)])) rfl rfl (hb hby at_121) _ ?_
      show Steps p.tables e below (T22.setTop (mkF m 122 #[.val (.int p1), .val (.int p2), .val (.int (1 : Int32)), .val (.ref b19), .val (.ref r21), .val (.ref r22), .val (.int (1 : Int32))] [(.int (p2.toInt8.toInt32))])) _
      refine XS.iloadN X22.here hx rfl (hb hby at_122) rfl ?_
      show Steps p.tables e below (T22.setTop (mkF m 123 #[.val (.int p1), .val (.int p2), .val (.int (1 : Int32)), .val (.ref b19), .val (.ref r21), .val (.ref r22), .val (.int (1 : Int32))] [(.int p2), (.int (p2.toInt8.toInt32))])) _
      refine XS.iconst X22.here hx rfl (hb hby at_123) ?_
      exact kt
    obtain ⟨_, _, ⟨T23, L23, k23, n23⟩, -, X23, ⟨Lc23, hQ23, l23, y23, z23⟩, st23⟩ := Jvm.LawKit.callS X22 hx (y := (⟨"needlemark/CompiledPatternSymbolsPinLaw", "expected", "(II)I"⟩ : MethodName)) hown (mvT hZ (hw _ (List.mem_of_getElem? (i := 6) rfl))) (mvT hZ (hw _ (List.mem_of_getElem? (i := 7) rfl))) (mvT hZ (hw _ (List.mem_of_getElem? (i := 8) rfl))) (mvT hZ (hw _ (List.mem_of_getElem? (i := 9) rfl))) (by decide) (backOf (W := 1) (rm2 l Z a0 hw [] p2 (0 : Int32) hf n0 Zc) hZ (hw _ (List.mem_of_getElem? (i := 9) rfl)) (hw _ (List.mem_of_getElem? (i := 8) rfl)) (by decide) (by decide)) (g := (mkF m 124 #[.val (.int p1), .val (.int p2), .val (.int (1 : Int32)), .val (.ref b19), .val (.ref r21), .val (.ref r22), .val (.int (1 : Int32))] [(.int (0 : Int32)), (.int p2), (.int (p2.toInt8.toInt32))])) rfl (by rw [hml]; rfl) (argsL := [(.int p2), (.int (0 : Int32))]) (rest := [(.int (p2.toInt8.toInt32))]) (lenOf pd_1 rfl) rfl (by show 2 * 0 + _ ≤ _; exact Nat.le_of_eq rfl) (hb hby at_124) (fun _ _ => ⟨rfl, ehf.symm, (by decide : (((0 + 1) + 1) + 1) + 0 ≤ _), (by decide : (((0 + 1) + 1) + 1) + 0 ≤ _)⟩)
    dsimp only [Pt.U, Pt.locs, Pt.cells, Pt.slots] at X23 l23 y23 z23 st23 hQ23
    subst l23 y23 z23
    obtain ⟨rfl, N23q, e23⟩ := hQ23
    have N23 := Fr.app N22 N23q
    refine own_go (B := T23.setTop (mkF m 127 #[.val (.int p1), .val (.int p2), .val (.int (1 : Int32)), .val (.ref b19), .val (.ref r21), .val (.ref r22), .val (.int (1 : Int32))] [(.int (own_e p2 (0 : Int32))), (.int (p2.toInt8.toInt32))])) (fun t kt => st23 t kt) ?_
    refine own_go (B := T23.setTop (mkF m 136 #[.val (.int p1), .val (.int p2), .val (.int (1 : Int32)), .val (.ref b19), .val (.ref r21), .val (.ref r22), .val (.int (1 : Int32))] [(.int (0 : Int32)), (.int p2), (.int (p2.toInt8.toInt32))])) (fun t kt => ?_) ?_
    · show Steps p.tables e below (T23.setTop (mkF m 127 #[.val (.int p1), .val (.int p2), .val (.int (1 : Int32)), .val (.ref b19), .val (.ref r21), .val (.ref r22), .val (.int (1 : Int32))] [(.int (own_e p2 (0 : Int32))), (.int (p2.toInt8.toInt32))])) _
      refine XS.icmpNo X23.here hx rfl (hb hby at_127) rfl (teq (own_e0 p2)).2 ?_
      show Steps p.tables e below (T23.setTop (mkF m 130 #[.val (.int p1), .val (.int p2), .val (.int (1 : Int32)), .val (.ref b19), .val (.ref r21), .val (.ref r22), .val (.int (1 : Int32))] [])) _
      refine XS.aload X23.here hx rfl (hb hby at_130) rfl rfl ?_
      show Steps p.tables e below (T23.setTop (mkF m 132 #[.val (.int p1), .val (.int p2), .val (.int (1 : Int32)), .val (.ref b19), .val (.ref r21), .val (.ref r22), .val (.int (1 : Int32))] [(.ref r22)])) _
      refine XS.iconst X23.here hx rfl (hb hby at_132) ?_
      show Steps p.tables e below (T23.setTop (mkF m 133 #[.val (.int p1), .val (.int p2), .val (.int (1 : Int32)), .val (.ref b19), .val (.ref r21), .val (.ref r22), .val (.int (1 : Int32))] [(.int (0 : Int32)), (.ref r22)])) _
      refine X23.iaload hx (j := (0 : Int32)) (v := (.int (p2.toInt8.toInt32))) (by rw [e23]; exact As.1) (State.isArrayOf_alike hZ.alike As.2.1) As.2.2 (inb_of Ss ⟨by decide, by decide⟩) (Hs.at (inb_of Ss ⟨by decide, by decide⟩) rfl) (g := (mkF m 133 #[.val (.int p1), .val (.int p2), .val (.int (1 : Int32)), .val (.ref b19), .val (.ref r21), .val (.ref r22), .val (.int (1 : Int32))] [(.int (0 : Int32)), (.ref r22)])) rfl rfl (hb hby at_133) _ ?_
      show Steps p.tables e below (T23.setTop (mkF m 134 #[.val (.int p1), .val (.int p2), .val (.int (1 : Int32)), .val (.ref b19), .val (.ref r21), .val (.ref r22), .val (.int (1 : Int32))] [(.int (p2.toInt8.toInt32))])) _
      refine XS.iloadN X23.here hx rfl (hb hby at_134) rfl ?_
      show Steps p.tables e below (T23.setTop (mkF m 135 #[.val (.int p1), .val (.int p2), .val (.int (1 : Int32)), .val (.ref b19), .val (.ref r21), .val (.ref r22), .val (.int (1 : Int32))] [(.int p2), (.int (p2.toInt8.toInt32))])) _
      refine XS.iconst X23.here hx rfl (hb hby at_135) ?_
      exact kt
    obtain ⟨_, _, ⟨T24, L24, k24, n24⟩, -, X24, ⟨Lc24, hQ24, l24, y24, z24⟩, st24⟩ := Jvm.LawKit.callS X23 hx (y := (⟨"needlemark/CompiledPatternSymbolsPinLaw", "expected", "(II)I"⟩ : MethodName)) hown (mvT hZ (hw _ (List.mem_of_getElem? (i := 6) rfl))) (mvT hZ (hw _ (List.mem_of_getElem? (i := 7) rfl))) (mvT hZ (hw _ (List.mem_of_getElem? (i := 8) rfl))) (mvT hZ (hw _ (List.mem_of_getElem? (i := 9) rfl))) (by decide) (backOf (W := 1) (rm2 l Z a0 hw [] p2 (0 : Int32) hf n0 Zc) hZ (hw _ (List.mem_of_getElem? (i := 9) rfl)) (hw _ (List.mem_of_getElem? (i := 8) rfl)) (by decide) (by decide)) (g := (mkF m 136 #[.val (.int p1), .val (.int p2), .val (.int (1 : Int32)), .val (.ref b19), .val (.ref r21), .val (.ref r22), .val (.int (1 : Int32))] [(.int (0 : Int32)), (.int p2), (.int (p2.toInt8.toInt32))])) rfl (by rw [hml]; rfl) (argsL := [(.int p2), (.int (0 : Int32))]) (rest := [(.int (p2.toInt8.toInt32))]) (lenOf pd_1 rfl) rfl (by show 2 * 0 + _ ≤ _; exact Nat.le_of_eq rfl) (hb hby at_136) (fun _ _ => ⟨rfl, e23, (by decide : ((((0 + 1) + 1) + 1) + 0) + 0 ≤ _), (by decide : ((((0 + 1) + 1) + 1) + 0) + 0 ≤ _)⟩)
    dsimp only [Pt.U, Pt.locs, Pt.cells, Pt.slots] at X24 l24 y24 z24 st24 hQ24
    subst l24 y24 z24
    obtain ⟨rfl, N24q, e24⟩ := hQ24
    have N24 := Fr.app N23 N24q
    refine own_go (B := T24.setTop (mkF m 139 #[.val (.int p1), .val (.int p2), .val (.int (1 : Int32)), .val (.ref b19), .val (.ref r21), .val (.ref r22), .val (.int (1 : Int32))] [(.int (own_e p2 (0 : Int32))), (.int (p2.toInt8.toInt32))])) (fun t kt => st24 t kt) ?_
    refine own_go (B := T24.setTop (mkF m 315 #[.val (.int p1), .val (.int p2), .val (.int (1 : Int32)), .val (.ref b19), .val (.ref r21), .val (.ref r22), .val (.int (1 : Int32))] [(.int (1 : Int32))])) (fun t kt => ?_) ?_
    · show Steps p.tables e below (T24.setTop (mkF m 139 #[.val (.int p1), .val (.int p2), .val (.int (1 : Int32)), .val (.ref b19), .val (.ref r21), .val (.ref r22), .val (.int (1 : Int32))] [(.int (own_e p2 (0 : Int32))), (.int (p2.toInt8.toInt32))])) _
      refine XS.icmpNo X24.here hx rfl (hb hby at_139) rfl (teq (own_e0 p2)).2 ?_
      show Steps p.tables e below (T24.setTop (mkF m 142 #[.val (.int p1), .val (.int p2), .val (.int (1 : Int32)), .val (.ref b19), .val (.ref r21), .val (.ref r22), .val (.int (1 : Int32))] [])) _
      refine XS.aloadN X24.here hx rfl (hb hby at_142) rfl rfl ?_
      show Steps p.tables e below (T24.setTop (mkF m 143 #[.val (.int p1), .val (.int p2), .val (.int (1 : Int32)), .val (.ref b19), .val (.ref r21), .val (.ref r22), .val (.int (1 : Int32))] [(.ref b19)])) _
      refine XS.iconst X24.here hx rfl (hb hby at_143) ?_
      show Steps p.tables e below (T24.setTop (mkF m 144 #[.val (.int p1), .val (.int p2), .val (.int (1 : Int32)), .val (.ref b19), .val (.ref r21), .val (.ref r22), .val (.int (1 : Int32))] [(.int (0 : Int32)), (.ref b19)])) _
      refine X24.baloadBytes hx (j := (0 : Int32)) (v := (.int (p2.toInt8.toInt32))) (by rw [e24]; exact Ab.1) (State.isArrayOf_alike hZ.alike Ab.2.1) Ab.2.2 (inb_of Sb ⟨by decide, by decide⟩) (Hb.at (inb_of Sb ⟨by decide, by decide⟩) rfl) (g := (mkF m 144 #[.val (.int p1), .val (.int p2), .val (.int (1 : Int32)), .val (.ref b19), .val (.ref r21), .val (.ref r22), .val (.int (1 : Int32))] [(.int (0 : Int32)), (.ref b19)])) rfl rfl (hb hby at_144) _ ?_
      show Steps p.tables e below (T24.setTop (mkF m 145 #[.val (.int p1), .val (.int p2), .val (.int (1 : Int32)), .val (.ref b19), .val (.ref r21), .val (.ref r22), .val (.int (1 : Int32))] [(.int (p2.toInt8.toInt32))])) _
      refine XS.iloadN X24.here hx rfl (hb hby at_145) rfl ?_
      show Steps p.tables e below (T24.setTop (mkF m 146 #[.val (.int p1), .val (.int p2), .val (.int (1 : Int32)), .val (.ref b19), .val (.ref r21), .val (.ref r22), .val (.int (1 : Int32))] [(.int p2), (.int (p2.toInt8.toInt32))])) _
      refine XS.i2b X24.here hx rfl (hb hby at_146) rfl ?_
      show Steps p.tables e below (T24.setTop (mkF m 147 #[.val (.int p1), .val (.int p2), .val (.int (1 : Int32)), .val (.ref b19), .val (.ref r21), .val (.ref r22), .val (.int (1 : Int32))] [(.int (p2.toInt8.toInt32)), (.int (p2.toInt8.toInt32))])) _
      refine XS.icmpNo X24.here hx rfl (hb hby at_147) rfl (teq rfl).2 ?_
      show Steps p.tables e below (T24.setTop (mkF m 150 #[.val (.int p1), .val (.int p2), .val (.int (1 : Int32)), .val (.ref b19), .val (.ref r21), .val (.ref r22), .val (.int (1 : Int32))] [])) _
      refine XS.iconst X24.here hx rfl (hb hby at_150) ?_
      show Steps p.tables e below (T24.setTop (mkF m 151 #[.val (.int p1), .val (.int p2), .val (.int (1 : Int32)), .val (.ref b19), .val (.ref r21), .val (.ref r22), .val (.int (1 : Int32))] [(.int (1 : Int32))])) _
      refine XS.goto X24.here hx rfl (pc0 := 151) (pc' := 155) rfl (hb hby at_151) (by decide) (by decide) ?_
      show Steps p.tables e below (T24.setTop (mkF m 155 #[.val (.int p1), .val (.int p2), .val (.int (1 : Int32)), .val (.ref b19), .val (.ref r21), .val (.ref r22), .val (.int (1 : Int32))] [(.int (1 : Int32))])) _
      refine XS.istore X24.here hx rfl (hb hby at_155) rfl (l' := #[.val (.int p1), .val (.int p2), .val (.int (1 : Int32)), .val (.ref b19), .val (.ref r21), .val (.ref r22), .val (.int (1 : Int32))]) rfl ?_
      show Steps p.tables e below (T24.setTop (mkF m 157 #[.val (.int p1), .val (.int p2), .val (.int (1 : Int32)), .val (.ref b19), .val (.ref r21), .val (.ref r22), .val (.int (1 : Int32))] [])) _
      refine XS.iloadN X24.here hx rfl (hb hby at_157) rfl ?_
      show Steps p.tables e below (T24.setTop (mkF m 158 #[.val (.int p1), .val (.int p2), .val (.int (1 : Int32)), .val (.ref b19), .val (.ref r21), .val (.ref r22), .val (.int (1 : Int32))] [(.int (1 : Int32))])) _
      refine XS.iconst X24.here hx rfl (hb hby at_158) ?_
      show Steps p.tables e below (T24.setTop (mkF m 159 #[.val (.int p1), .val (.int p2), .val (.int (1 : Int32)), .val (.ref b19), .val (.ref r21), .val (.ref r22), .val (.int (1 : Int32))] [(.int (1 : Int32)), (.int (1 : Int32))])) _
      refine XS.icmpYes X24.here hx rfl (pc0 := 159) (pc' := 209) rfl (hb hby at_159) rfl (flt (by decide)).2.2.2 (by decide) (by decide) ?_
      show Steps p.tables e below (T24.setTop (mkF m 209 #[.val (.int p1), .val (.int p2), .val (.int (1 : Int32)), .val (.ref b19), .val (.ref r21), .val (.ref r22), .val (.int (1 : Int32))] [])) _
      refine XS.iloadN X24.here hx rfl (hb hby at_209) rfl ?_
      show Steps p.tables e below (T24.setTop (mkF m 210 #[.val (.int p1), .val (.int p2), .val (.int (1 : Int32)), .val (.ref b19), .val (.ref r21), .val (.ref r22), .val (.int (1 : Int32))] [(.int (1 : Int32))])) _
      refine XS.iconst X24.here hx rfl (hb hby at_210) ?_
      show Steps p.tables e below (T24.setTop (mkF m 211 #[.val (.int p1), .val (.int p2), .val (.int (1 : Int32)), .val (.ref b19), .val (.ref r21), .val (.ref r22), .val (.int (1 : Int32))] [(.int (2 : Int32)), (.int (1 : Int32))])) _
      refine XS.icmpYes X24.here hx rfl (pc0 := 211) (pc' := 261) rfl (hb hby at_211) rfl (flt (by decide)).2.2.2 (by decide) (by decide) ?_
      show Steps p.tables e below (T24.setTop (mkF m 261 #[.val (.int p1), .val (.int p2), .val (.int (1 : Int32)), .val (.ref b19), .val (.ref r21), .val (.ref r22), .val (.int (1 : Int32))] [])) _
      refine XS.iloadN X24.here hx rfl (hb hby at_261) rfl ?_
      show Steps p.tables e below (T24.setTop (mkF m 262 #[.val (.int p1), .val (.int p2), .val (.int (1 : Int32)), .val (.ref b19), .val (.ref r21), .val (.ref r22), .val (.int (1 : Int32))] [(.int (1 : Int32))])) _
      refine XS.iconst X24.here hx rfl (hb hby at_262) ?_
      show Steps p.tables e below (T24.setTop (mkF m 263 #[.val (.int p1), .val (.int p2), .val (.int (1 : Int32)), .val (.ref b19), .val (.ref r21), .val (.ref r22), .val (.int (1 : Int32))] [(.int (3 : Int32)), (.int (1 : Int32))])) _
      refine XS.icmpYes X24.here hx rfl (pc0 := 263) (pc' := 313) rfl (hb hby at_263) rfl (flt (by decide)).2.2.2 (by decide) (by decide) ?_
      show Steps p.tables e below (T24.setTop (mkF m 313 #[.val (.int p1), .val (.int p2), .val (.int (1 : Int32)), .val (.ref b19), .val (.ref r21), .val (.ref r22), .val (.int (1 : Int32))] [])) _
      refine XS.iload X24.here hx rfl (hb hby at_313) rfl ?_
      exact kt
    obtain ⟨fs, hr, hrun, hended, hW, hsame⟩ := X24.leave (v := some (.int (1 : Int32))) (fun h => by rw [Bd.returns] at h; cases h)
    refine ⟨_, _, ?_, hrun, hended, _, _, rfl, ?_, ⟨_, rfl⟩, hW, hsame.mono (by decide) (by decide)⟩
    · show Steps p.tables e below (T24.setTop (mkF m 315 #[.val (.int p1), .val (.int p2), .val (.int (1 : Int32)), .val (.ref b19), .val (.ref r21), .val (.ref r22), .val (.int (1 : Int32))] [(.int (1 : Int32))])) _
      exact retN X24 hx (t := .boolean) Bd.returns (by simp) (hb hby at_315) hr
    · show Q0 Z p1 p2 h0 n0 _ T24.heap _
      rw [e24]
      exact ⟨rfl, N24⟩
  · rw [hk]
    refine own_go (B := s₁.setTop (mkF m 8 #[.val (.int p1), .val (.int p2), .val (.int (2 : Int32)), .unset, .unset, .unset, .unset] [(.int (2 : Int32))])) (fun t kt => ?_) ?_
    · show Steps p.tables e below (s₁.setTop (mkF m 6 #[.val (.int p1), .val (.int p2), .unset, .unset, .unset, .unset, .unset] [(.int (2 : Int32))])) _
      refine XS.istoreN X0.here hx rfl (hb hby at_6) rfl (l' := #[.val (.int p1), .val (.int p2), .val (.int (2 : Int32)), .unset, .unset, .unset, .unset]) rfl ?_
      show Steps p.tables e below (s₁.setTop (mkF m 7 #[.val (.int p1), .val (.int p2), .val (.int (2 : Int32)), .unset, .unset, .unset, .unset] [])) _
      refine XS.iloadN X0.here hx rfl (hb hby at_7) rfl ?_
      exact kt
    obtain ⟨T25, h25, k25, X25, e25, E25, A25, st25⟩ := newP X0 hx hZ (hw _ (List.mem_of_getElem? (i := 0) rfl)) e0 (g := (mkF m 8 #[.val (.int p1), .val (.int p2), .val (.int (2 : Int32)), .unset, .unset, .unset, .unset] [(.int (2 : Int32))])) rfl (hb hby at_8) rfl (by decide) (cap := 2) (by decide) (by decide) (by decide) (by decide)
    obtain ⟨b25, g25⟩ : ∃ z, z = h0.size := ⟨_, rfl⟩
    rw [← g25] at A25 st25
    refine own_go (B := T25.setTop (mkF m 10 #[.val (.int p1), .val (.int p2), .val (.int (2 : Int32)), .unset, .unset, .unset, .unset] [(.ref b25)])) (fun t kt => st25 t kt) ?_
    have gb : n0 ≤ b25 := Nat.le_trans Z0 (Nat.le_of_eq g25.symm)
    have Z1 : n0 ≤ h25.size := Nat.le_trans Z0 E25.1
    have V0 : Arv Z h25 b25 k25 .byte (2 : Int32) [(.int (0 : Int32)), (.int (0 : Int32))] (.int (0 : Int32)) := (Arv.new A25 (by decide)).pad (pad_rep [] (.int (0 : Int32)) 2)
    refine own_go (B := T25.setTop (mkF m 19 #[.val (.int p1), .val (.int p2), .val (.int (2 : Int32)), .val (.ref b25), .unset, .unset, .unset] [(.int (p2.toInt8.toInt32)), (.int (0 : Int32)), (.ref b25)])) (fun t kt => ?_) ?_
    · show Steps p.tables e below (T25.setTop (mkF m 10 #[.val (.int p1), .val (.int p2), .val (.int (2 : Int32)), .unset, .unset, .unset, .unset] [(.ref b25)])) _
      refine XS.astoreN X25.here hx rfl (hb hby at_10) rfl rfl (l' := #[.val (.int p1), .val (.int p2), .val (.int (2 : Int32)), .val (.ref b25), .unset, .unset, .unset]) rfl ?_
      show Steps p.tables e below (T25.setTop (mkF m 11 #[.val (.int p1), .val (.int p2), .val (.int (2 : Int32)), .val (.ref b25), .unset, .unset, .unset] [])) _
      refine XS.iloadN X25.here hx rfl (hb hby at_11) rfl ?_
      show Steps p.tables e below (T25.setTop (mkF m 12 #[.val (.int p1), .val (.int p2), .val (.int (2 : Int32)), .val (.ref b25), .unset, .unset, .unset] [(.int (2 : Int32))])) _
      refine XS.ifNo X25.here hx rfl (hb hby at_12) rfl ((if0 _ _).trans (tlt (by decide)).2.2.2) ?_
      show Steps p.tables e below (T25.setTop (mkF m 15 #[.val (.int p1), .val (.int p2), .val (.int (2 : Int32)), .val (.ref b25), .unset, .unset, .unset] [])) _
      refine XS.aloadN X25.here hx rfl (hb hby at_15) rfl rfl ?_
      show Steps p.tables e below (T25.setTop (mkF m 16 #[.val (.int p1), .val (.int p2), .val (.int (2 : Int32)), .val (.ref b25), .unset, .unset, .unset] [(.ref b25)])) _
      refine XS.iconst X25.here hx rfl (hb hby at_16) ?_
      show Steps p.tables e below (T25.setTop (mkF m 17 #[.val (.int p1), .val (.int p2), .val (.int (2 : Int32)), .val (.ref b25), .unset, .unset, .unset] [(.int (0 : Int32)), (.ref b25)])) _
      refine XS.iloadN X25.here hx rfl (hb hby at_17) rfl ?_
      show Steps p.tables e below (T25.setTop (mkF m 18 #[.val (.int p1), .val (.int p2), .val (.int (2 : Int32)), .val (.ref b25), .unset, .unset, .unset] [(.int p2), (.int (0 : Int32)), (.ref b25)])) _
      refine XS.i2b X25.here hx rfl (hb hby at_18) rfl ?_
      exact kt
    obtain ⟨cv0, Av0, qv0, Sv0, Mv0, Hv0, Uv0⟩ := V0
    obtain ⟨T26, h26, X26, e26, W26, st26⟩ := stB X25 hx hZ e25 Av0 (j := (0 : Int32)) (inb_of Sv0 ⟨by decide, by decide⟩) (g := (mkF m 19 #[.val (.int p1), .val (.int p2), .val (.int (2 : Int32)), .val (.ref b25), .unset, .unset, .unset] [(.int (p2.toInt8.toInt32)), (.int (0 : Int32)), (.ref b25)])) rfl rfl (hb hby at_19)
    have N26 := Fr.snoc X26 N0 gb
    refine own_go (B := T26.setTop (mkF m 20 #[.val (.int p1), .val (.int p2), .val (.int (2 : Int32)), .val (.ref b25), .unset, .unset, .unset] [])) (fun t kt => st26 t kt) ?_
    rw [own_nar] at W26
    have V1 : Arv Z h26 b25 k25 .byte (2 : Int32) [(.int (p2.toInt8.toInt32)), (.int (0 : Int32))] (.int (0 : Int32)) := Arv.set Av0 qv0 Sv0 Mv0 Hv0 Uv0 (fits_nar_byte _) W26 0 rfl (Nat.le_of_ble_eq_true rfl)
    have Z2 : n0 ≤ h26.size := Nat.le_trans Z1 (Keep.of_wr W26).1
    refine own_go (B := T26.setTop (mkF m 32 #[.val (.int p1), .val (.int p2), .val (.int (2 : Int32)), .val (.ref b25), .unset, .unset, .unset] [(.int (((p2.toUInt32 >>> ((8 : Int32) &&& 31).toUInt32).toInt32).toInt8.toInt32)), (.int (1 : Int32)), (.ref b25)])) (fun t kt => ?_) ?_
    · show Steps p.tables e below (T26.setTop (mkF m 20 #[.val (.int p1), .val (.int p2), .val (.int (2 : Int32)), .val (.ref b25), .unset, .unset, .unset] [])) _
      refine XS.iloadN X26.here hx rfl (hb hby at_20) rfl ?_
      show Steps p.tables e below (T26.setTop (mkF m 21 #[.val (.int p1), .val (.int p2), .val (.int (2 : Int32)), .val (.ref b25), .unset, .unset, .unset] [(.int (2 : Int32))])) _
      refine XS.iconst X26.here hx rfl (hb hby at_21) ?_
      show Steps p.tables e below (T26.setTop (mkF m 22 #[.val (.int p1), .val (.int p2), .val (.int (2 : Int32)), .val (.ref b25), .unset, .unset, .unset] [(.int (1 : Int32)), (.int (2 : Int32))])) _
      refine XS.icmpNo X26.here hx rfl (hb hby at_22) rfl (tlt (by decide)).2.2.2 ?_
      show Steps p.tables e below (T26.setTop (mkF m 25 #[.val (.int p1), .val (.int p2), .val (.int (2 : Int32)), .val (.ref b25), .unset, .unset, .unset] [])) _
      refine XS.aloadN X26.here hx rfl (hb hby at_25) rfl rfl ?_
      show Steps p.tables e below (T26.setTop (mkF m 26 #[.val (.int p1), .val (.int p2), .val (.int (2 : Int32)), .val (.ref b25), .unset, .unset, .unset] [(.ref b25)])) _
      refine XS.iconst X26.here hx rfl (hb hby at_26) ?_
      show Steps p.tables e below (T26.setTop (mkF m 27 #[.val (.int p1), .val (.int p2), .val (.int (2 : Int32)), .val (.ref b25), .unset, .unset, .unset] [(.int (1 : Int32)), (.ref b25)])) _
      refine XS.iloadN X26.here hx rfl (hb hby at_27) rfl ?_
      show Steps p.tables e below (T26.setTop (mkF m 28 #[.val (.int p1), .val (.int p2), .val (.int (2 : Int32)), .val (.ref b25), .unset, .unset, .unset] [(.int p2), (.int (1 : Int32)), (.ref b25)])) _
      refine XS.bipush X26.here hx rfl (hb hby at_28) ?_
      show Steps p.tables e below (T26.setTop (mkF m 30 #[.val (.int p1), .val (.int p2), .val (.int (2 : Int32)), .val (.ref b25), .unset, .unset, .unset] [(.int (8 : Int32)), (.int p2), (.int (1 : Int32)), (.ref b25)])) _
      refine XS.iushr X26.here hx rfl (hb hby at_30) rfl ?_
      show Steps p.tables e below (T26.setTop (mkF m 31 #[.val (.int p1), .val (.int p2), .val (.int (2 : Int32)), .val (.ref b25), .unset, .unset, .unset] [(.int ((p2.toUInt32 >>> ((8 : Int32) &&& 31).toUInt32).toInt32)), (.int (1 : Int32)), (.ref b25)])) _
      refine XS.i2b X26.here hx rfl (hb hby at_31) rfl ?_
      exact kt
    obtain ⟨cv1, Av1, qv1, Sv1, Mv1, Hv1, Uv1⟩ := V1
    obtain ⟨T27, h27, X27, e27, W27, st27⟩ := stB X26 hx hZ e26 Av1 (j := (1 : Int32)) (inb_of Sv1 ⟨by decide, by decide⟩) (g := (mkF m 32 #[.val (.int p1), .val (.int p2), .val (.int (2 : Int32)), .val (.ref b25), .unset, .unset, .unset] [(.int (((p2.toUInt32 >>> ((8 : Int32) &&& 31).toUInt32).toInt32).toInt8.toInt32)), (.int (1 : Int32)), (.ref b25)])) rfl rfl (hb hby at_32)
    have N27 := Fr.snoc X27 N26 gb
    refine own_go (B := T27.setTop (mkF m 33 #[.val (.int p1), .val (.int p2), .val (.int (2 : Int32)), .val (.ref b25), .unset, .unset, .unset] [])) (fun t kt => st27 t kt) ?_
    rw [own_nar] at W27
    have V2 : Arv Z h27 b25 k25 .byte (2 : Int32) [(.int (p2.toInt8.toInt32)), (.int (((p2.toUInt32 >>> ((8 : Int32) &&& 31).toUInt32).toInt32).toInt8.toInt32))] (.int (0 : Int32)) := Arv.set Av1 qv1 Sv1 Mv1 Hv1 Uv1 (fits_nar_byte _) W27 1 rfl (Nat.le_of_ble_eq_true rfl)
    have Z3 : n0 ≤ h27.size := Nat.le_trans Z2 (Keep.of_wr W27).1
    refine own_go (B := T27.setTop (mkF m 60 #[.val (.int p1), .val (.int p2), .val (.int (2 : Int32)), .val (.ref b25), .unset, .unset, .unset] [(.ref b25)])) (fun t kt => ?_) ?_
    · show Steps p.tables e below (T27.setTop (mkF m 33 #[.val (.int p1), .val (.int p2), .val (.int (2 : Int32)), .val (.ref b25), .unset, .unset, .unset] [])) _
      refine XS.iloadN X27.here hx rfl (hb hby at_33) rfl ?_
      show Steps p.tables e below (T27.setTop (mkF m 34 #[.val (.int p1), .val (.int p2), .val (.int (2 : Int32)), .val (.ref b25), .unset, .unset, .unset] [(.int (2 : Int32))])) _
      refine XS.iconst X27.here hx rfl (hb hby at_34) ?_
      show Steps p.tables e below (T27.setTop (mkF m 35 #[.val (.int p1), .val (.int p2), .val (.int (2 : Int32)), .val (.ref b25), .unset, .unset, .unset] [(.int (2 : Int32)), (.int (2 : Int32))])) _
      refine XS.icmpYes X27.here hx rfl (pc0 := 35) (pc' := 46) rfl (hb hby at_35) rfl (flt (by decide)).2.2.2 (by decide) (by decide) ?_
      show Steps p.tables e below (T27.setTop (mkF m 46 #[.val (.int p1), .val (.int p2), .val (.int (2 : Int32)), .val (.ref b25), .unset, .unset, .unset] [])) _
      refine XS.iloadN X27.here hx rfl (hb hby at_46) rfl ?_
      show Steps p.tables e below (T27.setTop (mkF m 47 #[.val (.int p1), .val (.int p2), .val (.int (2 : Int32)), .val (.ref b25), .unset, .unset, .unset] [(.int (2 : Int32))])) _
      refine XS.iconst X27.here hx rfl (hb hby at_47) ?_
      show Steps p.tables e below (T27.setTop (mkF m 48 #[.val (.int p1), .val (.int p2), .val (.int (2 : Int32)), .val (.ref b25), .unset, .unset, .unset] [(.int (3 : Int32)), (.int (2 : Int32))])) _
      refine XS.icmpYes X27.here hx rfl (pc0 := 48) (pc' := 59) rfl (hb hby at_48) rfl (flt (by decide)).2.2.2 (by decide) (by decide) ?_
      show Steps p.tables e below (T27.setTop (mkF m 59 #[.val (.int p1), .val (.int p2), .val (.int (2 : Int32)), .val (.ref b25), .unset, .unset, .unset] [])) _
      refine XS.aloadN X27.here hx rfl (hb hby at_59) rfl rfl ?_
      exact kt
    obtain ⟨_, _, ⟨T28, L28, k28, n28⟩, -, X28, ⟨Lc28, hQ28, l28, y28, z28⟩, st28⟩ := Jvm.LawKit.callS X27 hx (y := (⟨"needlemark/CompiledPattern", "symbols", "([B)[I"⟩ : MethodName)) hown (mvT hZ (hw _ (List.mem_of_getElem? (i := 1) rfl))) (mvT hZ (hw _ (List.mem_of_getElem? (i := 2) rfl))) (mvT hZ (hw _ (List.mem_of_getElem? (i := 3) rfl))) (mvT hZ (hw _ (List.mem_of_getElem? (i := 4) rfl))) (by decide) (backOf (W := 0) (rm1_2 l Z a0 hw [] b25 k25 (p2.toInt8.toInt32) (((p2.toUInt32 >>> ((8 : Int32) &&& 31).toUInt32).toInt32).toInt8.toInt32) h27 n0 Z3 V2) hZ (hw _ (List.mem_of_getElem? (i := 4) rfl)) (hw _ (List.mem_of_getElem? (i := 3) rfl)) (by decide) (by decide)) (g := (mkF m 60 #[.val (.int p1), .val (.int p2), .val (.int (2 : Int32)), .val (.ref b25), .unset, .unset, .unset] [(.ref b25)])) rfl (by rw [hml]; rfl) (argsL := [(.ref b25)]) (rest := []) (lenOf pd_0 rfl) rfl (by show 2 * 0 + _ ≤ _; exact Nat.le_of_eq rfl) (hb hby at_60) (fun _ _ => ⟨rfl, e27, (by decide : (0 + 1) + 1 ≤ _), (by decide : (0 + 2) + 2 ≤ _)⟩)
    dsimp only [Pt.U, Pt.locs, Pt.cells, Pt.slots] at X28 l28 y28 z28 st28 hQ28
    subst l28 y28 z28
    obtain ⟨r28, kr28, rfl, N28q, K28, G28, V28⟩ := hQ28
    have N28 := Fr.app N27 N28q
    refine own_go (B := T28.setTop (mkF m 63 #[.val (.int p1), .val (.int p2), .val (.int (2 : Int32)), .val (.ref b25), .unset, .unset, .unset] [(.ref r28)])) (fun t kt => st28 t kt) ?_
    have Zb : n0 ≤ T28.heap.size := Nat.le_trans Z3 K28.1
    have Vb := V2.keep K28 nin0
    have Lr := V28.lt
    refine own_go (B := T28.setTop (mkF m 66 #[.val (.int p1), .val (.int p2), .val (.int (2 : Int32)), .val (.ref b25), .val (.ref r28), .unset, .unset] [(.ref b25)])) (fun t kt => ?_) ?_
    · show Steps p.tables e below (T28.setTop (mkF m 63 #[.val (.int p1), .val (.int p2), .val (.int (2 : Int32)), .val (.ref b25), .unset, .unset, .unset] [(.ref r28)])) _
      refine XS.astore X28.here hx rfl (hb hby at_63) rfl rfl (l' := #[.val (.int p1), .val (.int p2), .val (.int (2 : Int32)), .val (.ref b25), .val (.ref r28), .unset, .unset]) rfl ?_
      show Steps p.tables e below (T28.setTop (mkF m 65 #[.val (.int p1), .val (.int p2), .val (.int (2 : Int32)), .val (.ref b25), .val (.ref r28), .unset, .unset] [])) _
      refine XS.aloadN X28.here hx rfl (hb hby at_65) rfl rfl ?_
      exact kt
    obtain ⟨_, _, ⟨T29, L29, k29, n29⟩, -, X29, ⟨Lc29, hQ29, l29, y29, z29⟩, st29⟩ := Jvm.LawKit.callS X28 hx (y := (⟨"needlemark/CompiledPattern", "symbols", "([B)[I"⟩ : MethodName)) hown (mvT hZ (hw _ (List.mem_of_getElem? (i := 1) rfl))) (mvT hZ (hw _ (List.mem_of_getElem? (i := 2) rfl))) (mvT hZ (hw _ (List.mem_of_getElem? (i := 3) rfl))) (mvT hZ (hw _ (List.mem_of_getElem? (i := 4) rfl))) (by decide) (backOf (W := 0) (rm1_2 l Z a0 hw [] b25 k25 (p2.toInt8.toInt32) (((p2.toUInt32 >>> ((8 : Int32) &&& 31).toUInt32).toInt32).toInt8.toInt32) T28.heap n0 Zb Vb) hZ (hw _ (List.mem_of_getElem? (i := 4) rfl)) (hw _ (List.mem_of_getElem? (i := 3) rfl)) (by decide) (by decide)) (g := (mkF m 66 #[.val (.int p1), .val (.int p2), .val (.int (2 : Int32)), .val (.ref b25), .val (.ref r28), .unset, .unset] [(.ref b25)])) rfl (by rw [hml]; rfl) (argsL := [(.ref b25)]) (rest := []) (lenOf pd_0 rfl) rfl (by show 2 * 0 + _ ≤ _; exact Nat.le_of_eq rfl) (hb hby at_66) (fun _ _ => ⟨rfl, rfl, (by decide : ((0 + 1) + 1) + 1 ≤ _), (by decide : ((0 + 2) + 2) + 2 ≤ _)⟩)
    dsimp only [Pt.U, Pt.locs, Pt.cells, Pt.slots] at X29 l29 y29 z29 st29 hQ29
    subst l29 y29 z29
    obtain ⟨r29, kr29, rfl, N29q, K29, G29, V29⟩ := hQ29
    have N29 := Fr.app N28 N29q
    refine own_go (B := T29.setTop (mkF m 69 #[.val (.int p1), .val (.int p2), .val (.int (2 : Int32)), .val (.ref b25), .val (.ref r28), .unset, .unset] [(.ref r29)])) (fun t kt => st29 t kt) ?_
    have Zc : n0 ≤ T29.heap.size := Nat.le_trans Zb K29.1
    have Vb' := Vb.keep K29 nin0
    have Vr' := V28.keep K29 nin0
    have hne : r28 ≠ r29 := Nat.ne_of_lt (Nat.lt_of_lt_of_le Lr G29)
    obtain ⟨hf, ehf⟩ : ∃ z : Heap, z = T29.heap := ⟨_, rfl⟩
    rw [← ehf] at Zc Vb' Vr' V29
    obtain ⟨cb, Ab, -, Sb, Mb, Hb, -⟩ := Vb'
    obtain ⟨cr, Ar, -, Sr, Mr, Hr, -⟩ := Vr'
    obtain ⟨cs, As, -, Ss, Ms, Hs, -⟩ := V29
    refine own_go (B := T29.setTop (mkF m 124 #[.val (.int p1), .val (.int p2), .val (.int (2 : Int32)), .val (.ref b25), .val (.ref r28), .val (.ref r29), .val (.int (1 : Int32))] [(.int (0 : Int32)), (.int p2), (.int (p2.toInt8.toInt32))])) (fun t kt => ?_) ?_
    · show Steps p.tables e below (T29.setTop (mkF m 69 #[.val (.int p1), .val (.int p2), .val (.int (2 : Int32)), .val (.ref b25), .val (.ref r28), .unset, .unset] [(.ref r29)])) _
      refine XS.astore X29.here hx rfl (hb hby at_69) rfl rfl (l' := #[.val (.int p1), .val (.int p2), .val (.int (2 : Int32)), .val (.ref b25), .val (.ref r28), .val (.ref r29), .unset]) rfl ?_
      show Steps p.tables e below (T29.setTop (mkF m 71 #[.val (.int p1), .val (.int p2), .val (.int (2 : Int32)), .val (.ref b25), .val (.ref r28), .val (.ref r29), .unset] [])) _
      refine XS.aload X29.here hx rfl (hb hby at_71) rfl rfl ?_
      show Steps p.tables e below (T29.setTop (mkF m 73 #[.val (.int p1), .val (.int p2), .val (.int (2 : Int32)), .val (.ref b25), .val (.ref r28), .val (.ref r29), .unset] [(.ref r28)])) _
      refine XS.ifnullNo X29.here hx rfl (hb hby at_73) rfl ?_
      show Steps p.tables e below (T29.setTop (mkF m 76 #[.val (.int p1), .val (.int p2), .val (.int (2 : Int32)), .val (.ref b25), .val (.ref r28), .val (.ref r29), .unset] [])) _
      refine XS.aload X29.here hx rfl (hb hby at_76) rfl rfl ?_
      show Steps p.tables e below (T29.setTop (mkF m 78 #[.val (.int p1), .val (.int p2), .val (.int (2 : Int32)), .val (.ref b25), .val (.ref r28), .val (.ref r29), .unset] [(.ref r29)])) _
      refine XS.ifnullNo X29.here hx rfl (hb hby at_78) rfl ?_
      show Steps p.tables e below (T29.setTop (mkF m 81 #[.val (.int p1), .val (.int p2), .val (.int (2 : Int32)), .val (.ref b25), .val (.ref r28), .val (.ref r29), .unset] [])) _
      refine XS.aload X29.here hx rfl (hb hby at_81) rfl rfl ?_
      show Steps p.tables e below (T29.setTop (mkF m 83 #[.val (.int p1), .val (.int p2), .val (.int (2 : Int32)), .val (.ref b25), .val (.ref r28), .val (.ref r29), .unset] [(.ref r28)])) _
      refine XS.aload X29.here hx rfl (hb hby at_83) rfl rfl ?_
      show Steps p.tables e below (T29.setTop (mkF m 85 #[.val (.int p1), .val (.int p2), .val (.int (2 : Int32)), .val (.ref b25), .val (.ref r28), .val (.ref r29), .unset] [(.ref r29), (.ref r28)])) _
      refine Jvm.RoadKit.acmp (g := (mkF m 85 #[.val (.int p1), .val (.int p2), .val (.int (2 : Int32)), .val (.ref b25), .val (.ref r28), .val (.ref r29), .unset] [(.ref r29), (.ref r28)])) X29 hx rfl rfl rfl (pc0 := 85) (pc' := 90) (same := false) rfl (hb hby at_85) rfl (decide_eq_false fun q => hne (Value.ref.inj q)) (by decide) (by decide) ?_
      show Steps p.tables e below (T29.setTop (mkF m 90 #[.val (.int p1), .val (.int p2), .val (.int (2 : Int32)), .val (.ref b25), .val (.ref r28), .val (.ref r29), .unset] [])) _
      refine XS.aload X29.here hx rfl (hb hby at_90) rfl rfl ?_
      show Steps p.tables e below (T29.setTop (mkF m 92 #[.val (.int p1), .val (.int p2), .val (.int (2 : Int32)), .val (.ref b25), .val (.ref r28), .val (.ref r29), .unset] [(.ref r28)])) _
      refine X29.arraylength hx (cell := cr) (by rw [ehf.symm]; exact Ar.1) (State.isArrayOf_alike hZ.alike Ar.2.1) (g := (mkF m 92 #[.val (.int p1), .val (.int p2), .val (.int (2 : Int32)), .val (.ref b25), .val (.ref r28), .val (.ref r29), .unset] [(.ref r28)])) rfl rfl (hb hby at_92) _ ?_
      rw [len_of Sr Mr]
      show Steps p.tables e below (T29.setTop (mkF m 93 #[.val (.int p1), .val (.int p2), .val (.int (2 : Int32)), .val (.ref b25), .val (.ref r28), .val (.ref r29), .unset] [(.int (2 : Int32))])) _
      refine XS.iloadN X29.here hx rfl (hb hby at_93) rfl ?_
      show Steps p.tables e below (T29.setTop (mkF m 94 #[.val (.int p1), .val (.int p2), .val (.int (2 : Int32)), .val (.ref b25), .val (.ref r28), .val (.ref r29), .unset] [(.int (2 : Int32)), (.int (2 : Int32))])) _
      refine XS.icmpNo X29.here hx rfl (hb hby at_94) rfl (teq rfl).2 ?_
      show Steps p.tables e below (T29.setTop (mkF m 97 #[.val (.int p1), .val (.int p2), .val (.int (2 : Int32)), .val (.ref b25), .val (.ref r28), .val (.ref r29), .unset] [])) _
      refine XS.aload X29.here hx rfl (hb hby at_97) rfl rfl ?_
      show Steps p.tables e below (T29.setTop (mkF m 99 #[.val (.int p1), .val (.int p2), .val (.int (2 : Int32)), .val (.ref b25), .val (.ref r28), .val (.ref r29), .unset] [(.ref r29)])) _
      refine X29.arraylength hx (cell := cs) (by rw [ehf.symm]; exact As.1) (State.isArrayOf_alike hZ.alike As.2.1) (g := (mkF m 99 #[.val (.int p1), .val (.int p2), .val (.int (2 : Int32)), .val (.ref b25), .val (.ref r28), .val (.ref r29), .unset] [(.ref r29)])) rfl rfl (hb hby at_99) _ ?_
      rw [len_of Ss Ms]
      show Steps p.tables e below (T29.setTop (mkF m 100 #[.val (.int p1), .val (.int p2), .val (.int (2 : Int32)), .val (.ref b25), .val (.ref r28), .val (.ref r29), .unset] [(.int (2 : Int32))])) _
      refine XS.iloadN X29.here hx rfl (hb hby at_100) rfl ?_
      show Steps p.tables e below (T29.setTop (mkF m 101 #[.val (.int p1), .val (.int p2), .val (.int (2 : Int32)), .val (.ref b25), .val (.ref r28), .val (.ref r29), .unset] [(.int (2 : Int32)), (.int (2 : Int32))])) _
      refine XS.icmpYes X29.here hx rfl (pc0 := 101) (pc' := 106) rfl (hb hby at_101) rfl (teq rfl).1 (by decide) (by decide) ?_
      show Steps p.tables e below (T29.setTop (mkF m 106 #[.val (.int p1), .val (.int p2), .val (.int (2 : Int32)), .val (.ref b25), .val (.ref r28), .val (.ref r29), .unset] [])) _
      refine XS.iconst X29.here hx rfl (hb hby at_106) ?_
      show Steps p.tables e below (T29.setTop (mkF m 107 #[.val (.int p1), .val (.int p2), .val (.int (2 : Int32)), .val (.ref b25), .val (.ref r28), .val (.ref r29), .unset] [(.int (1 : Int32))])) _
      refine XS.istore X29.here hx rfl (hb hby at_107) rfl (l' := #[.val (.int p1), .val (.int p2), .val (.int (2 : Int32)), .val (.ref b25), .val (.ref r28), .val (.ref r29), .val (.int (1 : Int32))]) rfl ?_
      show Steps p.tables e below (T29.setTop (mkF m 109 #[.val (.int p1), .val (.int p2), .val (.int (2 : Int32)), .val (.ref b25), .val (.ref r28), .val (.ref r29), .val (.int (1 : Int32))] [])) _
      refine XS.iloadN X29.here hx rfl (hb hby at_109) rfl ?_
      show Steps p.tables e below (T29.setTop (mkF m 110 #[.val (.int p1), .val (.int p2), .val (.int (2 : Int32)), .val (.ref b25), .val (.ref r28), .val (.ref r29), .val (.int (1 : Int32))] [(.int (2 : Int32))])) _
      refine XS.ifNo X29.here hx rfl (hb hby at_110) rfl ((if0 _ _).trans (tlt (by decide)).2.2.2) ?_
      show Steps p.tables e below (T29.setTop (mkF m 113 #[.val (.int p1), .val (.int p2), .val (.int (2 : Int32)), .val (.ref b25), .val (.ref r28), .val (.ref r29), .val (.int (1 : Int32))] [])) _
      refine XS.iload X29.here hx rfl (hb hby at_113) rfl ?_
      show Steps p.tables e below (T29.setTop (mkF m 115 #[.val (.int p1), .val (.int p2), .val (.int (2 : Int32)), .val (.ref b25), .val (.ref r28), .val (.ref r29), .val (.int (1 : Int32))] [(.int (1 : Int32))])) _
      refine XS.ifNo X29.here hx rfl (hb hby at_115) rfl ((if0 _ _).trans (feq (by decide)).1) ?_
      show Steps p.tables e below (T29.setTop (mkF m 118 #[.val (.int p1), .val (.int p2), .val (.int (2 : Int32)), .val (.ref b25), .val (.ref r28), .val (.ref r29), .val (.int (1 : Int32))] [])) _
      refine XS.aload X29.here hx rfl (hb hby at_118) rfl rfl ?_
      show Steps p.tables e below (T29.setTop (mkF m 120 #[.val (.int p1), .val (.int p2), .val (.int (2 : Int32)), .val (.ref b25), .val (.ref r28), .val (.ref r29), .val (.int (1 : Int32))] [(.ref r28)])) _
      refine XS.iconst X29.here hx rfl (hb hby at_120) ?_
      show Steps p.tables e below (T29.setTop (mkF m 121 #[.val (.int p1), .val (.int p2), .val (.int (2 : Int32)), .val (.ref b25), .val (.ref r28), .val (.ref r29), .val (.int (1 : Int32))] [(.int (0 : Int32)), (.ref r28)])) _
      refine X29.iaload hx (j := (0 : Int32)) (v := (.int (p2.toInt8.toInt32))) (by rw [ehf.symm]; exact Ar.1) (State.isArrayOf_alike hZ.alike Ar.2.1) Ar.2.2 (inb_of Sr ⟨by decide, by decide⟩) (Hr.at (inb_of Sr ⟨by decide, by decide⟩) rfl) (g := (mkF m 121 #[.val (.int p1), .val (.int p2), .val (.int (2 : Int32)), .val (.ref b25), .val (.ref r28), .val (.ref r29), .val (.int (1 : Int32))] [(.int (0 : Int32)), (.ref r28)])) rfl rfl (hb hby at_121) _ ?_
      show Steps p.tables e below (T29.setTop (mkF m 122 #[.val (.int p1), .val (.int p2), .val (.int (2 : Int32)), .val (.ref b25), .val (.ref r28), .val (.ref r29), .val (.int (1 : Int32))] [(.int (p2.toInt8.toInt32))])) _
      refine XS.iloadN X29.here hx rfl (hb hby at_122) rfl ?_
      show Steps p.tables e below (T29.setTop (mkF m 123 #[.val (.int p1), .val (.int p2), .val (.int (2 : Int32)), .val (.ref b25), .val (.ref r28), .val (.ref r29), .val (.int (1 : Int32))] [(.int p2), (.int (p2.toInt8.toInt32))])) _
      refine XS.iconst X29.here hx rfl (hb hby at_123) ?_
      exact kt
    obtain ⟨_, _, ⟨T30, L30, k30, n30⟩, -, X30, ⟨Lc30, hQ30, l30, y30, z30⟩, st30⟩ := Jvm.LawKit.callS X29 hx (y := (⟨"needlemark/CompiledPatternSymbolsPinLaw", "expected", "(II)I"⟩ : MethodName)) hown (mvT hZ (hw _ (List.mem_of_getElem? (i := 6) rfl))) (mvT hZ (hw _ (List.mem_of_getElem? (i := 7) rfl))) (mvT hZ (hw _ (List.mem_of_getElem? (i := 8) rfl))) (mvT hZ (hw _ (List.mem_of_getElem? (i := 9) rfl))) (by decide) (backOf (W := 1) (rm2 l Z a0 hw [] p2 (0 : Int32) hf n0 Zc) hZ (hw _ (List.mem_of_getElem? (i := 9) rfl)) (hw _ (List.mem_of_getElem? (i := 8) rfl)) (by decide) (by decide)) (g := (mkF m 124 #[.val (.int p1), .val (.int p2), .val (.int (2 : Int32)), .val (.ref b25), .val (.ref r28), .val (.ref r29), .val (.int (1 : Int32))] [(.int (0 : Int32)), (.int p2), (.int (p2.toInt8.toInt32))])) rfl (by rw [hml]; rfl) (argsL := [(.int p2), (.int (0 : Int32))]) (rest := [(.int (p2.toInt8.toInt32))]) (lenOf pd_1 rfl) rfl (by show 2 * 0 + _ ≤ _; exact Nat.le_of_eq rfl) (hb hby at_124) (fun _ _ => ⟨rfl, ehf.symm, (by decide : (((0 + 1) + 1) + 1) + 0 ≤ _), (by decide : (((0 + 2) + 2) + 2) + 0 ≤ _)⟩)
    dsimp only [Pt.U, Pt.locs, Pt.cells, Pt.slots] at X30 l30 y30 z30 st30 hQ30
    subst l30 y30 z30
    obtain ⟨rfl, N30q, e30⟩ := hQ30
    have N30 := Fr.app N29 N30q
    refine own_go (B := T30.setTop (mkF m 127 #[.val (.int p1), .val (.int p2), .val (.int (2 : Int32)), .val (.ref b25), .val (.ref r28), .val (.ref r29), .val (.int (1 : Int32))] [(.int (own_e p2 (0 : Int32))), (.int (p2.toInt8.toInt32))])) (fun t kt => st30 t kt) ?_
    refine own_go (B := T30.setTop (mkF m 136 #[.val (.int p1), .val (.int p2), .val (.int (2 : Int32)), .val (.ref b25), .val (.ref r28), .val (.ref r29), .val (.int (1 : Int32))] [(.int (0 : Int32)), (.int p2), (.int (p2.toInt8.toInt32))])) (fun t kt => ?_) ?_
    · show Steps p.tables e below (T30.setTop (mkF m 127 #[.val (.int p1), .val (.int p2), .val (.int (2 : Int32)), .val (.ref b25), .val (.ref r28), .val (.ref r29), .val (.int (1 : Int32))] [(.int (own_e p2 (0 : Int32))), (.int (p2.toInt8.toInt32))])) _
      refine XS.icmpNo X30.here hx rfl (hb hby at_127) rfl (teq (own_e0 p2)).2 ?_
      show Steps p.tables e below (T30.setTop (mkF m 130 #[.val (.int p1), .val (.int p2), .val (.int (2 : Int32)), .val (.ref b25), .val (.ref r28), .val (.ref r29), .val (.int (1 : Int32))] [])) _
      refine XS.aload X30.here hx rfl (hb hby at_130) rfl rfl ?_
      show Steps p.tables e below (T30.setTop (mkF m 132 #[.val (.int p1), .val (.int p2), .val (.int (2 : Int32)), .val (.ref b25), .val (.ref r28), .val (.ref r29), .val (.int (1 : Int32))] [(.ref r29)])) _
      refine XS.iconst X30.here hx rfl (hb hby at_132) ?_
      show Steps p.tables e below (T30.setTop (mkF m 133 #[.val (.int p1), .val (.int p2), .val (.int (2 : Int32)), .val (.ref b25), .val (.ref r28), .val (.ref r29), .val (.int (1 : Int32))] [(.int (0 : Int32)), (.ref r29)])) _
      refine X30.iaload hx (j := (0 : Int32)) (v := (.int (p2.toInt8.toInt32))) (by rw [e30]; exact As.1) (State.isArrayOf_alike hZ.alike As.2.1) As.2.2 (inb_of Ss ⟨by decide, by decide⟩) (Hs.at (inb_of Ss ⟨by decide, by decide⟩) rfl) (g := (mkF m 133 #[.val (.int p1), .val (.int p2), .val (.int (2 : Int32)), .val (.ref b25), .val (.ref r28), .val (.ref r29), .val (.int (1 : Int32))] [(.int (0 : Int32)), (.ref r29)])) rfl rfl (hb hby at_133) _ ?_
      show Steps p.tables e below (T30.setTop (mkF m 134 #[.val (.int p1), .val (.int p2), .val (.int (2 : Int32)), .val (.ref b25), .val (.ref r28), .val (.ref r29), .val (.int (1 : Int32))] [(.int (p2.toInt8.toInt32))])) _
      refine XS.iloadN X30.here hx rfl (hb hby at_134) rfl ?_
      show Steps p.tables e below (T30.setTop (mkF m 135 #[.val (.int p1), .val (.int p2), .val (.int (2 : Int32)), .val (.ref b25), .val (.ref r28), .val (.ref r29), .val (.int (1 : Int32))] [(.int p2), (.int (p2.toInt8.toInt32))])) _
      refine XS.iconst X30.here hx rfl (hb hby at_135) ?_
      exact kt
    obtain ⟨_, _, ⟨T31, L31, k31, n31⟩, -, X31, ⟨Lc31, hQ31, l31, y31, z31⟩, st31⟩ := Jvm.LawKit.callS X30 hx (y := (⟨"needlemark/CompiledPatternSymbolsPinLaw", "expected", "(II)I"⟩ : MethodName)) hown (mvT hZ (hw _ (List.mem_of_getElem? (i := 6) rfl))) (mvT hZ (hw _ (List.mem_of_getElem? (i := 7) rfl))) (mvT hZ (hw _ (List.mem_of_getElem? (i := 8) rfl))) (mvT hZ (hw _ (List.mem_of_getElem? (i := 9) rfl))) (by decide) (backOf (W := 1) (rm2 l Z a0 hw [] p2 (0 : Int32) hf n0 Zc) hZ (hw _ (List.mem_of_getElem? (i := 9) rfl)) (hw _ (List.mem_of_getElem? (i := 8) rfl)) (by decide) (by decide)) (g := (mkF m 136 #[.val (.int p1), .val (.int p2), .val (.int (2 : Int32)), .val (.ref b25), .val (.ref r28), .val (.ref r29), .val (.int (1 : Int32))] [(.int (0 : Int32)), (.int p2), (.int (p2.toInt8.toInt32))])) rfl (by rw [hml]; rfl) (argsL := [(.int p2), (.int (0 : Int32))]) (rest := [(.int (p2.toInt8.toInt32))]) (lenOf pd_1 rfl) rfl (by show 2 * 0 + _ ≤ _; exact Nat.le_of_eq rfl) (hb hby at_136) (fun _ _ => ⟨rfl, e30, (by decide : ((((0 + 1) + 1) + 1) + 0) + 0 ≤ _), (by decide : ((((0 + 2) + 2) + 2) + 0) + 0 ≤ _)⟩)
    dsimp only [Pt.U, Pt.locs, Pt.cells, Pt.slots] at X31 l31 y31 z31 st31 hQ31
    subst l31 y31 z31
    obtain ⟨rfl, N31q, e31⟩ := hQ31
    have N31 := Fr.app N30 N31q
    refine own_go (B := T31.setTop (mkF m 139 #[.val (.int p1), .val (.int p2), .val (.int (2 : Int32)), .val (.ref b25), .val (.ref r28), .val (.ref r29), .val (.int (1 : Int32))] [(.int (own_e p2 (0 : Int32))), (.int (p2.toInt8.toInt32))])) (fun t kt => st31 t kt) ?_
    refine own_go (B := T31.setTop (mkF m 173 #[.val (.int p1), .val (.int p2), .val (.int (2 : Int32)), .val (.ref b25), .val (.ref r28), .val (.ref r29), .val (.int (1 : Int32))] [(.int (1 : Int32)), (.int p2), (.int (((p2.toUInt32 >>> ((8 : Int32) &&& 31).toUInt32).toInt32).toInt8.toInt32))])) (fun t kt => ?_) ?_
    · show Steps p.tables e below (T31.setTop (mkF m 139 #[.val (.int p1), .val (.int p2), .val (.int (2 : Int32)), .val (.ref b25), .val (.ref r28), .val (.ref r29), .val (.int (1 : Int32))] [(.int (own_e p2 (0 : Int32))), (.int (p2.toInt8.toInt32))])) _
      refine XS.icmpNo X31.here hx rfl (hb hby at_139) rfl (teq (own_e0 p2)).2 ?_
      show Steps p.tables e below (T31.setTop (mkF m 142 #[.val (.int p1), .val (.int p2), .val (.int (2 : Int32)), .val (.ref b25), .val (.ref r28), .val (.ref r29), .val (.int (1 : Int32))] [])) _
      refine XS.aloadN X31.here hx rfl (hb hby at_142) rfl rfl ?_
      show Steps p.tables e below (T31.setTop (mkF m 143 #[.val (.int p1), .val (.int p2), .val (.int (2 : Int32)), .val (.ref b25), .val (.ref r28), .val (.ref r29), .val (.int (1 : Int32))] [(.ref b25)])) _
      refine XS.iconst X31.here hx rfl (hb hby at_143) ?_
      show Steps p.tables e below (T31.setTop (mkF m 144 #[.val (.int p1), .val (.int p2), .val (.int (2 : Int32)), .val (.ref b25), .val (.ref r28), .val (.ref r29), .val (.int (1 : Int32))] [(.int (0 : Int32)), (.ref b25)])) _
      refine X31.baloadBytes hx (j := (0 : Int32)) (v := (.int (p2.toInt8.toInt32))) (by rw [e31]; exact Ab.1) (State.isArrayOf_alike hZ.alike Ab.2.1) Ab.2.2 (inb_of Sb ⟨by decide, by decide⟩) (Hb.at (inb_of Sb ⟨by decide, by decide⟩) rfl) (g := (mkF m 144 #[.val (.int p1), .val (.int p2), .val (.int (2 : Int32)), .val (.ref b25), .val (.ref r28), .val (.ref r29), .val (.int (1 : Int32))] [(.int (0 : Int32)), (.ref b25)])) rfl rfl (hb hby at_144) _ ?_
      show Steps p.tables e below (T31.setTop (mkF m 145 #[.val (.int p1), .val (.int p2), .val (.int (2 : Int32)), .val (.ref b25), .val (.ref r28), .val (.ref r29), .val (.int (1 : Int32))] [(.int (p2.toInt8.toInt32))])) _
      refine XS.iloadN X31.here hx rfl (hb hby at_145) rfl ?_
      show Steps p.tables e below (T31.setTop (mkF m 146 #[.val (.int p1), .val (.int p2), .val (.int (2 : Int32)), .val (.ref b25), .val (.ref r28), .val (.ref r29), .val (.int (1 : Int32))] [(.int p2), (.int (p2.toInt8.toInt32))])) _
      refine XS.i2b X31.here hx rfl (hb hby at_146) rfl ?_
      show Steps p.tables e below (T31.setTop (mkF m 147 #[.val (.int p1), .val (.int p2), .val (.int (2 : Int32)), .val (.ref b25), .val (.ref r28), .val (.ref r29), .val (.int (1 : Int32))] [(.int (p2.toInt8.toInt32)), (.int (p2.toInt8.toInt32))])) _
      refine XS.icmpNo X31.here hx rfl (hb hby at_147) rfl (teq rfl).2 ?_
      show Steps p.tables e below (T31.setTop (mkF m 150 #[.val (.int p1), .val (.int p2), .val (.int (2 : Int32)), .val (.ref b25), .val (.ref r28), .val (.ref r29), .val (.int (1 : Int32))] [])) _
      refine XS.iconst X31.here hx rfl (hb hby at_150) ?_
      show Steps p.tables e below (T31.setTop (mkF m 151 #[.val (.int p1), .val (.int p2), .val (.int (2 : Int32)), .val (.ref b25), .val (.ref r28), .val (.ref r29), .val (.int (1 : Int32))] [(.int (1 : Int32))])) _
      refine XS.goto X31.here hx rfl (pc0 := 151) (pc' := 155) rfl (hb hby at_151) (by decide) (by decide) ?_
      show Steps p.tables e below (T31.setTop (mkF m 155 #[.val (.int p1), .val (.int p2), .val (.int (2 : Int32)), .val (.ref b25), .val (.ref r28), .val (.ref r29), .val (.int (1 : Int32))] [(.int (1 : Int32))])) _
      refine XS.istore X31.here hx rfl (hb hby at_155) rfl (l' := #[.val (.int p1), .val (.int p2), .val (.int (2 : Int32)), .val (.ref b25), .val (.ref r28), .val (.ref r29), .val (.int (1 : Int32))]) rfl ?_
      show Steps p.tables e below (T31.setTop (mkF m 157 #[.val (.int p1), .val (.int p2), .val (.int (2 : Int32)), .val (.ref b25), .val (.ref r28), .val (.ref r29), .val (.int (1 : Int32))] [])) _
      refine XS.iloadN X31.here hx rfl (hb hby at_157) rfl ?_
      show Steps p.tables e below (T31.setTop (mkF m 158 #[.val (.int p1), .val (.int p2), .val (.int (2 : Int32)), .val (.ref b25), .val (.ref r28), .val (.ref r29), .val (.int (1 : Int32))] [(.int (2 : Int32))])) _
      refine XS.iconst X31.here hx rfl (hb hby at_158) ?_
      show Steps p.tables e below (T31.setTop (mkF m 159 #[.val (.int p1), .val (.int p2), .val (.int (2 : Int32)), .val (.ref b25), .val (.ref r28), .val (.ref r29), .val (.int (1 : Int32))] [(.int (1 : Int32)), (.int (2 : Int32))])) _
      refine XS.icmpNo X31.here hx rfl (hb hby at_159) rfl (tlt (by decide)).2.2.2 ?_
      show Steps p.tables e below (T31.setTop (mkF m 162 #[.val (.int p1), .val (.int p2), .val (.int (2 : Int32)), .val (.ref b25), .val (.ref r28), .val (.ref r29), .val (.int (1 : Int32))] [])) _
      refine XS.iload X31.here hx rfl (hb hby at_162) rfl ?_
      show Steps p.tables e below (T31.setTop (mkF m 164 #[.val (.int p1), .val (.int p2), .val (.int (2 : Int32)), .val (.ref b25), .val (.ref r28), .val (.ref r29), .val (.int (1 : Int32))] [(.int (1 : Int32))])) _
      refine XS.ifNo X31.here hx rfl (hb hby at_164) rfl ((if0 _ _).trans (feq (by decide)).1) ?_
      show Steps p.tables e below (T31.setTop (mkF m 167 #[.val (.int p1), .val (.int p2), .val (.int (2 : Int32)), .val (.ref b25), .val (.ref r28), .val (.ref r29), .val (.int (1 : Int32))] [])) _
      refine XS.aload X31.here hx rfl (hb hby at_167) rfl rfl ?_
      show Steps p.tables e below (T31.setTop (mkF m 169 #[.val (.int p1), .val (.int p2), .val (.int (2 : Int32)), .val (.ref b25), .val (.ref r28), .val (.ref r29), .val (.int (1 : Int32))] [(.ref r28)])) _
      refine XS.iconst X31.here hx rfl (hb hby at_169) ?_
      show Steps p.tables e below (T31.setTop (mkF m 170 #[.val (.int p1), .val (.int p2), .val (.int (2 : Int32)), .val (.ref b25), .val (.ref r28), .val (.ref r29), .val (.int (1 : Int32))] [(.int (1 : Int32)), (.ref r28)])) _
      refine X31.iaload hx (j := (1 : Int32)) (v := (.int (((p2.toUInt32 >>> ((8 : Int32) &&& 31).toUInt32).toInt32).toInt8.toInt32))) (by rw [e31]; exact Ar.1) (State.isArrayOf_alike hZ.alike Ar.2.1) Ar.2.2 (inb_of Sr ⟨by decide, by decide⟩) (Hr.at (inb_of Sr ⟨by decide, by decide⟩) rfl) (g := (mkF m 170 #[.val (.int p1), .val (.int p2), .val (.int (2 : Int32)), .val (.ref b25), .val (.ref r28), .val (.ref r29), .val (.int (1 : Int32))] [(.int (1 : Int32)), (.ref r28)])) rfl rfl (hb hby at_170) _ ?_
      show Steps p.tables e below (T31.setTop (mkF m 171 #[.val (.int p1), .val (.int p2), .val (.int (2 : Int32)), .val (.ref b25), .val (.ref r28), .val (.ref r29), .val (.int (1 : Int32))] [(.int (((p2.toUInt32 >>> ((8 : Int32) &&& 31).toUInt32).toInt32).toInt8.toInt32))])) _
      refine XS.iloadN X31.here hx rfl (hb hby at_171) rfl ?_
      show Steps p.tables e below (T31.setTop (mkF m 172 #[.val (.int p1), .val (.int p2), .val (.int (2 : Int32)), .val (.ref b25), .val (.ref r28), .val (.ref r29), .val (.int (1 : Int32))] [(.int p2), (.int (((p2.toUInt32 >>> ((8 : Int32) &&& 31).toUInt32).toInt32).toInt8.toInt32))])) _
      refine XS.iconst X31.here hx rfl (hb hby at_172) ?_
      exact kt
    obtain ⟨_, _, ⟨T32, L32, k32, n32⟩, -, X32, ⟨Lc32, hQ32, l32, y32, z32⟩, st32⟩ := Jvm.LawKit.callS X31 hx (y := (⟨"needlemark/CompiledPatternSymbolsPinLaw", "expected", "(II)I"⟩ : MethodName)) hown (mvT hZ (hw _ (List.mem_of_getElem? (i := 6) rfl))) (mvT hZ (hw _ (List.mem_of_getElem? (i := 7) rfl))) (mvT hZ (hw _ (List.mem_of_getElem? (i := 8) rfl))) (mvT hZ (hw _ (List.mem_of_getElem? (i := 9) rfl))) (by decide) (backOf (W := 1) (rm2 l Z a0 hw [] p2 (1 : Int32) hf n0 Zc) hZ (hw _ (List.mem_of_getElem? (i := 9) rfl)) (hw _ (List.mem_of_getElem? (i := 8) rfl)) (by decide) (by decide)) (g := (mkF m 173 #[.val (.int p1), .val (.int p2), .val (.int (2 : Int32)), .val (.ref b25), .val (.ref r28), .val (.ref r29), .val (.int (1 : Int32))] [(.int (1 : Int32)), (.int p2), (.int (((p2.toUInt32 >>> ((8 : Int32) &&& 31).toUInt32).toInt32).toInt8.toInt32))])) rfl (by rw [hml]; rfl) (argsL := [(.int p2), (.int (1 : Int32))]) (rest := [(.int (((p2.toUInt32 >>> ((8 : Int32) &&& 31).toUInt32).toInt32).toInt8.toInt32))]) (lenOf pd_1 rfl) rfl (by show 2 * 0 + _ ≤ _; exact Nat.le_of_eq rfl) (hb hby at_173) (fun _ _ => ⟨rfl, e31, (by decide : (((((0 + 1) + 1) + 1) + 0) + 0) + 0 ≤ _), (by decide : (((((0 + 2) + 2) + 2) + 0) + 0) + 0 ≤ _)⟩)
    dsimp only [Pt.U, Pt.locs, Pt.cells, Pt.slots] at X32 l32 y32 z32 st32 hQ32
    subst l32 y32 z32
    obtain ⟨rfl, N32q, e32⟩ := hQ32
    have N32 := Fr.app N31 N32q
    refine own_go (B := T32.setTop (mkF m 176 #[.val (.int p1), .val (.int p2), .val (.int (2 : Int32)), .val (.ref b25), .val (.ref r28), .val (.ref r29), .val (.int (1 : Int32))] [(.int (own_e p2 (1 : Int32))), (.int (((p2.toUInt32 >>> ((8 : Int32) &&& 31).toUInt32).toInt32).toInt8.toInt32))])) (fun t kt => st32 t kt) ?_
    refine own_go (B := T32.setTop (mkF m 185 #[.val (.int p1), .val (.int p2), .val (.int (2 : Int32)), .val (.ref b25), .val (.ref r28), .val (.ref r29), .val (.int (1 : Int32))] [(.int (1 : Int32)), (.int p2), (.int (((p2.toUInt32 >>> ((8 : Int32) &&& 31).toUInt32).toInt32).toInt8.toInt32))])) (fun t kt => ?_) ?_
    · show Steps p.tables e below (T32.setTop (mkF m 176 #[.val (.int p1), .val (.int p2), .val (.int (2 : Int32)), .val (.ref b25), .val (.ref r28), .val (.ref r29), .val (.int (1 : Int32))] [(.int (own_e p2 (1 : Int32))), (.int (((p2.toUInt32 >>> ((8 : Int32) &&& 31).toUInt32).toInt32).toInt8.toInt32))])) _
      refine XS.icmpNo X32.here hx rfl (hb hby at_176) rfl (teq (own_e1 p2)).2 ?_
      show Steps p.tables e below (T32.setTop (mkF m 179 #[.val (.int p1), .val (.int p2), .val (.int (2 : Int32)), .val (.ref b25), .val (.ref r28), .val (.ref r29), .val (.int (1 : Int32))] [])) _
      refine XS.aload X32.here hx rfl (hb hby at_179) rfl rfl ?_
      show Steps p.tables e below (T32.setTop (mkF m 181 #[.val (.int p1), .val (.int p2), .val (.int (2 : Int32)), .val (.ref b25), .val (.ref r28), .val (.ref r29), .val (.int (1 : Int32))] [(.ref r29)])) _
      refine XS.iconst X32.here hx rfl (hb hby at_181) ?_
      show Steps p.tables e below (T32.setTop (mkF m 182 #[.val (.int p1), .val (.int p2), .val (.int (2 : Int32)), .val (.ref b25), .val (.ref r28), .val (.ref r29), .val (.int (1 : Int32))] [(.int (1 : Int32)), (.ref r29)])) _
      refine X32.iaload hx (j := (1 : Int32)) (v := (.int (((p2.toUInt32 >>> ((8 : Int32) &&& 31).toUInt32).toInt32).toInt8.toInt32))) (by rw [e32]; exact As.1) (State.isArrayOf_alike hZ.alike As.2.1) As.2.2 (inb_of Ss ⟨by decide, by decide⟩) (Hs.at (inb_of Ss ⟨by decide, by decide⟩) rfl) (g := (mkF m 182 #[.val (.int p1), .val (.int p2), .val (.int (2 : Int32)), .val (.ref b25), .val (.ref r28), .val (.ref r29), .val (.int (1 : Int32))] [(.int (1 : Int32)), (.ref r29)])) rfl rfl (hb hby at_182) _ ?_
      show Steps p.tables e below (T32.setTop (mkF m 183 #[.val (.int p1), .val (.int p2), .val (.int (2 : Int32)), .val (.ref b25), .val (.ref r28), .val (.ref r29), .val (.int (1 : Int32))] [(.int (((p2.toUInt32 >>> ((8 : Int32) &&& 31).toUInt32).toInt32).toInt8.toInt32))])) _
      refine XS.iloadN X32.here hx rfl (hb hby at_183) rfl ?_
      show Steps p.tables e below (T32.setTop (mkF m 184 #[.val (.int p1), .val (.int p2), .val (.int (2 : Int32)), .val (.ref b25), .val (.ref r28), .val (.ref r29), .val (.int (1 : Int32))] [(.int p2), (.int (((p2.toUInt32 >>> ((8 : Int32) &&& 31).toUInt32).toInt32).toInt8.toInt32))])) _
      refine XS.iconst X32.here hx rfl (hb hby at_184) ?_
      exact kt
    obtain ⟨_, _, ⟨T33, L33, k33, n33⟩, -, X33, ⟨Lc33, hQ33, l33, y33, z33⟩, st33⟩ := Jvm.LawKit.callS X32 hx (y := (⟨"needlemark/CompiledPatternSymbolsPinLaw", "expected", "(II)I"⟩ : MethodName)) hown (mvT hZ (hw _ (List.mem_of_getElem? (i := 6) rfl))) (mvT hZ (hw _ (List.mem_of_getElem? (i := 7) rfl))) (mvT hZ (hw _ (List.mem_of_getElem? (i := 8) rfl))) (mvT hZ (hw _ (List.mem_of_getElem? (i := 9) rfl))) (by decide) (backOf (W := 1) (rm2 l Z a0 hw [] p2 (1 : Int32) hf n0 Zc) hZ (hw _ (List.mem_of_getElem? (i := 9) rfl)) (hw _ (List.mem_of_getElem? (i := 8) rfl)) (by decide) (by decide)) (g := (mkF m 185 #[.val (.int p1), .val (.int p2), .val (.int (2 : Int32)), .val (.ref b25), .val (.ref r28), .val (.ref r29), .val (.int (1 : Int32))] [(.int (1 : Int32)), (.int p2), (.int (((p2.toUInt32 >>> ((8 : Int32) &&& 31).toUInt32).toInt32).toInt8.toInt32))])) rfl (by rw [hml]; rfl) (argsL := [(.int p2), (.int (1 : Int32))]) (rest := [(.int (((p2.toUInt32 >>> ((8 : Int32) &&& 31).toUInt32).toInt32).toInt8.toInt32))]) (lenOf pd_1 rfl) rfl (by show 2 * 0 + _ ≤ _; exact Nat.le_of_eq rfl) (hb hby at_185) (fun _ _ => ⟨rfl, e32, (by decide : ((((((0 + 1) + 1) + 1) + 0) + 0) + 0) + 0 ≤ _), (by decide : ((((((0 + 2) + 2) + 2) + 0) + 0) + 0) + 0 ≤ _)⟩)
    dsimp only [Pt.U, Pt.locs, Pt.cells, Pt.slots] at X33 l33 y33 z33 st33 hQ33
    subst l33 y33 z33
    obtain ⟨rfl, N33q, e33⟩ := hQ33
    have N33 := Fr.app N32 N33q
    refine own_go (B := T33.setTop (mkF m 188 #[.val (.int p1), .val (.int p2), .val (.int (2 : Int32)), .val (.ref b25), .val (.ref r28), .val (.ref r29), .val (.int (1 : Int32))] [(.int (own_e p2 (1 : Int32))), (.int (((p2.toUInt32 >>> ((8 : Int32) &&& 31).toUInt32).toInt32).toInt8.toInt32))])) (fun t kt => st33 t kt) ?_
    refine own_go (B := T33.setTop (mkF m 315 #[.val (.int p1), .val (.int p2), .val (.int (2 : Int32)), .val (.ref b25), .val (.ref r28), .val (.ref r29), .val (.int (1 : Int32))] [(.int (1 : Int32))])) (fun t kt => ?_) ?_
    · show Steps p.tables e below (T33.setTop (mkF m 188 #[.val (.int p1), .val (.int p2), .val (.int (2 : Int32)), .val (.ref b25), .val (.ref r28), .val (.ref r29), .val (.int (1 : Int32))] [(.int (own_e p2 (1 : Int32))), (.int (((p2.toUInt32 >>> ((8 : Int32) &&& 31).toUInt32).toInt32).toInt8.toInt32))])) _
      refine XS.icmpNo X33.here hx rfl (hb hby at_188) rfl (teq (own_e1 p2)).2 ?_
      show Steps p.tables e below (T33.setTop (mkF m 191 #[.val (.int p1), .val (.int p2), .val (.int (2 : Int32)), .val (.ref b25), .val (.ref r28), .val (.ref r29), .val (.int (1 : Int32))] [])) _
      refine XS.aloadN X33.here hx rfl (hb hby at_191) rfl rfl ?_
      show Steps p.tables e below (T33.setTop (mkF m 192 #[.val (.int p1), .val (.int p2), .val (.int (2 : Int32)), .val (.ref b25), .val (.ref r28), .val (.ref r29), .val (.int (1 : Int32))] [(.ref b25)])) _
      refine XS.iconst X33.here hx rfl (hb hby at_192) ?_
      show Steps p.tables e below (T33.setTop (mkF m 193 #[.val (.int p1), .val (.int p2), .val (.int (2 : Int32)), .val (.ref b25), .val (.ref r28), .val (.ref r29), .val (.int (1 : Int32))] [(.int (1 : Int32)), (.ref b25)])) _
      refine X33.baloadBytes hx (j := (1 : Int32)) (v := (.int (((p2.toUInt32 >>> ((8 : Int32) &&& 31).toUInt32).toInt32).toInt8.toInt32))) (by rw [e33]; exact Ab.1) (State.isArrayOf_alike hZ.alike Ab.2.1) Ab.2.2 (inb_of Sb ⟨by decide, by decide⟩) (Hb.at (inb_of Sb ⟨by decide, by decide⟩) rfl) (g := (mkF m 193 #[.val (.int p1), .val (.int p2), .val (.int (2 : Int32)), .val (.ref b25), .val (.ref r28), .val (.ref r29), .val (.int (1 : Int32))] [(.int (1 : Int32)), (.ref b25)])) rfl rfl (hb hby at_193) _ ?_
      show Steps p.tables e below (T33.setTop (mkF m 194 #[.val (.int p1), .val (.int p2), .val (.int (2 : Int32)), .val (.ref b25), .val (.ref r28), .val (.ref r29), .val (.int (1 : Int32))] [(.int (((p2.toUInt32 >>> ((8 : Int32) &&& 31).toUInt32).toInt32).toInt8.toInt32))])) _
      refine XS.iloadN X33.here hx rfl (hb hby at_194) rfl ?_
      show Steps p.tables e below (T33.setTop (mkF m 195 #[.val (.int p1), .val (.int p2), .val (.int (2 : Int32)), .val (.ref b25), .val (.ref r28), .val (.ref r29), .val (.int (1 : Int32))] [(.int p2), (.int (((p2.toUInt32 >>> ((8 : Int32) &&& 31).toUInt32).toInt32).toInt8.toInt32))])) _
      refine XS.bipush X33.here hx rfl (hb hby at_195) ?_
      show Steps p.tables e below (T33.setTop (mkF m 197 #[.val (.int p1), .val (.int p2), .val (.int (2 : Int32)), .val (.ref b25), .val (.ref r28), .val (.ref r29), .val (.int (1 : Int32))] [(.int (8 : Int32)), (.int p2), (.int (((p2.toUInt32 >>> ((8 : Int32) &&& 31).toUInt32).toInt32).toInt8.toInt32))])) _
      refine XS.iushr X33.here hx rfl (hb hby at_197) rfl ?_
      show Steps p.tables e below (T33.setTop (mkF m 198 #[.val (.int p1), .val (.int p2), .val (.int (2 : Int32)), .val (.ref b25), .val (.ref r28), .val (.ref r29), .val (.int (1 : Int32))] [(.int ((p2.toUInt32 >>> ((8 : Int32) &&& 31).toUInt32).toInt32)), (.int (((p2.toUInt32 >>> ((8 : Int32) &&& 31).toUInt32).toInt32).toInt8.toInt32))])) _
      refine XS.i2b X33.here hx rfl (hb hby at_198) rfl ?_
      show Steps p.tables e below (T33.setTop (mkF m 199 #[.val (.int p1), .val (.int p2), .val (.int (2 : Int32)), .val (.ref b25), .val (.ref r28), .val (.ref r29), .val (.int (1 : Int32))] [(.int (((p2.toUInt32 >>> ((8 : Int32) &&& 31).toUInt32).toInt32).toInt8.toInt32)), (.int (((p2.toUInt32 >>> ((8 : Int32) &&& 31).toUInt32).toInt32).toInt8.toInt32))])) _
      refine XS.icmpNo X33.here hx rfl (hb hby at_199) rfl (teq rfl).2 ?_
      show Steps p.tables e below (T33.setTop (mkF m 202 #[.val (.int p1), .val (.int p2), .val (.int (2 : Int32)), .val (.ref b25), .val (.ref r28), .val (.ref r29), .val (.int (1 : Int32))] [])) _
      refine XS.iconst X33.here hx rfl (hb hby at_202) ?_
      show Steps p.tables e below (T33.setTop (mkF m 203 #[.val (.int p1), .val (.int p2), .val (.int (2 : Int32)), .val (.ref b25), .val (.ref r28), .val (.ref r29), .val (.int (1 : Int32))] [(.int (1 : Int32))])) _
      refine XS.goto X33.here hx rfl (pc0 := 203) (pc' := 207) rfl (hb hby at_203) (by decide) (by decide) ?_
      show Steps p.tables e below (T33.setTop (mkF m 207 #[.val (.int p1), .val (.int p2), .val (.int (2 : Int32)), .val (.ref b25), .val (.ref r28), .val (.ref r29), .val (.int (1 : Int32))] [(.int (1 : Int32))])) _
      refine XS.istore X33.here hx rfl (hb hby at_207) rfl (l' := #[.val (.int p1), .val (.int p2), .val (.int (2 : Int32)), .val (.ref b25), .val (.ref r28), .val (.ref r29), .val (.int (1 : Int32))]) rfl ?_
      show Steps p.tables e below (T33.setTop (mkF m 209 #[.val (.int p1), .val (.int p2), .val (.int (2 : Int32)), .val (.ref b25), .val (.ref r28), .val (.ref r29), .val (.int (1 : Int32))] [])) _
      refine XS.iloadN X33.here hx rfl (hb hby at_209) rfl ?_
      show Steps p.tables e below (T33.setTop (mkF m 210 #[.val (.int p1), .val (.int p2), .val (.int (2 : Int32)), .val (.ref b25), .val (.ref r28), .val (.ref r29), .val (.int (1 : Int32))] [(.int (2 : Int32))])) _
      refine XS.iconst X33.here hx rfl (hb hby at_210) ?_
      show Steps p.tables e below (T33.setTop (mkF m 211 #[.val (.int p1), .val (.int p2), .val (.int (2 : Int32)), .val (.ref b25), .val (.ref r28), .val (.ref r29), .val (.int (1 : Int32))] [(.int (2 : Int32)), (.int (2 : Int32))])) _
      refine XS.icmpYes X33.here hx rfl (pc0 := 211) (pc' := 261) rfl (hb hby at_211) rfl (flt (by decide)).2.2.2 (by decide) (by decide) ?_
      show Steps p.tables e below (T33.setTop (mkF m 261 #[.val (.int p1), .val (.int p2), .val (.int (2 : Int32)), .val (.ref b25), .val (.ref r28), .val (.ref r29), .val (.int (1 : Int32))] [])) _
      refine XS.iloadN X33.here hx rfl (hb hby at_261) rfl ?_
      show Steps p.tables e below (T33.setTop (mkF m 262 #[.val (.int p1), .val (.int p2), .val (.int (2 : Int32)), .val (.ref b25), .val (.ref r28), .val (.ref r29), .val (.int (1 : Int32))] [(.int (2 : Int32))])) _
      refine XS.iconst X33.here hx rfl (hb hby at_262) ?_
      show Steps p.tables e below (T33.setTop (mkF m 263 #[.val (.int p1), .val (.int p2), .val (.int (2 : Int32)), .val (.ref b25), .val (.ref r28), .val (.ref r29), .val (.int (1 : Int32))] [(.int (3 : Int32)), (.int (2 : Int32))])) _
      refine XS.icmpYes X33.here hx rfl (pc0 := 263) (pc' := 313) rfl (hb hby at_263) rfl (flt (by decide)).2.2.2 (by decide) (by decide) ?_
      show Steps p.tables e below (T33.setTop (mkF m 313 #[.val (.int p1), .val (.int p2), .val (.int (2 : Int32)), .val (.ref b25), .val (.ref r28), .val (.ref r29), .val (.int (1 : Int32))] [])) _
      refine XS.iload X33.here hx rfl (hb hby at_313) rfl ?_
      exact kt
    obtain ⟨fs, hr, hrun, hended, hW, hsame⟩ := X33.leave (v := some (.int (1 : Int32))) (fun h => by rw [Bd.returns] at h; cases h)
    refine ⟨_, _, ?_, hrun, hended, _, _, rfl, ?_, ⟨_, rfl⟩, hW, hsame.mono (by decide) (by decide)⟩
    · show Steps p.tables e below (T33.setTop (mkF m 315 #[.val (.int p1), .val (.int p2), .val (.int (2 : Int32)), .val (.ref b25), .val (.ref r28), .val (.ref r29), .val (.int (1 : Int32))] [(.int (1 : Int32))])) _
      exact retN X33 hx (t := .boolean) Bd.returns (by simp) (hb hby at_315) hr
    · show Q0 Z p1 p2 h0 n0 _ T33.heap _
      rw [e33]
      exact ⟨rfl, N33⟩
  · rw [hk]
    refine own_go (B := s₁.setTop (mkF m 8 #[.val (.int p1), .val (.int p2), .val (.int (3 : Int32)), .unset, .unset, .unset, .unset] [(.int (3 : Int32))])) (fun t kt => ?_) ?_
    · show Steps p.tables e below (s₁.setTop (mkF m 6 #[.val (.int p1), .val (.int p2), .unset, .unset, .unset, .unset, .unset] [(.int (3 : Int32))])) _
      refine XS.istoreN X0.here hx rfl (hb hby at_6) rfl (l' := #[.val (.int p1), .val (.int p2), .val (.int (3 : Int32)), .unset, .unset, .unset, .unset]) rfl ?_
      show Steps p.tables e below (s₁.setTop (mkF m 7 #[.val (.int p1), .val (.int p2), .val (.int (3 : Int32)), .unset, .unset, .unset, .unset] [])) _
      refine XS.iloadN X0.here hx rfl (hb hby at_7) rfl ?_
      exact kt
    obtain ⟨T34, h34, k34, X34, e34, E34, A34, st34⟩ := newP X0 hx hZ (hw _ (List.mem_of_getElem? (i := 0) rfl)) e0 (g := (mkF m 8 #[.val (.int p1), .val (.int p2), .val (.int (3 : Int32)), .unset, .unset, .unset, .unset] [(.int (3 : Int32))])) rfl (hb hby at_8) rfl (by decide) (cap := 3) (by decide) (by decide) (by decide) (by decide)
    obtain ⟨b34, g34⟩ : ∃ z, z = h0.size := ⟨_, rfl⟩
    rw [← g34] at A34 st34
    refine own_go (B := T34.setTop (mkF m 10 #[.val (.int p1), .val (.int p2), .val (.int (3 : Int32)), .unset, .unset, .unset, .unset] [(.ref b34)])) (fun t kt => st34 t kt) ?_
    have gb : n0 ≤ b34 := Nat.le_trans Z0 (Nat.le_of_eq g34.symm)
    have Z1 : n0 ≤ h34.size := Nat.le_trans Z0 E34.1
    have V0 : Arv Z h34 b34 k34 .byte (3 : Int32) [(.int (0 : Int32)), (.int (0 : Int32)), (.int (0 : Int32))] (.int (0 : Int32)) := (Arv.new A34 (by decide)).pad (pad_rep [] (.int (0 : Int32)) 3)
    refine own_go (B := T34.setTop (mkF m 19 #[.val (.int p1), .val (.int p2), .val (.int (3 : Int32)), .val (.ref b34), .unset, .unset, .unset] [(.int (p2.toInt8.toInt32)), (.int (0 : Int32)), (.ref b34)])) (fun t kt => ?_) ?_
    · show Steps p.tables e below (T34.setTop (mkF m 10 #[.val (.int p1), .val (.int p2), .val (.int (3 : Int32)), .unset, .unset, .unset, .unset] [(.ref b34)])) _
      refine XS.astoreN X34.here hx rfl (hb hby at_10) rfl rfl (l' := #[.val (.int p1), .val (.int p2), .val (.int (3 : Int32)), .val (.ref b34), .unset, .unset, .unset]) rfl ?_
      show Steps p.tables e below (T34.setTop (mkF m 11 #[.val (.int p1), .val (.int p2), .val (.int (3 : Int32)), .val (.ref b34), .unset, .unset, .unset] [])) _
      refine XS.iloadN X34.here hx rfl (hb hby at_11) rfl ?_
      show Steps p.tables e below (T34.setTop (mkF m 12 #[.val (.int p1), .val (.int p2), .val (.int (3 : Int32)), .val (.ref b34), .unset, .unset, .unset] [(.int (3 : Int32))])) _
      refine XS.ifNo X34.here hx rfl (hb hby at_12) rfl ((if0 _ _).trans (tlt (by decide)).2.2.2) ?_
      show Steps p.tables e below (T34.setTop (mkF m 15 #[.val (.int p1), .val (.int p2), .val (.int (3 : Int32)), .val (.ref b34), .unset, .unset, .unset] [])) _
      refine XS.aloadN X34.here hx rfl (hb hby at_15) rfl rfl ?_
      show Steps p.tables e below (T34.setTop (mkF m 16 #[.val (.int p1), .val (.int p2), .val (.int (3 : Int32)), .val (.ref b34), .unset, .unset, .unset] [(.ref b34)])) _
      refine XS.iconst X34.here hx rfl (hb hby at_16) ?_
      show Steps p.tables e below (T34.setTop (mkF m 17 #[.val (.int p1), .val (.int p2), .val (.int (3 : Int32)), .val (.ref b34), .unset, .unset, .unset] [(.int (0 : Int32)), (.ref b34)])) _
      refine XS.iloadN X34.here hx rfl (hb hby at_17) rfl ?_
      show Steps p.tables e below (T34.setTop (mkF m 18 #[.val (.int p1), .val (.int p2), .val (.int (3 : Int32)), .val (.ref b34), .unset, .unset, .unset] [(.int p2), (.int (0 : Int32)), (.ref b34)])) _
      refine XS.i2b X34.here hx rfl (hb hby at_18) rfl ?_
      exact kt
    obtain ⟨cv0, Av0, qv0, Sv0, Mv0, Hv0, Uv0⟩ := V0
    obtain ⟨T35, h35, X35, e35, W35, st35⟩ := stB X34 hx hZ e34 Av0 (j := (0 : Int32)) (inb_of Sv0 ⟨by decide, by decide⟩) (g := (mkF m 19 #[.val (.int p1), .val (.int p2), .val (.int (3 : Int32)), .val (.ref b34), .unset, .unset, .unset] [(.int (p2.toInt8.toInt32)), (.int (0 : Int32)), (.ref b34)])) rfl rfl (hb hby at_19)
    have N35 := Fr.snoc X35 N0 gb
    refine own_go (B := T35.setTop (mkF m 20 #[.val (.int p1), .val (.int p2), .val (.int (3 : Int32)), .val (.ref b34), .unset, .unset, .unset] [])) (fun t kt => st35 t kt) ?_
    rw [own_nar] at W35
    have V1 : Arv Z h35 b34 k34 .byte (3 : Int32) [(.int (p2.toInt8.toInt32)), (.int (0 : Int32)), (.int (0 : Int32))] (.int (0 : Int32)) := Arv.set Av0 qv0 Sv0 Mv0 Hv0 Uv0 (fits_nar_byte _) W35 0 rfl (Nat.le_of_ble_eq_true rfl)
    have Z2 : n0 ≤ h35.size := Nat.le_trans Z1 (Keep.of_wr W35).1
    refine own_go (B := T35.setTop (mkF m 32 #[.val (.int p1), .val (.int p2), .val (.int (3 : Int32)), .val (.ref b34), .unset, .unset, .unset] [(.int (((p2.toUInt32 >>> ((8 : Int32) &&& 31).toUInt32).toInt32).toInt8.toInt32)), (.int (1 : Int32)), (.ref b34)])) (fun t kt => ?_) ?_
    · show Steps p.tables e below (T35.setTop (mkF m 20 #[.val (.int p1), .val (.int p2), .val (.int (3 : Int32)), .val (.ref b34), .unset, .unset, .unset] [])) _
      refine XS.iloadN X35.here hx rfl (hb hby at_20) rfl ?_
      show Steps p.tables e below (T35.setTop (mkF m 21 #[.val (.int p1), .val (.int p2), .val (.int (3 : Int32)), .val (.ref b34), .unset, .unset, .unset] [(.int (3 : Int32))])) _
      refine XS.iconst X35.here hx rfl (hb hby at_21) ?_
      show Steps p.tables e below (T35.setTop (mkF m 22 #[.val (.int p1), .val (.int p2), .val (.int (3 : Int32)), .val (.ref b34), .unset, .unset, .unset] [(.int (1 : Int32)), (.int (3 : Int32))])) _
      refine XS.icmpNo X35.here hx rfl (hb hby at_22) rfl (tlt (by decide)).2.2.2 ?_
      show Steps p.tables e below (T35.setTop (mkF m 25 #[.val (.int p1), .val (.int p2), .val (.int (3 : Int32)), .val (.ref b34), .unset, .unset, .unset] [])) _
      refine XS.aloadN X35.here hx rfl (hb hby at_25) rfl rfl ?_
      show Steps p.tables e below (T35.setTop (mkF m 26 #[.val (.int p1), .val (.int p2), .val (.int (3 : Int32)), .val (.ref b34), .unset, .unset, .unset] [(.ref b34)])) _
      refine XS.iconst X35.here hx rfl (hb hby at_26) ?_
      show Steps p.tables e below (T35.setTop (mkF m 27 #[.val (.int p1), .val (.int p2), .val (.int (3 : Int32)), .val (.ref b34), .unset, .unset, .unset] [(.int (1 : Int32)), (.ref b34)])) _
      refine XS.iloadN X35.here hx rfl (hb hby at_27) rfl ?_
      show Steps p.tables e below (T35.setTop (mkF m 28 #[.val (.int p1), .val (.int p2), .val (.int (3 : Int32)), .val (.ref b34), .unset, .unset, .unset] [(.int p2), (.int (1 : Int32)), (.ref b34)])) _
      refine XS.bipush X35.here hx rfl (hb hby at_28) ?_
      show Steps p.tables e below (T35.setTop (mkF m 30 #[.val (.int p1), .val (.int p2), .val (.int (3 : Int32)), .val (.ref b34), .unset, .unset, .unset] [(.int (8 : Int32)), (.int p2), (.int (1 : Int32)), (.ref b34)])) _
      refine XS.iushr X35.here hx rfl (hb hby at_30) rfl ?_
      show Steps p.tables e below (T35.setTop (mkF m 31 #[.val (.int p1), .val (.int p2), .val (.int (3 : Int32)), .val (.ref b34), .unset, .unset, .unset] [(.int ((p2.toUInt32 >>> ((8 : Int32) &&& 31).toUInt32).toInt32)), (.int (1 : Int32)), (.ref b34)])) _
      refine XS.i2b X35.here hx rfl (hb hby at_31) rfl ?_
      exact kt
    obtain ⟨cv1, Av1, qv1, Sv1, Mv1, Hv1, Uv1⟩ := V1
    obtain ⟨T36, h36, X36, e36, W36, st36⟩ := stB X35 hx hZ e35 Av1 (j := (1 : Int32)) (inb_of Sv1 ⟨by decide, by decide⟩) (g := (mkF m 32 #[.val (.int p1), .val (.int p2), .val (.int (3 : Int32)), .val (.ref b34), .unset, .unset, .unset] [(.int (((p2.toUInt32 >>> ((8 : Int32) &&& 31).toUInt32).toInt32).toInt8.toInt32)), (.int (1 : Int32)), (.ref b34)])) rfl rfl (hb hby at_32)
    have N36 := Fr.snoc X36 N35 gb
    refine own_go (B := T36.setTop (mkF m 33 #[.val (.int p1), .val (.int p2), .val (.int (3 : Int32)), .val (.ref b34), .unset, .unset, .unset] [])) (fun t kt => st36 t kt) ?_
    rw [own_nar] at W36
    have V2 : Arv Z h36 b34 k34 .byte (3 : Int32) [(.int (p2.toInt8.toInt32)), (.int (((p2.toUInt32 >>> ((8 : Int32) &&& 31).toUInt32).toInt32).toInt8.toInt32)), (.int (0 : Int32))] (.int (0 : Int32)) := Arv.set Av1 qv1 Sv1 Mv1 Hv1 Uv1 (fits_nar_byte _) W36 1 rfl (Nat.le_of_ble_eq_true rfl)
    have Z3 : n0 ≤ h36.size := Nat.le_trans Z2 (Keep.of_wr W36).1
    refine own_go (B := T36.setTop (mkF m 45 #[.val (.int p1), .val (.int p2), .val (.int (3 : Int32)), .val (.ref b34), .unset, .unset, .unset] [(.int (((p2.toUInt32 >>> ((16 : Int32) &&& 31).toUInt32).toInt32).toInt8.toInt32)), (.int (2 : Int32)), (.ref b34)])) (fun t kt => ?_) ?_
    · show Steps p.tables e below (T36.setTop (mkF m 33 #[.val (.int p1), .val (.int p2), .val (.int (3 : Int32)), .val (.ref b34), .unset, .unset, .unset] [])) _
      refine XS.iloadN X36.here hx rfl (hb hby at_33) rfl ?_
      show Steps p.tables e below (T36.setTop (mkF m 34 #[.val (.int p1), .val (.int p2), .val (.int (3 : Int32)), .val (.ref b34), .unset, .unset, .unset] [(.int (3 : Int32))])) _
      refine XS.iconst X36.here hx rfl (hb hby at_34) ?_
      show Steps p.tables e below (T36.setTop (mkF m 35 #[.val (.int p1), .val (.int p2), .val (.int (3 : Int32)), .val (.ref b34), .unset, .unset, .unset] [(.int (2 : Int32)), (.int (3 : Int32))])) _
      refine XS.icmpNo X36.here hx rfl (hb hby at_35) rfl (tlt (by decide)).2.2.2 ?_
      show Steps p.tables e below (T36.setTop (mkF m 38 #[.val (.int p1), .val (.int p2), .val (.int (3 : Int32)), .val (.ref b34), .unset, .unset, .unset] [])) _
      refine XS.aloadN X36.here hx rfl (hb hby at_38) rfl rfl ?_
      show Steps p.tables e below (T36.setTop (mkF m 39 #[.val (.int p1), .val (.int p2), .val (.int (3 : Int32)), .val (.ref b34), .unset, .unset, .unset] [(.ref b34)])) _
      refine XS.iconst X36.here hx rfl (hb hby at_39) ?_
      show Steps p.tables e below (T36.setTop (mkF m 40 #[.val (.int p1), .val (.int p2), .val (.int (3 : Int32)), .val (.ref b34), .unset, .unset, .unset] [(.int (2 : Int32)), (.ref b34)])) _
      refine XS.iloadN X36.here hx rfl (hb hby at_40) rfl ?_
      show Steps p.tables e below (T36.setTop (mkF m 41 #[.val (.int p1), .val (.int p2), .val (.int (3 : Int32)), .val (.ref b34), .unset, .unset, .unset] [(.int p2), (.int (2 : Int32)), (.ref b34)])) _
      refine XS.bipush X36.here hx rfl (hb hby at_41) ?_
      show Steps p.tables e below (T36.setTop (mkF m 43 #[.val (.int p1), .val (.int p2), .val (.int (3 : Int32)), .val (.ref b34), .unset, .unset, .unset] [(.int (16 : Int32)), (.int p2), (.int (2 : Int32)), (.ref b34)])) _
      refine XS.iushr X36.here hx rfl (hb hby at_43) rfl ?_
      show Steps p.tables e below (T36.setTop (mkF m 44 #[.val (.int p1), .val (.int p2), .val (.int (3 : Int32)), .val (.ref b34), .unset, .unset, .unset] [(.int ((p2.toUInt32 >>> ((16 : Int32) &&& 31).toUInt32).toInt32)), (.int (2 : Int32)), (.ref b34)])) _
      refine XS.i2b X36.here hx rfl (hb hby at_44) rfl ?_
      exact kt
    obtain ⟨cv2, Av2, qv2, Sv2, Mv2, Hv2, Uv2⟩ := V2
    obtain ⟨T37, h37, X37, e37, W37, st37⟩ := stB X36 hx hZ e36 Av2 (j := (2 : Int32)) (inb_of Sv2 ⟨by decide, by decide⟩) (g := (mkF m 45 #[.val (.int p1), .val (.int p2), .val (.int (3 : Int32)), .val (.ref b34), .unset, .unset, .unset] [(.int (((p2.toUInt32 >>> ((16 : Int32) &&& 31).toUInt32).toInt32).toInt8.toInt32)), (.int (2 : Int32)), (.ref b34)])) rfl rfl (hb hby at_45)
    have N37 := Fr.snoc X37 N36 gb
    refine own_go (B := T37.setTop (mkF m 46 #[.val (.int p1), .val (.int p2), .val (.int (3 : Int32)), .val (.ref b34), .unset, .unset, .unset] [])) (fun t kt => st37 t kt) ?_
    rw [own_nar] at W37
    have V3 : Arv Z h37 b34 k34 .byte (3 : Int32) [(.int (p2.toInt8.toInt32)), (.int (((p2.toUInt32 >>> ((8 : Int32) &&& 31).toUInt32).toInt32).toInt8.toInt32)), (.int (((p2.toUInt32 >>> ((16 : Int32) &&& 31).toUInt32).toInt32).toInt8.toInt32))] (.int (0 : Int32)) := Arv.set Av2 qv2 Sv2 Mv2 Hv2 Uv2 (fits_nar_byte _) W37 2 rfl (Nat.le_of_ble_eq_true rfl)
    have Z4 : n0 ≤ h37.size := Nat.le_trans Z3 (Keep.of_wr W37).1
    refine own_go (B := T37.setTop (mkF m 60 #[.val (.int p1), .val (.int p2), .val (.int (3 : Int32)), .val (.ref b34), .unset, .unset, .unset] [(.ref b34)])) (fun t kt => ?_) ?_
    · show Steps p.tables e below (T37.setTop (mkF m 46 #[.val (.int p1), .val (.int p2), .val (.int (3 : Int32)), .val (.ref b34), .unset, .unset, .unset] [])) _
      refine XS.iloadN X37.here hx rfl (hb hby at_46) rfl ?_
      show Steps p.tables e below (T37.setTop (mkF m 47 #[.val (.int p1), .val (.int p2), .val (.int (3 : Int32)), .val (.ref b34), .unset, .unset, .unset] [(.int (3 : Int32))])) _
      refine XS.iconst X37.here hx rfl (hb hby at_47) ?_
      show Steps p.tables e below (T37.setTop (mkF m 48 #[.val (.int p1), .val (.int p2), .val (.int (3 : Int32)), .val (.ref b34), .unset, .unset, .unset] [(.int (3 : Int32)), (.int (3 : Int32))])) _
      refine XS.icmpYes X37.here hx rfl (pc0 := 48) (pc' := 59) rfl (hb hby at_48) rfl (flt (by decide)).2.2.2 (by decide) (by decide) ?_
      show Steps p.tables e below (T37.setTop (mkF m 59 #[.val (.int p1), .val (.int p2), .val (.int (3 : Int32)), .val (.ref b34), .unset, .unset, .unset] [])) _
      refine XS.aloadN X37.here hx rfl (hb hby at_59) rfl rfl ?_
      exact kt
    obtain ⟨_, _, ⟨T38, L38, k38, n38⟩, -, X38, ⟨Lc38, hQ38, l38, y38, z38⟩, st38⟩ := Jvm.LawKit.callS X37 hx (y := (⟨"needlemark/CompiledPattern", "symbols", "([B)[I"⟩ : MethodName)) hown (mvT hZ (hw _ (List.mem_of_getElem? (i := 1) rfl))) (mvT hZ (hw _ (List.mem_of_getElem? (i := 2) rfl))) (mvT hZ (hw _ (List.mem_of_getElem? (i := 3) rfl))) (mvT hZ (hw _ (List.mem_of_getElem? (i := 4) rfl))) (by decide) (backOf (W := 0) (rm1_3 l Z a0 hw [] b34 k34 (p2.toInt8.toInt32) (((p2.toUInt32 >>> ((8 : Int32) &&& 31).toUInt32).toInt32).toInt8.toInt32) (((p2.toUInt32 >>> ((16 : Int32) &&& 31).toUInt32).toInt32).toInt8.toInt32) h37 n0 Z4 V3) hZ (hw _ (List.mem_of_getElem? (i := 4) rfl)) (hw _ (List.mem_of_getElem? (i := 3) rfl)) (by decide) (by decide)) (g := (mkF m 60 #[.val (.int p1), .val (.int p2), .val (.int (3 : Int32)), .val (.ref b34), .unset, .unset, .unset] [(.ref b34)])) rfl (by rw [hml]; rfl) (argsL := [(.ref b34)]) (rest := []) (lenOf pd_0 rfl) rfl (by show 2 * 0 + _ ≤ _; exact Nat.le_of_eq rfl) (hb hby at_60) (fun _ _ => ⟨rfl, e37, (by decide : (0 + 1) + 1 ≤ _), (by decide : (0 + 3) + 3 ≤ _)⟩)
    dsimp only [Pt.U, Pt.locs, Pt.cells, Pt.slots] at X38 l38 y38 z38 st38 hQ38
    subst l38 y38 z38
    obtain ⟨r38, kr38, rfl, N38q, K38, G38, V38⟩ := hQ38
    have N38 := Fr.app N37 N38q
    refine own_go (B := T38.setTop (mkF m 63 #[.val (.int p1), .val (.int p2), .val (.int (3 : Int32)), .val (.ref b34), .unset, .unset, .unset] [(.ref r38)])) (fun t kt => st38 t kt) ?_
    have Zb : n0 ≤ T38.heap.size := Nat.le_trans Z4 K38.1
    have Vb := V3.keep K38 nin0
    have Lr := V38.lt
    refine own_go (B := T38.setTop (mkF m 66 #[.val (.int p1), .val (.int p2), .val (.int (3 : Int32)), .val (.ref b34), .val (.ref r38), .unset, .unset] [(.ref b34)])) (fun t kt => ?_) ?_
    · show Steps p.tables e below (T38.setTop (mkF m 63 #[.val (.int p1), .val (.int p2), .val (.int (3 : Int32)), .val (.ref b34), .unset, .unset, .unset] [(.ref r38)])) _
      refine XS.astore X38.here hx rfl (hb hby at_63) rfl rfl (l' := #[.val (.int p1), .val (.int p2), .val (.int (3 : Int32)), .val (.ref b34), .val (.ref r38), .unset, .unset]) rfl ?_
      show Steps p.tables e below (T38.setTop (mkF m 65 #[.val (.int p1), .val (.int p2), .val (.int (3 : Int32)), .val (.ref b34), .val (.ref r38), .unset, .unset] [])) _
      refine XS.aloadN X38.here hx rfl (hb hby at_65) rfl rfl ?_
      exact kt
    obtain ⟨_, _, ⟨T39, L39, k39, n39⟩, -, X39, ⟨Lc39, hQ39, l39, y39, z39⟩, st39⟩ := Jvm.LawKit.callS X38 hx (y := (⟨"needlemark/CompiledPattern", "symbols", "([B)[I"⟩ : MethodName)) hown (mvT hZ (hw _ (List.mem_of_getElem? (i := 1) rfl))) (mvT hZ (hw _ (List.mem_of_getElem? (i := 2) rfl))) (mvT hZ (hw _ (List.mem_of_getElem? (i := 3) rfl))) (mvT hZ (hw _ (List.mem_of_getElem? (i := 4) rfl))) (by decide) (backOf (W := 0) (rm1_3 l Z a0 hw [] b34 k34 (p2.toInt8.toInt32) (((p2.toUInt32 >>> ((8 : Int32) &&& 31).toUInt32).toInt32).toInt8.toInt32) (((p2.toUInt32 >>> ((16 : Int32) &&& 31).toUInt32).toInt32).toInt8.toInt32) T38.heap n0 Zb Vb) hZ (hw _ (List.mem_of_getElem? (i := 4) rfl)) (hw _ (List.mem_of_getElem? (i := 3) rfl)) (by decide) (by decide)) (g := (mkF m 66 #[.val (.int p1), .val (.int p2), .val (.int (3 : Int32)), .val (.ref b34), .val (.ref r38), .unset, .unset] [(.ref b34)])) rfl (by rw [hml]; rfl) (argsL := [(.ref b34)]) (rest := []) (lenOf pd_0 rfl) rfl (by show 2 * 0 + _ ≤ _; exact Nat.le_of_eq rfl) (hb hby at_66) (fun _ _ => ⟨rfl, rfl, (by decide : ((0 + 1) + 1) + 1 ≤ _), (by decide : ((0 + 3) + 3) + 3 ≤ _)⟩)
    dsimp only [Pt.U, Pt.locs, Pt.cells, Pt.slots] at X39 l39 y39 z39 st39 hQ39
    subst l39 y39 z39
    obtain ⟨r39, kr39, rfl, N39q, K39, G39, V39⟩ := hQ39
    have N39 := Fr.app N38 N39q
    refine own_go (B := T39.setTop (mkF m 69 #[.val (.int p1), .val (.int p2), .val (.int (3 : Int32)), .val (.ref b34), .val (.ref r38), .unset, .unset] [(.ref r39)])) (fun t kt => st39 t kt) ?_
    have Zc : n0 ≤ T39.heap.size := Nat.le_trans Zb K39.1
    have Vb' := Vb.keep K39 nin0
    have Vr' := V38.keep K39 nin0
    have hne : r38 ≠ r39 := Nat.ne_of_lt (Nat.lt_of_lt_of_le Lr G39)
    obtain ⟨hf, ehf⟩ : ∃ z : Heap, z = T39.heap := ⟨_, rfl⟩
    rw [← ehf] at Zc Vb' Vr' V39
    obtain ⟨cb, Ab, -, Sb, Mb, Hb, -⟩ := Vb'
    obtain ⟨cr, Ar, -, Sr, Mr, Hr, -⟩ := Vr'
    obtain ⟨cs, As, -, Ss, Ms, Hs, -⟩ := V39
    refine own_go (B := T39.setTop (mkF m 124 #[.val (.int p1), .val (.int p2), .val (.int (3 : Int32)), .val (.ref b34), .val (.ref r38), .val (.ref r39), .val (.int (1 : Int32))] [(.int (0 : Int32)), (.int p2), (.int (p2.toInt8.toInt32))])) (fun t kt => ?_) ?_
    · show Steps p.tables e below (T39.setTop (mkF m 69 #[.val (.int p1), .val (.int p2), .val (.int (3 : Int32)), .val (.ref b34), .val (.ref r38), .unset, .unset] [(.ref r39)])) _
      refine XS.astore X39.here hx rfl (hb hby at_69) rfl rfl (l' := #[.val (.int p1), .val (.int p2), .val (.int (3 : Int32)), .val (.ref b34), .val (.ref r38), .val (.ref r39), .unset]) rfl ?_
      show Steps p.tables e below (T39.setTop (mkF m 71 #[.val (.int p1), .val (.int p2), .val (.int (3 : Int32)), .val (.ref b34), .val (.ref r38), .val (.ref r39), .unset] [])) _
      refine XS.aload X39.here hx rfl (hb hby at_71) rfl rfl ?_
      show Steps p.tables e below (T39.setTop (mkF m 73 #[.val (.int p1), .val (.int p2), .val (.int (3 : Int32)), .val (.ref b34), .val (.ref r38), .val (.ref r39), .unset] [(.ref r38)])) _
      refine XS.ifnullNo X39.here hx rfl (hb hby at_73) rfl ?_
      show Steps p.tables e below (T39.setTop (mkF m 76 #[.val (.int p1), .val (.int p2), .val (.int (3 : Int32)), .val (.ref b34), .val (.ref r38), .val (.ref r39), .unset] [])) _
      refine XS.aload X39.here hx rfl (hb hby at_76) rfl rfl ?_
      show Steps p.tables e below (T39.setTop (mkF m 78 #[.val (.int p1), .val (.int p2), .val (.int (3 : Int32)), .val (.ref b34), .val (.ref r38), .val (.ref r39), .unset] [(.ref r39)])) _
      refine XS.ifnullNo X39.here hx rfl (hb hby at_78) rfl ?_
      show Steps p.tables e below (T39.setTop (mkF m 81 #[.val (.int p1), .val (.int p2), .val (.int (3 : Int32)), .val (.ref b34), .val (.ref r38), .val (.ref r39), .unset] [])) _
      refine XS.aload X39.here hx rfl (hb hby at_81) rfl rfl ?_
      show Steps p.tables e below (T39.setTop (mkF m 83 #[.val (.int p1), .val (.int p2), .val (.int (3 : Int32)), .val (.ref b34), .val (.ref r38), .val (.ref r39), .unset] [(.ref r38)])) _
      refine XS.aload X39.here hx rfl (hb hby at_83) rfl rfl ?_
      show Steps p.tables e below (T39.setTop (mkF m 85 #[.val (.int p1), .val (.int p2), .val (.int (3 : Int32)), .val (.ref b34), .val (.ref r38), .val (.ref r39), .unset] [(.ref r39), (.ref r38)])) _
      refine Jvm.RoadKit.acmp (g := (mkF m 85 #[.val (.int p1), .val (.int p2), .val (.int (3 : Int32)), .val (.ref b34), .val (.ref r38), .val (.ref r39), .unset] [(.ref r39), (.ref r38)])) X39 hx rfl rfl rfl (pc0 := 85) (pc' := 90) (same := false) rfl (hb hby at_85) rfl (decide_eq_false fun q => hne (Value.ref.inj q)) (by decide) (by decide) ?_
      show Steps p.tables e below (T39.setTop (mkF m 90 #[.val (.int p1), .val (.int p2), .val (.int (3 : Int32)), .val (.ref b34), .val (.ref r38), .val (.ref r39), .unset] [])) _
      refine XS.aload X39.here hx rfl (hb hby at_90) rfl rfl ?_
      show Steps p.tables e below (T39.setTop (mkF m 92 #[.val (.int p1), .val (.int p2), .val (.int (3 : Int32)), .val (.ref b34), .val (.ref r38), .val (.ref r39), .unset] [(.ref r38)])) _
      refine X39.arraylength hx (cell := cr) (by rw [ehf.symm]; exact Ar.1) (State.isArrayOf_alike hZ.alike Ar.2.1) (g := (mkF m 92 #[.val (.int p1), .val (.int p2), .val (.int (3 : Int32)), .val (.ref b34), .val (.ref r38), .val (.ref r39), .unset] [(.ref r38)])) rfl rfl (hb hby at_92) _ ?_
      rw [len_of Sr Mr]
      show Steps p.tables e below (T39.setTop (mkF m 93 #[.val (.int p1), .val (.int p2), .val (.int (3 : Int32)), .val (.ref b34), .val (.ref r38), .val (.ref r39), .unset] [(.int (3 : Int32))])) _
      refine XS.iloadN X39.here hx rfl (hb hby at_93) rfl ?_
      show Steps p.tables e below (T39.setTop (mkF m 94 #[.val (.int p1), .val (.int p2), .val (.int (3 : Int32)), .val (.ref b34), .val (.ref r38), .val (.ref r39), .unset] [(.int (3 : Int32)), (.int (3 : Int32))])) _
      refine XS.icmpNo X39.here hx rfl (hb hby at_94) rfl (teq rfl).2 ?_
      show Steps p.tables e below (T39.setTop (mkF m 97 #[.val (.int p1), .val (.int p2), .val (.int (3 : Int32)), .val (.ref b34), .val (.ref r38), .val (.ref r39), .unset] [])) _
      refine XS.aload X39.here hx rfl (hb hby at_97) rfl rfl ?_
      show Steps p.tables e below (T39.setTop (mkF m 99 #[.val (.int p1), .val (.int p2), .val (.int (3 : Int32)), .val (.ref b34), .val (.ref r38), .val (.ref r39), .unset] [(.ref r39)])) _
      refine X39.arraylength hx (cell := cs) (by rw [ehf.symm]; exact As.1) (State.isArrayOf_alike hZ.alike As.2.1) (g := (mkF m 99 #[.val (.int p1), .val (.int p2), .val (.int (3 : Int32)), .val (.ref b34), .val (.ref r38), .val (.ref r39), .unset] [(.ref r39)])) rfl rfl (hb hby at_99) _ ?_
      rw [len_of Ss Ms]
      show Steps p.tables e below (T39.setTop (mkF m 100 #[.val (.int p1), .val (.int p2), .val (.int (3 : Int32)), .val (.ref b34), .val (.ref r38), .val (.ref r39), .unset] [(.int (3 : Int32))])) _
      refine XS.iloadN X39.here hx rfl (hb hby at_100) rfl ?_
      show Steps p.tables e below (T39.setTop (mkF m 101 #[.val (.int p1), .val (.int p2), .val (.int (3 : Int32)), .val (.ref b34), .val (.ref r38), .val (.ref r39), .unset] [(.int (3 : Int32)), (.int (3 : Int32))])) _
      refine XS.icmpYes X39.here hx rfl (pc0 := 101) (pc' := 106) rfl (hb hby at_101) rfl (teq rfl).1 (by decide) (by decide) ?_
      show Steps p.tables e below (T39.setTop (mkF m 106 #[.val (.int p1), .val (.int p2), .val (.int (3 : Int32)), .val (.ref b34), .val (.ref r38), .val (.ref r39), .unset] [])) _
      refine XS.iconst X39.here hx rfl (hb hby at_106) ?_
      show Steps p.tables e below (T39.setTop (mkF m 107 #[.val (.int p1), .val (.int p2), .val (.int (3 : Int32)), .val (.ref b34), .val (.ref r38), .val (.ref r39), .unset] [(.int (1 : Int32))])) _
      refine XS.istore X39.here hx rfl (hb hby at_107) rfl (l' := #[.val (.int p1), .val (.int p2), .val (.int (3 : Int32)), .val (.ref b34), .val (.ref r38), .val (.ref r39), .val (.int (1 : Int32))]) rfl ?_
      show Steps p.tables e below (T39.setTop (mkF m 109 #[.val (.int p1), .val (.int p2), .val (.int (3 : Int32)), .val (.ref b34), .val (.ref r38), .val (.ref r39), .val (.int (1 : Int32))] [])) _
      refine XS.iloadN X39.here hx rfl (hb hby at_109) rfl ?_
      show Steps p.tables e below (T39.setTop (mkF m 110 #[.val (.int p1), .val (.int p2), .val (.int (3 : Int32)), .val (.ref b34), .val (.ref r38), .val (.ref r39), .val (.int (1 : Int32))] [(.int (3 : Int32))])) _
      refine XS.ifNo X39.here hx rfl (hb hby at_110) rfl ((if0 _ _).trans (tlt (by decide)).2.2.2) ?_
      show Steps p.tables e below (T39.setTop (mkF m 113 #[.val (.int p1), .val (.int p2), .val (.int (3 : Int32)), .val (.ref b34), .val (.ref r38), .val (.ref r39), .val (.int (1 : Int32))] [])) _
      refine XS.iload X39.here hx rfl (hb hby at_113) rfl ?_
      show Steps p.tables e below (T39.setTop (mkF m 115 #[.val (.int p1), .val (.int p2), .val (.int (3 : Int32)), .val (.ref b34), .val (.ref r38), .val (.ref r39), .val (.int (1 : Int32))] [(.int (1 : Int32))])) _
      refine XS.ifNo X39.here hx rfl (hb hby at_115) rfl ((if0 _ _).trans (feq (by decide)).1) ?_
      show Steps p.tables e below (T39.setTop (mkF m 118 #[.val (.int p1), .val (.int p2), .val (.int (3 : Int32)), .val (.ref b34), .val (.ref r38), .val (.ref r39), .val (.int (1 : Int32))] [])) _
      refine XS.aload X39.here hx rfl (hb hby at_118) rfl rfl ?_
      show Steps p.tables e below (T39.setTop (mkF m 120 #[.val (.int p1), .val (.int p2), .val (.int (3 : Int32)), .val (.ref b34), .val (.ref r38), .val (.ref r39), .val (.int (1 : Int32))] [(.ref r38)])) _
      refine XS.iconst X39.here hx rfl (hb hby at_120) ?_
      show Steps p.tables e below (T39.setTop (mkF m 121 #[.val (.int p1), .val (.int p2), .val (.int (3 : Int32)), .val (.ref b34), .val (.ref r38), .val (.ref r39), .val (.int (1 : Int32))] [(.int (0 : Int32)), (.ref r38)])) _
      refine X39.iaload hx (j := (0 : Int32)) (v := (.int (p2.toInt8.toInt32))) (by rw [ehf.symm]; exact Ar.1) (State.isArrayOf_alike hZ.alike Ar.2.1) Ar.2.2 (inb_of Sr ⟨by decide, by decide⟩) (Hr.at (inb_of Sr ⟨by decide, by decide⟩) rfl) (g := (mkF m 121 #[.val (.int p1), .val (.int p2), .val (.int (3 : Int32)), .val (.ref b34), .val (.ref r38), .val (.ref r39), .val (.int (1 : Int32))] [(.int (0 : Int32)), (.ref r38)])) rfl rfl (hb hby at_121) _ ?_
      show Steps p.tables e below (T39.setTop (mkF m 122 #[.val (.int p1), .val (.int p2), .val (.int (3 : Int32)), .val (.ref b34), .val (.ref r38), .val (.ref r39), .val (.int (1 : Int32))] [(.int (p2.toInt8.toInt32))])) _
      refine XS.iloadN X39.here hx rfl (hb hby at_122) rfl ?_
      show Steps p.tables e below (T39.setTop (mkF m 123 #[.val (.int p1), .val (.int p2), .val (.int (3 : Int32)), .val (.ref b34), .val (.ref r38), .val (.ref r39), .val (.int (1 : Int32))] [(.int p2), (.int (p2.toInt8.toInt32))])) _
      refine XS.iconst X39.here hx rfl (hb hby at_123) ?_
      exact kt
    obtain ⟨_, _, ⟨T40, L40, k40, n40⟩, -, X40, ⟨Lc40, hQ40, l40, y40, z40⟩, st40⟩ := Jvm.LawKit.callS X39 hx (y := (⟨"needlemark/CompiledPatternSymbolsPinLaw", "expected", "(II)I"⟩ : MethodName)) hown (mvT hZ (hw _ (List.mem_of_getElem? (i := 6) rfl))) (mvT hZ (hw _ (List.mem_of_getElem? (i := 7) rfl))) (mvT hZ (hw _ (List.mem_of_getElem? (i := 8) rfl))) (mvT hZ (hw _ (List.mem_of_getElem? (i := 9) rfl))) (by decide) (backOf (W := 1) (rm2 l Z a0 hw [] p2 (0 : Int32) hf n0 Zc) hZ (hw _ (List.mem_of_getElem? (i := 9) rfl)) (hw _ (List.mem_of_getElem? (i := 8) rfl)) (by decide) (by decide)) (g := (mkF m 124 #[.val (.int p1), .val (.int p2), .val (.int (3 : Int32)), .val (.ref b34), .val (.ref r38), .val (.ref r39), .val (.int (1 : Int32))] [(.int (0 : Int32)), (.int p2), (.int (p2.toInt8.toInt32))])) rfl (by rw [hml]; rfl) (argsL := [(.int p2), (.int (0 : Int32))]) (rest := [(.int (p2.toInt8.toInt32))]) (lenOf pd_1 rfl) rfl (by show 2 * 0 + _ ≤ _; exact Nat.le_of_eq rfl) (hb hby at_124) (fun _ _ => ⟨rfl, ehf.symm, (by decide : (((0 + 1) + 1) + 1) + 0 ≤ _), (by decide : (((0 + 3) + 3) + 3) + 0 ≤ _)⟩)
    dsimp only [Pt.U, Pt.locs, Pt.cells, Pt.slots] at X40 l40 y40 z40 st40 hQ40
    subst l40 y40 z40
    obtain ⟨rfl, N40q, e40⟩ := hQ40
    have N40 := Fr.app N39 N40q
    refine own_go (B := T40.setTop (mkF m 127 #[.val (.int p1), .val (.int p2), .val (.int (3 : Int32)), .val (.ref b34), .val (.ref r38), .val (.ref r39), .val (.int (1 : Int32))] [(.int (own_e p2 (0 : Int32))), (.int (p2.toInt8.toInt32))])) (fun t kt => st40 t kt) ?_
    refine own_go (B := T40.setTop (mkF m 136 #[.val (.int p1), .val (.int p2), .val (.int (3 : Int32)), .val (.ref b34), .val (.ref r38), .val (.ref r39), .val (.int (1 : Int32))] [(.int (0 : Int32)), (.int p2), (.int (p2.toInt8.toInt32))])) (fun t kt => ?_) ?_
    · show Steps p.tables e below (T40.setTop (mkF m 127 #[.val (.int p1), .val (.int p2), .val (.int (3 : Int32)), .val (.ref b34), .val (.ref r38), .val (.ref r39), .val (.int (1 : Int32))] [(.int (own_e p2 (0 : Int32))), (.int (p2.toInt8.toInt32))])) _
      refine XS.icmpNo X40.here hx rfl (hb hby at_127) rfl (teq (own_e0 p2)).2 ?_
      show Steps p.tables e below (T40.setTop (mkF m 130 #[.val (.int p1), .val (.int p2), .val (.int (3 : Int32)), .val (.ref b34), .val (.ref r38), .val (.ref r39), .val (.int (1 : Int32))] [])) _
      refine XS.aload X40.here hx rfl (hb hby at_130) rfl rfl ?_
      show Steps p.tables e below (T40.setTop (mkF m 132 #[.val (.int p1), .val (.int p2), .val (.int (3 : Int32)), .val (.ref b34), .val (.ref r38), .val (.ref r39), .val (.int (1 : Int32))] [(.ref r39)])) _
      refine XS.iconst X40.here hx rfl (hb hby at_132) ?_
      show Steps p.tables e below (T40.setTop (mkF m 133 #[.val (.int p1), .val (.int p2), .val (.int (3 : Int32)), .val (.ref b34), .val (.ref r38), .val (.ref r39), .val (.int (1 : Int32))] [(.int (0 : Int32)), (.ref r39)])) _
      refine X40.iaload hx (j := (0 : Int32)) (v := (.int (p2.toInt8.toInt32))) (by rw [e40]; exact As.1) (State.isArrayOf_alike hZ.alike As.2.1) As.2.2 (inb_of Ss ⟨by decide, by decide⟩) (Hs.at (inb_of Ss ⟨by decide, by decide⟩) rfl) (g := (mkF m 133 #[.val (.int p1), .val (.int p2), .val (.int (3 : Int32)), .val (.ref b34), .val (.ref r38), .val (.ref r39), .val (.int (1 : Int32))] [(.int (0 : Int32)), (.ref r39)])) rfl rfl (hb hby at_133) _ ?_
      show Steps p.tables e below (T40.setTop (mkF m 134 #[.val (.int p1), .val (.int p2), .val (.int (3 : Int32)), .val (.ref b34), .val (.ref r38), .val (.ref r39), .val (.int (1 : Int32))] [(.int (p2.toInt8.toInt32))])) _
      refine XS.iloadN X40.here hx rfl (hb hby at_134) rfl ?_
      show Steps p.tables e below (T40.setTop (mkF m 135 #[.val (.int p1), .val (.int p2), .val (.int (3 : Int32)), .val (.ref b34), .val (.ref r38), .val (.ref r39), .val (.int (1 : Int32))] [(.int p2), (.int (p2.toInt8.toInt32))])) _
      refine XS.iconst X40.here hx rfl (hb hby at_135) ?_
      exact kt
    obtain ⟨_, _, ⟨T41, L41, k41, n41⟩, -, X41, ⟨Lc41, hQ41, l41, y41, z41⟩, st41⟩ := Jvm.LawKit.callS X40 hx (y := (⟨"needlemark/CompiledPatternSymbolsPinLaw", "expected", "(II)I"⟩ : MethodName)) hown (mvT hZ (hw _ (List.mem_of_getElem? (i := 6) rfl))) (mvT hZ (hw _ (List.mem_of_getElem? (i := 7) rfl))) (mvT hZ (hw _ (List.mem_of_getElem? (i := 8) rfl))) (mvT hZ (hw _ (List.mem_of_getElem? (i := 9) rfl))) (by decide) (backOf (W := 1) (rm2 l Z a0 hw [] p2 (0 : Int32) hf n0 Zc) hZ (hw _ (List.mem_of_getElem? (i := 9) rfl)) (hw _ (List.mem_of_getElem? (i := 8) rfl)) (by decide) (by decide)) (g := (mkF m 136 #[.val (.int p1), .val (.int p2), .val (.int (3 : Int32)), .val (.ref b34), .val (.ref r38), .val (.ref r39), .val (.int (1 : Int32))] [(.int (0 : Int32)), (.int p2), (.int (p2.toInt8.toInt32))])) rfl (by rw [hml]; rfl) (argsL := [(.int p2), (.int (0 : Int32))]) (rest := [(.int (p2.toInt8.toInt32))]) (lenOf pd_1 rfl) rfl (by show 2 * 0 + _ ≤ _; exact Nat.le_of_eq rfl) (hb hby at_136) (fun _ _ => ⟨rfl, e40, (by decide : ((((0 + 1) + 1) + 1) + 0) + 0 ≤ _), (by decide : ((((0 + 3) + 3) + 3) + 0) + 0 ≤ _)⟩)
    dsimp only [Pt.U, Pt.locs, Pt.cells, Pt.slots] at X41 l41 y41 z41 st41 hQ41
    subst l41 y41 z41
    obtain ⟨rfl, N41q, e41⟩ := hQ41
    have N41 := Fr.app N40 N41q
    refine own_go (B := T41.setTop (mkF m 139 #[.val (.int p1), .val (.int p2), .val (.int (3 : Int32)), .val (.ref b34), .val (.ref r38), .val (.ref r39), .val (.int (1 : Int32))] [(.int (own_e p2 (0 : Int32))), (.int (p2.toInt8.toInt32))])) (fun t kt => st41 t kt) ?_
    refine own_go (B := T41.setTop (mkF m 173 #[.val (.int p1), .val (.int p2), .val (.int (3 : Int32)), .val (.ref b34), .val (.ref r38), .val (.ref r39), .val (.int (1 : Int32))] [(.int (1 : Int32)), (.int p2), (.int (((p2.toUInt32 >>> ((8 : Int32) &&& 31).toUInt32).toInt32).toInt8.toInt32))])) (fun t kt => ?_) ?_
    · show Steps p.tables e below (T41.setTop (mkF m 139 #[.val (.int p1), .val (.int p2), .val (.int (3 : Int32)), .val (.ref b34), .val (.ref r38), .val (.ref r39), .val (.int (1 : Int32))] [(.int (own_e p2 (0 : Int32))), (.int (p2.toInt8.toInt32))])) _
      refine XS.icmpNo X41.here hx rfl (hb hby at_139) rfl (teq (own_e0 p2)).2 ?_
      show Steps p.tables e below (T41.setTop (mkF m 142 #[.val (.int p1), .val (.int p2), .val (.int (3 : Int32)), .val (.ref b34), .val (.ref r38), .val (.ref r39), .val (.int (1 : Int32))] [])) _
      refine XS.aloadN X41.here hx rfl (hb hby at_142) rfl rfl ?_
      show Steps p.tables e below (T41.setTop (mkF m 143 #[.val (.int p1), .val (.int p2), .val (.int (3 : Int32)), .val (.ref b34), .val (.ref r38), .val (.ref r39), .val (.int (1 : Int32))] [(.ref b34)])) _
      refine XS.iconst X41.here hx rfl (hb hby at_143) ?_
      show Steps p.tables e below (T41.setTop (mkF m 144 #[.val (.int p1), .val (.int p2), .val (.int (3 : Int32)), .val (.ref b34), .val (.ref r38), .val (.ref r39), .val (.int (1 : Int32))] [(.int (0 : Int32)), (.ref b34)])) _
      refine X41.baloadBytes hx (j := (0 : Int32)) (v := (.int (p2.toInt8.toInt32))) (by rw [e41]; exact Ab.1) (State.isArrayOf_alike hZ.alike Ab.2.1) Ab.2.2 (inb_of Sb ⟨by decide, by decide⟩) (Hb.at (inb_of Sb ⟨by decide, by decide⟩) rfl) (g := (mkF m 144 #[.val (.int p1), .val (.int p2), .val (.int (3 : Int32)), .val (.ref b34), .val (.ref r38), .val (.ref r39), .val (.int (1 : Int32))] [(.int (0 : Int32)), (.ref b34)])) rfl rfl (hb hby at_144) _ ?_
      show Steps p.tables e below (T41.setTop (mkF m 145 #[.val (.int p1), .val (.int p2), .val (.int (3 : Int32)), .val (.ref b34), .val (.ref r38), .val (.ref r39), .val (.int (1 : Int32))] [(.int (p2.toInt8.toInt32))])) _
      refine XS.iloadN X41.here hx rfl (hb hby at_145) rfl ?_
      show Steps p.tables e below (T41.setTop (mkF m 146 #[.val (.int p1), .val (.int p2), .val (.int (3 : Int32)), .val (.ref b34), .val (.ref r38), .val (.ref r39), .val (.int (1 : Int32))] [(.int p2), (.int (p2.toInt8.toInt32))])) _
      refine XS.i2b X41.here hx rfl (hb hby at_146) rfl ?_
      show Steps p.tables e below (T41.setTop (mkF m 147 #[.val (.int p1), .val (.int p2), .val (.int (3 : Int32)), .val (.ref b34), .val (.ref r38), .val (.ref r39), .val (.int (1 : Int32))] [(.int (p2.toInt8.toInt32)), (.int (p2.toInt8.toInt32))])) _
      refine XS.icmpNo X41.here hx rfl (hb hby at_147) rfl (teq rfl).2 ?_
      show Steps p.tables e below (T41.setTop (mkF m 150 #[.val (.int p1), .val (.int p2), .val (.int (3 : Int32)), .val (.ref b34), .val (.ref r38), .val (.ref r39), .val (.int (1 : Int32))] [])) _
      refine XS.iconst X41.here hx rfl (hb hby at_150) ?_
      show Steps p.tables e below (T41.setTop (mkF m 151 #[.val (.int p1), .val (.int p2), .val (.int (3 : Int32)), .val (.ref b34), .val (.ref r38), .val (.ref r39), .val (.int (1 : Int32))] [(.int (1 : Int32))])) _
      refine XS.goto X41.here hx rfl (pc0 := 151) (pc' := 155) rfl (hb hby at_151) (by decide) (by decide) ?_
      show Steps p.tables e below (T41.setTop (mkF m 155 #[.val (.int p1), .val (.int p2), .val (.int (3 : Int32)), .val (.ref b34), .val (.ref r38), .val (.ref r39), .val (.int (1 : Int32))] [(.int (1 : Int32))])) _
      refine XS.istore X41.here hx rfl (hb hby at_155) rfl (l' := #[.val (.int p1), .val (.int p2), .val (.int (3 : Int32)), .val (.ref b34), .val (.ref r38), .val (.ref r39), .val (.int (1 : Int32))]) rfl ?_
      show Steps p.tables e below (T41.setTop (mkF m 157 #[.val (.int p1), .val (.int p2), .val (.int (3 : Int32)), .val (.ref b34), .val (.ref r38), .val (.ref r39), .val (.int (1 : Int32))] [])) _
      refine XS.iloadN X41.here hx rfl (hb hby at_157) rfl ?_
      show Steps p.tables e below (T41.setTop (mkF m 158 #[.val (.int p1), .val (.int p2), .val (.int (3 : Int32)), .val (.ref b34), .val (.ref r38), .val (.ref r39), .val (.int (1 : Int32))] [(.int (3 : Int32))])) _
      refine XS.iconst X41.here hx rfl (hb hby at_158) ?_
      show Steps p.tables e below (T41.setTop (mkF m 159 #[.val (.int p1), .val (.int p2), .val (.int (3 : Int32)), .val (.ref b34), .val (.ref r38), .val (.ref r39), .val (.int (1 : Int32))] [(.int (1 : Int32)), (.int (3 : Int32))])) _
      refine XS.icmpNo X41.here hx rfl (hb hby at_159) rfl (tlt (by decide)).2.2.2 ?_
      show Steps p.tables e below (T41.setTop (mkF m 162 #[.val (.int p1), .val (.int p2), .val (.int (3 : Int32)), .val (.ref b34), .val (.ref r38), .val (.ref r39), .val (.int (1 : Int32))] [])) _
      refine XS.iload X41.here hx rfl (hb hby at_162) rfl ?_
      show Steps p.tables e below (T41.setTop (mkF m 164 #[.val (.int p1), .val (.int p2), .val (.int (3 : Int32)), .val (.ref b34), .val (.ref r38), .val (.ref r39), .val (.int (1 : Int32))] [(.int (1 : Int32))])) _
      refine XS.ifNo X41.here hx rfl (hb hby at_164) rfl ((if0 _ _).trans (feq (by decide)).1) ?_
      show Steps p.tables e below (T41.setTop (mkF m 167 #[.val (.int p1), .val (.int p2), .val (.int (3 : Int32)), .val (.ref b34), .val (.ref r38), .val (.ref r39), .val (.int (1 : Int32))] [])) _
      refine XS.aload X41.here hx rfl (hb hby at_167) rfl rfl ?_
      show Steps p.tables e below (T41.setTop (mkF m 169 #[.val (.int p1), .val (.int p2), .val (.int (3 : Int32)), .val (.ref b34), .val (.ref r38), .val (.ref r39), .val (.int (1 : Int32))] [(.ref r38)])) _
      refine XS.iconst X41.here hx rfl (hb hby at_169) ?_
      show Steps p.tables e below (T41.setTop (mkF m 170 #[.val (.int p1), .val (.int p2), .val (.int (3 : Int32)), .val (.ref b34), .val (.ref r38), .val (.ref r39), .val (.int (1 : Int32))] [(.int (1 : Int32)), (.ref r38)])) _
      refine X41.iaload hx (j := (1 : Int32)) (v := (.int (((p2.toUInt32 >>> ((8 : Int32) &&& 31).toUInt32).toInt32).toInt8.toInt32))) (by rw [e41]; exact Ar.1) (State.isArrayOf_alike hZ.alike Ar.2.1) Ar.2.2 (inb_of Sr ⟨by decide, by decide⟩) (Hr.at (inb_of Sr ⟨by decide, by decide⟩) rfl) (g := (mkF m 170 #[.val (.int p1), .val (.int p2), .val (.int (3 : Int32)), .val (.ref b34), .val (.ref r38), .val (.ref r39), .val (.int (1 : Int32))] [(.int (1 : Int32)), (.ref r38)])) rfl rfl (hb hby at_170) _ ?_
      show Steps p.tables e below (T41.setTop (mkF m 171 #[.val (.int p1), .val (.int p2), .val (.int (3 : Int32)), .val (.ref b34), .val (.ref r38), .val (.ref r39), .val (.int (1 : Int32))] [(.int (((p2.toUInt32 >>> ((8 : Int32) &&& 31).toUInt32).toInt32).toInt8.toInt32))])) _
      refine XS.iloadN X41.here hx rfl (hb hby at_171) rfl ?_
      show Steps p.tables e below (T41.setTop (mkF m 172 #[.val (.int p1), .val (.int p2), .val (.int (3 : Int32)), .val (.ref b34), .val (.ref r38), .val (.ref r39), .val (.int (1 : Int32))] [(.int p2), (.int (((p2.toUInt32 >>> ((8 : Int32) &&& 31).toUInt32).toInt32).toInt8.toInt32))])) _
      refine XS.iconst X41.here hx rfl (hb hby at_172) ?_
      exact kt
    obtain ⟨_, _, ⟨T42, L42, k42, n42⟩, -, X42, ⟨Lc42, hQ42, l42, y42, z42⟩, st42⟩ := Jvm.LawKit.callS X41 hx (y := (⟨"needlemark/CompiledPatternSymbolsPinLaw", "expected", "(II)I"⟩ : MethodName)) hown (mvT hZ (hw _ (List.mem_of_getElem? (i := 6) rfl))) (mvT hZ (hw _ (List.mem_of_getElem? (i := 7) rfl))) (mvT hZ (hw _ (List.mem_of_getElem? (i := 8) rfl))) (mvT hZ (hw _ (List.mem_of_getElem? (i := 9) rfl))) (by decide) (backOf (W := 1) (rm2 l Z a0 hw [] p2 (1 : Int32) hf n0 Zc) hZ (hw _ (List.mem_of_getElem? (i := 9) rfl)) (hw _ (List.mem_of_getElem? (i := 8) rfl)) (by decide) (by decide)) (g := (mkF m 173 #[.val (.int p1), .val (.int p2), .val (.int (3 : Int32)), .val (.ref b34), .val (.ref r38), .val (.ref r39), .val (.int (1 : Int32))] [(.int (1 : Int32)), (.int p2), (.int (((p2.toUInt32 >>> ((8 : Int32) &&& 31).toUInt32).toInt32).toInt8.toInt32))])) rfl (by rw [hml]; rfl) (argsL := [(.int p2), (.int (1 : Int32))]) (rest := [(.int (((p2.toUInt32 >>> ((8 : Int32) &&& 31).toUInt32).toInt32).toInt8.toInt32))]) (lenOf pd_1 rfl) rfl (by show 2 * 0 + _ ≤ _; exact Nat.le_of_eq rfl) (hb hby at_173) (fun _ _ => ⟨rfl, e41, (by decide : (((((0 + 1) + 1) + 1) + 0) + 0) + 0 ≤ _), (by decide : (((((0 + 3) + 3) + 3) + 0) + 0) + 0 ≤ _)⟩)
    dsimp only [Pt.U, Pt.locs, Pt.cells, Pt.slots] at X42 l42 y42 z42 st42 hQ42
    subst l42 y42 z42
    obtain ⟨rfl, N42q, e42⟩ := hQ42
    have N42 := Fr.app N41 N42q
    refine own_go (B := T42.setTop (mkF m 176 #[.val (.int p1), .val (.int p2), .val (.int (3 : Int32)), .val (.ref b34), .val (.ref r38), .val (.ref r39), .val (.int (1 : Int32))] [(.int (own_e p2 (1 : Int32))), (.int (((p2.toUInt32 >>> ((8 : Int32) &&& 31).toUInt32).toInt32).toInt8.toInt32))])) (fun t kt => st42 t kt) ?_
    refine own_go (B := T42.setTop (mkF m 185 #[.val (.int p1), .val (.int p2), .val (.int (3 : Int32)), .val (.ref b34), .val (.ref r38), .val (.ref r39), .val (.int (1 : Int32))] [(.int (1 : Int32)), (.int p2), (.int (((p2.toUInt32 >>> ((8 : Int32) &&& 31).toUInt32).toInt32).toInt8.toInt32))])) (fun t kt => ?_) ?_
    · show Steps p.tables e below (T42.setTop (mkF m 176 #[.val (.int p1), .val (.int p2), .val (.int (3 : Int32)), .val (.ref b34), .val (.ref r38), .val (.ref r39), .val (.int (1 : Int32))] [(.int (own_e p2 (1 : Int32))), (.int (((p2.toUInt32 >>> ((8 : Int32) &&& 31).toUInt32).toInt32).toInt8.toInt32))])) _
      refine XS.icmpNo X42.here hx rfl (hb hby at_176) rfl (teq (own_e1 p2)).2 ?_
      show Steps p.tables e below (T42.setTop (mkF m 179 #[.val (.int p1), .val (.int p2), .val (.int (3 : Int32)), .val (.ref b34), .val (.ref r38), .val (.ref r39), .val (.int (1 : Int32))] [])) _
      refine XS.aload X42.here hx rfl (hb hby at_179) rfl rfl ?_
      show Steps p.tables e below (T42.setTop (mkF m 181 #[.val (.int p1), .val (.int p2), .val (.int (3 : Int32)), .val (.ref b34), .val (.ref r38), .val (.ref r39), .val (.int (1 : Int32))] [(.ref r39)])) _
      refine XS.iconst X42.here hx rfl (hb hby at_181) ?_
      show Steps p.tables e below (T42.setTop (mkF m 182 #[.val (.int p1), .val (.int p2), .val (.int (3 : Int32)), .val (.ref b34), .val (.ref r38), .val (.ref r39), .val (.int (1 : Int32))] [(.int (1 : Int32)), (.ref r39)])) _
      refine X42.iaload hx (j := (1 : Int32)) (v := (.int (((p2.toUInt32 >>> ((8 : Int32) &&& 31).toUInt32).toInt32).toInt8.toInt32))) (by rw [e42]; exact As.1) (State.isArrayOf_alike hZ.alike As.2.1) As.2.2 (inb_of Ss ⟨by decide, by decide⟩) (Hs.at (inb_of Ss ⟨by decide, by decide⟩) rfl) (g := (mkF m 182 #[.val (.int p1), .val (.int p2), .val (.int (3 : Int32)), .val (.ref b34), .val (.ref r38), .val (.ref r39), .val (.int (1 : Int32))] [(.int (1 : Int32)), (.ref r39)])) rfl rfl (hb hby at_182) _ ?_
      show Steps p.tables e below (T42.setTop (mkF m 183 #[.val (.int p1), .val (.int p2), .val (.int (3 : Int32)), .val (.ref b34), .val (.ref r38), .val (.ref r39), .val (.int (1 : Int32))] [(.int (((p2.toUInt32 >>> ((8 : Int32) &&& 31).toUInt32).toInt32).toInt8.toInt32))])) _
      refine XS.iloadN X42.here hx rfl (hb hby at_183) rfl ?_
      show Steps p.tables e below (T42.setTop (mkF m 184 #[.val (.int p1), .val (.int p2), .val (.int (3 : Int32)), .val (.ref b34), .val (.ref r38), .val (.ref r39), .val (.int (1 : Int32))] [(.int p2), (.int (((p2.toUInt32 >>> ((8 : Int32) &&& 31).toUInt32).toInt32).toInt8.toInt32))])) _
      refine XS.iconst X42.here hx rfl (hb hby at_184) ?_
      exact kt
    obtain ⟨_, _, ⟨T43, L43, k43, n43⟩, -, X43, ⟨Lc43, hQ43, l43, y43, z43⟩, st43⟩ := Jvm.LawKit.callS X42 hx (y := (⟨"needlemark/CompiledPatternSymbolsPinLaw", "expected", "(II)I"⟩ : MethodName)) hown (mvT hZ (hw _ (List.mem_of_getElem? (i := 6) rfl))) (mvT hZ (hw _ (List.mem_of_getElem? (i := 7) rfl))) (mvT hZ (hw _ (List.mem_of_getElem? (i := 8) rfl))) (mvT hZ (hw _ (List.mem_of_getElem? (i := 9) rfl))) (by decide) (backOf (W := 1) (rm2 l Z a0 hw [] p2 (1 : Int32) hf n0 Zc) hZ (hw _ (List.mem_of_getElem? (i := 9) rfl)) (hw _ (List.mem_of_getElem? (i := 8) rfl)) (by decide) (by decide)) (g := (mkF m 185 #[.val (.int p1), .val (.int p2), .val (.int (3 : Int32)), .val (.ref b34), .val (.ref r38), .val (.ref r39), .val (.int (1 : Int32))] [(.int (1 : Int32)), (.int p2), (.int (((p2.toUInt32 >>> ((8 : Int32) &&& 31).toUInt32).toInt32).toInt8.toInt32))])) rfl (by rw [hml]; rfl) (argsL := [(.int p2), (.int (1 : Int32))]) (rest := [(.int (((p2.toUInt32 >>> ((8 : Int32) &&& 31).toUInt32).toInt32).toInt8.toInt32))]) (lenOf pd_1 rfl) rfl (by show 2 * 0 + _ ≤ _; exact Nat.le_of_eq rfl) (hb hby at_185) (fun _ _ => ⟨rfl, e42, (by decide : ((((((0 + 1) + 1) + 1) + 0) + 0) + 0) + 0 ≤ _), (by decide : ((((((0 + 3) + 3) + 3) + 0) + 0) + 0) + 0 ≤ _)⟩)
    dsimp only [Pt.U, Pt.locs, Pt.cells, Pt.slots] at X43 l43 y43 z43 st43 hQ43
    subst l43 y43 z43
    obtain ⟨rfl, N43q, e43⟩ := hQ43
    have N43 := Fr.app N42 N43q
    refine own_go (B := T43.setTop (mkF m 188 #[.val (.int p1), .val (.int p2), .val (.int (3 : Int32)), .val (.ref b34), .val (.ref r38), .val (.ref r39), .val (.int (1 : Int32))] [(.int (own_e p2 (1 : Int32))), (.int (((p2.toUInt32 >>> ((8 : Int32) &&& 31).toUInt32).toInt32).toInt8.toInt32))])) (fun t kt => st43 t kt) ?_
    refine own_go (B := T43.setTop (mkF m 225 #[.val (.int p1), .val (.int p2), .val (.int (3 : Int32)), .val (.ref b34), .val (.ref r38), .val (.ref r39), .val (.int (1 : Int32))] [(.int (2 : Int32)), (.int p2), (.int (((p2.toUInt32 >>> ((16 : Int32) &&& 31).toUInt32).toInt32).toInt8.toInt32))])) (fun t kt => ?_) ?_
    · show Steps p.tables e below (T43.setTop (mkF m 188 #[.val (.int p1), .val (.int p2), .val (.int (3 : Int32)), .val (.ref b34), .val (.ref r38), .val (.ref r39), .val (.int (1 : Int32))] [(.int (own_e p2 (1 : Int32))), (.int (((p2.toUInt32 >>> ((8 : Int32) &&& 31).toUInt32).toInt32).toInt8.toInt32))])) _
      refine XS.icmpNo X43.here hx rfl (hb hby at_188) rfl (teq (own_e1 p2)).2 ?_
      show Steps p.tables e below (T43.setTop (mkF m 191 #[.val (.int p1), .val (.int p2), .val (.int (3 : Int32)), .val (.ref b34), .val (.ref r38), .val (.ref r39), .val (.int (1 : Int32))] [])) _
      refine XS.aloadN X43.here hx rfl (hb hby at_191) rfl rfl ?_
      show Steps p.tables e below (T43.setTop (mkF m 192 #[.val (.int p1), .val (.int p2), .val (.int (3 : Int32)), .val (.ref b34), .val (.ref r38), .val (.ref r39), .val (.int (1 : Int32))] [(.ref b34)])) _
      refine XS.iconst X43.here hx rfl (hb hby at_192) ?_
      show Steps p.tables e below (T43.setTop (mkF m 193 #[.val (.int p1), .val (.int p2), .val (.int (3 : Int32)), .val (.ref b34), .val (.ref r38), .val (.ref r39), .val (.int (1 : Int32))] [(.int (1 : Int32)), (.ref b34)])) _
      refine X43.baloadBytes hx (j := (1 : Int32)) (v := (.int (((p2.toUInt32 >>> ((8 : Int32) &&& 31).toUInt32).toInt32).toInt8.toInt32))) (by rw [e43]; exact Ab.1) (State.isArrayOf_alike hZ.alike Ab.2.1) Ab.2.2 (inb_of Sb ⟨by decide, by decide⟩) (Hb.at (inb_of Sb ⟨by decide, by decide⟩) rfl) (g := (mkF m 193 #[.val (.int p1), .val (.int p2), .val (.int (3 : Int32)), .val (.ref b34), .val (.ref r38), .val (.ref r39), .val (.int (1 : Int32))] [(.int (1 : Int32)), (.ref b34)])) rfl rfl (hb hby at_193) _ ?_
      show Steps p.tables e below (T43.setTop (mkF m 194 #[.val (.int p1), .val (.int p2), .val (.int (3 : Int32)), .val (.ref b34), .val (.ref r38), .val (.ref r39), .val (.int (1 : Int32))] [(.int (((p2.toUInt32 >>> ((8 : Int32) &&& 31).toUInt32).toInt32).toInt8.toInt32))])) _
      refine XS.iloadN X43.here hx rfl (hb hby at_194) rfl ?_
      show Steps p.tables e below (T43.setTop (mkF m 195 #[.val (.int p1), .val (.int p2), .val (.int (3 : Int32)), .val (.ref b34), .val (.ref r38), .val (.ref r39), .val (.int (1 : Int32))] [(.int p2), (.int (((p2.toUInt32 >>> ((8 : Int32) &&& 31).toUInt32).toInt32).toInt8.toInt32))])) _
      refine XS.bipush X43.here hx rfl (hb hby at_195) ?_
      show Steps p.tables e below (T43.setTop (mkF m 197 #[.val (.int p1), .val (.int p2), .val (.int (3 : Int32)), .val (.ref b34), .val (.ref r38), .val (.ref r39), .val (.int (1 : Int32))] [(.int (8 : Int32)), (.int p2), (.int (((p2.toUInt32 >>> ((8 : Int32) &&& 31).toUInt32).toInt32).toInt8.toInt32))])) _
      refine XS.iushr X43.here hx rfl (hb hby at_197) rfl ?_
      show Steps p.tables e below (T43.setTop (mkF m 198 #[.val (.int p1), .val (.int p2), .val (.int (3 : Int32)), .val (.ref b34), .val (.ref r38), .val (.ref r39), .val (.int (1 : Int32))] [(.int ((p2.toUInt32 >>> ((8 : Int32) &&& 31).toUInt32).toInt32)), (.int (((p2.toUInt32 >>> ((8 : Int32) &&& 31).toUInt32).toInt32).toInt8.toInt32))])) _
      refine XS.i2b X43.here hx rfl (hb hby at_198) rfl ?_
      show Steps p.tables e below (T43.setTop (mkF m 199 #[.val (.int p1), .val (.int p2), .val (.int (3 : Int32)), .val (.ref b34), .val (.ref r38), .val (.ref r39), .val (.int (1 : Int32))] [(.int (((p2.toUInt32 >>> ((8 : Int32) &&& 31).toUInt32).toInt32).toInt8.toInt32)), (.int (((p2.toUInt32 >>> ((8 : Int32) &&& 31).toUInt32).toInt32).toInt8.toInt32))])) _
      refine XS.icmpNo X43.here hx rfl (hb hby at_199) rfl (teq rfl).2 ?_
      show Steps p.tables e below (T43.setTop (mkF m 202 #[.val (.int p1), .val (.int p2), .val (.int (3 : Int32)), .val (.ref b34), .val (.ref r38), .val (.ref r39), .val (.int (1 : Int32))] [])) _
      refine XS.iconst X43.here hx rfl (hb hby at_202) ?_
      show Steps p.tables e below (T43.setTop (mkF m 203 #[.val (.int p1), .val (.int p2), .val (.int (3 : Int32)), .val (.ref b34), .val (.ref r38), .val (.ref r39), .val (.int (1 : Int32))] [(.int (1 : Int32))])) _
      refine XS.goto X43.here hx rfl (pc0 := 203) (pc' := 207) rfl (hb hby at_203) (by decide) (by decide) ?_
      show Steps p.tables e below (T43.setTop (mkF m 207 #[.val (.int p1), .val (.int p2), .val (.int (3 : Int32)), .val (.ref b34), .val (.ref r38), .val (.ref r39), .val (.int (1 : Int32))] [(.int (1 : Int32))])) _
      refine XS.istore X43.here hx rfl (hb hby at_207) rfl (l' := #[.val (.int p1), .val (.int p2), .val (.int (3 : Int32)), .val (.ref b34), .val (.ref r38), .val (.ref r39), .val (.int (1 : Int32))]) rfl ?_
      show Steps p.tables e below (T43.setTop (mkF m 209 #[.val (.int p1), .val (.int p2), .val (.int (3 : Int32)), .val (.ref b34), .val (.ref r38), .val (.ref r39), .val (.int (1 : Int32))] [])) _
      refine XS.iloadN X43.here hx rfl (hb hby at_209) rfl ?_
      show Steps p.tables e below (T43.setTop (mkF m 210 #[.val (.int p1), .val (.int p2), .val (.int (3 : Int32)), .val (.ref b34), .val (.ref r38), .val (.ref r39), .val (.int (1 : Int32))] [(.int (3 : Int32))])) _
      refine XS.iconst X43.here hx rfl (hb hby at_210) ?_
      show Steps p.tables e below (T43.setTop (mkF m 211 #[.val (.int p1), .val (.int p2), .val (.int (3 : Int32)), .val (.ref b34), .val (.ref r38), .val (.ref r39), .val (.int (1 : Int32))] [(.int (2 : Int32)), (.int (3 : Int32))])) _
      refine XS.icmpNo X43.here hx rfl (hb hby at_211) rfl (tlt (by decide)).2.2.2 ?_
      show Steps p.tables e below (T43.setTop (mkF m 214 #[.val (.int p1), .val (.int p2), .val (.int (3 : Int32)), .val (.ref b34), .val (.ref r38), .val (.ref r39), .val (.int (1 : Int32))] [])) _
      refine XS.iload X43.here hx rfl (hb hby at_214) rfl ?_
      show Steps p.tables e below (T43.setTop (mkF m 216 #[.val (.int p1), .val (.int p2), .val (.int (3 : Int32)), .val (.ref b34), .val (.ref r38), .val (.ref r39), .val (.int (1 : Int32))] [(.int (1 : Int32))])) _
      refine XS.ifNo X43.here hx rfl (hb hby at_216) rfl ((if0 _ _).trans (feq (by decide)).1) ?_
      show Steps p.tables e below (T43.setTop (mkF m 219 #[.val (.int p1), .val (.int p2), .val (.int (3 : Int32)), .val (.ref b34), .val (.ref r38), .val (.ref r39), .val (.int (1 : Int32))] [])) _
      refine XS.aload X43.here hx rfl (hb hby at_219) rfl rfl ?_
      show Steps p.tables e below (T43.setTop (mkF m 221 #[.val (.int p1), .val (.int p2), .val (.int (3 : Int32)), .val (.ref b34), .val (.ref r38), .val (.ref r39), .val (.int (1 : Int32))] [(.ref r38)])) _
      refine XS.iconst X43.here hx rfl (hb hby at_221) ?_
      show Steps p.tables e below (T43.setTop (mkF m 222 #[.val (.int p1), .val (.int p2), .val (.int (3 : Int32)), .val (.ref b34), .val (.ref r38), .val (.ref r39), .val (.int (1 : Int32))] [(.int (2 : Int32)), (.ref r38)])) _
      refine X43.iaload hx (j := (2 : Int32)) (v := (.int (((p2.toUInt32 >>> ((16 : Int32) &&& 31).toUInt32).toInt32).toInt8.toInt32))) (by rw [e43]; exact Ar.1) (State.isArrayOf_alike hZ.alike Ar.2.1) Ar.2.2 (inb_of Sr ⟨by decide, by decide⟩) (Hr.at (inb_of Sr ⟨by decide, by decide⟩) rfl) (g := (mkF m 222 #[.val (.int p1), .val (.int p2), .val (.int (3 : Int32)), .val (.ref b34), .val (.ref r38), .val (.ref r39), .val (.int (1 : Int32))] [(.int (2 : Int32)), (.ref r38)])) rfl rfl (hb hby at_222) _ ?_
      show Steps p.tables e below (T43.setTop (mkF m 223 #[.val (.int p1), .val (.int p2), .val (.int (3 : Int32)), .val (.ref b34), .val (.ref r38), .val (.ref r39), .val (.int (1 : Int32))] [(.int (((p2.toUInt32 >>> ((16 : Int32) &&& 31).toUInt32).toInt32).toInt8.toInt32))])) _
      refine XS.iloadN X43.here hx rfl (hb hby at_223) rfl ?_
      show Steps p.tables e below (T43.setTop (mkF m 224 #[.val (.int p1), .val (.int p2), .val (.int (3 : Int32)), .val (.ref b34), .val (.ref r38), .val (.ref r39), .val (.int (1 : Int32))] [(.int p2), (.int (((p2.toUInt32 >>> ((16 : Int32) &&& 31).toUInt32).toInt32).toInt8.toInt32))])) _
      refine XS.iconst X43.here hx rfl (hb hby at_224) ?_
      exact kt
    obtain ⟨_, _, ⟨T44, L44, k44, n44⟩, -, X44, ⟨Lc44, hQ44, l44, y44, z44⟩, st44⟩ := Jvm.LawKit.callS X43 hx (y := (⟨"needlemark/CompiledPatternSymbolsPinLaw", "expected", "(II)I"⟩ : MethodName)) hown (mvT hZ (hw _ (List.mem_of_getElem? (i := 6) rfl))) (mvT hZ (hw _ (List.mem_of_getElem? (i := 7) rfl))) (mvT hZ (hw _ (List.mem_of_getElem? (i := 8) rfl))) (mvT hZ (hw _ (List.mem_of_getElem? (i := 9) rfl))) (by decide) (backOf (W := 1) (rm2 l Z a0 hw [] p2 (2 : Int32) hf n0 Zc) hZ (hw _ (List.mem_of_getElem? (i := 9) rfl)) (hw _ (List.mem_of_getElem? (i := 8) rfl)) (by decide) (by decide)) (g := (mkF m 225 #[.val (.int p1), .val (.int p2), .val (.int (3 : Int32)), .val (.ref b34), .val (.ref r38), .val (.ref r39), .val (.int (1 : Int32))] [(.int (2 : Int32)), (.int p2), (.int (((p2.toUInt32 >>> ((16 : Int32) &&& 31).toUInt32).toInt32).toInt8.toInt32))])) rfl (by rw [hml]; rfl) (argsL := [(.int p2), (.int (2 : Int32))]) (rest := [(.int (((p2.toUInt32 >>> ((16 : Int32) &&& 31).toUInt32).toInt32).toInt8.toInt32))]) (lenOf pd_1 rfl) rfl (by show 2 * 0 + _ ≤ _; exact Nat.le_of_eq rfl) (hb hby at_225) (fun _ _ => ⟨rfl, e43, (by decide : (((((((0 + 1) + 1) + 1) + 0) + 0) + 0) + 0) + 0 ≤ _), (by decide : (((((((0 + 3) + 3) + 3) + 0) + 0) + 0) + 0) + 0 ≤ _)⟩)
    dsimp only [Pt.U, Pt.locs, Pt.cells, Pt.slots] at X44 l44 y44 z44 st44 hQ44
    subst l44 y44 z44
    obtain ⟨rfl, N44q, e44⟩ := hQ44
    have N44 := Fr.app N43 N44q
    refine own_go (B := T44.setTop (mkF m 228 #[.val (.int p1), .val (.int p2), .val (.int (3 : Int32)), .val (.ref b34), .val (.ref r38), .val (.ref r39), .val (.int (1 : Int32))] [(.int (own_e p2 (2 : Int32))), (.int (((p2.toUInt32 >>> ((16 : Int32) &&& 31).toUInt32).toInt32).toInt8.toInt32))])) (fun t kt => st44 t kt) ?_
    refine own_go (B := T44.setTop (mkF m 237 #[.val (.int p1), .val (.int p2), .val (.int (3 : Int32)), .val (.ref b34), .val (.ref r38), .val (.ref r39), .val (.int (1 : Int32))] [(.int (2 : Int32)), (.int p2), (.int (((p2.toUInt32 >>> ((16 : Int32) &&& 31).toUInt32).toInt32).toInt8.toInt32))])) (fun t kt => ?_) ?_
    · show Steps p.tables e below (T44.setTop (mkF m 228 #[.val (.int p1), .val (.int p2), .val (.int (3 : Int32)), .val (.ref b34), .val (.ref r38), .val (.ref r39), .val (.int (1 : Int32))] [(.int (own_e p2 (2 : Int32))), (.int (((p2.toUInt32 >>> ((16 : Int32) &&& 31).toUInt32).toInt32).toInt8.toInt32))])) _
      refine XS.icmpNo X44.here hx rfl (hb hby at_228) rfl (teq (own_e2 p2)).2 ?_
      show Steps p.tables e below (T44.setTop (mkF m 231 #[.val (.int p1), .val (.int p2), .val (.int (3 : Int32)), .val (.ref b34), .val (.ref r38), .val (.ref r39), .val (.int (1 : Int32))] [])) _
      refine XS.aload X44.here hx rfl (hb hby at_231) rfl rfl ?_
      show Steps p.tables e below (T44.setTop (mkF m 233 #[.val (.int p1), .val (.int p2), .val (.int (3 : Int32)), .val (.ref b34), .val (.ref r38), .val (.ref r39), .val (.int (1 : Int32))] [(.ref r39)])) _
      refine XS.iconst X44.here hx rfl (hb hby at_233) ?_
      show Steps p.tables e below (T44.setTop (mkF m 234 #[.val (.int p1), .val (.int p2), .val (.int (3 : Int32)), .val (.ref b34), .val (.ref r38), .val (.ref r39), .val (.int (1 : Int32))] [(.int (2 : Int32)), (.ref r39)])) _
      refine X44.iaload hx (j := (2 : Int32)) (v := (.int (((p2.toUInt32 >>> ((16 : Int32) &&& 31).toUInt32).toInt32).toInt8.toInt32))) (by rw [e44]; exact As.1) (State.isArrayOf_alike hZ.alike As.2.1) As.2.2 (inb_of Ss ⟨by decide, by decide⟩) (Hs.at (inb_of Ss ⟨by decide, by decide⟩) rfl) (g := (mkF m 234 #[.val (.int p1), .val (.int p2), .val (.int (3 : Int32)), .val (.ref b34), .val (.ref r38), .val (.ref r39), .val (.int (1 : Int32))] [(.int (2 : Int32)), (.ref r39)])) rfl rfl (hb hby at_234) _ ?_
      show Steps p.tables e below (T44.setTop (mkF m 235 #[.val (.int p1), .val (.int p2), .val (.int (3 : Int32)), .val (.ref b34), .val (.ref r38), .val (.ref r39), .val (.int (1 : Int32))] [(.int (((p2.toUInt32 >>> ((16 : Int32) &&& 31).toUInt32).toInt32).toInt8.toInt32))])) _
      refine XS.iloadN X44.here hx rfl (hb hby at_235) rfl ?_
      show Steps p.tables e below (T44.setTop (mkF m 236 #[.val (.int p1), .val (.int p2), .val (.int (3 : Int32)), .val (.ref b34), .val (.ref r38), .val (.ref r39), .val (.int (1 : Int32))] [(.int p2), (.int (((p2.toUInt32 >>> ((16 : Int32) &&& 31).toUInt32).toInt32).toInt8.toInt32))])) _
      refine XS.iconst X44.here hx rfl (hb hby at_236) ?_
      exact kt
    obtain ⟨_, _, ⟨T45, L45, k45, n45⟩, -, X45, ⟨Lc45, hQ45, l45, y45, z45⟩, st45⟩ := Jvm.LawKit.callS X44 hx (y := (⟨"needlemark/CompiledPatternSymbolsPinLaw", "expected", "(II)I"⟩ : MethodName)) hown (mvT hZ (hw _ (List.mem_of_getElem? (i := 6) rfl))) (mvT hZ (hw _ (List.mem_of_getElem? (i := 7) rfl))) (mvT hZ (hw _ (List.mem_of_getElem? (i := 8) rfl))) (mvT hZ (hw _ (List.mem_of_getElem? (i := 9) rfl))) (by decide) (backOf (W := 1) (rm2 l Z a0 hw [] p2 (2 : Int32) hf n0 Zc) hZ (hw _ (List.mem_of_getElem? (i := 9) rfl)) (hw _ (List.mem_of_getElem? (i := 8) rfl)) (by decide) (by decide)) (g := (mkF m 237 #[.val (.int p1), .val (.int p2), .val (.int (3 : Int32)), .val (.ref b34), .val (.ref r38), .val (.ref r39), .val (.int (1 : Int32))] [(.int (2 : Int32)), (.int p2), (.int (((p2.toUInt32 >>> ((16 : Int32) &&& 31).toUInt32).toInt32).toInt8.toInt32))])) rfl (by rw [hml]; rfl) (argsL := [(.int p2), (.int (2 : Int32))]) (rest := [(.int (((p2.toUInt32 >>> ((16 : Int32) &&& 31).toUInt32).toInt32).toInt8.toInt32))]) (lenOf pd_1 rfl) rfl (by show 2 * 0 + _ ≤ _; exact Nat.le_of_eq rfl) (hb hby at_237) (fun _ _ => ⟨rfl, e44, (by decide : ((((((((0 + 1) + 1) + 1) + 0) + 0) + 0) + 0) + 0) + 0 ≤ _), (by decide : ((((((((0 + 3) + 3) + 3) + 0) + 0) + 0) + 0) + 0) + 0 ≤ _)⟩)
    dsimp only [Pt.U, Pt.locs, Pt.cells, Pt.slots] at X45 l45 y45 z45 st45 hQ45
    subst l45 y45 z45
    obtain ⟨rfl, N45q, e45⟩ := hQ45
    have N45 := Fr.app N44 N45q
    refine own_go (B := T45.setTop (mkF m 240 #[.val (.int p1), .val (.int p2), .val (.int (3 : Int32)), .val (.ref b34), .val (.ref r38), .val (.ref r39), .val (.int (1 : Int32))] [(.int (own_e p2 (2 : Int32))), (.int (((p2.toUInt32 >>> ((16 : Int32) &&& 31).toUInt32).toInt32).toInt8.toInt32))])) (fun t kt => st45 t kt) ?_
    refine own_go (B := T45.setTop (mkF m 315 #[.val (.int p1), .val (.int p2), .val (.int (3 : Int32)), .val (.ref b34), .val (.ref r38), .val (.ref r39), .val (.int (1 : Int32))] [(.int (1 : Int32))])) (fun t kt => ?_) ?_
    · show Steps p.tables e below (T45.setTop (mkF m 240 #[.val (.int p1), .val (.int p2), .val (.int (3 : Int32)), .val (.ref b34), .val (.ref r38), .val (.ref r39), .val (.int (1 : Int32))] [(.int (own_e p2 (2 : Int32))), (.int (((p2.toUInt32 >>> ((16 : Int32) &&& 31).toUInt32).toInt32).toInt8.toInt32))])) _
      refine XS.icmpNo X45.here hx rfl (hb hby at_240) rfl (teq (own_e2 p2)).2 ?_
      show Steps p.tables e below (T45.setTop (mkF m 243 #[.val (.int p1), .val (.int p2), .val (.int (3 : Int32)), .val (.ref b34), .val (.ref r38), .val (.ref r39), .val (.int (1 : Int32))] [])) _
      refine XS.aloadN X45.here hx rfl (hb hby at_243) rfl rfl ?_
      show Steps p.tables e below (T45.setTop (mkF m 244 #[.val (.int p1), .val (.int p2), .val (.int (3 : Int32)), .val (.ref b34), .val (.ref r38), .val (.ref r39), .val (.int (1 : Int32))] [(.ref b34)])) _
      refine XS.iconst X45.here hx rfl (hb hby at_244) ?_
      show Steps p.tables e below (T45.setTop (mkF m 245 #[.val (.int p1), .val (.int p2), .val (.int (3 : Int32)), .val (.ref b34), .val (.ref r38), .val (.ref r39), .val (.int (1 : Int32))] [(.int (2 : Int32)), (.ref b34)])) _
      refine X45.baloadBytes hx (j := (2 : Int32)) (v := (.int (((p2.toUInt32 >>> ((16 : Int32) &&& 31).toUInt32).toInt32).toInt8.toInt32))) (by rw [e45]; exact Ab.1) (State.isArrayOf_alike hZ.alike Ab.2.1) Ab.2.2 (inb_of Sb ⟨by decide, by decide⟩) (Hb.at (inb_of Sb ⟨by decide, by decide⟩) rfl) (g := (mkF m 245 #[.val (.int p1), .val (.int p2), .val (.int (3 : Int32)), .val (.ref b34), .val (.ref r38), .val (.ref r39), .val (.int (1 : Int32))] [(.int (2 : Int32)), (.ref b34)])) rfl rfl (hb hby at_245) _ ?_
      show Steps p.tables e below (T45.setTop (mkF m 246 #[.val (.int p1), .val (.int p2), .val (.int (3 : Int32)), .val (.ref b34), .val (.ref r38), .val (.ref r39), .val (.int (1 : Int32))] [(.int (((p2.toUInt32 >>> ((16 : Int32) &&& 31).toUInt32).toInt32).toInt8.toInt32))])) _
      refine XS.iloadN X45.here hx rfl (hb hby at_246) rfl ?_
      show Steps p.tables e below (T45.setTop (mkF m 247 #[.val (.int p1), .val (.int p2), .val (.int (3 : Int32)), .val (.ref b34), .val (.ref r38), .val (.ref r39), .val (.int (1 : Int32))] [(.int p2), (.int (((p2.toUInt32 >>> ((16 : Int32) &&& 31).toUInt32).toInt32).toInt8.toInt32))])) _
      refine XS.bipush X45.here hx rfl (hb hby at_247) ?_
      show Steps p.tables e below (T45.setTop (mkF m 249 #[.val (.int p1), .val (.int p2), .val (.int (3 : Int32)), .val (.ref b34), .val (.ref r38), .val (.ref r39), .val (.int (1 : Int32))] [(.int (16 : Int32)), (.int p2), (.int (((p2.toUInt32 >>> ((16 : Int32) &&& 31).toUInt32).toInt32).toInt8.toInt32))])) _
      refine XS.iushr X45.here hx rfl (hb hby at_249) rfl ?_
      show Steps p.tables e below (T45.setTop (mkF m 250 #[.val (.int p1), .val (.int p2), .val (.int (3 : Int32)), .val (.ref b34), .val (.ref r38), .val (.ref r39), .val (.int (1 : Int32))] [(.int ((p2.toUInt32 >>> ((16 : Int32) &&& 31).toUInt32).toInt32)), (.int (((p2.toUInt32 >>> ((16 : Int32) &&& 31).toUInt32).toInt32).toInt8.toInt32))])) _
      refine XS.i2b X45.here hx rfl (hb hby at_250) rfl ?_
      show Steps p.tables e below (T45.setTop (mkF m 251 #[.val (.int p1), .val (.int p2), .val (.int (3 : Int32)), .val (.ref b34), .val (.ref r38), .val (.ref r39), .val (.int (1 : Int32))] [(.int (((p2.toUInt32 >>> ((16 : Int32) &&& 31).toUInt32).toInt32).toInt8.toInt32)), (.int (((p2.toUInt32 >>> ((16 : Int32) &&& 31).toUInt32).toInt32).toInt8.toInt32))])) _
      refine XS.icmpNo X45.here hx rfl (hb hby at_251) rfl (teq rfl).2 ?_
      show Steps p.tables e below (T45.setTop (mkF m 254 #[.val (.int p1), .val (.int p2), .val (.int (3 : Int32)), .val (.ref b34), .val (.ref r38), .val (.ref r39), .val (.int (1 : Int32))] [])) _
      refine XS.iconst X45.here hx rfl (hb hby at_254) ?_
      show Steps p.tables e below (T45.setTop (mkF m 255 #[.val (.int p1), .val (.int p2), .val (.int (3 : Int32)), .val (.ref b34), .val (.ref r38), .val (.ref r39), .val (.int (1 : Int32))] [(.int (1 : Int32))])) _
      refine XS.goto X45.here hx rfl (pc0 := 255) (pc' := 259) rfl (hb hby at_255) (by decide) (by decide) ?_
      show Steps p.tables e below (T45.setTop (mkF m 259 #[.val (.int p1), .val (.int p2), .val (.int (3 : Int32)), .val (.ref b34), .val (.ref r38), .val (.ref r39), .val (.int (1 : Int32))] [(.int (1 : Int32))])) _
      refine XS.istore X45.here hx rfl (hb hby at_259) rfl (l' := #[.val (.int p1), .val (.int p2), .val (.int (3 : Int32)), .val (.ref b34), .val (.ref r38), .val (.ref r39), .val (.int (1 : Int32))]) rfl ?_
      show Steps p.tables e below (T45.setTop (mkF m 261 #[.val (.int p1), .val (.int p2), .val (.int (3 : Int32)), .val (.ref b34), .val (.ref r38), .val (.ref r39), .val (.int (1 : Int32))] [])) _
      refine XS.iloadN X45.here hx rfl (hb hby at_261) rfl ?_
      show Steps p.tables e below (T45.setTop (mkF m 262 #[.val (.int p1), .val (.int p2), .val (.int (3 : Int32)), .val (.ref b34), .val (.ref r38), .val (.ref r39), .val (.int (1 : Int32))] [(.int (3 : Int32))])) _
      refine XS.iconst X45.here hx rfl (hb hby at_262) ?_
      show Steps p.tables e below (T45.setTop (mkF m 263 #[.val (.int p1), .val (.int p2), .val (.int (3 : Int32)), .val (.ref b34), .val (.ref r38), .val (.ref r39), .val (.int (1 : Int32))] [(.int (3 : Int32)), (.int (3 : Int32))])) _
      refine XS.icmpYes X45.here hx rfl (pc0 := 263) (pc' := 313) rfl (hb hby at_263) rfl (flt (by decide)).2.2.2 (by decide) (by decide) ?_
      show Steps p.tables e below (T45.setTop (mkF m 313 #[.val (.int p1), .val (.int p2), .val (.int (3 : Int32)), .val (.ref b34), .val (.ref r38), .val (.ref r39), .val (.int (1 : Int32))] [])) _
      refine XS.iload X45.here hx rfl (hb hby at_313) rfl ?_
      exact kt
    obtain ⟨fs, hr, hrun, hended, hW, hsame⟩ := X45.leave (v := some (.int (1 : Int32))) (fun h => by rw [Bd.returns] at h; cases h)
    refine ⟨_, _, ?_, hrun, hended, _, _, rfl, ?_, ⟨_, rfl⟩, hW, hsame.mono (by decide) (by decide)⟩
    · show Steps p.tables e below (T45.setTop (mkF m 315 #[.val (.int p1), .val (.int p2), .val (.int (3 : Int32)), .val (.ref b34), .val (.ref r38), .val (.ref r39), .val (.int (1 : Int32))] [(.int (1 : Int32))])) _
      exact retN X45 hx (t := .boolean) Bd.returns (by simp) (hb hby at_315) hr
    · show Q0 Z p1 p2 h0 n0 _ T45.heap _
      rw [e45]
      exact ⟨rfl, N45⟩
  · rw [hk]
    refine own_go (B := s₁.setTop (mkF m 8 #[.val (.int p1), .val (.int p2), .val (.int (4 : Int32)), .unset, .unset, .unset, .unset] [(.int (4 : Int32))])) (fun t kt => ?_) ?_
    · show Steps p.tables e below (s₁.setTop (mkF m 6 #[.val (.int p1), .val (.int p2), .unset, .unset, .unset, .unset, .unset] [(.int (4 : Int32))])) _
      refine XS.istoreN X0.here hx rfl (hb hby at_6) rfl (l' := #[.val (.int p1), .val (.int p2), .val (.int (4 : Int32)), .unset, .unset, .unset, .unset]) rfl ?_
      show Steps p.tables e below (s₁.setTop (mkF m 7 #[.val (.int p1), .val (.int p2), .val (.int (4 : Int32)), .unset, .unset, .unset, .unset] [])) _
      refine XS.iloadN X0.here hx rfl (hb hby at_7) rfl ?_
      exact kt
    obtain ⟨T46, h46, k46, X46, e46, E46, A46, st46⟩ := newP X0 hx hZ (hw _ (List.mem_of_getElem? (i := 0) rfl)) e0 (g := (mkF m 8 #[.val (.int p1), .val (.int p2), .val (.int (4 : Int32)), .unset, .unset, .unset, .unset] [(.int (4 : Int32))])) rfl (hb hby at_8) rfl (by decide) (cap := 4) (by decide) (by decide) (by decide) (by decide)
    obtain ⟨b46, g46⟩ : ∃ z, z = h0.size := ⟨_, rfl⟩
    rw [← g46] at A46 st46
    refine own_go (B := T46.setTop (mkF m 10 #[.val (.int p1), .val (.int p2), .val (.int (4 : Int32)), .unset, .unset, .unset, .unset] [(.ref b46)])) (fun t kt => st46 t kt) ?_
    have gb : n0 ≤ b46 := Nat.le_trans Z0 (Nat.le_of_eq g46.symm)
    have Z1 : n0 ≤ h46.size := Nat.le_trans Z0 E46.1
    have V0 : Arv Z h46 b46 k46 .byte (4 : Int32) [(.int (0 : Int32)), (.int (0 : Int32)), (.int (0 : Int32)), (.int (0 : Int32))] (.int (0 : Int32)) := (Arv.new A46 (by decide)).pad (pad_rep [] (.int (0 : Int32)) 4)
    refine own_go (B := T46.setTop (mkF m 19 #[.val (.int p1), .val (.int p2), .val (.int (4 : Int32)), .val (.ref b46), .unset, .unset, .unset] [(.int (p2.toInt8.toInt32)), (.int (0 : Int32)), (.ref b46)])) (fun t kt => ?_) ?_
    · show Steps p.tables e below (T46.setTop (mkF m 10 #[.val (.int p1), .val (.int p2), .val (.int (4 : Int32)), .unset, .unset, .unset, .unset] [(.ref b46)])) _
      refine XS.astoreN X46.here hx rfl (hb hby at_10) rfl rfl (l' := #[.val (.int p1), .val (.int p2), .val (.int (4 : Int32)), .val (.ref b46), .unset, .unset, .unset]) rfl ?_
      show Steps p.tables e below (T46.setTop (mkF m 11 #[.val (.int p1), .val (.int p2), .val (.int (4 : Int32)), .val (.ref b46), .unset, .unset, .unset] [])) _
      refine XS.iloadN X46.here hx rfl (hb hby at_11) rfl ?_
      show Steps p.tables e below (T46.setTop (mkF m 12 #[.val (.int p1), .val (.int p2), .val (.int (4 : Int32)), .val (.ref b46), .unset, .unset, .unset] [(.int (4 : Int32))])) _
      refine XS.ifNo X46.here hx rfl (hb hby at_12) rfl ((if0 _ _).trans (tlt (by decide)).2.2.2) ?_
      show Steps p.tables e below (T46.setTop (mkF m 15 #[.val (.int p1), .val (.int p2), .val (.int (4 : Int32)), .val (.ref b46), .unset, .unset, .unset] [])) _
      refine XS.aloadN X46.here hx rfl (hb hby at_15) rfl rfl ?_
      show Steps p.tables e below (T46.setTop (mkF m 16 #[.val (.int p1), .val (.int p2), .val (.int (4 : Int32)), .val (.ref b46), .unset, .unset, .unset] [(.ref b46)])) _
      refine XS.iconst X46.here hx rfl (hb hby at_16) ?_
      show Steps p.tables e below (T46.setTop (mkF m 17 #[.val (.int p1), .val (.int p2), .val (.int (4 : Int32)), .val (.ref b46), .unset, .unset, .unset] [(.int (0 : Int32)), (.ref b46)])) _
      refine XS.iloadN X46.here hx rfl (hb hby at_17) rfl ?_
      show Steps p.tables e below (T46.setTop (mkF m 18 #[.val (.int p1), .val (.int p2), .val (.int (4 : Int32)), .val (.ref b46), .unset, .unset, .unset] [(.int p2), (.int (0 : Int32)), (.ref b46)])) _
      refine XS.i2b X46.here hx rfl (hb hby at_18) rfl ?_
      exact kt
    obtain ⟨cv0, Av0, qv0, Sv0, Mv0, Hv0, Uv0⟩ := V0
    obtain ⟨T47, h47, X47, e47, W47, st47⟩ := stB X46 hx hZ e46 Av0 (j := (0 : Int32)) (inb_of Sv0 ⟨by decide, by decide⟩) (g := (mkF m 19 #[.val (.int p1), .val (.int p2), .val (.int (4 : Int32)), .val (.ref b46), .unset, .unset, .unset] [(.int (p2.toInt8.toInt32)), (.int (0 : Int32)), (.ref b46)])) rfl rfl (hb hby at_19)
    have N47 := Fr.snoc X47 N0 gb
    refine own_go (B := T47.setTop (mkF m 20 #[.val (.int p1), .val (.int p2), .val (.int (4 : Int32)), .val (.ref b46), .unset, .unset, .unset] [])) (fun t kt => st47 t kt) ?_
    rw [own_nar] at W47
    have V1 : Arv Z h47 b46 k46 .byte (4 : Int32) [(.int (p2.toInt8.toInt32)), (.int (0 : Int32)), (.int (0 : Int32)), (.int (0 : Int32))] (.int (0 : Int32)) := Arv.set Av0 qv0 Sv0 Mv0 Hv0 Uv0 (fits_nar_byte _) W47 0 rfl (Nat.le_of_ble_eq_true rfl)
    have Z2 : n0 ≤ h47.size := Nat.le_trans Z1 (Keep.of_wr W47).1
    refine own_go (B := T47.setTop (mkF m 32 #[.val (.int p1), .val (.int p2), .val (.int (4 : Int32)), .val (.ref b46), .unset, .unset, .unset] [(.int (((p2.toUInt32 >>> ((8 : Int32) &&& 31).toUInt32).toInt32).toInt8.toInt32)), (.int (1 : Int32)), (.ref b46)])) (fun t kt => ?_) ?_
    · show Steps p.tables e below (T47.setTop (mkF m 20 #[.val (.int p1), .val (.int p2), .val (.int (4 : Int32)), .val (.ref b46), .unset, .unset, .unset] [])) _
      refine XS.iloadN X47.here hx rfl (hb hby at_20) rfl ?_
      show Steps p.tables e below (T47.setTop (mkF m 21 #[.val (.int p1), .val (.int p2), .val (.int (4 : Int32)), .val (.ref b46), .unset, .unset, .unset] [(.int (4 : Int32))])) _
      refine XS.iconst X47.here hx rfl (hb hby at_21) ?_
      show Steps p.tables e below (T47.setTop (mkF m 22 #[.val (.int p1), .val (.int p2), .val (.int (4 : Int32)), .val (.ref b46), .unset, .unset, .unset] [(.int (1 : Int32)), (.int (4 : Int32))])) _
      refine XS.icmpNo X47.here hx rfl (hb hby at_22) rfl (tlt (by decide)).2.2.2 ?_
      show Steps p.tables e below (T47.setTop (mkF m 25 #[.val (.int p1), .val (.int p2), .val (.int (4 : Int32)), .val (.ref b46), .unset, .unset, .unset] [])) _
      refine XS.aloadN X47.here hx rfl (hb hby at_25) rfl rfl ?_
      show Steps p.tables e below (T47.setTop (mkF m 26 #[.val (.int p1), .val (.int p2), .val (.int (4 : Int32)), .val (.ref b46), .unset, .unset, .unset] [(.ref b46)])) _
      refine XS.iconst X47.here hx rfl (hb hby at_26) ?_
      show Steps p.tables e below (T47.setTop (mkF m 27 #[.val (.int p1), .val (.int p2), .val (.int (4 : Int32)), .val (.ref b46), .unset, .unset, .unset] [(.int (1 : Int32)), (.ref b46)])) _
      refine XS.iloadN X47.here hx rfl (hb hby at_27) rfl ?_
      show Steps p.tables e below (T47.setTop (mkF m 28 #[.val (.int p1), .val (.int p2), .val (.int (4 : Int32)), .val (.ref b46), .unset, .unset, .unset] [(.int p2), (.int (1 : Int32)), (.ref b46)])) _
      refine XS.bipush X47.here hx rfl (hb hby at_28) ?_
      show Steps p.tables e below (T47.setTop (mkF m 30 #[.val (.int p1), .val (.int p2), .val (.int (4 : Int32)), .val (.ref b46), .unset, .unset, .unset] [(.int (8 : Int32)), (.int p2), (.int (1 : Int32)), (.ref b46)])) _
      refine XS.iushr X47.here hx rfl (hb hby at_30) rfl ?_
      show Steps p.tables e below (T47.setTop (mkF m 31 #[.val (.int p1), .val (.int p2), .val (.int (4 : Int32)), .val (.ref b46), .unset, .unset, .unset] [(.int ((p2.toUInt32 >>> ((8 : Int32) &&& 31).toUInt32).toInt32)), (.int (1 : Int32)), (.ref b46)])) _
      refine XS.i2b X47.here hx rfl (hb hby at_31) rfl ?_
      exact kt
    obtain ⟨cv1, Av1, qv1, Sv1, Mv1, Hv1, Uv1⟩ := V1
    obtain ⟨T48, h48, X48, e48, W48, st48⟩ := stB X47 hx hZ e47 Av1 (j := (1 : Int32)) (inb_of Sv1 ⟨by decide, by decide⟩) (g := (mkF m 32 #[.val (.int p1), .val (.int p2), .val (.int (4 : Int32)), .val (.ref b46), .unset, .unset, .unset] [(.int (((p2.toUInt32 >>> ((8 : Int32) &&& 31).toUInt32).toInt32).toInt8.toInt32)), (.int (1 : Int32)), (.ref b46)])) rfl rfl (hb hby at_32)
    have N48 := Fr.snoc X48 N47 gb
    refine own_go (B := T48.setTop (mkF m 33 #[.val (.int p1), .val (.int p2), .val (.int (4 : Int32)), .val (.ref b46), .unset, .unset, .unset] [])) (fun t kt => st48 t kt) ?_
    rw [own_nar] at W48
    have V2 : Arv Z h48 b46 k46 .byte (4 : Int32) [(.int (p2.toInt8.toInt32)), (.int (((p2.toUInt32 >>> ((8 : Int32) &&& 31).toUInt32).toInt32).toInt8.toInt32)), (.int (0 : Int32)), (.int (0 : Int32))] (.int (0 : Int32)) := Arv.set Av1 qv1 Sv1 Mv1 Hv1 Uv1 (fits_nar_byte _) W48 1 rfl (Nat.le_of_ble_eq_true rfl)
    have Z3 : n0 ≤ h48.size := Nat.le_trans Z2 (Keep.of_wr W48).1
    refine own_go (B := T48.setTop (mkF m 45 #[.val (.int p1), .val (.int p2), .val (.int (4 : Int32)), .val (.ref b46), .unset, .unset, .unset] [(.int (((p2.toUInt32 >>> ((16 : Int32) &&& 31).toUInt32).toInt32).toInt8.toInt32)), (.int (2 : Int32)), (.ref b46)])) (fun t kt => ?_) ?_
    · show Steps p.tables e below (T48.setTop (mkF m 33 #[.val (.int p1), .val (.int p2), .val (.int (4 : Int32)), .val (.ref b46), .unset, .unset, .unset] [])) _
      refine XS.iloadN X48.here hx rfl (hb hby at_33) rfl ?_
      show Steps p.tables e below (T48.setTop (mkF m 34 #[.val (.int p1), .val (.int p2), .val (.int (4 : Int32)), .val (.ref b46), .unset, .unset, .unset] [(.int (4 : Int32))])) _
      refine XS.iconst X48.here hx rfl (hb hby at_34) ?_
      show Steps p.tables e below (T48.setTop (mkF m 35 #[.val (.int p1), .val (.int p2), .val (.int (4 : Int32)), .val (.ref b46), .unset, .unset, .unset] [(.int (2 : Int32)), (.int (4 : Int32))])) _
      refine XS.icmpNo X48.here hx rfl (hb hby at_35) rfl (tlt (by decide)).2.2.2 ?_
      show Steps p.tables e below (T48.setTop (mkF m 38 #[.val (.int p1), .val (.int p2), .val (.int (4 : Int32)), .val (.ref b46), .unset, .unset, .unset] [])) _
      refine XS.aloadN X48.here hx rfl (hb hby at_38) rfl rfl ?_
      show Steps p.tables e below (T48.setTop (mkF m 39 #[.val (.int p1), .val (.int p2), .val (.int (4 : Int32)), .val (.ref b46), .unset, .unset, .unset] [(.ref b46)])) _
      refine XS.iconst X48.here hx rfl (hb hby at_39) ?_
      show Steps p.tables e below (T48.setTop (mkF m 40 #[.val (.int p1), .val (.int p2), .val (.int (4 : Int32)), .val (.ref b46), .unset, .unset, .unset] [(.int (2 : Int32)), (.ref b46)])) _
      refine XS.iloadN X48.here hx rfl (hb hby at_40) rfl ?_
      show Steps p.tables e below (T48.setTop (mkF m 41 #[.val (.int p1), .val (.int p2), .val (.int (4 : Int32)), .val (.ref b46), .unset, .unset, .unset] [(.int p2), (.int (2 : Int32)), (.ref b46)])) _
      refine XS.bipush X48.here hx rfl (hb hby at_41) ?_
      show Steps p.tables e below (T48.setTop (mkF m 43 #[.val (.int p1), .val (.int p2), .val (.int (4 : Int32)), .val (.ref b46), .unset, .unset, .unset] [(.int (16 : Int32)), (.int p2), (.int (2 : Int32)), (.ref b46)])) _
      refine XS.iushr X48.here hx rfl (hb hby at_43) rfl ?_
      show Steps p.tables e below (T48.setTop (mkF m 44 #[.val (.int p1), .val (.int p2), .val (.int (4 : Int32)), .val (.ref b46), .unset, .unset, .unset] [(.int ((p2.toUInt32 >>> ((16 : Int32) &&& 31).toUInt32).toInt32)), (.int (2 : Int32)), (.ref b46)])) _
      refine XS.i2b X48.here hx rfl (hb hby at_44) rfl ?_
      exact kt
    obtain ⟨cv2, Av2, qv2, Sv2, Mv2, Hv2, Uv2⟩ := V2
    obtain ⟨T49, h49, X49, e49, W49, st49⟩ := stB X48 hx hZ e48 Av2 (j := (2 : Int32)) (inb_of Sv2 ⟨by decide, by decide⟩) (g := (mkF m 45 #[.val (.int p1), .val (.int p2), .val (.int (4 : Int32)), .val (.ref b46), .unset, .unset, .unset] [(.int (((p2.toUInt32 >>> ((16 : Int32) &&& 31).toUInt32).toInt32).toInt8.toInt32)), (.int (2 : Int32)), (.ref b46)])) rfl rfl (hb hby at_45)
    have N49 := Fr.snoc X49 N48 gb
    refine own_go (B := T49.setTop (mkF m 46 #[.val (.int p1), .val (.int p2), .val (.int (4 : Int32)), .val (.ref b46), .unset, .unset, .unset] [])) (fun t kt => st49 t kt) ?_
    rw [own_nar] at W49
    have V3 : Arv Z h49 b46 k46 .byte (4 : Int32) [(.int (p2.toInt8.toInt32)), (.int (((p2.toUInt32 >>> ((8 : Int32) &&& 31).toUInt32).toInt32).toInt8.toInt32)), (.int (((p2.toUInt32 >>> ((16 : Int32) &&& 31).toUInt32).toInt32).toInt8.toInt32)), (.int (0 : Int32))] (.int (0 : Int32)) := Arv.set Av2 qv2 Sv2 Mv2 Hv2 Uv2 (fits_nar_byte _) W49 2 rfl (Nat.le_of_ble_eq_true rfl)
    have Z4 : n0 ≤ h49.size := Nat.le_trans Z3 (Keep.of_wr W49).1
    refine own_go (B := T49.setTop (mkF m 58 #[.val (.int p1), .val (.int p2), .val (.int (4 : Int32)), .val (.ref b46), .unset, .unset, .unset] [(.int (((p2.toUInt32 >>> ((24 : Int32) &&& 31).toUInt32).toInt32).toInt8.toInt32)), (.int (3 : Int32)), (.ref b46)])) (fun t kt => ?_) ?_
    · show Steps p.tables e below (T49.setTop (mkF m 46 #[.val (.int p1), .val (.int p2), .val (.int (4 : Int32)), .val (.ref b46), .unset, .unset, .unset] [])) _
      refine XS.iloadN X49.here hx rfl (hb hby at_46) rfl ?_
      show Steps p.tables e below (T49.setTop (mkF m 47 #[.val (.int p1), .val (.int p2), .val (.int (4 : Int32)), .val (.ref b46), .unset, .unset, .unset] [(.int (4 : Int32))])) _
      refine XS.iconst X49.here hx rfl (hb hby at_47) ?_
      show Steps p.tables e below (T49.setTop (mkF m 48 #[.val (.int p1), .val (.int p2), .val (.int (4 : Int32)), .val (.ref b46), .unset, .unset, .unset] [(.int (3 : Int32)), (.int (4 : Int32))])) _
      refine XS.icmpNo X49.here hx rfl (hb hby at_48) rfl (tlt (by decide)).2.2.2 ?_
      show Steps p.tables e below (T49.setTop (mkF m 51 #[.val (.int p1), .val (.int p2), .val (.int (4 : Int32)), .val (.ref b46), .unset, .unset, .unset] [])) _
      refine XS.aloadN X49.here hx rfl (hb hby at_51) rfl rfl ?_
      show Steps p.tables e below (T49.setTop (mkF m 52 #[.val (.int p1), .val (.int p2), .val (.int (4 : Int32)), .val (.ref b46), .unset, .unset, .unset] [(.ref b46)])) _
      refine XS.iconst X49.here hx rfl (hb hby at_52) ?_
      show Steps p.tables e below (T49.setTop (mkF m 53 #[.val (.int p1), .val (.int p2), .val (.int (4 : Int32)), .val (.ref b46), .unset, .unset, .unset] [(.int (3 : Int32)), (.ref b46)])) _
      refine XS.iloadN X49.here hx rfl (hb hby at_53) rfl ?_
      show Steps p.tables e below (T49.setTop (mkF m 54 #[.val (.int p1), .val (.int p2), .val (.int (4 : Int32)), .val (.ref b46), .unset, .unset, .unset] [(.int p2), (.int (3 : Int32)), (.ref b46)])) _
      refine XS.bipush X49.here hx rfl (hb hby at_54) ?_
      show Steps p.tables e below (T49.setTop (mkF m 56 #[.val (.int p1), .val (.int p2), .val (.int (4 : Int32)), .val (.ref b46), .unset, .unset, .unset] [(.int (24 : Int32)), (.int p2), (.int (3 : Int32)), (.ref b46)])) _
      refine XS.iushr X49.here hx rfl (hb hby at_56) rfl ?_
      show Steps p.tables e below (T49.setTop (mkF m 57 #[.val (.int p1), .val (.int p2), .val (.int (4 : Int32)), .val (.ref b46), .unset, .unset, .unset] [(.int ((p2.toUInt32 >>> ((24 : Int32) &&& 31).toUInt32).toInt32)), (.int (3 : Int32)), (.ref b46)])) _
      refine XS.i2b X49.here hx rfl (hb hby at_57) rfl ?_
      exact kt
    obtain ⟨cv3, Av3, qv3, Sv3, Mv3, Hv3, Uv3⟩ := V3
    obtain ⟨T50, h50, X50, e50, W50, st50⟩ := stB X49 hx hZ e49 Av3 (j := (3 : Int32)) (inb_of Sv3 ⟨by decide, by decide⟩) (g := (mkF m 58 #[.val (.int p1), .val (.int p2), .val (.int (4 : Int32)), .val (.ref b46), .unset, .unset, .unset] [(.int (((p2.toUInt32 >>> ((24 : Int32) &&& 31).toUInt32).toInt32).toInt8.toInt32)), (.int (3 : Int32)), (.ref b46)])) rfl rfl (hb hby at_58)
    have N50 := Fr.snoc X50 N49 gb
    refine own_go (B := T50.setTop (mkF m 59 #[.val (.int p1), .val (.int p2), .val (.int (4 : Int32)), .val (.ref b46), .unset, .unset, .unset] [])) (fun t kt => st50 t kt) ?_
    rw [own_nar] at W50
    have V4 : Arv Z h50 b46 k46 .byte (4 : Int32) [(.int (p2.toInt8.toInt32)), (.int (((p2.toUInt32 >>> ((8 : Int32) &&& 31).toUInt32).toInt32).toInt8.toInt32)), (.int (((p2.toUInt32 >>> ((16 : Int32) &&& 31).toUInt32).toInt32).toInt8.toInt32)), (.int (((p2.toUInt32 >>> ((24 : Int32) &&& 31).toUInt32).toInt32).toInt8.toInt32))] (.int (0 : Int32)) := Arv.set Av3 qv3 Sv3 Mv3 Hv3 Uv3 (fits_nar_byte _) W50 3 rfl (Nat.le_of_ble_eq_true rfl)
    have Z5 : n0 ≤ h50.size := Nat.le_trans Z4 (Keep.of_wr W50).1
    refine own_go (B := T50.setTop (mkF m 60 #[.val (.int p1), .val (.int p2), .val (.int (4 : Int32)), .val (.ref b46), .unset, .unset, .unset] [(.ref b46)])) (fun t kt => ?_) ?_
    · show Steps p.tables e below (T50.setTop (mkF m 59 #[.val (.int p1), .val (.int p2), .val (.int (4 : Int32)), .val (.ref b46), .unset, .unset, .unset] [])) _
      refine XS.aloadN X50.here hx rfl (hb hby at_59) rfl rfl ?_
      exact kt
    obtain ⟨_, _, ⟨T51, L51, k51, n51⟩, -, X51, ⟨Lc51, hQ51, l51, y51, z51⟩, st51⟩ := Jvm.LawKit.callS X50 hx (y := (⟨"needlemark/CompiledPattern", "symbols", "([B)[I"⟩ : MethodName)) hown (mvT hZ (hw _ (List.mem_of_getElem? (i := 1) rfl))) (mvT hZ (hw _ (List.mem_of_getElem? (i := 2) rfl))) (mvT hZ (hw _ (List.mem_of_getElem? (i := 3) rfl))) (mvT hZ (hw _ (List.mem_of_getElem? (i := 4) rfl))) (by decide) (backOf (W := 0) (rm1_4 l Z a0 hw [] b46 k46 (p2.toInt8.toInt32) (((p2.toUInt32 >>> ((8 : Int32) &&& 31).toUInt32).toInt32).toInt8.toInt32) (((p2.toUInt32 >>> ((16 : Int32) &&& 31).toUInt32).toInt32).toInt8.toInt32) (((p2.toUInt32 >>> ((24 : Int32) &&& 31).toUInt32).toInt32).toInt8.toInt32) h50 n0 Z5 V4) hZ (hw _ (List.mem_of_getElem? (i := 4) rfl)) (hw _ (List.mem_of_getElem? (i := 3) rfl)) (by decide) (by decide)) (g := (mkF m 60 #[.val (.int p1), .val (.int p2), .val (.int (4 : Int32)), .val (.ref b46), .unset, .unset, .unset] [(.ref b46)])) rfl (by rw [hml]; rfl) (argsL := [(.ref b46)]) (rest := []) (lenOf pd_0 rfl) rfl (by show 2 * 0 + _ ≤ _; exact Nat.le_of_eq rfl) (hb hby at_60) (fun _ _ => ⟨rfl, e50, (by decide : (0 + 1) + 1 ≤ _), (by decide : (0 + 4) + 4 ≤ _)⟩)
    dsimp only [Pt.U, Pt.locs, Pt.cells, Pt.slots] at X51 l51 y51 z51 st51 hQ51
    subst l51 y51 z51
    obtain ⟨r51, kr51, rfl, N51q, K51, G51, V51⟩ := hQ51
    have N51 := Fr.app N50 N51q
    refine own_go (B := T51.setTop (mkF m 63 #[.val (.int p1), .val (.int p2), .val (.int (4 : Int32)), .val (.ref b46), .unset, .unset, .unset] [(.ref r51)])) (fun t kt => st51 t kt) ?_
    have Zb : n0 ≤ T51.heap.size := Nat.le_trans Z5 K51.1
    have Vb := V4.keep K51 nin0
    have Lr := V51.lt
    refine own_go (B := T51.setTop (mkF m 66 #[.val (.int p1), .val (.int p2), .val (.int (4 : Int32)), .val (.ref b46), .val (.ref r51), .unset, .unset] [(.ref b46)])) (fun t kt => ?_) ?_
    · show Steps p.tables e below (T51.setTop (mkF m 63 #[.val (.int p1), .val (.int p2), .val (.int (4 : Int32)), .val (.ref b46), .unset, .unset, .unset] [(.ref r51)])) _
      refine XS.astore X51.here hx rfl (hb hby at_63) rfl rfl (l' := #[.val (.int p1), .val (.int p2), .val (.int (4 : Int32)), .val (.ref b46), .val (.ref r51), .unset, .unset]) rfl ?_
      show Steps p.tables e below (T51.setTop (mkF m 65 #[.val (.int p1), .val (.int p2), .val (.int (4 : Int32)), .val (.ref b46), .val (.ref r51), .unset, .unset] [])) _
      refine XS.aloadN X51.here hx rfl (hb hby at_65) rfl rfl ?_
      exact kt
    obtain ⟨_, _, ⟨T52, L52, k52, n52⟩, -, X52, ⟨Lc52, hQ52, l52, y52, z52⟩, st52⟩ := Jvm.LawKit.callS X51 hx (y := (⟨"needlemark/CompiledPattern", "symbols", "([B)[I"⟩ : MethodName)) hown (mvT hZ (hw _ (List.mem_of_getElem? (i := 1) rfl))) (mvT hZ (hw _ (List.mem_of_getElem? (i := 2) rfl))) (mvT hZ (hw _ (List.mem_of_getElem? (i := 3) rfl))) (mvT hZ (hw _ (List.mem_of_getElem? (i := 4) rfl))) (by decide) (backOf (W := 0) (rm1_4 l Z a0 hw [] b46 k46 (p2.toInt8.toInt32) (((p2.toUInt32 >>> ((8 : Int32) &&& 31).toUInt32).toInt32).toInt8.toInt32) (((p2.toUInt32 >>> ((16 : Int32) &&& 31).toUInt32).toInt32).toInt8.toInt32) (((p2.toUInt32 >>> ((24 : Int32) &&& 31).toUInt32).toInt32).toInt8.toInt32) T51.heap n0 Zb Vb) hZ (hw _ (List.mem_of_getElem? (i := 4) rfl)) (hw _ (List.mem_of_getElem? (i := 3) rfl)) (by decide) (by decide)) (g := (mkF m 66 #[.val (.int p1), .val (.int p2), .val (.int (4 : Int32)), .val (.ref b46), .val (.ref r51), .unset, .unset] [(.ref b46)])) rfl (by rw [hml]; rfl) (argsL := [(.ref b46)]) (rest := []) (lenOf pd_0 rfl) rfl (by show 2 * 0 + _ ≤ _; exact Nat.le_of_eq rfl) (hb hby at_66) (fun _ _ => ⟨rfl, rfl, (by decide : ((0 + 1) + 1) + 1 ≤ _), (by decide : ((0 + 4) + 4) + 4 ≤ _)⟩)
    dsimp only [Pt.U, Pt.locs, Pt.cells, Pt.slots] at X52 l52 y52 z52 st52 hQ52
    subst l52 y52 z52
    obtain ⟨r52, kr52, rfl, N52q, K52, G52, V52⟩ := hQ52
    have N52 := Fr.app N51 N52q
    refine own_go (B := T52.setTop (mkF m 69 #[.val (.int p1), .val (.int p2), .val (.int (4 : Int32)), .val (.ref b46), .val (.ref r51), .unset, .unset] [(.ref r52)])) (fun t kt => st52 t kt) ?_
    have Zc : n0 ≤ T52.heap.size := Nat.le_trans Zb K52.1
    have Vb' := Vb.keep K52 nin0
    have Vr' := V51.keep K52 nin0
    have hne : r51 ≠ r52 := Nat.ne_of_lt (Nat.lt_of_lt_of_le Lr G52)
    obtain ⟨hf, ehf⟩ : ∃ z : Heap, z = T52.heap := ⟨_, rfl⟩
    rw [← ehf] at Zc Vb' Vr' V52
    obtain ⟨cb, Ab, -, Sb, Mb, Hb, -⟩ := Vb'
    obtain ⟨cr, Ar, -, Sr, Mr, Hr, -⟩ := Vr'
    obtain ⟨cs, As, -, Ss, Ms, Hs, -⟩ := V52
    refine own_go (B := T52.setTop (mkF m 124 #[.val (.int p1), .val (.int p2), .val (.int (4 : Int32)), .val (.ref b46), .val (.ref r51), .val (.ref r52), .val (.int (1 : Int32))] [(.int (0 : Int32)), (.int p2), (.int (p2.toInt8.toInt32))])) (fun t kt => ?_) ?_
    · show Steps p.tables e below (T52.setTop (mkF m 69 #[.val (.int p1), .val (.int p2), .val (.int (4 : Int32)), .val (.ref b46), .val (.ref r51), .unset, .unset] [(.ref r52)])) _
      refine XS.astore X52.here hx rfl (hb hby at_69) rfl rfl (l' := #[.val (.int p1), .val (.int p2), .val (.int (4 : Int32)), .val (.ref b46), .val (.ref r51), .val (.ref r52), .unset]) rfl ?_
      show Steps p.tables e below (T52.setTop (mkF m 71 #[.val (.int p1), .val (.int p2), .val (.int (4 : Int32)), .val (.ref b46), .val (.ref r51), .val (.ref r52), .unset] [])) _
      refine XS.aload X52.here hx rfl (hb hby at_71) rfl rfl ?_
      show Steps p.tables e below (T52.setTop (mkF m 73 #[.val (.int p1), .val (.int p2), .val (.int (4 : Int32)), .val (.ref b46), .val (.ref r51), .val (.ref r52), .unset] [(.ref r51)])) _
      refine XS.ifnullNo X52.here hx rfl (hb hby at_73) rfl ?_
      show Steps p.tables e below (T52.setTop (mkF m 76 #[.val (.int p1), .val (.int p2), .val (.int (4 : Int32)), .val (.ref b46), .val (.ref r51), .val (.ref r52), .unset] [])) _
      refine XS.aload X52.here hx rfl (hb hby at_76) rfl rfl ?_
      show Steps p.tables e below (T52.setTop (mkF m 78 #[.val (.int p1), .val (.int p2), .val (.int (4 : Int32)), .val (.ref b46), .val (.ref r51), .val (.ref r52), .unset] [(.ref r52)])) _
      refine XS.ifnullNo X52.here hx rfl (hb hby at_78) rfl ?_
      show Steps p.tables e below (T52.setTop (mkF m 81 #[.val (.int p1), .val (.int p2), .val (.int (4 : Int32)), .val (.ref b46), .val (.ref r51), .val (.ref r52), .unset] [])) _
      refine XS.aload X52.here hx rfl (hb hby at_81) rfl rfl ?_
      show Steps p.tables e below (T52.setTop (mkF m 83 #[.val (.int p1), .val (.int p2), .val (.int (4 : Int32)), .val (.ref b46), .val (.ref r51), .val (.ref r52), .unset] [(.ref r51)])) _
      refine XS.aload X52.here hx rfl (hb hby at_83) rfl rfl ?_
      show Steps p.tables e below (T52.setTop (mkF m 85 #[.val (.int p1), .val (.int p2), .val (.int (4 : Int32)), .val (.ref b46), .val (.ref r51), .val (.ref r52), .unset] [(.ref r52), (.ref r51)])) _
      refine Jvm.RoadKit.acmp (g := (mkF m 85 #[.val (.int p1), .val (.int p2), .val (.int (4 : Int32)), .val (.ref b46), .val (.ref r51), .val (.ref r52), .unset] [(.ref r52), (.ref r51)])) X52 hx rfl rfl rfl (pc0 := 85) (pc' := 90) (same := false) rfl (hb hby at_85) rfl (decide_eq_false fun q => hne (Value.ref.inj q)) (by decide) (by decide) ?_
      show Steps p.tables e below (T52.setTop (mkF m 90 #[.val (.int p1), .val (.int p2), .val (.int (4 : Int32)), .val (.ref b46), .val (.ref r51), .val (.ref r52), .unset] [])) _
      refine XS.aload X52.here hx rfl (hb hby at_90) rfl rfl ?_
      show Steps p.tables e below (T52.setTop (mkF m 92 #[.val (.int p1), .val (.int p2), .val (.int (4 : Int32)), .val (.ref b46), .val (.ref r51), .val (.ref r52), .unset] [(.ref r51)])) _
      refine X52.arraylength hx (cell := cr) (by rw [ehf.symm]; exact Ar.1) (State.isArrayOf_alike hZ.alike Ar.2.1) (g := (mkF m 92 #[.val (.int p1), .val (.int p2), .val (.int (4 : Int32)), .val (.ref b46), .val (.ref r51), .val (.ref r52), .unset] [(.ref r51)])) rfl rfl (hb hby at_92) _ ?_
      rw [len_of Sr Mr]
      show Steps p.tables e below (T52.setTop (mkF m 93 #[.val (.int p1), .val (.int p2), .val (.int (4 : Int32)), .val (.ref b46), .val (.ref r51), .val (.ref r52), .unset] [(.int (4 : Int32))])) _
      refine XS.iloadN X52.here hx rfl (hb hby at_93) rfl ?_
      show Steps p.tables e below (T52.setTop (mkF m 94 #[.val (.int p1), .val (.int p2), .val (.int (4 : Int32)), .val (.ref b46), .val (.ref r51), .val (.ref r52), .unset] [(.int (4 : Int32)), (.int (4 : Int32))])) _
      refine XS.icmpNo X52.here hx rfl (hb hby at_94) rfl (teq rfl).2 ?_
      show Steps p.tables e below (T52.setTop (mkF m 97 #[.val (.int p1), .val (.int p2), .val (.int (4 : Int32)), .val (.ref b46), .val (.ref r51), .val (.ref r52), .unset] [])) _
      refine XS.aload X52.here hx rfl (hb hby at_97) rfl rfl ?_
      show Steps p.tables e below (T52.setTop (mkF m 99 #[.val (.int p1), .val (.int p2), .val (.int (4 : Int32)), .val (.ref b46), .val (.ref r51), .val (.ref r52), .unset] [(.ref r52)])) _
      refine X52.arraylength hx (cell := cs) (by rw [ehf.symm]; exact As.1) (State.isArrayOf_alike hZ.alike As.2.1) (g := (mkF m 99 #[.val (.int p1), .val (.int p2), .val (.int (4 : Int32)), .val (.ref b46), .val (.ref r51), .val (.ref r52), .unset] [(.ref r52)])) rfl rfl (hb hby at_99) _ ?_
      rw [len_of Ss Ms]
      show Steps p.tables e below (T52.setTop (mkF m 100 #[.val (.int p1), .val (.int p2), .val (.int (4 : Int32)), .val (.ref b46), .val (.ref r51), .val (.ref r52), .unset] [(.int (4 : Int32))])) _
      refine XS.iloadN X52.here hx rfl (hb hby at_100) rfl ?_
      show Steps p.tables e below (T52.setTop (mkF m 101 #[.val (.int p1), .val (.int p2), .val (.int (4 : Int32)), .val (.ref b46), .val (.ref r51), .val (.ref r52), .unset] [(.int (4 : Int32)), (.int (4 : Int32))])) _
      refine XS.icmpYes X52.here hx rfl (pc0 := 101) (pc' := 106) rfl (hb hby at_101) rfl (teq rfl).1 (by decide) (by decide) ?_
      show Steps p.tables e below (T52.setTop (mkF m 106 #[.val (.int p1), .val (.int p2), .val (.int (4 : Int32)), .val (.ref b46), .val (.ref r51), .val (.ref r52), .unset] [])) _
      refine XS.iconst X52.here hx rfl (hb hby at_106) ?_
      show Steps p.tables e below (T52.setTop (mkF m 107 #[.val (.int p1), .val (.int p2), .val (.int (4 : Int32)), .val (.ref b46), .val (.ref r51), .val (.ref r52), .unset] [(.int (1 : Int32))])) _
      refine XS.istore X52.here hx rfl (hb hby at_107) rfl (l' := #[.val (.int p1), .val (.int p2), .val (.int (4 : Int32)), .val (.ref b46), .val (.ref r51), .val (.ref r52), .val (.int (1 : Int32))]) rfl ?_
      show Steps p.tables e below (T52.setTop (mkF m 109 #[.val (.int p1), .val (.int p2), .val (.int (4 : Int32)), .val (.ref b46), .val (.ref r51), .val (.ref r52), .val (.int (1 : Int32))] [])) _
      refine XS.iloadN X52.here hx rfl (hb hby at_109) rfl ?_
      show Steps p.tables e below (T52.setTop (mkF m 110 #[.val (.int p1), .val (.int p2), .val (.int (4 : Int32)), .val (.ref b46), .val (.ref r51), .val (.ref r52), .val (.int (1 : Int32))] [(.int (4 : Int32))])) _
      refine XS.ifNo X52.here hx rfl (hb hby at_110) rfl ((if0 _ _).trans (tlt (by decide)).2.2.2) ?_
      show Steps p.tables e below (T52.setTop (mkF m 113 #[.val (.int p1), .val (.int p2), .val (.int (4 : Int32)), .val (.ref b46), .val (.ref r51), .val (.ref r52), .val (.int (1 : Int32))] [])) _
      refine XS.iload X52.here hx rfl (hb hby at_113) rfl ?_
      show Steps p.tables e below (T52.setTop (mkF m 115 #[.val (.int p1), .val (.int p2), .val (.int (4 : Int32)), .val (.ref b46), .val (.ref r51), .val (.ref r52), .val (.int (1 : Int32))] [(.int (1 : Int32))])) _
      refine XS.ifNo X52.here hx rfl (hb hby at_115) rfl ((if0 _ _).trans (feq (by decide)).1) ?_
      show Steps p.tables e below (T52.setTop (mkF m 118 #[.val (.int p1), .val (.int p2), .val (.int (4 : Int32)), .val (.ref b46), .val (.ref r51), .val (.ref r52), .val (.int (1 : Int32))] [])) _
      refine XS.aload X52.here hx rfl (hb hby at_118) rfl rfl ?_
      show Steps p.tables e below (T52.setTop (mkF m 120 #[.val (.int p1), .val (.int p2), .val (.int (4 : Int32)), .val (.ref b46), .val (.ref r51), .val (.ref r52), .val (.int (1 : Int32))] [(.ref r51)])) _
      refine XS.iconst X52.here hx rfl (hb hby at_120) ?_
      show Steps p.tables e below (T52.setTop (mkF m 121 #[.val (.int p1), .val (.int p2), .val (.int (4 : Int32)), .val (.ref b46), .val (.ref r51), .val (.ref r52), .val (.int (1 : Int32))] [(.int (0 : Int32)), (.ref r51)])) _
      refine X52.iaload hx (j := (0 : Int32)) (v := (.int (p2.toInt8.toInt32))) (by rw [ehf.symm]; exact Ar.1) (State.isArrayOf_alike hZ.alike Ar.2.1) Ar.2.2 (inb_of Sr ⟨by decide, by decide⟩) (Hr.at (inb_of Sr ⟨by decide, by decide⟩) rfl) (g := (mkF m 121 #[.val (.int p1), .val (.int p2), .val (.int (4 : Int32)), .val (.ref b46), .val (.ref r51), .val (.ref r52), .val (.int (1 : Int32))] [(.int (0 : Int32)), (.ref r51)])) rfl rfl (hb hby at_121) _ ?_
      show Steps p.tables e below (T52.setTop (mkF m 122 #[.val (.int p1), .val (.int p2), .val (.int (4 : Int32)), .val (.ref b46), .val (.ref r51), .val (.ref r52), .val (.int (1 : Int32))] [(.int (p2.toInt8.toInt32))])) _
      refine XS.iloadN X52.here hx rfl (hb hby at_122) rfl ?_
      show Steps p.tables e below (T52.setTop (mkF m 123 #[.val (.int p1), .val (.int p2), .val (.int (4 : Int32)), .val (.ref b46), .val (.ref r51), .val (.ref r52), .val (.int (1 : Int32))] [(.int p2), (.int (p2.toInt8.toInt32))])) _
      refine XS.iconst X52.here hx rfl (hb hby at_123) ?_
      exact kt
    obtain ⟨_, _, ⟨T53, L53, k53, n53⟩, -, X53, ⟨Lc53, hQ53, l53, y53, z53⟩, st53⟩ := Jvm.LawKit.callS X52 hx (y := (⟨"needlemark/CompiledPatternSymbolsPinLaw", "expected", "(II)I"⟩ : MethodName)) hown (mvT hZ (hw _ (List.mem_of_getElem? (i := 6) rfl))) (mvT hZ (hw _ (List.mem_of_getElem? (i := 7) rfl))) (mvT hZ (hw _ (List.mem_of_getElem? (i := 8) rfl))) (mvT hZ (hw _ (List.mem_of_getElem? (i := 9) rfl))) (by decide) (backOf (W := 1) (rm2 l Z a0 hw [] p2 (0 : Int32) hf n0 Zc) hZ (hw _ (List.mem_of_getElem? (i := 9) rfl)) (hw _ (List.mem_of_getElem? (i := 8) rfl)) (by decide) (by decide)) (g := (mkF m 124 #[.val (.int p1), .val (.int p2), .val (.int (4 : Int32)), .val (.ref b46), .val (.ref r51), .val (.ref r52), .val (.int (1 : Int32))] [(.int (0 : Int32)), (.int p2), (.int (p2.toInt8.toInt32))])) rfl (by rw [hml]; rfl) (argsL := [(.int p2), (.int (0 : Int32))]) (rest := [(.int (p2.toInt8.toInt32))]) (lenOf pd_1 rfl) rfl (by show 2 * 0 + _ ≤ _; exact Nat.le_of_eq rfl) (hb hby at_124) (fun _ _ => ⟨rfl, ehf.symm, (by decide : (((0 + 1) + 1) + 1) + 0 ≤ _), (by decide : (((0 + 4) + 4) + 4) + 0 ≤ _)⟩)
    dsimp only [Pt.U, Pt.locs, Pt.cells, Pt.slots] at X53 l53 y53 z53 st53 hQ53
    subst l53 y53 z53
    obtain ⟨rfl, N53q, e53⟩ := hQ53
    have N53 := Fr.app N52 N53q
    refine own_go (B := T53.setTop (mkF m 127 #[.val (.int p1), .val (.int p2), .val (.int (4 : Int32)), .val (.ref b46), .val (.ref r51), .val (.ref r52), .val (.int (1 : Int32))] [(.int (own_e p2 (0 : Int32))), (.int (p2.toInt8.toInt32))])) (fun t kt => st53 t kt) ?_
    refine own_go (B := T53.setTop (mkF m 136 #[.val (.int p1), .val (.int p2), .val (.int (4 : Int32)), .val (.ref b46), .val (.ref r51), .val (.ref r52), .val (.int (1 : Int32))] [(.int (0 : Int32)), (.int p2), (.int (p2.toInt8.toInt32))])) (fun t kt => ?_) ?_
    · show Steps p.tables e below (T53.setTop (mkF m 127 #[.val (.int p1), .val (.int p2), .val (.int (4 : Int32)), .val (.ref b46), .val (.ref r51), .val (.ref r52), .val (.int (1 : Int32))] [(.int (own_e p2 (0 : Int32))), (.int (p2.toInt8.toInt32))])) _
      refine XS.icmpNo X53.here hx rfl (hb hby at_127) rfl (teq (own_e0 p2)).2 ?_
      show Steps p.tables e below (T53.setTop (mkF m 130 #[.val (.int p1), .val (.int p2), .val (.int (4 : Int32)), .val (.ref b46), .val (.ref r51), .val (.ref r52), .val (.int (1 : Int32))] [])) _
      refine XS.aload X53.here hx rfl (hb hby at_130) rfl rfl ?_
      show Steps p.tables e below (T53.setTop (mkF m 132 #[.val (.int p1), .val (.int p2), .val (.int (4 : Int32)), .val (.ref b46), .val (.ref r51), .val (.ref r52), .val (.int (1 : Int32))] [(.ref r52)])) _
      refine XS.iconst X53.here hx rfl (hb hby at_132) ?_
      show Steps p.tables e below (T53.setTop (mkF m 133 #[.val (.int p1), .val (.int p2), .val (.int (4 : Int32)), .val (.ref b46), .val (.ref r51), .val (.ref r52), .val (.int (1 : Int32))] [(.int (0 : Int32)), (.ref r52)])) _
      refine X53.iaload hx (j := (0 : Int32)) (v := (.int (p2.toInt8.toInt32))) (by rw [e53]; exact As.1) (State.isArrayOf_alike hZ.alike As.2.1) As.2.2 (inb_of Ss ⟨by decide, by decide⟩) (Hs.at (inb_of Ss ⟨by decide, by decide⟩) rfl) (g := (mkF m 133 #[.val (.int p1), .val (.int p2), .val (.int (4 : Int32)), .val (.ref b46), .val (.ref r51), .val (.ref r52), .val (.int (1 : Int32))] [(.int (0 : Int32)), (.ref r52)])) rfl rfl (hb hby at_133) _ ?_
      show Steps p.tables e below (T53.setTop (mkF m 134 #[.val (.int p1), .val (.int p2), .val (.int (4 : Int32)), .val (.ref b46), .val (.ref r51), .val (.ref r52), .val (.int (1 : Int32))] [(.int (p2.toInt8.toInt32))])) _
      refine XS.iloadN X53.here hx rfl (hb hby at_134) rfl ?_
      show Steps p.tables e below (T53.setTop (mkF m 135 #[.val (.int p1), .val (.int p2), .val (.int (4 : Int32)), .val (.ref b46), .val (.ref r51), .val (.ref r52), .val (.int (1 : Int32))] [(.int p2), (.int (p2.toInt8.toInt32))])) _
      refine XS.iconst X53.here hx rfl (hb hby at_135) ?_
      exact kt
    obtain ⟨_, _, ⟨T54, L54, k54, n54⟩, -, X54, ⟨Lc54, hQ54, l54, y54, z54⟩, st54⟩ := Jvm.LawKit.callS X53 hx (y := (⟨"needlemark/CompiledPatternSymbolsPinLaw", "expected", "(II)I"⟩ : MethodName)) hown (mvT hZ (hw _ (List.mem_of_getElem? (i := 6) rfl))) (mvT hZ (hw _ (List.mem_of_getElem? (i := 7) rfl))) (mvT hZ (hw _ (List.mem_of_getElem? (i := 8) rfl))) (mvT hZ (hw _ (List.mem_of_getElem? (i := 9) rfl))) (by decide) (backOf (W := 1) (rm2 l Z a0 hw [] p2 (0 : Int32) hf n0 Zc) hZ (hw _ (List.mem_of_getElem? (i := 9) rfl)) (hw _ (List.mem_of_getElem? (i := 8) rfl)) (by decide) (by decide)) (g := (mkF m 136 #[.val (.int p1), .val (.int p2), .val (.int (4 : Int32)), .val (.ref b46), .val (.ref r51), .val (.ref r52), .val (.int (1 : Int32))] [(.int (0 : Int32)), (.int p2), (.int (p2.toInt8.toInt32))])) rfl (by rw [hml]; rfl) (argsL := [(.int p2), (.int (0 : Int32))]) (rest := [(.int (p2.toInt8.toInt32))]) (lenOf pd_1 rfl) rfl (by show 2 * 0 + _ ≤ _; exact Nat.le_of_eq rfl) (hb hby at_136) (fun _ _ => ⟨rfl, e53, (by decide : ((((0 + 1) + 1) + 1) + 0) + 0 ≤ _), (by decide : ((((0 + 4) + 4) + 4) + 0) + 0 ≤ _)⟩)
    dsimp only [Pt.U, Pt.locs, Pt.cells, Pt.slots] at X54 l54 y54 z54 st54 hQ54
    subst l54 y54 z54
    obtain ⟨rfl, N54q, e54⟩ := hQ54
    have N54 := Fr.app N53 N54q
    refine own_go (B := T54.setTop (mkF m 139 #[.val (.int p1), .val (.int p2), .val (.int (4 : Int32)), .val (.ref b46), .val (.ref r51), .val (.ref r52), .val (.int (1 : Int32))] [(.int (own_e p2 (0 : Int32))), (.int (p2.toInt8.toInt32))])) (fun t kt => st54 t kt) ?_
    refine own_go (B := T54.setTop (mkF m 173 #[.val (.int p1), .val (.int p2), .val (.int (4 : Int32)), .val (.ref b46), .val (.ref r51), .val (.ref r52), .val (.int (1 : Int32))] [(.int (1 : Int32)), (.int p2), (.int (((p2.toUInt32 >>> ((8 : Int32) &&& 31).toUInt32).toInt32).toInt8.toInt32))])) (fun t kt => ?_) ?_
    · show Steps p.tables e below (T54.setTop (mkF m 139 #[.val (.int p1), .val (.int p2), .val (.int (4 : Int32)), .val (.ref b46), .val (.ref r51), .val (.ref r52), .val (.int (1 : Int32))] [(.int (own_e p2 (0 : Int32))), (.int (p2.toInt8.toInt32))])) _
      refine XS.icmpNo X54.here hx rfl (hb hby at_139) rfl (teq (own_e0 p2)).2 ?_
      show Steps p.tables e below (T54.setTop (mkF m 142 #[.val (.int p1), .val (.int p2), .val (.int (4 : Int32)), .val (.ref b46), .val (.ref r51), .val (.ref r52), .val (.int (1 : Int32))] [])) _
      refine XS.aloadN X54.here hx rfl (hb hby at_142) rfl rfl ?_
      show Steps p.tables e below (T54.setTop (mkF m 143 #[.val (.int p1), .val (.int p2), .val (.int (4 : Int32)), .val (.ref b46), .val (.ref r51), .val (.ref r52), .val (.int (1 : Int32))] [(.ref b46)])) _
      refine XS.iconst X54.here hx rfl (hb hby at_143) ?_
      show Steps p.tables e below (T54.setTop (mkF m 144 #[.val (.int p1), .val (.int p2), .val (.int (4 : Int32)), .val (.ref b46), .val (.ref r51), .val (.ref r52), .val (.int (1 : Int32))] [(.int (0 : Int32)), (.ref b46)])) _
      refine X54.baloadBytes hx (j := (0 : Int32)) (v := (.int (p2.toInt8.toInt32))) (by rw [e54]; exact Ab.1) (State.isArrayOf_alike hZ.alike Ab.2.1) Ab.2.2 (inb_of Sb ⟨by decide, by decide⟩) (Hb.at (inb_of Sb ⟨by decide, by decide⟩) rfl) (g := (mkF m 144 #[.val (.int p1), .val (.int p2), .val (.int (4 : Int32)), .val (.ref b46), .val (.ref r51), .val (.ref r52), .val (.int (1 : Int32))] [(.int (0 : Int32)), (.ref b46)])) rfl rfl (hb hby at_144) _ ?_
      show Steps p.tables e below (T54.setTop (mkF m 145 #[.val (.int p1), .val (.int p2), .val (.int (4 : Int32)), .val (.ref b46), .val (.ref r51), .val (.ref r52), .val (.int (1 : Int32))] [(.int (p2.toInt8.toInt32))])) _
      refine XS.iloadN X54.here hx rfl (hb hby at_145) rfl ?_
      show Steps p.tables e below (T54.setTop (mkF m 146 #[.val (.int p1), .val (.int p2), .val (.int (4 : Int32)), .val (.ref b46), .val (.ref r51), .val (.ref r52), .val (.int (1 : Int32))] [(.int p2), (.int (p2.toInt8.toInt32))])) _
      refine XS.i2b X54.here hx rfl (hb hby at_146) rfl ?_
      show Steps p.tables e below (T54.setTop (mkF m 147 #[.val (.int p1), .val (.int p2), .val (.int (4 : Int32)), .val (.ref b46), .val (.ref r51), .val (.ref r52), .val (.int (1 : Int32))] [(.int (p2.toInt8.toInt32)), (.int (p2.toInt8.toInt32))])) _
      refine XS.icmpNo X54.here hx rfl (hb hby at_147) rfl (teq rfl).2 ?_
      show Steps p.tables e below (T54.setTop (mkF m 150 #[.val (.int p1), .val (.int p2), .val (.int (4 : Int32)), .val (.ref b46), .val (.ref r51), .val (.ref r52), .val (.int (1 : Int32))] [])) _
      refine XS.iconst X54.here hx rfl (hb hby at_150) ?_
      show Steps p.tables e below (T54.setTop (mkF m 151 #[.val (.int p1), .val (.int p2), .val (.int (4 : Int32)), .val (.ref b46), .val (.ref r51), .val (.ref r52), .val (.int (1 : Int32))] [(.int (1 : Int32))])) _
      refine XS.goto X54.here hx rfl (pc0 := 151) (pc' := 155) rfl (hb hby at_151) (by decide) (by decide) ?_
      show Steps p.tables e below (T54.setTop (mkF m 155 #[.val (.int p1), .val (.int p2), .val (.int (4 : Int32)), .val (.ref b46), .val (.ref r51), .val (.ref r52), .val (.int (1 : Int32))] [(.int (1 : Int32))])) _
      refine XS.istore X54.here hx rfl (hb hby at_155) rfl (l' := #[.val (.int p1), .val (.int p2), .val (.int (4 : Int32)), .val (.ref b46), .val (.ref r51), .val (.ref r52), .val (.int (1 : Int32))]) rfl ?_
      show Steps p.tables e below (T54.setTop (mkF m 157 #[.val (.int p1), .val (.int p2), .val (.int (4 : Int32)), .val (.ref b46), .val (.ref r51), .val (.ref r52), .val (.int (1 : Int32))] [])) _
      refine XS.iloadN X54.here hx rfl (hb hby at_157) rfl ?_
      show Steps p.tables e below (T54.setTop (mkF m 158 #[.val (.int p1), .val (.int p2), .val (.int (4 : Int32)), .val (.ref b46), .val (.ref r51), .val (.ref r52), .val (.int (1 : Int32))] [(.int (4 : Int32))])) _
      refine XS.iconst X54.here hx rfl (hb hby at_158) ?_
      show Steps p.tables e below (T54.setTop (mkF m 159 #[.val (.int p1), .val (.int p2), .val (.int (4 : Int32)), .val (.ref b46), .val (.ref r51), .val (.ref r52), .val (.int (1 : Int32))] [(.int (1 : Int32)), (.int (4 : Int32))])) _
      refine XS.icmpNo X54.here hx rfl (hb hby at_159) rfl (tlt (by decide)).2.2.2 ?_
      show Steps p.tables e below (T54.setTop (mkF m 162 #[.val (.int p1), .val (.int p2), .val (.int (4 : Int32)), .val (.ref b46), .val (.ref r51), .val (.ref r52), .val (.int (1 : Int32))] [])) _
      refine XS.iload X54.here hx rfl (hb hby at_162) rfl ?_
      show Steps p.tables e below (T54.setTop (mkF m 164 #[.val (.int p1), .val (.int p2), .val (.int (4 : Int32)), .val (.ref b46), .val (.ref r51), .val (.ref r52), .val (.int (1 : Int32))] [(.int (1 : Int32))])) _
      refine XS.ifNo X54.here hx rfl (hb hby at_164) rfl ((if0 _ _).trans (feq (by decide)).1) ?_
      show Steps p.tables e below (T54.setTop (mkF m 167 #[.val (.int p1), .val (.int p2), .val (.int (4 : Int32)), .val (.ref b46), .val (.ref r51), .val (.ref r52), .val (.int (1 : Int32))] [])) _
      refine XS.aload X54.here hx rfl (hb hby at_167) rfl rfl ?_
      show Steps p.tables e below (T54.setTop (mkF m 169 #[.val (.int p1), .val (.int p2), .val (.int (4 : Int32)), .val (.ref b46), .val (.ref r51), .val (.ref r52), .val (.int (1 : Int32))] [(.ref r51)])) _
      refine XS.iconst X54.here hx rfl (hb hby at_169) ?_
      show Steps p.tables e below (T54.setTop (mkF m 170 #[.val (.int p1), .val (.int p2), .val (.int (4 : Int32)), .val (.ref b46), .val (.ref r51), .val (.ref r52), .val (.int (1 : Int32))] [(.int (1 : Int32)), (.ref r51)])) _
      refine X54.iaload hx (j := (1 : Int32)) (v := (.int (((p2.toUInt32 >>> ((8 : Int32) &&& 31).toUInt32).toInt32).toInt8.toInt32))) (by rw [e54]; exact Ar.1) (State.isArrayOf_alike hZ.alike Ar.2.1) Ar.2.2 (inb_of Sr ⟨by decide, by decide⟩) (Hr.at (inb_of Sr ⟨by decide, by decide⟩) rfl) (g := (mkF m 170 #[.val (.int p1), .val (.int p2), .val (.int (4 : Int32)), .val (.ref b46), .val (.ref r51), .val (.ref r52), .val (.int (1 : Int32))] [(.int (1 : Int32)), (.ref r51)])) rfl rfl (hb hby at_170) _ ?_
      show Steps p.tables e below (T54.setTop (mkF m 171 #[.val (.int p1), .val (.int p2), .val (.int (4 : Int32)), .val (.ref b46), .val (.ref r51), .val (.ref r52), .val (.int (1 : Int32))] [(.int (((p2.toUInt32 >>> ((8 : Int32) &&& 31).toUInt32).toInt32).toInt8.toInt32))])) _
      refine XS.iloadN X54.here hx rfl (hb hby at_171) rfl ?_
      show Steps p.tables e below (T54.setTop (mkF m 172 #[.val (.int p1), .val (.int p2), .val (.int (4 : Int32)), .val (.ref b46), .val (.ref r51), .val (.ref r52), .val (.int (1 : Int32))] [(.int p2), (.int (((p2.toUInt32 >>> ((8 : Int32) &&& 31).toUInt32).toInt32).toInt8.toInt32))])) _
      refine XS.iconst X54.here hx rfl (hb hby at_172) ?_
      exact kt
    obtain ⟨_, _, ⟨T55, L55, k55, n55⟩, -, X55, ⟨Lc55, hQ55, l55, y55, z55⟩, st55⟩ := Jvm.LawKit.callS X54 hx (y := (⟨"needlemark/CompiledPatternSymbolsPinLaw", "expected", "(II)I"⟩ : MethodName)) hown (mvT hZ (hw _ (List.mem_of_getElem? (i := 6) rfl))) (mvT hZ (hw _ (List.mem_of_getElem? (i := 7) rfl))) (mvT hZ (hw _ (List.mem_of_getElem? (i := 8) rfl))) (mvT hZ (hw _ (List.mem_of_getElem? (i := 9) rfl))) (by decide) (backOf (W := 1) (rm2 l Z a0 hw [] p2 (1 : Int32) hf n0 Zc) hZ (hw _ (List.mem_of_getElem? (i := 9) rfl)) (hw _ (List.mem_of_getElem? (i := 8) rfl)) (by decide) (by decide)) (g := (mkF m 173 #[.val (.int p1), .val (.int p2), .val (.int (4 : Int32)), .val (.ref b46), .val (.ref r51), .val (.ref r52), .val (.int (1 : Int32))] [(.int (1 : Int32)), (.int p2), (.int (((p2.toUInt32 >>> ((8 : Int32) &&& 31).toUInt32).toInt32).toInt8.toInt32))])) rfl (by rw [hml]; rfl) (argsL := [(.int p2), (.int (1 : Int32))]) (rest := [(.int (((p2.toUInt32 >>> ((8 : Int32) &&& 31).toUInt32).toInt32).toInt8.toInt32))]) (lenOf pd_1 rfl) rfl (by show 2 * 0 + _ ≤ _; exact Nat.le_of_eq rfl) (hb hby at_173) (fun _ _ => ⟨rfl, e54, (by decide : (((((0 + 1) + 1) + 1) + 0) + 0) + 0 ≤ _), (by decide : (((((0 + 4) + 4) + 4) + 0) + 0) + 0 ≤ _)⟩)
    dsimp only [Pt.U, Pt.locs, Pt.cells, Pt.slots] at X55 l55 y55 z55 st55 hQ55
    subst l55 y55 z55
    obtain ⟨rfl, N55q, e55⟩ := hQ55
    have N55 := Fr.app N54 N55q
    refine own_go (B := T55.setTop (mkF m 176 #[.val (.int p1), .val (.int p2), .val (.int (4 : Int32)), .val (.ref b46), .val (.ref r51), .val (.ref r52), .val (.int (1 : Int32))] [(.int (own_e p2 (1 : Int32))), (.int (((p2.toUInt32 >>> ((8 : Int32) &&& 31).toUInt32).toInt32).toInt8.toInt32))])) (fun t kt => st55 t kt) ?_
    refine own_go (B := T55.setTop (mkF m 185 #[.val (.int p1), .val (.int p2), .val (.int (4 : Int32)), .val (.ref b46), .val (.ref r51), .val (.ref r52), .val (.int (1 : Int32))] [(.int (1 : Int32)), (.int p2), (.int (((p2.toUInt32 >>> ((8 : Int32) &&& 31).toUInt32).toInt32).toInt8.toInt32))])) (fun t kt => ?_) ?_
    · show Steps p.tables e below (T55.setTop (mkF m 176 #[.val (.int p1), .val (.int p2), .val (.int (4 : Int32)), .val (.ref b46), .val (.ref r51), .val (.ref r52), .val (.int (1 : Int32))] [(.int (own_e p2 (1 : Int32))), (.int (((p2.toUInt32 >>> ((8 : Int32) &&& 31).toUInt32).toInt32).toInt8.toInt32))])) _
      refine XS.icmpNo X55.here hx rfl (hb hby at_176) rfl (teq (own_e1 p2)).2 ?_
      show Steps p.tables e below (T55.setTop (mkF m 179 #[.val (.int p1), .val (.int p2), .val (.int (4 : Int32)), .val (.ref b46), .val (.ref r51), .val (.ref r52), .val (.int (1 : Int32))] [])) _
      refine XS.aload X55.here hx rfl (hb hby at_179) rfl rfl ?_
      show Steps p.tables e below (T55.setTop (mkF m 181 #[.val (.int p1), .val (.int p2), .val (.int (4 : Int32)), .val (.ref b46), .val (.ref r51), .val (.ref r52), .val (.int (1 : Int32))] [(.ref r52)])) _
      refine XS.iconst X55.here hx rfl (hb hby at_181) ?_
      show Steps p.tables e below (T55.setTop (mkF m 182 #[.val (.int p1), .val (.int p2), .val (.int (4 : Int32)), .val (.ref b46), .val (.ref r51), .val (.ref r52), .val (.int (1 : Int32))] [(.int (1 : Int32)), (.ref r52)])) _
      refine X55.iaload hx (j := (1 : Int32)) (v := (.int (((p2.toUInt32 >>> ((8 : Int32) &&& 31).toUInt32).toInt32).toInt8.toInt32))) (by rw [e55]; exact As.1) (State.isArrayOf_alike hZ.alike As.2.1) As.2.2 (inb_of Ss ⟨by decide, by decide⟩) (Hs.at (inb_of Ss ⟨by decide, by decide⟩) rfl) (g := (mkF m 182 #[.val (.int p1), .val (.int p2), .val (.int (4 : Int32)), .val (.ref b46), .val (.ref r51), .val (.ref r52), .val (.int (1 : Int32))] [(.int (1 : Int32)), (.ref r52)])) rfl rfl (hb hby at_182) _ ?_
      show Steps p.tables e below (T55.setTop (mkF m 183 #[.val (.int p1), .val (.int p2), .val (.int (4 : Int32)), .val (.ref b46), .val (.ref r51), .val (.ref r52), .val (.int (1 : Int32))] [(.int (((p2.toUInt32 >>> ((8 : Int32) &&& 31).toUInt32).toInt32).toInt8.toInt32))])) _
      refine XS.iloadN X55.here hx rfl (hb hby at_183) rfl ?_
      show Steps p.tables e below (T55.setTop (mkF m 184 #[.val (.int p1), .val (.int p2), .val (.int (4 : Int32)), .val (.ref b46), .val (.ref r51), .val (.ref r52), .val (.int (1 : Int32))] [(.int p2), (.int (((p2.toUInt32 >>> ((8 : Int32) &&& 31).toUInt32).toInt32).toInt8.toInt32))])) _
      refine XS.iconst X55.here hx rfl (hb hby at_184) ?_
      exact kt
    obtain ⟨_, _, ⟨T56, L56, k56, n56⟩, -, X56, ⟨Lc56, hQ56, l56, y56, z56⟩, st56⟩ := Jvm.LawKit.callS X55 hx (y := (⟨"needlemark/CompiledPatternSymbolsPinLaw", "expected", "(II)I"⟩ : MethodName)) hown (mvT hZ (hw _ (List.mem_of_getElem? (i := 6) rfl))) (mvT hZ (hw _ (List.mem_of_getElem? (i := 7) rfl))) (mvT hZ (hw _ (List.mem_of_getElem? (i := 8) rfl))) (mvT hZ (hw _ (List.mem_of_getElem? (i := 9) rfl))) (by decide) (backOf (W := 1) (rm2 l Z a0 hw [] p2 (1 : Int32) hf n0 Zc) hZ (hw _ (List.mem_of_getElem? (i := 9) rfl)) (hw _ (List.mem_of_getElem? (i := 8) rfl)) (by decide) (by decide)) (g := (mkF m 185 #[.val (.int p1), .val (.int p2), .val (.int (4 : Int32)), .val (.ref b46), .val (.ref r51), .val (.ref r52), .val (.int (1 : Int32))] [(.int (1 : Int32)), (.int p2), (.int (((p2.toUInt32 >>> ((8 : Int32) &&& 31).toUInt32).toInt32).toInt8.toInt32))])) rfl (by rw [hml]; rfl) (argsL := [(.int p2), (.int (1 : Int32))]) (rest := [(.int (((p2.toUInt32 >>> ((8 : Int32) &&& 31).toUInt32).toInt32).toInt8.toInt32))]) (lenOf pd_1 rfl) rfl (by show 2 * 0 + _ ≤ _; exact Nat.le_of_eq rfl) (hb hby at_185) (fun _ _ => ⟨rfl, e55, (by decide : ((((((0 + 1) + 1) + 1) + 0) + 0) + 0) + 0 ≤ _), (by decide : ((((((0 + 4) + 4) + 4) + 0) + 0) + 0) + 0 ≤ _)⟩)
    dsimp only [Pt.U, Pt.locs, Pt.cells, Pt.slots] at X56 l56 y56 z56 st56 hQ56
    subst l56 y56 z56
    obtain ⟨rfl, N56q, e56⟩ := hQ56
    have N56 := Fr.app N55 N56q
    refine own_go (B := T56.setTop (mkF m 188 #[.val (.int p1), .val (.int p2), .val (.int (4 : Int32)), .val (.ref b46), .val (.ref r51), .val (.ref r52), .val (.int (1 : Int32))] [(.int (own_e p2 (1 : Int32))), (.int (((p2.toUInt32 >>> ((8 : Int32) &&& 31).toUInt32).toInt32).toInt8.toInt32))])) (fun t kt => st56 t kt) ?_
    refine own_go (B := T56.setTop (mkF m 225 #[.val (.int p1), .val (.int p2), .val (.int (4 : Int32)), .val (.ref b46), .val (.ref r51), .val (.ref r52), .val (.int (1 : Int32))] [(.int (2 : Int32)), (.int p2), (.int (((p2.toUInt32 >>> ((16 : Int32) &&& 31).toUInt32).toInt32).toInt8.toInt32))])) (fun t kt => ?_) ?_
    · show Steps p.tables e below (T56.setTop (mkF m 188 #[.val (.int p1), .val (.int p2), .val (.int (4 : Int32)), .val (.ref b46), .val (.ref r51), .val (.ref r52), .val (.int (1 : Int32))] [(.int (own_e p2 (1 : Int32))), (.int (((p2.toUInt32 >>> ((8 : Int32) &&& 31).toUInt32).toInt32).toInt8.toInt32))])) _
      refine XS.icmpNo X56.here hx rfl (hb hby at_188) rfl (teq (own_e1 p2)).2 ?_
      show Steps p.tables e below (T56.setTop (mkF m 191 #[.val (.int p1), .val (.int p2), .val (.int (4 : Int32)), .val (.ref b46), .val (.ref r51), .val (.ref r52), .val (.int (1 : Int32))] [])) _
      refine XS.aloadN X56.here hx rfl (hb hby at_191) rfl rfl ?_
      show Steps p.tables e below (T56.setTop (mkF m 192 #[.val (.int p1), .val (.int p2), .val (.int (4 : Int32)), .val (.ref b46), .val (.ref r51), .val (.ref r52), .val (.int (1 : Int32))] [(.ref b46)])) _
      refine XS.iconst X56.here hx rfl (hb hby at_192) ?_
      show Steps p.tables e below (T56.setTop (mkF m 193 #[.val (.int p1), .val (.int p2), .val (.int (4 : Int32)), .val (.ref b46), .val (.ref r51), .val (.ref r52), .val (.int (1 : Int32))] [(.int (1 : Int32)), (.ref b46)])) _
      refine X56.baloadBytes hx (j := (1 : Int32)) (v := (.int (((p2.toUInt32 >>> ((8 : Int32) &&& 31).toUInt32).toInt32).toInt8.toInt32))) (by rw [e56]; exact Ab.1) (State.isArrayOf_alike hZ.alike Ab.2.1) Ab.2.2 (inb_of Sb ⟨by decide, by decide⟩) (Hb.at (inb_of Sb ⟨by decide, by decide⟩) rfl) (g := (mkF m 193 #[.val (.int p1), .val (.int p2), .val (.int (4 : Int32)), .val (.ref b46), .val (.ref r51), .val (.ref r52), .val (.int (1 : Int32))] [(.int (1 : Int32)), (.ref b46)])) rfl rfl (hb hby at_193) _ ?_
      show Steps p.tables e below (T56.setTop (mkF m 194 #[.val (.int p1), .val (.int p2), .val (.int (4 : Int32)), .val (.ref b46), .val (.ref r51), .val (.ref r52), .val (.int (1 : Int32))] [(.int (((p2.toUInt32 >>> ((8 : Int32) &&& 31).toUInt32).toInt32).toInt8.toInt32))])) _
      refine XS.iloadN X56.here hx rfl (hb hby at_194) rfl ?_
      show Steps p.tables e below (T56.setTop (mkF m 195 #[.val (.int p1), .val (.int p2), .val (.int (4 : Int32)), .val (.ref b46), .val (.ref r51), .val (.ref r52), .val (.int (1 : Int32))] [(.int p2), (.int (((p2.toUInt32 >>> ((8 : Int32) &&& 31).toUInt32).toInt32).toInt8.toInt32))])) _
      refine XS.bipush X56.here hx rfl (hb hby at_195) ?_
      show Steps p.tables e below (T56.setTop (mkF m 197 #[.val (.int p1), .val (.int p2), .val (.int (4 : Int32)), .val (.ref b46), .val (.ref r51), .val (.ref r52), .val (.int (1 : Int32))] [(.int (8 : Int32)), (.int p2), (.int (((p2.toUInt32 >>> ((8 : Int32) &&& 31).toUInt32).toInt32).toInt8.toInt32))])) _
      refine XS.iushr X56.here hx rfl (hb hby at_197) rfl ?_
      show Steps p.tables e below (T56.setTop (mkF m 198 #[.val (.int p1), .val (.int p2), .val (.int (4 : Int32)), .val (.ref b46), .val (.ref r51), .val (.ref r52), .val (.int (1 : Int32))] [(.int ((p2.toUInt32 >>> ((8 : Int32) &&& 31).toUInt32).toInt32)), (.int (((p2.toUInt32 >>> ((8 : Int32) &&& 31).toUInt32).toInt32).toInt8.toInt32))])) _
      refine XS.i2b X56.here hx rfl (hb hby at_198) rfl ?_
      show Steps p.tables e below (T56.setTop (mkF m 199 #[.val (.int p1), .val (.int p2), .val (.int (4 : Int32)), .val (.ref b46), .val (.ref r51), .val (.ref r52), .val (.int (1 : Int32))] [(.int (((p2.toUInt32 >>> ((8 : Int32) &&& 31).toUInt32).toInt32).toInt8.toInt32)), (.int (((p2.toUInt32 >>> ((8 : Int32) &&& 31).toUInt32).toInt32).toInt8.toInt32))])) _
      refine XS.icmpNo X56.here hx rfl (hb hby at_199) rfl (teq rfl).2 ?_
      show Steps p.tables e below (T56.setTop (mkF m 202 #[.val (.int p1), .val (.int p2), .val (.int (4 : Int32)), .val (.ref b46), .val (.ref r51), .val (.ref r52), .val (.int (1 : Int32))] [])) _
      refine XS.iconst X56.here hx rfl (hb hby at_202) ?_
      show Steps p.tables e below (T56.setTop (mkF m 203 #[.val (.int p1), .val (.int p2), .val (.int (4 : Int32)), .val (.ref b46), .val (.ref r51), .val (.ref r52), .val (.int (1 : Int32))] [(.int (1 : Int32))])) _
      refine XS.goto X56.here hx rfl (pc0 := 203) (pc' := 207) rfl (hb hby at_203) (by decide) (by decide) ?_
      show Steps p.tables e below (T56.setTop (mkF m 207 #[.val (.int p1), .val (.int p2), .val (.int (4 : Int32)), .val (.ref b46), .val (.ref r51), .val (.ref r52), .val (.int (1 : Int32))] [(.int (1 : Int32))])) _
      refine XS.istore X56.here hx rfl (hb hby at_207) rfl (l' := #[.val (.int p1), .val (.int p2), .val (.int (4 : Int32)), .val (.ref b46), .val (.ref r51), .val (.ref r52), .val (.int (1 : Int32))]) rfl ?_
      show Steps p.tables e below (T56.setTop (mkF m 209 #[.val (.int p1), .val (.int p2), .val (.int (4 : Int32)), .val (.ref b46), .val (.ref r51), .val (.ref r52), .val (.int (1 : Int32))] [])) _
      refine XS.iloadN X56.here hx rfl (hb hby at_209) rfl ?_
      show Steps p.tables e below (T56.setTop (mkF m 210 #[.val (.int p1), .val (.int p2), .val (.int (4 : Int32)), .val (.ref b46), .val (.ref r51), .val (.ref r52), .val (.int (1 : Int32))] [(.int (4 : Int32))])) _
      refine XS.iconst X56.here hx rfl (hb hby at_210) ?_
      show Steps p.tables e below (T56.setTop (mkF m 211 #[.val (.int p1), .val (.int p2), .val (.int (4 : Int32)), .val (.ref b46), .val (.ref r51), .val (.ref r52), .val (.int (1 : Int32))] [(.int (2 : Int32)), (.int (4 : Int32))])) _
      refine XS.icmpNo X56.here hx rfl (hb hby at_211) rfl (tlt (by decide)).2.2.2 ?_
      show Steps p.tables e below (T56.setTop (mkF m 214 #[.val (.int p1), .val (.int p2), .val (.int (4 : Int32)), .val (.ref b46), .val (.ref r51), .val (.ref r52), .val (.int (1 : Int32))] [])) _
      refine XS.iload X56.here hx rfl (hb hby at_214) rfl ?_
      show Steps p.tables e below (T56.setTop (mkF m 216 #[.val (.int p1), .val (.int p2), .val (.int (4 : Int32)), .val (.ref b46), .val (.ref r51), .val (.ref r52), .val (.int (1 : Int32))] [(.int (1 : Int32))])) _
      refine XS.ifNo X56.here hx rfl (hb hby at_216) rfl ((if0 _ _).trans (feq (by decide)).1) ?_
      show Steps p.tables e below (T56.setTop (mkF m 219 #[.val (.int p1), .val (.int p2), .val (.int (4 : Int32)), .val (.ref b46), .val (.ref r51), .val (.ref r52), .val (.int (1 : Int32))] [])) _
      refine XS.aload X56.here hx rfl (hb hby at_219) rfl rfl ?_
      show Steps p.tables e below (T56.setTop (mkF m 221 #[.val (.int p1), .val (.int p2), .val (.int (4 : Int32)), .val (.ref b46), .val (.ref r51), .val (.ref r52), .val (.int (1 : Int32))] [(.ref r51)])) _
      refine XS.iconst X56.here hx rfl (hb hby at_221) ?_
      show Steps p.tables e below (T56.setTop (mkF m 222 #[.val (.int p1), .val (.int p2), .val (.int (4 : Int32)), .val (.ref b46), .val (.ref r51), .val (.ref r52), .val (.int (1 : Int32))] [(.int (2 : Int32)), (.ref r51)])) _
      refine X56.iaload hx (j := (2 : Int32)) (v := (.int (((p2.toUInt32 >>> ((16 : Int32) &&& 31).toUInt32).toInt32).toInt8.toInt32))) (by rw [e56]; exact Ar.1) (State.isArrayOf_alike hZ.alike Ar.2.1) Ar.2.2 (inb_of Sr ⟨by decide, by decide⟩) (Hr.at (inb_of Sr ⟨by decide, by decide⟩) rfl) (g := (mkF m 222 #[.val (.int p1), .val (.int p2), .val (.int (4 : Int32)), .val (.ref b46), .val (.ref r51), .val (.ref r52), .val (.int (1 : Int32))] [(.int (2 : Int32)), (.ref r51)])) rfl rfl (hb hby at_222) _ ?_
      show Steps p.tables e below (T56.setTop (mkF m 223 #[.val (.int p1), .val (.int p2), .val (.int (4 : Int32)), .val (.ref b46), .val (.ref r51), .val (.ref r52), .val (.int (1 : Int32))] [(.int (((p2.toUInt32 >>> ((16 : Int32) &&& 31).toUInt32).toInt32).toInt8.toInt32))])) _
      refine XS.iloadN X56.here hx rfl (hb hby at_223) rfl ?_
      show Steps p.tables e below (T56.setTop (mkF m 224 #[.val (.int p1), .val (.int p2), .val (.int (4 : Int32)), .val (.ref b46), .val (.ref r51), .val (.ref r52), .val (.int (1 : Int32))] [(.int p2), (.int (((p2.toUInt32 >>> ((16 : Int32) &&& 31).toUInt32).toInt32).toInt8.toInt32))])) _
      refine XS.iconst X56.here hx rfl (hb hby at_224) ?_
      exact kt
    obtain ⟨_, _, ⟨T57, L57, k57, n57⟩, -, X57, ⟨Lc57, hQ57, l57, y57, z57⟩, st57⟩ := Jvm.LawKit.callS X56 hx (y := (⟨"needlemark/CompiledPatternSymbolsPinLaw", "expected", "(II)I"⟩ : MethodName)) hown (mvT hZ (hw _ (List.mem_of_getElem? (i := 6) rfl))) (mvT hZ (hw _ (List.mem_of_getElem? (i := 7) rfl))) (mvT hZ (hw _ (List.mem_of_getElem? (i := 8) rfl))) (mvT hZ (hw _ (List.mem_of_getElem? (i := 9) rfl))) (by decide) (backOf (W := 1) (rm2 l Z a0 hw [] p2 (2 : Int32) hf n0 Zc) hZ (hw _ (List.mem_of_getElem? (i := 9) rfl)) (hw _ (List.mem_of_getElem? (i := 8) rfl)) (by decide) (by decide)) (g := (mkF m 225 #[.val (.int p1), .val (.int p2), .val (.int (4 : Int32)), .val (.ref b46), .val (.ref r51), .val (.ref r52), .val (.int (1 : Int32))] [(.int (2 : Int32)), (.int p2), (.int (((p2.toUInt32 >>> ((16 : Int32) &&& 31).toUInt32).toInt32).toInt8.toInt32))])) rfl (by rw [hml]; rfl) (argsL := [(.int p2), (.int (2 : Int32))]) (rest := [(.int (((p2.toUInt32 >>> ((16 : Int32) &&& 31).toUInt32).toInt32).toInt8.toInt32))]) (lenOf pd_1 rfl) rfl (by show 2 * 0 + _ ≤ _; exact Nat.le_of_eq rfl) (hb hby at_225) (fun _ _ => ⟨rfl, e56, (by decide : (((((((0 + 1) + 1) + 1) + 0) + 0) + 0) + 0) + 0 ≤ _), (by decide : (((((((0 + 4) + 4) + 4) + 0) + 0) + 0) + 0) + 0 ≤ _)⟩)
    dsimp only [Pt.U, Pt.locs, Pt.cells, Pt.slots] at X57 l57 y57 z57 st57 hQ57
    subst l57 y57 z57
    obtain ⟨rfl, N57q, e57⟩ := hQ57
    have N57 := Fr.app N56 N57q
    refine own_go (B := T57.setTop (mkF m 228 #[.val (.int p1), .val (.int p2), .val (.int (4 : Int32)), .val (.ref b46), .val (.ref r51), .val (.ref r52), .val (.int (1 : Int32))] [(.int (own_e p2 (2 : Int32))), (.int (((p2.toUInt32 >>> ((16 : Int32) &&& 31).toUInt32).toInt32).toInt8.toInt32))])) (fun t kt => st57 t kt) ?_
    refine own_go (B := T57.setTop (mkF m 237 #[.val (.int p1), .val (.int p2), .val (.int (4 : Int32)), .val (.ref b46), .val (.ref r51), .val (.ref r52), .val (.int (1 : Int32))] [(.int (2 : Int32)), (.int p2), (.int (((p2.toUInt32 >>> ((16 : Int32) &&& 31).toUInt32).toInt32).toInt8.toInt32))])) (fun t kt => ?_) ?_
    · show Steps p.tables e below (T57.setTop (mkF m 228 #[.val (.int p1), .val (.int p2), .val (.int (4 : Int32)), .val (.ref b46), .val (.ref r51), .val (.ref r52), .val (.int (1 : Int32))] [(.int (own_e p2 (2 : Int32))), (.int (((p2.toUInt32 >>> ((16 : Int32) &&& 31).toUInt32).toInt32).toInt8.toInt32))])) _
      refine XS.icmpNo X57.here hx rfl (hb hby at_228) rfl (teq (own_e2 p2)).2 ?_
      show Steps p.tables e below (T57.setTop (mkF m 231 #[.val (.int p1), .val (.int p2), .val (.int (4 : Int32)), .val (.ref b46), .val (.ref r51), .val (.ref r52), .val (.int (1 : Int32))] [])) _
      refine XS.aload X57.here hx rfl (hb hby at_231) rfl rfl ?_
      show Steps p.tables e below (T57.setTop (mkF m 233 #[.val (.int p1), .val (.int p2), .val (.int (4 : Int32)), .val (.ref b46), .val (.ref r51), .val (.ref r52), .val (.int (1 : Int32))] [(.ref r52)])) _
      refine XS.iconst X57.here hx rfl (hb hby at_233) ?_
      show Steps p.tables e below (T57.setTop (mkF m 234 #[.val (.int p1), .val (.int p2), .val (.int (4 : Int32)), .val (.ref b46), .val (.ref r51), .val (.ref r52), .val (.int (1 : Int32))] [(.int (2 : Int32)), (.ref r52)])) _
      refine X57.iaload hx (j := (2 : Int32)) (v := (.int (((p2.toUInt32 >>> ((16 : Int32) &&& 31).toUInt32).toInt32).toInt8.toInt32))) (by rw [e57]; exact As.1) (State.isArrayOf_alike hZ.alike As.2.1) As.2.2 (inb_of Ss ⟨by decide, by decide⟩) (Hs.at (inb_of Ss ⟨by decide, by decide⟩) rfl) (g := (mkF m 234 #[.val (.int p1), .val (.int p2), .val (.int (4 : Int32)), .val (.ref b46), .val (.ref r51), .val (.ref r52), .val (.int (1 : Int32))] [(.int (2 : Int32)), (.ref r52)])) rfl rfl (hb hby at_234) _ ?_
      show Steps p.tables e below (T57.setTop (mkF m 235 #[.val (.int p1), .val (.int p2), .val (.int (4 : Int32)), .val (.ref b46), .val (.ref r51), .val (.ref r52), .val (.int (1 : Int32))] [(.int (((p2.toUInt32 >>> ((16 : Int32) &&& 31).toUInt32).toInt32).toInt8.toInt32))])) _
      refine XS.iloadN X57.here hx rfl (hb hby at_235) rfl ?_
      show Steps p.tables e below (T57.setTop (mkF m 236 #[.val (.int p1), .val (.int p2), .val (.int (4 : Int32)), .val (.ref b46), .val (.ref r51), .val (.ref r52), .val (.int (1 : Int32))] [(.int p2), (.int (((p2.toUInt32 >>> ((16 : Int32) &&& 31).toUInt32).toInt32).toInt8.toInt32))])) _
      refine XS.iconst X57.here hx rfl (hb hby at_236) ?_
      exact kt
    obtain ⟨_, _, ⟨T58, L58, k58, n58⟩, -, X58, ⟨Lc58, hQ58, l58, y58, z58⟩, st58⟩ := Jvm.LawKit.callS X57 hx (y := (⟨"needlemark/CompiledPatternSymbolsPinLaw", "expected", "(II)I"⟩ : MethodName)) hown (mvT hZ (hw _ (List.mem_of_getElem? (i := 6) rfl))) (mvT hZ (hw _ (List.mem_of_getElem? (i := 7) rfl))) (mvT hZ (hw _ (List.mem_of_getElem? (i := 8) rfl))) (mvT hZ (hw _ (List.mem_of_getElem? (i := 9) rfl))) (by decide) (backOf (W := 1) (rm2 l Z a0 hw [] p2 (2 : Int32) hf n0 Zc) hZ (hw _ (List.mem_of_getElem? (i := 9) rfl)) (hw _ (List.mem_of_getElem? (i := 8) rfl)) (by decide) (by decide)) (g := (mkF m 237 #[.val (.int p1), .val (.int p2), .val (.int (4 : Int32)), .val (.ref b46), .val (.ref r51), .val (.ref r52), .val (.int (1 : Int32))] [(.int (2 : Int32)), (.int p2), (.int (((p2.toUInt32 >>> ((16 : Int32) &&& 31).toUInt32).toInt32).toInt8.toInt32))])) rfl (by rw [hml]; rfl) (argsL := [(.int p2), (.int (2 : Int32))]) (rest := [(.int (((p2.toUInt32 >>> ((16 : Int32) &&& 31).toUInt32).toInt32).toInt8.toInt32))]) (lenOf pd_1 rfl) rfl (by show 2 * 0 + _ ≤ _; exact Nat.le_of_eq rfl) (hb hby at_237) (fun _ _ => ⟨rfl, e57, (by decide : ((((((((0 + 1) + 1) + 1) + 0) + 0) + 0) + 0) + 0) + 0 ≤ _), (by decide : ((((((((0 + 4) + 4) + 4) + 0) + 0) + 0) + 0) + 0) + 0 ≤ _)⟩)
    dsimp only [Pt.U, Pt.locs, Pt.cells, Pt.slots] at X58 l58 y58 z58 st58 hQ58
    subst l58 y58 z58
    obtain ⟨rfl, N58q, e58⟩ := hQ58
    have N58 := Fr.app N57 N58q
    refine own_go (B := T58.setTop (mkF m 240 #[.val (.int p1), .val (.int p2), .val (.int (4 : Int32)), .val (.ref b46), .val (.ref r51), .val (.ref r52), .val (.int (1 : Int32))] [(.int (own_e p2 (2 : Int32))), (.int (((p2.toUInt32 >>> ((16 : Int32) &&& 31).toUInt32).toInt32).toInt8.toInt32))])) (fun t kt => st58 t kt) ?_
    refine own_go (B := T58.setTop (mkF m 277 #[.val (.int p1), .val (.int p2), .val (.int (4 : Int32)), .val (.ref b46), .val (.ref r51), .val (.ref r52), .val (.int (1 : Int32))] [(.int (3 : Int32)), (.int p2), (.int (((p2.toUInt32 >>> ((24 : Int32) &&& 31).toUInt32).toInt32).toInt8.toInt32))])) (fun t kt => ?_) ?_
    · show Steps p.tables e below (T58.setTop (mkF m 240 #[.val (.int p1), .val (.int p2), .val (.int (4 : Int32)), .val (.ref b46), .val (.ref r51), .val (.ref r52), .val (.int (1 : Int32))] [(.int (own_e p2 (2 : Int32))), (.int (((p2.toUInt32 >>> ((16 : Int32) &&& 31).toUInt32).toInt32).toInt8.toInt32))])) _
      refine XS.icmpNo X58.here hx rfl (hb hby at_240) rfl (teq (own_e2 p2)).2 ?_
      show Steps p.tables e below (T58.setTop (mkF m 243 #[.val (.int p1), .val (.int p2), .val (.int (4 : Int32)), .val (.ref b46), .val (.ref r51), .val (.ref r52), .val (.int (1 : Int32))] [])) _
      refine XS.aloadN X58.here hx rfl (hb hby at_243) rfl rfl ?_
      show Steps p.tables e below (T58.setTop (mkF m 244 #[.val (.int p1), .val (.int p2), .val (.int (4 : Int32)), .val (.ref b46), .val (.ref r51), .val (.ref r52), .val (.int (1 : Int32))] [(.ref b46)])) _
      refine XS.iconst X58.here hx rfl (hb hby at_244) ?_
      show Steps p.tables e below (T58.setTop (mkF m 245 #[.val (.int p1), .val (.int p2), .val (.int (4 : Int32)), .val (.ref b46), .val (.ref r51), .val (.ref r52), .val (.int (1 : Int32))] [(.int (2 : Int32)), (.ref b46)])) _
      refine X58.baloadBytes hx (j := (2 : Int32)) (v := (.int (((p2.toUInt32 >>> ((16 : Int32) &&& 31).toUInt32).toInt32).toInt8.toInt32))) (by rw [e58]; exact Ab.1) (State.isArrayOf_alike hZ.alike Ab.2.1) Ab.2.2 (inb_of Sb ⟨by decide, by decide⟩) (Hb.at (inb_of Sb ⟨by decide, by decide⟩) rfl) (g := (mkF m 245 #[.val (.int p1), .val (.int p2), .val (.int (4 : Int32)), .val (.ref b46), .val (.ref r51), .val (.ref r52), .val (.int (1 : Int32))] [(.int (2 : Int32)), (.ref b46)])) rfl rfl (hb hby at_245) _ ?_
      show Steps p.tables e below (T58.setTop (mkF m 246 #[.val (.int p1), .val (.int p2), .val (.int (4 : Int32)), .val (.ref b46), .val (.ref r51), .val (.ref r52), .val (.int (1 : Int32))] [(.int (((p2.toUInt32 >>> ((16 : Int32) &&& 31).toUInt32).toInt32).toInt8.toInt32))])) _
      refine XS.iloadN X58.here hx rfl (hb hby at_246) rfl ?_
      show Steps p.tables e below (T58.setTop (mkF m 247 #[.val (.int p1), .val (.int p2), .val (.int (4 : Int32)), .val (.ref b46), .val (.ref r51), .val (.ref r52), .val (.int (1 : Int32))] [(.int p2), (.int (((p2.toUInt32 >>> ((16 : Int32) &&& 31).toUInt32).toInt32).toInt8.toInt32))])) _
      refine XS.bipush X58.here hx rfl (hb hby at_247) ?_
      show Steps p.tables e below (T58.setTop (mkF m 249 #[.val (.int p1), .val (.int p2), .val (.int (4 : Int32)), .val (.ref b46), .val (.ref r51), .val (.ref r52), .val (.int (1 : Int32))] [(.int (16 : Int32)), (.int p2), (.int (((p2.toUInt32 >>> ((16 : Int32) &&& 31).toUInt32).toInt32).toInt8.toInt32))])) _
      refine XS.iushr X58.here hx rfl (hb hby at_249) rfl ?_
      show Steps p.tables e below (T58.setTop (mkF m 250 #[.val (.int p1), .val (.int p2), .val (.int (4 : Int32)), .val (.ref b46), .val (.ref r51), .val (.ref r52), .val (.int (1 : Int32))] [(.int ((p2.toUInt32 >>> ((16 : Int32) &&& 31).toUInt32).toInt32)), (.int (((p2.toUInt32 >>> ((16 : Int32) &&& 31).toUInt32).toInt32).toInt8.toInt32))])) _
      refine XS.i2b X58.here hx rfl (hb hby at_250) rfl ?_
      show Steps p.tables e below (T58.setTop (mkF m 251 #[.val (.int p1), .val (.int p2), .val (.int (4 : Int32)), .val (.ref b46), .val (.ref r51), .val (.ref r52), .val (.int (1 : Int32))] [(.int (((p2.toUInt32 >>> ((16 : Int32) &&& 31).toUInt32).toInt32).toInt8.toInt32)), (.int (((p2.toUInt32 >>> ((16 : Int32) &&& 31).toUInt32).toInt32).toInt8.toInt32))])) _
      refine XS.icmpNo X58.here hx rfl (hb hby at_251) rfl (teq rfl).2 ?_
      show Steps p.tables e below (T58.setTop (mkF m 254 #[.val (.int p1), .val (.int p2), .val (.int (4 : Int32)), .val (.ref b46), .val (.ref r51), .val (.ref r52), .val (.int (1 : Int32))] [])) _
      refine XS.iconst X58.here hx rfl (hb hby at_254) ?_
      show Steps p.tables e below (T58.setTop (mkF m 255 #[.val (.int p1), .val (.int p2), .val (.int (4 : Int32)), .val (.ref b46), .val (.ref r51), .val (.ref r52), .val (.int (1 : Int32))] [(.int (1 : Int32))])) _
      refine XS.goto X58.here hx rfl (pc0 := 255) (pc' := 259) rfl (hb hby at_255) (by decide) (by decide) ?_
      show Steps p.tables e below (T58.setTop (mkF m 259 #[.val (.int p1), .val (.int p2), .val (.int (4 : Int32)), .val (.ref b46), .val (.ref r51), .val (.ref r52), .val (.int (1 : Int32))] [(.int (1 : Int32))])) _
      refine XS.istore X58.here hx rfl (hb hby at_259) rfl (l' := #[.val (.int p1), .val (.int p2), .val (.int (4 : Int32)), .val (.ref b46), .val (.ref r51), .val (.ref r52), .val (.int (1 : Int32))]) rfl ?_
      show Steps p.tables e below (T58.setTop (mkF m 261 #[.val (.int p1), .val (.int p2), .val (.int (4 : Int32)), .val (.ref b46), .val (.ref r51), .val (.ref r52), .val (.int (1 : Int32))] [])) _
      refine XS.iloadN X58.here hx rfl (hb hby at_261) rfl ?_
      show Steps p.tables e below (T58.setTop (mkF m 262 #[.val (.int p1), .val (.int p2), .val (.int (4 : Int32)), .val (.ref b46), .val (.ref r51), .val (.ref r52), .val (.int (1 : Int32))] [(.int (4 : Int32))])) _
      refine XS.iconst X58.here hx rfl (hb hby at_262) ?_
      show Steps p.tables e below (T58.setTop (mkF m 263 #[.val (.int p1), .val (.int p2), .val (.int (4 : Int32)), .val (.ref b46), .val (.ref r51), .val (.ref r52), .val (.int (1 : Int32))] [(.int (3 : Int32)), (.int (4 : Int32))])) _
      refine XS.icmpNo X58.here hx rfl (hb hby at_263) rfl (tlt (by decide)).2.2.2 ?_
      show Steps p.tables e below (T58.setTop (mkF m 266 #[.val (.int p1), .val (.int p2), .val (.int (4 : Int32)), .val (.ref b46), .val (.ref r51), .val (.ref r52), .val (.int (1 : Int32))] [])) _
      refine XS.iload X58.here hx rfl (hb hby at_266) rfl ?_
      show Steps p.tables e below (T58.setTop (mkF m 268 #[.val (.int p1), .val (.int p2), .val (.int (4 : Int32)), .val (.ref b46), .val (.ref r51), .val (.ref r52), .val (.int (1 : Int32))] [(.int (1 : Int32))])) _
      refine XS.ifNo X58.here hx rfl (hb hby at_268) rfl ((if0 _ _).trans (feq (by decide)).1) ?_
      show Steps p.tables e below (T58.setTop (mkF m 271 #[.val (.int p1), .val (.int p2), .val (.int (4 : Int32)), .val (.ref b46), .val (.ref r51), .val (.ref r52), .val (.int (1 : Int32))] [])) _
      refine XS.aload X58.here hx rfl (hb hby at_271) rfl rfl ?_
      show Steps p.tables e below (T58.setTop (mkF m 273 #[.val (.int p1), .val (.int p2), .val (.int (4 : Int32)), .val (.ref b46), .val (.ref r51), .val (.ref r52), .val (.int (1 : Int32))] [(.ref r51)])) _
      refine XS.iconst X58.here hx rfl (hb hby at_273) ?_
      show Steps p.tables e below (T58.setTop (mkF m 274 #[.val (.int p1), .val (.int p2), .val (.int (4 : Int32)), .val (.ref b46), .val (.ref r51), .val (.ref r52), .val (.int (1 : Int32))] [(.int (3 : Int32)), (.ref r51)])) _
      refine X58.iaload hx (j := (3 : Int32)) (v := (.int (((p2.toUInt32 >>> ((24 : Int32) &&& 31).toUInt32).toInt32).toInt8.toInt32))) (by rw [e58]; exact Ar.1) (State.isArrayOf_alike hZ.alike Ar.2.1) Ar.2.2 (inb_of Sr ⟨by decide, by decide⟩) (Hr.at (inb_of Sr ⟨by decide, by decide⟩) rfl) (g := (mkF m 274 #[.val (.int p1), .val (.int p2), .val (.int (4 : Int32)), .val (.ref b46), .val (.ref r51), .val (.ref r52), .val (.int (1 : Int32))] [(.int (3 : Int32)), (.ref r51)])) rfl rfl (hb hby at_274) _ ?_
      show Steps p.tables e below (T58.setTop (mkF m 275 #[.val (.int p1), .val (.int p2), .val (.int (4 : Int32)), .val (.ref b46), .val (.ref r51), .val (.ref r52), .val (.int (1 : Int32))] [(.int (((p2.toUInt32 >>> ((24 : Int32) &&& 31).toUInt32).toInt32).toInt8.toInt32))])) _
      refine XS.iloadN X58.here hx rfl (hb hby at_275) rfl ?_
      show Steps p.tables e below (T58.setTop (mkF m 276 #[.val (.int p1), .val (.int p2), .val (.int (4 : Int32)), .val (.ref b46), .val (.ref r51), .val (.ref r52), .val (.int (1 : Int32))] [(.int p2), (.int (((p2.toUInt32 >>> ((24 : Int32) &&& 31).toUInt32).toInt32).toInt8.toInt32))])) _
      refine XS.iconst X58.here hx rfl (hb hby at_276) ?_
      exact kt
    obtain ⟨_, _, ⟨T59, L59, k59, n59⟩, -, X59, ⟨Lc59, hQ59, l59, y59, z59⟩, st59⟩ := Jvm.LawKit.callS X58 hx (y := (⟨"needlemark/CompiledPatternSymbolsPinLaw", "expected", "(II)I"⟩ : MethodName)) hown (mvT hZ (hw _ (List.mem_of_getElem? (i := 6) rfl))) (mvT hZ (hw _ (List.mem_of_getElem? (i := 7) rfl))) (mvT hZ (hw _ (List.mem_of_getElem? (i := 8) rfl))) (mvT hZ (hw _ (List.mem_of_getElem? (i := 9) rfl))) (by decide) (backOf (W := 1) (rm2 l Z a0 hw [] p2 (3 : Int32) hf n0 Zc) hZ (hw _ (List.mem_of_getElem? (i := 9) rfl)) (hw _ (List.mem_of_getElem? (i := 8) rfl)) (by decide) (by decide)) (g := (mkF m 277 #[.val (.int p1), .val (.int p2), .val (.int (4 : Int32)), .val (.ref b46), .val (.ref r51), .val (.ref r52), .val (.int (1 : Int32))] [(.int (3 : Int32)), (.int p2), (.int (((p2.toUInt32 >>> ((24 : Int32) &&& 31).toUInt32).toInt32).toInt8.toInt32))])) rfl (by rw [hml]; rfl) (argsL := [(.int p2), (.int (3 : Int32))]) (rest := [(.int (((p2.toUInt32 >>> ((24 : Int32) &&& 31).toUInt32).toInt32).toInt8.toInt32))]) (lenOf pd_1 rfl) rfl (by show 2 * 0 + _ ≤ _; exact Nat.le_of_eq rfl) (hb hby at_277) (fun _ _ => ⟨rfl, e58, (by decide : (((((((((0 + 1) + 1) + 1) + 0) + 0) + 0) + 0) + 0) + 0) + 0 ≤ _), (by decide : (((((((((0 + 4) + 4) + 4) + 0) + 0) + 0) + 0) + 0) + 0) + 0 ≤ _)⟩)
    dsimp only [Pt.U, Pt.locs, Pt.cells, Pt.slots] at X59 l59 y59 z59 st59 hQ59
    subst l59 y59 z59
    obtain ⟨rfl, N59q, e59⟩ := hQ59
    have N59 := Fr.app N58 N59q
    refine own_go (B := T59.setTop (mkF m 280 #[.val (.int p1), .val (.int p2), .val (.int (4 : Int32)), .val (.ref b46), .val (.ref r51), .val (.ref r52), .val (.int (1 : Int32))] [(.int (own_e p2 (3 : Int32))), (.int (((p2.toUInt32 >>> ((24 : Int32) &&& 31).toUInt32).toInt32).toInt8.toInt32))])) (fun t kt => st59 t kt) ?_
    refine own_go (B := T59.setTop (mkF m 289 #[.val (.int p1), .val (.int p2), .val (.int (4 : Int32)), .val (.ref b46), .val (.ref r51), .val (.ref r52), .val (.int (1 : Int32))] [(.int (3 : Int32)), (.int p2), (.int (((p2.toUInt32 >>> ((24 : Int32) &&& 31).toUInt32).toInt32).toInt8.toInt32))])) (fun t kt => ?_) ?_
    · show Steps p.tables e below (T59.setTop (mkF m 280 #[.val (.int p1), .val (.int p2), .val (.int (4 : Int32)), .val (.ref b46), .val (.ref r51), .val (.ref r52), .val (.int (1 : Int32))] [(.int (own_e p2 (3 : Int32))), (.int (((p2.toUInt32 >>> ((24 : Int32) &&& 31).toUInt32).toInt32).toInt8.toInt32))])) _
      refine XS.icmpNo X59.here hx rfl (hb hby at_280) rfl (teq (own_e3 p2)).2 ?_
      show Steps p.tables e below (T59.setTop (mkF m 283 #[.val (.int p1), .val (.int p2), .val (.int (4 : Int32)), .val (.ref b46), .val (.ref r51), .val (.ref r52), .val (.int (1 : Int32))] [])) _
      refine XS.aload X59.here hx rfl (hb hby at_283) rfl rfl ?_
      show Steps p.tables e below (T59.setTop (mkF m 285 #[.val (.int p1), .val (.int p2), .val (.int (4 : Int32)), .val (.ref b46), .val (.ref r51), .val (.ref r52), .val (.int (1 : Int32))] [(.ref r52)])) _
      refine XS.iconst X59.here hx rfl (hb hby at_285) ?_
      show Steps p.tables e below (T59.setTop (mkF m 286 #[.val (.int p1), .val (.int p2), .val (.int (4 : Int32)), .val (.ref b46), .val (.ref r51), .val (.ref r52), .val (.int (1 : Int32))] [(.int (3 : Int32)), (.ref r52)])) _
      refine X59.iaload hx (j := (3 : Int32)) (v := (.int (((p2.toUInt32 >>> ((24 : Int32) &&& 31).toUInt32).toInt32).toInt8.toInt32))) (by rw [e59]; exact As.1) (State.isArrayOf_alike hZ.alike As.2.1) As.2.2 (inb_of Ss ⟨by decide, by decide⟩) (Hs.at (inb_of Ss ⟨by decide, by decide⟩) rfl) (g := (mkF m 286 #[.val (.int p1), .val (.int p2), .val (.int (4 : Int32)), .val (.ref b46), .val (.ref r51), .val (.ref r52), .val (.int (1 : Int32))] [(.int (3 : Int32)), (.ref r52)])) rfl rfl (hb hby at_286) _ ?_
      show Steps p.tables e below (T59.setTop (mkF m 287 #[.val (.int p1), .val (.int p2), .val (.int (4 : Int32)), .val (.ref b46), .val (.ref r51), .val (.ref r52), .val (.int (1 : Int32))] [(.int (((p2.toUInt32 >>> ((24 : Int32) &&& 31).toUInt32).toInt32).toInt8.toInt32))])) _
      refine XS.iloadN X59.here hx rfl (hb hby at_287) rfl ?_
      show Steps p.tables e below (T59.setTop (mkF m 288 #[.val (.int p1), .val (.int p2), .val (.int (4 : Int32)), .val (.ref b46), .val (.ref r51), .val (.ref r52), .val (.int (1 : Int32))] [(.int p2), (.int (((p2.toUInt32 >>> ((24 : Int32) &&& 31).toUInt32).toInt32).toInt8.toInt32))])) _
      refine XS.iconst X59.here hx rfl (hb hby at_288) ?_
      exact kt
    obtain ⟨_, _, ⟨T60, L60, k60, n60⟩, -, X60, ⟨Lc60, hQ60, l60, y60, z60⟩, st60⟩ := Jvm.LawKit.callS X59 hx (y := (⟨"needlemark/CompiledPatternSymbolsPinLaw", "expected", "(II)I"⟩ : MethodName)) hown (mvT hZ (hw _ (List.mem_of_getElem? (i := 6) rfl))) (mvT hZ (hw _ (List.mem_of_getElem? (i := 7) rfl))) (mvT hZ (hw _ (List.mem_of_getElem? (i := 8) rfl))) (mvT hZ (hw _ (List.mem_of_getElem? (i := 9) rfl))) (by decide) (backOf (W := 1) (rm2 l Z a0 hw [] p2 (3 : Int32) hf n0 Zc) hZ (hw _ (List.mem_of_getElem? (i := 9) rfl)) (hw _ (List.mem_of_getElem? (i := 8) rfl)) (by decide) (by decide)) (g := (mkF m 289 #[.val (.int p1), .val (.int p2), .val (.int (4 : Int32)), .val (.ref b46), .val (.ref r51), .val (.ref r52), .val (.int (1 : Int32))] [(.int (3 : Int32)), (.int p2), (.int (((p2.toUInt32 >>> ((24 : Int32) &&& 31).toUInt32).toInt32).toInt8.toInt32))])) rfl (by rw [hml]; rfl) (argsL := [(.int p2), (.int (3 : Int32))]) (rest := [(.int (((p2.toUInt32 >>> ((24 : Int32) &&& 31).toUInt32).toInt32).toInt8.toInt32))]) (lenOf pd_1 rfl) rfl (by show 2 * 0 + _ ≤ _; exact Nat.le_of_eq rfl) (hb hby at_289) (fun _ _ => ⟨rfl, e59, (by decide : ((((((((((0 + 1) + 1) + 1) + 0) + 0) + 0) + 0) + 0) + 0) + 0) + 0 ≤ _), (by decide : ((((((((((0 + 4) + 4) + 4) + 0) + 0) + 0) + 0) + 0) + 0) + 0) + 0 ≤ _)⟩)
    dsimp only [Pt.U, Pt.locs, Pt.cells, Pt.slots] at X60 l60 y60 z60 st60 hQ60
    subst l60 y60 z60
    obtain ⟨rfl, N60q, e60⟩ := hQ60
    have N60 := Fr.app N59 N60q
    refine own_go (B := T60.setTop (mkF m 292 #[.val (.int p1), .val (.int p2), .val (.int (4 : Int32)), .val (.ref b46), .val (.ref r51), .val (.ref r52), .val (.int (1 : Int32))] [(.int (own_e p2 (3 : Int32))), (.int (((p2.toUInt32 >>> ((24 : Int32) &&& 31).toUInt32).toInt32).toInt8.toInt32))])) (fun t kt => st60 t kt) ?_
    refine own_go (B := T60.setTop (mkF m 315 #[.val (.int p1), .val (.int p2), .val (.int (4 : Int32)), .val (.ref b46), .val (.ref r51), .val (.ref r52), .val (.int (1 : Int32))] [(.int (1 : Int32))])) (fun t kt => ?_) ?_
    · show Steps p.tables e below (T60.setTop (mkF m 292 #[.val (.int p1), .val (.int p2), .val (.int (4 : Int32)), .val (.ref b46), .val (.ref r51), .val (.ref r52), .val (.int (1 : Int32))] [(.int (own_e p2 (3 : Int32))), (.int (((p2.toUInt32 >>> ((24 : Int32) &&& 31).toUInt32).toInt32).toInt8.toInt32))])) _
      refine XS.icmpNo X60.here hx rfl (hb hby at_292) rfl (teq (own_e3 p2)).2 ?_
      show Steps p.tables e below (T60.setTop (mkF m 295 #[.val (.int p1), .val (.int p2), .val (.int (4 : Int32)), .val (.ref b46), .val (.ref r51), .val (.ref r52), .val (.int (1 : Int32))] [])) _
      refine XS.aloadN X60.here hx rfl (hb hby at_295) rfl rfl ?_
      show Steps p.tables e below (T60.setTop (mkF m 296 #[.val (.int p1), .val (.int p2), .val (.int (4 : Int32)), .val (.ref b46), .val (.ref r51), .val (.ref r52), .val (.int (1 : Int32))] [(.ref b46)])) _
      refine XS.iconst X60.here hx rfl (hb hby at_296) ?_
      show Steps p.tables e below (T60.setTop (mkF m 297 #[.val (.int p1), .val (.int p2), .val (.int (4 : Int32)), .val (.ref b46), .val (.ref r51), .val (.ref r52), .val (.int (1 : Int32))] [(.int (3 : Int32)), (.ref b46)])) _
      refine X60.baloadBytes hx (j := (3 : Int32)) (v := (.int (((p2.toUInt32 >>> ((24 : Int32) &&& 31).toUInt32).toInt32).toInt8.toInt32))) (by rw [e60]; exact Ab.1) (State.isArrayOf_alike hZ.alike Ab.2.1) Ab.2.2 (inb_of Sb ⟨by decide, by decide⟩) (Hb.at (inb_of Sb ⟨by decide, by decide⟩) rfl) (g := (mkF m 297 #[.val (.int p1), .val (.int p2), .val (.int (4 : Int32)), .val (.ref b46), .val (.ref r51), .val (.ref r52), .val (.int (1 : Int32))] [(.int (3 : Int32)), (.ref b46)])) rfl rfl (hb hby at_297) _ ?_
      show Steps p.tables e below (T60.setTop (mkF m 298 #[.val (.int p1), .val (.int p2), .val (.int (4 : Int32)), .val (.ref b46), .val (.ref r51), .val (.ref r52), .val (.int (1 : Int32))] [(.int (((p2.toUInt32 >>> ((24 : Int32) &&& 31).toUInt32).toInt32).toInt8.toInt32))])) _
      refine XS.iloadN X60.here hx rfl (hb hby at_298) rfl ?_
      show Steps p.tables e below (T60.setTop (mkF m 299 #[.val (.int p1), .val (.int p2), .val (.int (4 : Int32)), .val (.ref b46), .val (.ref r51), .val (.ref r52), .val (.int (1 : Int32))] [(.int p2), (.int (((p2.toUInt32 >>> ((24 : Int32) &&& 31).toUInt32).toInt32).toInt8.toInt32))])) _
      refine XS.bipush X60.here hx rfl (hb hby at_299) ?_
      show Steps p.tables e below (T60.setTop (mkF m 301 #[.val (.int p1), .val (.int p2), .val (.int (4 : Int32)), .val (.ref b46), .val (.ref r51), .val (.ref r52), .val (.int (1 : Int32))] [(.int (24 : Int32)), (.int p2), (.int (((p2.toUInt32 >>> ((24 : Int32) &&& 31).toUInt32).toInt32).toInt8.toInt32))])) _
      refine XS.iushr X60.here hx rfl (hb hby at_301) rfl ?_
      show Steps p.tables e below (T60.setTop (mkF m 302 #[.val (.int p1), .val (.int p2), .val (.int (4 : Int32)), .val (.ref b46), .val (.ref r51), .val (.ref r52), .val (.int (1 : Int32))] [(.int ((p2.toUInt32 >>> ((24 : Int32) &&& 31).toUInt32).toInt32)), (.int (((p2.toUInt32 >>> ((24 : Int32) &&& 31).toUInt32).toInt32).toInt8.toInt32))])) _
      refine XS.i2b X60.here hx rfl (hb hby at_302) rfl ?_
      show Steps p.tables e below (T60.setTop (mkF m 303 #[.val (.int p1), .val (.int p2), .val (.int (4 : Int32)), .val (.ref b46), .val (.ref r51), .val (.ref r52), .val (.int (1 : Int32))] [(.int (((p2.toUInt32 >>> ((24 : Int32) &&& 31).toUInt32).toInt32).toInt8.toInt32)), (.int (((p2.toUInt32 >>> ((24 : Int32) &&& 31).toUInt32).toInt32).toInt8.toInt32))])) _
      refine XS.icmpNo X60.here hx rfl (hb hby at_303) rfl (teq rfl).2 ?_
      show Steps p.tables e below (T60.setTop (mkF m 306 #[.val (.int p1), .val (.int p2), .val (.int (4 : Int32)), .val (.ref b46), .val (.ref r51), .val (.ref r52), .val (.int (1 : Int32))] [])) _
      refine XS.iconst X60.here hx rfl (hb hby at_306) ?_
      show Steps p.tables e below (T60.setTop (mkF m 307 #[.val (.int p1), .val (.int p2), .val (.int (4 : Int32)), .val (.ref b46), .val (.ref r51), .val (.ref r52), .val (.int (1 : Int32))] [(.int (1 : Int32))])) _
      refine XS.goto X60.here hx rfl (pc0 := 307) (pc' := 311) rfl (hb hby at_307) (by decide) (by decide) ?_
      show Steps p.tables e below (T60.setTop (mkF m 311 #[.val (.int p1), .val (.int p2), .val (.int (4 : Int32)), .val (.ref b46), .val (.ref r51), .val (.ref r52), .val (.int (1 : Int32))] [(.int (1 : Int32))])) _
      refine XS.istore X60.here hx rfl (hb hby at_311) rfl (l' := #[.val (.int p1), .val (.int p2), .val (.int (4 : Int32)), .val (.ref b46), .val (.ref r51), .val (.ref r52), .val (.int (1 : Int32))]) rfl ?_
      show Steps p.tables e below (T60.setTop (mkF m 313 #[.val (.int p1), .val (.int p2), .val (.int (4 : Int32)), .val (.ref b46), .val (.ref r51), .val (.ref r52), .val (.int (1 : Int32))] [])) _
      refine XS.iload X60.here hx rfl (hb hby at_313) rfl ?_
      exact kt
    obtain ⟨fs, hr, hrun, hended, hW, hsame⟩ := X60.leave (v := some (.int (1 : Int32))) (fun h => by rw [Bd.returns] at h; cases h)
    refine ⟨_, _, ?_, hrun, hended, _, _, rfl, ?_, ⟨_, rfl⟩, hW, hsame.mono (by decide) (by decide)⟩
    · show Steps p.tables e below (T60.setTop (mkF m 315 #[.val (.int p1), .val (.int p2), .val (.int (4 : Int32)), .val (.ref b46), .val (.ref r51), .val (.ref r52), .val (.int (1 : Int32))] [(.int (1 : Int32))])) _
      exact retN X60 hx (t := .boolean) Bd.returns (by simp) (hb hby at_315) hr
    · show Q0 Z p1 p2 h0 n0 _ T60.heap _
      rw [e60]
      exact ⟨rfl, N60⟩
set_option maxRecDepth 65536 in
set_option maxHeartbeats 40000000 in
theorem comes_1 {Post : Tables → Env → Array Value → State → Outcome → State → Prop} (hpost : ∀ tb e args s v u, (limb_1_1.after args s (.returned v) u = true ∧ limb_1_2.after args s (.returned v) u = true ∧ True) → FrameEnd s (.returned v) u (Jvm.fieldLocs frame_1_writes args s ++ Jvm.arrayLocs frame_1_arrays args s ++ Jvm.staticLocs frame_1_statics s) 16 128 → Post tb e args s (.returned v) u) :
    ArmFor flags0 classFile x code maxLocals ret World_1 tables_1 room_1 Calls_1 rest_1 Pre_1 Post := by
  intro l hfl _ _ p e ha hc hk s m args below hf hA hF happ hP
  obtain ⟨hcalls, hrest, hpre⟩ := hP
  obtain ⟨-, -, -, hnamed, -, -, -, hat⟩ := (Spec.applies_iff hf).mp happ
  obtain ⟨hg, hn⟩ := and_e (Cond.before_iff.mp (show (Jvm.Cond.and given_1 narrow_1).before args s = true from hpre))
  obtain ⟨gg1, gg2⟩ := and_e hg
  obtain ⟨gg3, gg4⟩ := and_e gg2
  obtain ⟨w0, w1, rfl⟩ : ∃ w0 w1 : Value, args = #[w0, w1] := by
    have hs : args.size = 2 := by simpa [Cond.value, given_1] using gg1
    obtain ⟨L⟩ := args
    match L, hs with
    | [w0, w1], _ => exact ⟨w0, w1, rfl⟩
  have hw := fun d (hd : d ∈ tables_1) => atoms_spec (ws := Jvm.Cond.code x code maxLocals ret :: tables_1) hat d (List.mem_cons_of_mem _ hd)
  obtain ⟨i0, ei0⟩ := is_v gg3
  obtain rfl : w0 = (.int i0) := Option.some.inj ei0
  obtain ⟨i1, ei1⟩ := is_v gg4
  obtain rfl : w1 = (.int i1) := Option.some.inj ei1
  obtain ⟨n, o, h1, h2, h3, _, L, rfl, ⟨rfl, N⟩, hq⟩ := rm0 l s _ hw tables_1 i0 i1  s.heap s.heap.size (Nat.le_refl _)  p e ha hc hk s m _ below hf ((Spec.applies_iff_loose hf).mp happ).1 ⟨rfl, State.Warmed39.refl s, rfl⟩ trivial
  refine ⟨n, _, h1, h2, h3, hpost _ _ _ _ _ _ ⟨Cond.after_iff.mpr rfl, Cond.after_iff.mpr (eq_i res_at (Term.int_eval (1)) rfl), trivial⟩ ⟨hq.1, hq.2.1, (hq.2.2.sift fun y hy => Or.inr (N y hy)).mono (by decide) (by decide)⟩⟩
theorem main_1_1 : Claimed_1_1 := comes_1 fun _ _ _ _ _ _ h hF => ⟨h.1, hF⟩
theorem main_1_2 : Claimed_1_2 := comes_1 fun _ _ _ _ _ _ h hF => ⟨h.2.1, hF⟩
end Jvm.Pilot.@@N@@
namespace Jvm.Pilot.@@N@@
open Jvm Jvm.ClassFile Sem Op Lib Jvm.Free Jvm.Stand Jvm.Pilot.@@N@@.Jvm.D
/-! MADE BY PROGRAM (witnessworld.py) out of the Statement's table words and the real class files: 9 classes; the members and pool entries that the words name. The judged class is class 1, her method 2. -/
namespace start1
open Jvm.ClassFile
def u (s : String) : CpInfo := .utf8 (stringToUtf16 s)
/-- a pool by its gaps: so many unusable entries, then the entry; so many at the end -/
def gap : Nat → List CpInfo → List CpInfo
  | 0, r => r
  | n + 1, r => .unusable :: gap n r
def poolList (es : List (Nat × CpInfo)) (last : Nat) : List CpInfo := es.foldr (fun e r => gap e.1 (e.2 :: r)) (gap last [])
def pool (es : List (Nat × CpInfo)) (last : Nat) : Array CpInfo := ⟨poolList es last⟩
def fileOf (pool : Array CpInfo) (this : Nat) (attrs : Array Attribute := #[]) (ms : Array MethodInfo := #[]) (fl : Nat := 33) (sup : Nat := 0) (ifs : Array Nat := #[]) (fds : Array FieldInfo := #[]) : ClassFile where
  minorVersion := 0
  majorVersion := 65
  constantPool := pool
  accessFlags := fl
  thisClass := this
  superClass := sup
  interfaces := ifs
  fields := fds
  methods := ms
  attributes := attrs
def plain (name : String) (sup : Option ClassId) : Class where
  name := name
  kind := .ordinary
  loader := none
  accessFlags := 33
  super := sup
  interfaces := #[]
  cf := none
  fields := #[]
  methods := #[]
  instanceTypes := #[]
  staticTypes := #[]
  resolved := #[]
  callSites := []
  init := .initialized
  statics := none
  mirror := none

def pool0 : Array CpInfo := pool [(5, u "<init>"), (0, u "()V"), (1, .class_ 10), (1, u "java/lang/Object")] 113

def k0m0 : Method := { name := "<init>", desc := "()V", sig := { parameters := [], returnType := none }, accessFlags := 1, code := none }
/-- java/lang/Object -/
def k0 : Class := { plain "java/lang/Object" none with
  accessFlags := 33
  interfaces := #[]
  cf := some (fileOf pool0 8 #[] #[{ accessFlags := 1, nameIndex := 5, descriptorIndex := 6, attributes := #[] }] 33 0 #[] #[])
  fields := #[]
  methods := #[k0m0]
  instanceTypes := #[]
  staticTypes := #[]
  resolved := Array.replicate 124 none
  statics := none }

def pool1 : Array CpInfo := pool [(2, .class_ 4), (1, u "java/lang/Object"), (0, u "<init>"), (0, u "()V"), (0, .methodref 8 9), (0, .class_ 10), (0, .nameAndType 11 12), (0, u "needlemark/CompiledPattern"), (0, u "symbols"), (0, u "([B)[I"), (0, .methodref 14 15), (0, .class_ 16), (0, .nameAndType 17 18), (0, u "needlemark/CompiledPatternSymbolsPinLaw"), (0, u "expected"), (0, u "(II)I"), (2, u "law"), (0, u "(II)Z")] 7

def k1m0 : Method := { name := "<init>", desc := "()V", sig := { parameters := [], returnType := none }, accessFlags := 1, code := none }
def k1c1 : Code := { maxStack := 3, maxLocals := 2, code := method_2_code, exceptionTable := #[], attributes := #[] }
def k1m1 : Method := { name := "expected", desc := "(II)I", sig := { parameters := [.int, .int], returnType := some .int }, accessFlags := 10, code := some k1c1 }
def k1c2 : Code := { maxStack := 4, maxLocals := 7, code := code, exceptionTable := #[], attributes := #[] }
def k1m2 : Method := { name := "law", desc := "(II)Z", sig := { parameters := [.int, .int], returnType := some .boolean }, accessFlags := 9, code := some k1c2 }
/-- needlemark/CompiledPatternSymbolsPinLaw -/
def k1 : Class := { plain "needlemark/CompiledPatternSymbolsPinLaw" (some 0) with
  accessFlags := 49
  interfaces := #[]
  cf := some (fileOf pool1 14 #[] #[{ accessFlags := 1, nameIndex := 5, descriptorIndex := 6, attributes := #[] }, { accessFlags := 10, nameIndex := 17, descriptorIndex := 18, attributes := #[] }, { accessFlags := 9, nameIndex := 21, descriptorIndex := 22, attributes := #[] }] 49 2 #[] #[])
  fields := #[]
  methods := #[k1m0, k1m1, k1m2]
  instanceTypes := #[]
  staticTypes := #[]
  resolved := Array.replicate 30 none
  statics := none }

def pool2 : Array CpInfo := pool [(2, .class_ 4), (1, u "java/lang/Object"), (3, .class_ 10), (1, u "needlemark/CompiledPattern"), (0, u "pattern"), (0, u "[I"), (13, u "symbols"), (0, u "([B)[I"), (9, .class_ 38), (0, u "needlemark/CompiledPattern$Scan")] 2

def k2c0 : Code := { maxStack := 4, maxLocals := 3, code := prog_1_method_2_code, exceptionTable := #[], attributes := #[] }
def k2m0 : Method := { name := "symbols", desc := "([B)[I", sig := { parameters := [(.array .byte)], returnType := some (.array .int) }, accessFlags := 8, code := some k2c0 }
/-- needlemark/CompiledPattern -/
def k2 : Class := { plain "needlemark/CompiledPattern" (some 0) with
  accessFlags := 1056
  interfaces := #[]
  cf := some (fileOf pool2 8 #[.nestMembers #[37]] #[{ accessFlags := 8, nameIndex := 26, descriptorIndex := 27, attributes := #[] }] 1056 2 #[] #[{ accessFlags := 16, nameIndex := 11, descriptorIndex := 12, attributes := #[] }])
  fields := #[{ name := "pattern", type := (.array .int), accessFlags := 16, slot := 0, constantValue := 0 }]
  methods := #[k2m0]
  instanceTypes := #[(.array .int)]
  staticTypes := #[]
  resolved := Array.replicate 41 none
  statics := none }

def pool3 : Array CpInfo := pool [(1, u "java/lang/Cloneable"), (0, .class_ 1), (0, u "java/lang/Object"), (0, .class_ 3)] 3

/-- java/lang/Cloneable -/
def k3 : Class := { plain "java/lang/Cloneable" (some 0) with
  accessFlags := 1537
  interfaces := #[]
  cf := some (fileOf pool3 2 #[] #[] 1537 4 #[] #[])
  fields := #[]
  methods := #[]
  instanceTypes := #[]
  staticTypes := #[]
  resolved := Array.replicate 8 none
  statics := none }

def pool4 : Array CpInfo := pool [(1, u "java/io/Serializable"), (0, .class_ 1), (0, u "java/lang/Object"), (0, .class_ 3)] 3

/-- java/io/Serializable -/
def k4 : Class := { plain "java/io/Serializable" (some 0) with
  accessFlags := 1537
  interfaces := #[]
  cf := some (fileOf pool4 2 #[] #[] 1537 4 #[] #[])
  fields := #[]
  methods := #[]
  instanceTypes := #[]
  staticTypes := #[]
  resolved := Array.replicate 8 none
  statics := none }

/-- the primitive byte -/
def k5 : Class := { plain "byte" none with kind := .primitive 'B', accessFlags := 0x411 }
/-- [B -/
def k6 : Class := { plain "[B" (some 0) with kind := .array 5 .byte, interfaces := #[3, 4], accessFlags := 1041 }

/-- the primitive int -/
def k7 : Class := { plain "int" none with kind := .primitive 'I', accessFlags := 0x411 }
/-- [I -/
def k8 : Class := { plain "[I" (some 0) with kind := .array 7 .int, interfaces := #[3, 4], accessFlags := 1041 }

def heap : Heap := #[]
def classes : Array Class := #[k0, k1, k2, k3, k4, k5, k6, k7, k8]
def interned : List (Array UInt16 × Addr) := []
def slotsUsed : Nat := 0
def theMethod : MethodId := ⟨1, 2⟩
def args0 : Array Value := #[.int 4, .int 77]
def aboutOver (below : List Frame) : State where
  vm := { classes := classes, interned := interned.toArray }
  heap := heap
  slotsUsed := slotsUsed
  threads := #[{ frames := .invoking theMethod args0 :: below }]
def below0 : List Frame := [.native { method := ⟨0, 0⟩, args := #[] }]
def about1 : State := aboutOver below0
def p0 : Program := .bare "" "" ""
def e0 : Env := launch0.env 0 0 0
theorem w_frames : about1.frames = Frame.invoking theMethod args0 :: below0 := rfl
set_option maxRecDepth 65536 in
theorem w_args : argsFit about1.vm theMethod args0 = true := by decide +kernel
set_option maxRecDepth 65536 in
theorem w_heap : heapFits about1 = true := by decide +kernel
set_option maxRecDepth 65536 in
theorem w_runnable : about1.curStatus? = some .runnable := by decide +kernel
set_option maxRecDepth 65536 in
theorem w_alone : about1.alone = true := by decide +kernel
set_option maxRecDepth 65536 in
theorem w_named : about1.methodNamed? x = some theMethod := by decide +kernel
set_option maxRecDepth 65536 in
theorem w_hears : about1.hears theMethod below0 = true := by decide +kernel
set_option maxRecDepth 65536 in
theorem w_ripe : about1.ripe theMethod args0 below0 = true := by decide +kernel
theorem w_running : about1.status = .running := rfl
set_option maxRecDepth 65536 in
theorem w_room : about1.hasRoom e0.platform room_1 = true :=
  launch0.hasRoom_least _ room_1 (by decide +kernel) (by decide +kernel) (by decide +kernel) (by decide +kernel) (by decide +kernel) (by decide +kernel)
theorem allAtoms_all (ts : List Jvm.Cond) (a : Array Jvm.Value) (st : Jvm.State) : (allAtoms ts).before a st = ts.all (fun c => c.before a st) := by
  induction ts with
  | nil => rfl
  | cons c t ih =>
    show (Jvm.Cond.and c (allAtoms t)).before a st = _
    rw [Jvm.Cond.before_and, ih, List.all_cons]
def words1 : List Jvm.Cond := Jvm.Cond.code x code maxLocals ret :: tables_1
/-- a 'code' word, met by the world's own term for the bytes: nothing is compared byte by byte -/
theorem code_word {y : MethodName} {bytes : ByteArray} {mx : Nat} {rt : Option FieldType} {a : Array Value} {s : State} {m : MethodId} {meth : Method} {c : Code} (h1 : s.methodNamed? y = some m) (h2 : s.vm.method? m = some meth) (h3 : meth.code = some c) (h4 : c.code = bytes)
    (h5 : (c.maxLocals == mx && c.exceptionTable.isEmpty && decide (c.maxStack ≤ mostOperands) && decide (meth.sig.returnType = rt) && !meth.locks && decide (parseMethodDescriptor y.desc = some meth.sig)) = true) : (Jvm.Cond.code y bytes mx rt).before a s = true := by
  simp only [Bool.and_eq_true, beq_iff_eq, Bool.not_eq_true', decide_eq_true_eq] at h5
  obtain ⟨⟨⟨⟨⟨g1, g2⟩, g3⟩, g4⟩, g5⟩, g6⟩ := h5
  simp [Cond.before, Cond.holds, Cond.value, h1, h2, h3, h4, g1, g2, g3, g4, g5, g6]
def isCode : Jvm.Cond → Bool
  | .code _ _ _ _ => true
  | _ => false
theorem all_split {L : List Jvm.Cond} {P : Jvm.Cond → Bool} (h1 : L.all (fun c => isCode c || P c) = true) (h2 : ∀ c ∈ L.filter isCode, P c = true) : L.all P = true := by
  refine List.all_eq_true.mpr fun c hc => ?_
  have h := List.all_eq_true.mp h1 c hc
  rcases Bool.eq_false_or_eq_true (isCode c) with hi | hi
  · exact h2 c (List.mem_filter.mpr ⟨hc, hi⟩)
  · simpa [hi] using h
set_option maxRecDepth 65536 in
theorem w_c0 : (Jvm.Cond.code x code maxLocals ret).before args0 about1 = true := code_word (m := ⟨1, 2⟩) (meth := k1m2) (c := k1c2) (by decide +kernel) rfl rfl rfl (by decide +kernel)
set_option maxRecDepth 65536 in
theorem w_c1 : (Jvm.Cond.code ({ cls := "needlemark/CompiledPattern", name := "symbols", desc := "([B)[I" } : Jvm.MethodName) prog_1_method_2_code (3 : Nat) (Option.some (Jvm.ClassFile.FieldType.array Jvm.ClassFile.FieldType.int))).before args0 about1 = true := code_word (m := ⟨2, 0⟩) (meth := k2m0) (c := k2c0) (by decide +kernel) rfl rfl rfl (by decide +kernel)
set_option maxRecDepth 65536 in
theorem w_c2 : (Jvm.Cond.code ({ cls := "needlemark/CompiledPatternSymbolsPinLaw", name := "expected", desc := "(II)I" } : Jvm.MethodName) method_2_code (2 : Nat) (Option.some Jvm.ClassFile.FieldType.int)).before args0 about1 = true := code_word (m := ⟨1, 1⟩) (meth := k1m1) (c := k1c1) (by decide +kernel) rfl rfl rfl (by decide +kernel)
def codes1 : List Jvm.Cond := [Jvm.Cond.code x code maxLocals ret, Jvm.Cond.code ({ cls := "needlemark/CompiledPattern", name := "symbols", desc := "([B)[I" } : Jvm.MethodName) prog_1_method_2_code (3 : Nat) (Option.some (Jvm.ClassFile.FieldType.array Jvm.ClassFile.FieldType.int)), Jvm.Cond.code ({ cls := "needlemark/CompiledPatternSymbolsPinLaw", name := "expected", desc := "(II)I" } : Jvm.MethodName) method_2_code (2 : Nat) (Option.some Jvm.ClassFile.FieldType.int)]
set_option maxRecDepth 65536 in
theorem codes_eq : words1.filter isCode = codes1 := rfl
theorem w_codes : ∀ c ∈ words1.filter isCode, c.before args0 about1 = true := by
  rw [codes_eq]
  intro c hc
  simp only [codes1, List.mem_cons, List.not_mem_nil, or_false] at hc
  rcases hc with rfl | rfl | rfl
  · exact w_c0
  · exact w_c1
  · exact w_c2
set_option maxRecDepth 65536 in
theorem w_t1 : words1.all (fun c => isCode c || c.before args0 about1) = true := by decide +kernel
theorem w_tables : (allAtoms (Jvm.Cond.code x code maxLocals ret :: tables_1)).before args0 about1 = true := by
  rw [allAtoms_all]
  show words1.all (fun c => c.before args0 about1) = true
  refine all_split ?_ w_codes
  rw [w_t1]
set_option maxRecDepth 65536 in
theorem w_case : (Jvm.Cond.and given_1 narrow_1).before args0 about1 = true := by decide +kernel
theorem w_applies : (headSpec (Jvm.Cond.code x code maxLocals ret :: tables_1) room_1).applies x e0.platform about1 = true :=
  (Spec.applies_iff w_frames).mpr ⟨w_running, w_runnable, w_alone, w_named, w_hears, w_ripe, w_room, w_tables⟩
theorem atStart : AtStart classFile x code maxLocals ret World_1 tables_1 room_1 Calls_1 rest_1 Pre_1 launch0 p0 e0 about1 theMethod args0 below0 :=
  ⟨lists_1, trivial, launch0.admits_env _ _ _, launch0.least_env, fairChoices_fair.cas, fairChoices_fair.clock, w_frames, w_args, w_heap, w_applies, trivial, trivial, w_case⟩
end start1
theorem witness_1 : WitnessClaimed_1 := ⟨start1.p0, start1.e0, start1.about1, start1.theMethod, start1.args0, start1.below0, start1.atStart⟩
end Jvm.Pilot.@@N@@
