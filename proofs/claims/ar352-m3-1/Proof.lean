import JvmDerived
import JvmDerived.Pilot.@@N@@Statement
import JvmDerived.Pilot.@@N@@Code
set_option linter.unusedVariables false
set_option linter.unusedSimpArgs false
namespace Jvm.RoadKit
open Sem ClassFile Op Lib Jvm.Stand Jvm.Free Jvm.LawKit
section New
variable {p : Program} {l : Launch} {e : Env} {R : Room} {s : State} {m : MethodId} {args : Array Value} {below : List Frame} {meth : Method} {c : Code} {T : State} {locs : List Loc} {cells slots : Nat}
theorem retI (X : Stand p l e R s m args below meth c T locs cells slots) (hx : p.tables.exec = Jvm.exec) {pc : Nat} {Ls : Array Slot} {z : Int32} {rest : List Value} (hret : meth.sig.returnType = some .int) (hd : decode c.code pc = .ok (.ireturn, 1)) {fs : List Frame}
    (hl : ∀ (f : JFrame) (acts : List Action), f.method = m → f.locked = none → f.entered = [] → (doReturn e (T.setTop f) acts (some (.int z))).1 = T.setFrames fs) : Steps p.tables e below (T.setTop (mkF m pc Ls (.int z :: rest))) (T.setFrames fs) := by
  have hm' : T.vm.method? m = some meth := X.method'
  have hn : narrow .int (.int z) = .int z := rfl
  show Steps p.tables e below (T.setTop { method := m, pc := pc, locals := Ls, stack := _ :: rest, locked := none }) _
  jvm_step X.here [X.here.top, hx, hd, hm', hret, hn]
  first | (intro acts; rw [hl _ acts rfl rfl rfl]) | rw [hl _ _ rfl rfl rfl]
  exact Steps.refl _
end New
end Jvm.RoadKit
namespace Jvm.Pilot.@@N@@
open Jvm Jvm.ClassFile Sem Op Lib Jvm.Free Jvm.Stand Jvm.LawKit Jvm.RoadKit Bundle Jvm.Pilot.@@N@@.Jvm.D
/-- the goal of a walk, carried over a piece of it -/
theorem own_go {tb : Tables} {e : Env} {below : List Frame} {A B : State} {P : State → Outcome → Prop} (st : ∀ t, Steps tb e below B t → Steps tb e below A t) (h : ∃ s₂ o, Steps tb e below B s₂ ∧ P s₂ o) : ∃ s₂ o, Steps tb e below A s₂ ∧ P s₂ o := by
  obtain ⟨s₂, o, h1, h2⟩ := h
  exact ⟨s₂, o, st _ h1, h2⟩
/-- a boolean as the int that the machine holds -/
def own_i (b : Bool) : Int32 := if b = true then 1 else 0
theorem own_i1 {b : Bool} (h : b = true) : ¬ (own_i b = 0) := by subst h; decide
theorem own_i0 {b : Bool} (h : ¬ b = true) : own_i b = 0 := by cases b; · rfl
                                                               · exact absurd rfl h
theorem own_it {b : Bool} (h : b = true) : own_i b = 1 := by subst h; rfl
theorem own_nb (b : Bool) : nar .boolean (own_i b) = own_i b := by cases b <;> decide
theorem own_n (x : Int32) : (((x &&& (3 : Int32)) % (3 : Int32)) + (1 : Int32)) = (1 : Int32) ∨ (((x &&& (3 : Int32)) % (3 : Int32)) + (1 : Int32)) = (2 : Int32) ∨ (((x &&& (3 : Int32)) % (3 : Int32)) + (1 : Int32)) = (3 : Int32) := by
  have e : (x &&& (3 : Int32)).toBitVec.toNat ≤ 3 := by
    rw [Int32.toBitVec_and, BitVec.toNat_and]
    exact Nat.and_le_right
  have h0 : 0 ≤ (x &&& (3 : Int32)).toInt := by
    show 0 ≤ BitVec.toInt _
    rw [BitVec.toInt_eq_toNat_cond, if_pos (by omega)]
    omega
  have h1 : ((x &&& (3 : Int32)) % (3 : Int32)).toInt = (x &&& (3 : Int32)).toInt % 3 := by
    rw [Int32.toInt_mod, show (3 : Int32).toInt = 3 from rfl, Int.tmod_eq_emod_of_nonneg h0]
  have h2 := c_iadd ((x &&& (3 : Int32)) % (3 : Int32)) (1 : Int32)
  have h3 := rng32 (((x &&& (3 : Int32)) % (3 : Int32)) + (1 : Int32))
  rw [show (1 : Int32).toInt = 1 from rfl] at h2
  simp only [← Int32.toInt_inj, show (1 : Int32).toInt = 1 from rfl, show (2 : Int32).toInt = 2 from rfl, show (3 : Int32).toInt = 3 from rfl]
  omega
theorem d1_0 : decode prog_45_method_1_code 0 = .ok (.aload_n 0, 1) := by decide +kernel
theorem d1_1 : decode prog_45_method_1_code 1 = .ok (.invokespecial 1, 3) := by decide +kernel
theorem d1_4 : decode prog_45_method_1_code 4 = .ok (.aload_n 3, 1) := by decide +kernel
theorem d1_5 : decode prog_45_method_1_code 5 = .ok (.arraylength, 1) := by decide +kernel
theorem d1_6 : decode prog_45_method_1_code 6 = .ok (.ifCond .ne 17, 3) := by decide +kernel
theorem d1_23 : decode prog_45_method_1_code 23 = .ok (.aload_n 0, 1) := by decide +kernel
theorem d1_24 : decode prog_45_method_1_code 24 = .ok (.aload_n 1, 1) := by decide +kernel
theorem d1_25 : decode prog_45_method_1_code 25 = .ok (.putfield 16, 3) := by decide +kernel
theorem d1_28 : decode prog_45_method_1_code 28 = .ok (.aload_n 0, 1) := by decide +kernel
theorem d1_29 : decode prog_45_method_1_code 29 = .ok (.aload_n 2, 1) := by decide +kernel
theorem d1_30 : decode prog_45_method_1_code 30 = .ok (.putfield 22, 3) := by decide +kernel
theorem d1_33 : decode prog_45_method_1_code 33 = .ok (.aload_n 0, 1) := by decide +kernel
theorem d1_34 : decode prog_45_method_1_code 34 = .ok (.aload_n 3, 1) := by decide +kernel
theorem d1_35 : decode prog_45_method_1_code 35 = .ok (.invokevirtual 25, 3) := by decide +kernel
theorem d1_38 : decode prog_45_method_1_code 38 = .ok (.checkcast 26, 3) := by decide +kernel
theorem d1_41 : decode prog_45_method_1_code 41 = .ok (.putfield 31, 3) := by decide +kernel
theorem d1_44 : decode prog_45_method_1_code 44 = .ok (.return_, 1) := by decide +kernel
theorem d3_0 : decode prog_45_method_6_code 0 = .ok (.aload_n 0, 1) := by decide +kernel
theorem d3_1 : decode prog_45_method_6_code 1 = .ok (.getfield 31, 3) := by decide +kernel
theorem d3_4 : decode prog_45_method_6_code 4 = .ok (.astore_n 2, 1) := by decide +kernel
theorem d3_5 : decode prog_45_method_6_code 5 = .ok (.aload_n 2, 1) := by decide +kernel
theorem d3_6 : decode prog_45_method_6_code 6 = .ok (.arraylength, 1) := by decide +kernel
theorem d3_7 : decode prog_45_method_6_code 7 = .ok (.istore_n 3, 1) := by decide +kernel
theorem d3_8 : decode prog_45_method_6_code 8 = .ok (.iconst 0, 1) := by decide +kernel
theorem d3_9 : decode prog_45_method_6_code 9 = .ok (.istore 4, 2) := by decide +kernel
theorem d3_11 : decode prog_45_method_6_code 11 = .ok (.iload 4, 2) := by decide +kernel
theorem d3_13 : decode prog_45_method_6_code 13 = .ok (.iload_n 3, 1) := by decide +kernel
theorem d3_14 : decode prog_45_method_6_code 14 = .ok (.if_icmp .ge 23, 3) := by decide +kernel
theorem d3_17 : decode prog_45_method_6_code 17 = .ok (.aload_n 2, 1) := by decide +kernel
theorem d3_18 : decode prog_45_method_6_code 18 = .ok (.iload 4, 2) := by decide +kernel
theorem d3_20 : decode prog_45_method_6_code 20 = .ok (.iaload, 1) := by decide +kernel
theorem d3_21 : decode prog_45_method_6_code 21 = .ok (.istore 5, 2) := by decide +kernel
theorem d3_23 : decode prog_45_method_6_code 23 = .ok (.iload 5, 2) := by decide +kernel
theorem d3_25 : decode prog_45_method_6_code 25 = .ok (.iload_n 1, 1) := by decide +kernel
theorem d3_26 : decode prog_45_method_6_code 26 = .ok (.if_icmp .ne 5, 3) := by decide +kernel
theorem d3_29 : decode prog_45_method_6_code 29 = .ok (.iconst 1, 1) := by decide +kernel
theorem d3_30 : decode prog_45_method_6_code 30 = .ok (.ireturn, 1) := by decide +kernel
theorem d3_31 : decode prog_45_method_6_code 31 = .ok (.iinc 4 1, 3) := by decide +kernel
theorem d3_34 : decode prog_45_method_6_code 34 = .ok (.goto (-23), 3) := by decide +kernel
theorem d3_37 : decode prog_45_method_6_code 37 = .ok (.iconst 0, 1) := by decide +kernel
theorem d3_38 : decode prog_45_method_6_code 38 = .ok (.ireturn, 1) := by decide +kernel
theorem pd_0 : parseMethodDescriptor "(Ljava/lang/String;Ljava/lang/String;[I)V" = some ⟨[(.object "java/lang/String"), (.object "java/lang/String"), (.array .int)], none⟩ := by decide +kernel
theorem pd_1 : parseMethodDescriptor "(I)Z" = some ⟨[.int], some .boolean⟩ := by decide +kernel
theorem pn_0 : plainName "com/example/coppice/coppice/model/Variable" = true := by first | (simp [plainName, overriddenIn]; done) | decide +kernel
theorem pn_1 : plainName "com/example/coppice/coppice/model/VariableContainsPinLaw" = true := by first | (simp [plainName, overriddenIn]; done) | decide +kernel
theorem ef_1 (m : MethodId) (x0 : Addr) (x1 : Addr) (x2 : Addr) (x3 : Addr) : entryFrame m #[(.ref x0), (.ref x1), (.ref x2), (.ref x3)] 4 = mkF m 0 #[.val (.ref x0), .val (.ref x1), .val (.ref x2), .val (.ref x3)] [] := by first | (simp [entryFrame, mkF, argsToLocals, Value.category]; done) | rfl
def Q1 (Z : State) (a1 : Addr) (ka : ClassId) (z : Int32) (vs : List Value) (dv : Value) (h0 : Heap) (n0 : Nat) (v : Option Value) (h : Heap) (L : List Loc) : Prop := v = none ∧ Fr n0 L ∧ Keep h0 h [a1] ∧ Exa Z h a1 "com/example/coppice/coppice/model/Variable" ∧ ∃ b : Addr, Fld Z h a1 "com/example/coppice/coppice/model/Variable" "values" "[I" (.ref b) ∧ Arv Z h b ka .int z vs dv
set_option maxRecDepth 65536 in
set_option maxHeartbeats 40000000 in
theorem rm1 (l : Launch) (Z : State) (a0 : Array Value) (hw : ∀ d ∈ tables_1, d.before a0 Z = true) (ws : List Jvm.Cond) (a1 : Addr) (a2 : Addr) (a3 : Addr) (a4 : Addr) (ka : ClassId) (z : Int32) (vs : List Value) (dv : Value) (h0 : Heap) (n0 : Nat) (Z0 : n0 ≤ h0.size) (F_name : Fld Z h0 a1 "com/example/coppice/coppice/model/Variable" "name" "Ljava/lang/String;" .null) (F_agent : Fld Z h0 a1 "com/example/coppice/coppice/model/Variable" "agent" "Ljava/lang/String;" .null) (F_values : Fld Z h0 a1 "com/example/coppice/coppice/model/Variable" "values" "[I" .null) (E : Exa Z h0 a1 "com/example/coppice/coppice/model/Variable") (g : n0 ≤ a1) (V : Arv Z h0 a4 ka .int z vs dv) (Ea : Exa Z h0 a4 "[I") (hz : ¬ z = (0 : Int32)) (hcap : z.toNatClampNeg ≤ 3) (hne : a4 ≠ a1) :
    MetFree l (⟨"com/example/coppice/coppice/model/Variable", "<init>", "(Ljava/lang/String;Ljava/lang/String;[I)V"⟩ : MethodName) (head1 (Jvm.Cond.code (⟨"com/example/coppice/coppice/model/Variable", "<init>", "(Ljava/lang/String;Ljava/lang/String;[I)V"⟩ : MethodName) prog_45_method_1_code 4 none :: ws) ({ frames := 1, cells := 1, slots := 3, locals := 20 } : Room)) (fun a U => a = #[(.ref a1), (.ref a2), (.ref a3), (.ref a4)] ∧ Z.Warmed39 U.vm ∧ U.heap = h0) (fun _ _ _ _ _ => True) (fun _ U o U' => ∃ v L, o = .returned v ∧ Q1 Z a1 ka z vs dv h0 n0 v U'.heap L ∧ FrameEnd U o U' L ({ frames := 1, cells := 1, slots := 3, locals := 20 } : Room).cells ({ frames := 1, cells := 1, slots := 3, locals := 20 } : Room).slots) := by
  refine MetFree.of_bodySF (plainFor_of_name pn_0) hisR ?_
  intro p e s m args below meth c s₁ Bd hml0 hP hK
  obtain ⟨rfl, hZ, hh⟩ := hP
  have hx := Bd.exec
  have hby := Bd.bytes
  have hml : c.maxLocals = 4 := hml0
  have hown : s.vm.findClass "com/example/coppice/coppice/model/Variable" = some m.cls := findClass_of_methodNamed Bd.named
  have hnm := (name_of_methodNamed Bd.named Bd.method).1
  have X0 : Stand p l e ({ frames := 1, cells := 1, slots := 3, locals := 20 } : Room) s m #[(.ref a1), (.ref a2), (.ref a3), (.ref a4)] below meth c s₁ [] 0 0 := Stand.of_body Bd
  have e0 : s₁.heap = h0 := by rw [← hh, Bd.state]; rfl
  have N0 := Fr.nil n0
  refine own_go (B := s₁.setTop (mkF m 0 #[.val (.ref a1), .val (.ref a2), .val (.ref a3), .val (.ref a4)] [])) (fun t kt => castTop (ef_1 m a1 a2 a3 a4) kt) ?_
  obtain ⟨cl, Ar, qa, S, M, H, U⟩ := V
  have V : Arv Z h0 a4 ka .int z vs dv := ⟨cl, Ar, qa, S, M, H, U⟩
  refine own_go (B := s₁.setTop (mkF m 1 #[.val (.ref a1), .val (.ref a2), .val (.ref a3), .val (.ref a4)] [(.ref a1)])) (fun t kt => ?_) ?_
  · show Steps p.tables e below (s₁.setTop (mkF m 0 #[.val (.ref a1), .val (.ref a2), .val (.ref a3), .val (.ref a4)] [])) _
    refine XS.aloadN X0.here hx rfl (hb hby d1_0) rfl rfl ?_
    exact kt
  obtain ⟨T1, X1, e1, st1⟩ := initO X0 hx hZ hown (hw _ (List.mem_of_getElem? (i := 16) rfl)) (hw _ (List.mem_of_getElem? (i := 17) rfl)) (hw _ (List.mem_of_getElem? (i := 18) rfl)) e0 (g := (mkF m 1 #[.val (.ref a1), .val (.ref a2), .val (.ref a3), .val (.ref a4)] [(.ref a1)])) rfl (by rw [hml]; rfl) rfl (hb hby d1_1) (by decide) (W := 0) (by show 2 * 0 + _ ≤ _; exact Nat.le_of_eq rfl) (by decide)
  refine own_go (B := T1.setTop (mkF m 4 #[.val (.ref a1), .val (.ref a2), .val (.ref a3), .val (.ref a4)] [])) (fun t kt => st1 t kt) ?_
  refine own_go (B := T1.setTop (mkF m 25 #[.val (.ref a1), .val (.ref a2), .val (.ref a3), .val (.ref a4)] [(.ref a2), (.ref a1)])) (fun t kt => ?_) ?_
  · show Steps p.tables e below (T1.setTop (mkF m 4 #[.val (.ref a1), .val (.ref a2), .val (.ref a3), .val (.ref a4)] [])) _
    refine XS.aloadN X1.here hx rfl (hb hby d1_4) rfl rfl ?_
    show Steps p.tables e below (T1.setTop (mkF m 5 #[.val (.ref a1), .val (.ref a2), .val (.ref a3), .val (.ref a4)] [(.ref a4)])) _
    refine X1.arraylength hx (cell := cl) (by rw [e1]; exact Ar.1) (State.isArrayOf_alike hZ.alike Ar.2.1) (g := (mkF m 5 #[.val (.ref a1), .val (.ref a2), .val (.ref a3), .val (.ref a4)] [(.ref a4)])) rfl rfl (hb hby d1_5) _ ?_
    rw [len_of S M]
    show Steps p.tables e below (T1.setTop (mkF m 6 #[.val (.ref a1), .val (.ref a2), .val (.ref a3), .val (.ref a4)] [(.int z)])) _
    refine XS.ifYes X1.here hx rfl (pc0 := 6) (pc' := 23) rfl (hb hby d1_6) rfl ((if0 _ _).trans (feq hz).2) (by decide) (by decide) ?_
    show Steps p.tables e below (T1.setTop (mkF m 23 #[.val (.ref a1), .val (.ref a2), .val (.ref a3), .val (.ref a4)] [])) _
    refine XS.aloadN X1.here hx rfl (hb hby d1_23) rfl rfl ?_
    show Steps p.tables e below (T1.setTop (mkF m 24 #[.val (.ref a1), .val (.ref a2), .val (.ref a3), .val (.ref a4)] [(.ref a1)])) _
    refine XS.aloadN X1.here hx rfl (hb hby d1_24) rfl rfl ?_
    exact kt
  obtain ⟨T2, h2, X2, e2, W2, st2⟩ := putF X1 hx hZ hown (host := "") (Or.inl (hw _ (List.mem_of_getElem? (i := 19) rfl))) Via.refl e1 F_name E (Or.inr ⟨(hw _ (List.mem_of_getElem? (i := 20) rfl)), rfl, hnm⟩) (hw _ (List.mem_of_getElem? (i := 2) rfl)) (ty := (.object "java/lang/String")) (by decide) rfl rfl (g := (mkF m 25 #[.val (.ref a1), .val (.ref a2), .val (.ref a3), .val (.ref a4)] [(.ref a2), (.ref a1)])) rfl rfl (hb hby d1_25)
  have N2 := Fr.snoc X2 N0 g
  refine own_go (B := T2.setTop (mkF m 28 #[.val (.ref a1), .val (.ref a2), .val (.ref a3), .val (.ref a4)] [])) (fun t kt => st2 t kt) ?_
  have F1_agent := (F_agent.other W2 (Or.inr (slot_ne (Or.inr (hw _ (List.mem_of_getElem? (i := 22) rfl))) (Or.inr (hw _ (List.mem_of_getElem? (i := 20) rfl))) (by decide) (t := (.object "java/lang/String")) (t' := (.object "java/lang/String")) (by decide) (by decide))))
  have F1_values := (F_values.other W2 (Or.inr (slot_ne (Or.inr (hw _ (List.mem_of_getElem? (i := 33) rfl))) (Or.inr (hw _ (List.mem_of_getElem? (i := 20) rfl))) (by decide) (t := (.array .int)) (t' := (.object "java/lang/String")) (by decide) (by decide))))
  have E1 := E.wr W2
  have V1 := V.other W2 hne
  have Ea1 := Ea.wr W2
  have K1 : Keep h0 h2 [a1] := (Keep.refl h0 [a1]).wr W2 (Or.inl (List.mem_of_getElem? (i := 0) rfl))
  refine own_go (B := T2.setTop (mkF m 30 #[.val (.ref a1), .val (.ref a2), .val (.ref a3), .val (.ref a4)] [(.ref a3), (.ref a1)])) (fun t kt => ?_) ?_
  · show Steps p.tables e below (T2.setTop (mkF m 28 #[.val (.ref a1), .val (.ref a2), .val (.ref a3), .val (.ref a4)] [])) _
    refine XS.aloadN X2.here hx rfl (hb hby d1_28) rfl rfl ?_
    show Steps p.tables e below (T2.setTop (mkF m 29 #[.val (.ref a1), .val (.ref a2), .val (.ref a3), .val (.ref a4)] [(.ref a1)])) _
    refine XS.aloadN X2.here hx rfl (hb hby d1_29) rfl rfl ?_
    exact kt
  obtain ⟨T3, h3, X3, e3, W3, st3⟩ := putF X2 hx hZ hown (host := "") (Or.inl (hw _ (List.mem_of_getElem? (i := 21) rfl))) Via.refl e2 F1_agent E1 (Or.inr ⟨(hw _ (List.mem_of_getElem? (i := 22) rfl)), rfl, hnm⟩) (hw _ (List.mem_of_getElem? (i := 2) rfl)) (ty := (.object "java/lang/String")) (by decide) rfl rfl (g := (mkF m 30 #[.val (.ref a1), .val (.ref a2), .val (.ref a3), .val (.ref a4)] [(.ref a3), (.ref a1)])) rfl rfl (hb hby d1_30)
  have N3 := Fr.snoc X3 N2 g
  refine own_go (B := T3.setTop (mkF m 33 #[.val (.ref a1), .val (.ref a2), .val (.ref a3), .val (.ref a4)] [])) (fun t kt => st3 t kt) ?_
  have F2_values := (F1_values.other W3 (Or.inr (slot_ne (Or.inr (hw _ (List.mem_of_getElem? (i := 33) rfl))) (Or.inr (hw _ (List.mem_of_getElem? (i := 22) rfl))) (by decide) (t := (.array .int)) (t' := (.object "java/lang/String")) (by decide) (by decide))))
  have E2 := E1.wr W3
  have V2 := V1.other W3 hne
  have Ea2 := Ea1.wr W3
  have K2 : Keep h0 h3 [a1] := K1.wr W3 (Or.inl (List.mem_of_getElem? (i := 0) rfl))
  refine own_go (B := T3.setTop (mkF m 35 #[.val (.ref a1), .val (.ref a2), .val (.ref a3), .val (.ref a4)] [(.ref a4), (.ref a1)])) (fun t kt => ?_) ?_
  · show Steps p.tables e below (T3.setTop (mkF m 33 #[.val (.ref a1), .val (.ref a2), .val (.ref a3), .val (.ref a4)] [])) _
    refine XS.aloadN X3.here hx rfl (hb hby d1_33) rfl rfl ?_
    show Steps p.tables e below (T3.setTop (mkF m 34 #[.val (.ref a1), .val (.ref a2), .val (.ref a3), .val (.ref a4)] [(.ref a1)])) _
    refine XS.aloadN X3.here hx rfl (hb hby d1_34) rfl rfl ?_
    exact kt
  obtain ⟨T4, h4, X4, e4, E4, V4, B4, st4⟩ := cloneH X3 hx hZ hown (hw _ (List.mem_of_getElem? (i := 23) rfl)) (hw _ (List.mem_of_getElem? (i := 24) rfl)) (hw _ (List.mem_of_getElem? (i := 28) rfl)) (hw _ (List.mem_of_getElem? (i := 26) rfl)) (hw _ (List.mem_of_getElem? (i := 27) rfl)) (hw _ (List.mem_of_getElem? (i := 29) rfl)) e3 V2.arh Ea2 (g := (mkF m 35 #[.val (.ref a1), .val (.ref a2), .val (.ref a3), .val (.ref a4)] [(.ref a4), (.ref a1)])) rfl (by rw [hml]; rfl) rfl (hb hby d1_35) (by decide) (W := 1) (cap := 3) (by show 2 * 0 + _ ≤ _; exact Nat.le_of_eq rfl) (by decide) hcap (by decide) (by decide)
  obtain ⟨b4, g4⟩ : ∃ z, z = h3.size := ⟨_, rfl⟩
  rw [← g4] at V4 B4 st4
  refine own_go (B := T4.setTop (mkF m 38 #[.val (.ref a1), .val (.ref a2), .val (.ref a3), .val (.ref a4)] [(.ref b4), (.ref a1)])) (fun t kt => st4 t kt) ?_
  have K3 : Keep h0 h4 [a1] := K2.ext E4
  have E3 := E2.ext E4
  have F3_values := F2_values.ext E4
  have hbn : b4 ≠ a1 := Ne.symm (Nat.ne_of_lt (Nat.lt_of_lt_of_le E2.lt (Nat.le_of_eq g4.symm)))
  obtain ⟨T5, X5, e5, st5⟩ := castY X4 hx hZ hown (hw _ (List.mem_of_getElem? (i := 30) rfl)) e4 (Ins.self B4) (g := (mkF m 38 #[.val (.ref a1), .val (.ref a2), .val (.ref a3), .val (.ref a4)] [(.ref b4), (.ref a1)])) rfl rfl (hb hby d1_38)
  refine own_go (B := T5.setTop (mkF m 41 #[.val (.ref a1), .val (.ref a2), .val (.ref a3), .val (.ref a4)] [(.ref b4), (.ref a1)])) (fun t kt => st5 t kt) ?_
  obtain ⟨T6, h6, X6, e6, W6, st6⟩ := putF X5 hx hZ hown (host := "") (Or.inl (hw _ (List.mem_of_getElem? (i := 32) rfl))) Via.refl e5 F3_values E3 (Or.inr ⟨(hw _ (List.mem_of_getElem? (i := 33) rfl)), rfl, hnm⟩) (hw _ (List.mem_of_getElem? (i := 2) rfl)) (ty := (.array .int)) (by decide) rfl rfl (g := (mkF m 41 #[.val (.ref a1), .val (.ref a2), .val (.ref a3), .val (.ref a4)] [(.ref b4), (.ref a1)])) rfl rfl (hb hby d1_41)
  have N6 := Fr.snoc X6 N3 g
  refine own_go (B := T6.setTop (mkF m 44 #[.val (.ref a1), .val (.ref a2), .val (.ref a3), .val (.ref a4)] [])) (fun t kt => st6 t kt) ?_
  have V4 : Arv Z h6 b4 ka .int z vs dv := Arv.other (show Arv Z h4 b4 ka .int z vs dv from V4) W6 hbn
  have K4 : Keep h0 h6 [a1] := K3.wr W6 (Or.inl (List.mem_of_getElem? (i := 0) rfl))
  obtain ⟨fs, hr, hrun, hended, hW, hsame⟩ := X6.leave (v := none) (fun _ => rfl)
  refine ⟨_, _, ?_, hrun, hended, _, _, rfl, ?_, ⟨_, rfl⟩, hW, hsame.mono (by decide) (by decide)⟩
  · show Steps p.tables e below (T6.setTop (mkF m 44 #[.val (.ref a1), .val (.ref a2), .val (.ref a3), .val (.ref a4)] [])) _
    exact X6.returnOut hx Bd.returns (hb hby d1_44) hr
  · show Q1 Z a1 ka z vs dv h0 n0 _ T6.heap _
    rw [e6]
    exact ⟨rfl, N6, K4, E3.wr W6, b4, F3_values.same W6, V4⟩
theorem ef_3 (m : MethodId) (x0 : Addr) (x1 : Int32) : entryFrame m #[(.ref x0), (.int x1)] 6 = mkF m 0 #[.val (.ref x0), .val (.int x1), .unset, .unset, .unset, .unset] [] := by first | (simp [entryFrame, mkF, argsToLocals, Value.category]; done) | rfl
def Q3_1 (Z : State) (p2 x0 : Int32) (h0 : Heap) (n0 : Nat) (v : Option Value) (h : Heap) (L : List Loc) : Prop := v = some (.int (own_i (decide (p2 = x0)))) ∧ Fr n0 L ∧ h = h0
set_option maxRecDepth 65536 in
set_option maxHeartbeats 40000000 in
theorem rm3_1 (l : Launch) (Z : State) (a0 : Array Value) (hw : ∀ d ∈ tables_1, d.before a0 Z = true) (ws : List Jvm.Cond) (a1 : Addr) (p2 : Int32) (b : Addr) (kb : ClassId) (x0 : Int32) (h0 : Heap) (n0 : Nat) (Z0 : n0 ≤ h0.size) (F : Fld Z h0 a1 "com/example/coppice/coppice/model/Variable" "values" "[I" (.ref b)) (V : Arv Z h0 b kb .int (1 : Int32) [(.int x0)] (.int (0 : Int32))) :
    MetFree l (⟨"com/example/coppice/coppice/model/Variable", "contains", "(I)Z"⟩ : MethodName) (head1 (Jvm.Cond.code (⟨"com/example/coppice/coppice/model/Variable", "contains", "(I)Z"⟩ : MethodName) prog_45_method_6_code 6 (some .boolean) :: ws) ({ frames := 0, cells := 0, slots := 0, locals := 0 } : Room)) (fun a U => a = #[(.ref a1), (.int p2)] ∧ Z.Warmed39 U.vm ∧ U.heap = h0) (fun _ _ _ _ _ => True) (fun _ U o U' => ∃ v L, o = .returned v ∧ Q3_1 Z p2 x0 h0 n0 v U'.heap L ∧ FrameEnd U o U' L ({ frames := 0, cells := 0, slots := 0, locals := 0 } : Room).cells ({ frames := 0, cells := 0, slots := 0, locals := 0 } : Room).slots) := by
  refine MetFree.of_bodySF (plainFor_of_name pn_0) hisR ?_
  intro p e s m args below meth c s₁ Bd hml0 hP hK
  obtain ⟨rfl, hZ, hh⟩ := hP
  have hx := Bd.exec
  have hby := Bd.bytes
  have hml : c.maxLocals = 6 := hml0
  have hown : s.vm.findClass "com/example/coppice/coppice/model/Variable" = some m.cls := findClass_of_methodNamed Bd.named
  have hnm := (name_of_methodNamed Bd.named Bd.method).1
  have X0 : Stand p l e ({ frames := 0, cells := 0, slots := 0, locals := 0 } : Room) s m #[(.ref a1), (.int p2)] below meth c s₁ [] 0 0 := Stand.of_body Bd
  have e0 : s₁.heap = h0 := by rw [← hh, Bd.state]; rfl
  have N0 := Fr.nil n0
  refine own_go (B := s₁.setTop (mkF m 0 #[.val (.ref a1), .val (.int p2), .unset, .unset, .unset, .unset] [])) (fun t kt => castTop (ef_3 m a1 p2) kt) ?_
  obtain ⟨cl, Ar, qa, S, M, H, U⟩ := V
  refine own_go (B := s₁.setTop (mkF m 1 #[.val (.ref a1), .val (.int p2), .unset, .unset, .unset, .unset] [(.ref a1)])) (fun t kt => ?_) ?_
  · show Steps p.tables e below (s₁.setTop (mkF m 0 #[.val (.ref a1), .val (.int p2), .unset, .unset, .unset, .unset] [])) _
    refine XS.aloadN X0.here hx rfl (hb hby d3_0) rfl rfl ?_
    exact kt
  obtain ⟨T7, X7, e7, st7⟩ := getF X0 hx hZ hown (host := "") (Or.inl (hw _ (List.mem_of_getElem? (i := 32) rfl))) Via.refl e0 F (g := (mkF m 1 #[.val (.ref a1), .val (.int p2), .unset, .unset, .unset, .unset] [(.ref a1)])) rfl rfl (hb hby d3_1)
  refine own_go (B := T7.setTop (mkF m 4 #[.val (.ref a1), .val (.int p2), .unset, .unset, .unset, .unset] [(.ref b)])) (fun t kt => st7 t kt) ?_
  refine own_go (B := T7.setTop (mkF m 11 #[.val (.ref a1), .val (.int p2), .val (.ref b), .val (.int (1 : Int32)), .val (.int (0 : Int32)), .unset] [])) (fun t kt => ?_) ?_
  · show Steps p.tables e below (T7.setTop (mkF m 4 #[.val (.ref a1), .val (.int p2), .unset, .unset, .unset, .unset] [(.ref b)])) _
    refine XS.astoreN X7.here hx rfl (hb hby d3_4) rfl rfl (l' := #[.val (.ref a1), .val (.int p2), .val (.ref b), .unset, .unset, .unset]) rfl ?_
    show Steps p.tables e below (T7.setTop (mkF m 5 #[.val (.ref a1), .val (.int p2), .val (.ref b), .unset, .unset, .unset] [])) _
    refine XS.aloadN X7.here hx rfl (hb hby d3_5) rfl rfl ?_
    show Steps p.tables e below (T7.setTop (mkF m 6 #[.val (.ref a1), .val (.int p2), .val (.ref b), .unset, .unset, .unset] [(.ref b)])) _
    refine X7.arraylength hx (cell := cl) (by rw [e7]; exact Ar.1) (State.isArrayOf_alike hZ.alike Ar.2.1) (g := (mkF m 6 #[.val (.ref a1), .val (.int p2), .val (.ref b), .unset, .unset, .unset] [(.ref b)])) rfl rfl (hb hby d3_6) _ ?_
    rw [len_of S M]
    show Steps p.tables e below (T7.setTop (mkF m 7 #[.val (.ref a1), .val (.int p2), .val (.ref b), .unset, .unset, .unset] [(.int (1 : Int32))])) _
    refine XS.istoreN X7.here hx rfl (hb hby d3_7) rfl (l' := #[.val (.ref a1), .val (.int p2), .val (.ref b), .val (.int (1 : Int32)), .unset, .unset]) rfl ?_
    show Steps p.tables e below (T7.setTop (mkF m 8 #[.val (.ref a1), .val (.int p2), .val (.ref b), .val (.int (1 : Int32)), .unset, .unset] [])) _
    refine XS.iconst X7.here hx rfl (hb hby d3_8) ?_
    show Steps p.tables e below (T7.setTop (mkF m 9 #[.val (.ref a1), .val (.int p2), .val (.ref b), .val (.int (1 : Int32)), .unset, .unset] [(.int (0 : Int32))])) _
    refine XS.istore X7.here hx rfl (hb hby d3_9) rfl (l' := #[.val (.ref a1), .val (.int p2), .val (.ref b), .val (.int (1 : Int32)), .val (.int (0 : Int32)), .unset]) rfl ?_
    exact kt
  refine own_go (B := T7.setTop (mkF m 26 #[.val (.ref a1), .val (.int p2), .val (.ref b), .val (.int (1 : Int32)), .val (.int (0 : Int32)), .val (.int x0)] [(.int p2), (.int x0)])) (fun t kt => ?_) ?_
  · show Steps p.tables e below (T7.setTop (mkF m 11 #[.val (.ref a1), .val (.int p2), .val (.ref b), .val (.int (1 : Int32)), .val (.int (0 : Int32)), .unset] [])) _
    refine XS.iload X7.here hx rfl (hb hby d3_11) rfl ?_
    show Steps p.tables e below (T7.setTop (mkF m 13 #[.val (.ref a1), .val (.int p2), .val (.ref b), .val (.int (1 : Int32)), .val (.int (0 : Int32)), .unset] [(.int (0 : Int32))])) _
    refine XS.iloadN X7.here hx rfl (hb hby d3_13) rfl ?_
    show Steps p.tables e below (T7.setTop (mkF m 14 #[.val (.ref a1), .val (.int p2), .val (.ref b), .val (.int (1 : Int32)), .val (.int (0 : Int32)), .unset] [(.int (1 : Int32)), (.int (0 : Int32))])) _
    refine XS.icmpNo X7.here hx rfl (hb hby d3_14) rfl (tlt (by decide)).2.1 ?_
    show Steps p.tables e below (T7.setTop (mkF m 17 #[.val (.ref a1), .val (.int p2), .val (.ref b), .val (.int (1 : Int32)), .val (.int (0 : Int32)), .unset] [])) _
    refine XS.aloadN X7.here hx rfl (hb hby d3_17) rfl rfl ?_
    show Steps p.tables e below (T7.setTop (mkF m 18 #[.val (.ref a1), .val (.int p2), .val (.ref b), .val (.int (1 : Int32)), .val (.int (0 : Int32)), .unset] [(.ref b)])) _
    refine XS.iload X7.here hx rfl (hb hby d3_18) rfl ?_
    show Steps p.tables e below (T7.setTop (mkF m 20 #[.val (.ref a1), .val (.int p2), .val (.ref b), .val (.int (1 : Int32)), .val (.int (0 : Int32)), .unset] [(.int (0 : Int32)), (.ref b)])) _
    refine X7.iaload hx (j := (0 : Int32)) (v := (.int x0)) (by rw [e7]; exact Ar.1) (State.isArrayOf_alike hZ.alike Ar.2.1) Ar.2.2 (inb_of S ⟨by decide, by decide⟩) (H.at (inb_of S ⟨by decide, by decide⟩) rfl) (g := (mkF m 20 #[.val (.ref a1), .val (.int p2), .val (.ref b), .val (.int (1 : Int32)), .val (.int (0 : Int32)), .unset] [(.int (0 : Int32)), (.ref b)])) rfl rfl (hb hby d3_20) _ ?_
    show Steps p.tables e below (T7.setTop (mkF m 21 #[.val (.ref a1), .val (.int p2), .val (.ref b), .val (.int (1 : Int32)), .val (.int (0 : Int32)), .unset] [(.int x0)])) _
    refine XS.istore X7.here hx rfl (hb hby d3_21) rfl (l' := #[.val (.ref a1), .val (.int p2), .val (.ref b), .val (.int (1 : Int32)), .val (.int (0 : Int32)), .val (.int x0)]) rfl ?_
    show Steps p.tables e below (T7.setTop (mkF m 23 #[.val (.ref a1), .val (.int p2), .val (.ref b), .val (.int (1 : Int32)), .val (.int (0 : Int32)), .val (.int x0)] [])) _
    refine XS.iload X7.here hx rfl (hb hby d3_23) rfl ?_
    show Steps p.tables e below (T7.setTop (mkF m 25 #[.val (.ref a1), .val (.int p2), .val (.ref b), .val (.int (1 : Int32)), .val (.int (0 : Int32)), .val (.int x0)] [(.int x0)])) _
    refine XS.iloadN X7.here hx rfl (hb hby d3_25) rfl ?_
    exact kt
  by_cases hq0 : x0 = p2
  · have hd0 : p2 = x0 := hq0.symm
    refine own_go (B := T7.setTop (mkF m 30 #[.val (.ref a1), .val (.int p2), .val (.ref b), .val (.int (1 : Int32)), .val (.int (0 : Int32)), .val (.int x0)] [(.int (1 : Int32))])) (fun t kt => ?_) ?_
    · show Steps p.tables e below (T7.setTop (mkF m 26 #[.val (.ref a1), .val (.int p2), .val (.ref b), .val (.int (1 : Int32)), .val (.int (0 : Int32)), .val (.int x0)] [(.int p2), (.int x0)])) _
      refine XS.icmpNo X7.here hx rfl (hb hby d3_26) rfl (teq hq0).2 ?_
      show Steps p.tables e below (T7.setTop (mkF m 29 #[.val (.ref a1), .val (.int p2), .val (.ref b), .val (.int (1 : Int32)), .val (.int (0 : Int32)), .val (.int x0)] [])) _
      refine XS.iconst X7.here hx rfl (hb hby d3_29) ?_
      exact kt
    have hv : own_i (decide (p2 = x0)) = (1 : Int32) := by simp [own_i, hd0]
    obtain ⟨fs, hr, hrun, hended, hW, hsame⟩ := X7.leave (v := some (.int (1 : Int32))) (fun h => by rw [Bd.returns] at h; cases h)
    refine ⟨_, _, ?_, hrun, hended, _, _, rfl, ?_, ⟨_, rfl⟩, hW, hsame.mono (by decide) (by decide)⟩
    · show Steps p.tables e below (T7.setTop (mkF m 30 #[.val (.ref a1), .val (.int p2), .val (.ref b), .val (.int (1 : Int32)), .val (.int (0 : Int32)), .val (.int x0)] [(.int (1 : Int32))])) _
      exact retN X7 hx (t := .boolean) Bd.returns (by simp) (hb hby d3_30) hr
    · show Q3_1 Z p2 x0 h0 n0 _ T7.heap _
      rw [e7]
      exact ⟨by rw [hv], N0, rfl⟩
  · have hd0 : ¬ p2 = x0 := fun q => hq0 q.symm
    refine own_go (B := T7.setTop (mkF m 11 #[.val (.ref a1), .val (.int p2), .val (.ref b), .val (.int (1 : Int32)), .val (.int ((0 : Int32) + (1 : Int32))), .val (.int x0)] [])) (fun t kt => ?_) ?_
    · show Steps p.tables e below (T7.setTop (mkF m 26 #[.val (.ref a1), .val (.int p2), .val (.ref b), .val (.int (1 : Int32)), .val (.int (0 : Int32)), .val (.int x0)] [(.int p2), (.int x0)])) _
      refine XS.icmpYes X7.here hx rfl (pc0 := 26) (pc' := 31) rfl (hb hby d3_26) rfl (feq hq0).2 (by decide) (by decide) ?_
      show Steps p.tables e below (T7.setTop (mkF m 31 #[.val (.ref a1), .val (.int p2), .val (.ref b), .val (.int (1 : Int32)), .val (.int (0 : Int32)), .val (.int x0)] [])) _
      refine XS.iinc X7.here hx rfl (hb hby d3_31) rfl (l' := #[.val (.ref a1), .val (.int p2), .val (.ref b), .val (.int (1 : Int32)), .val (.int ((0 : Int32) + (1 : Int32))), .val (.int x0)]) rfl ?_
      show Steps p.tables e below (T7.setTop (mkF m 34 #[.val (.ref a1), .val (.int p2), .val (.ref b), .val (.int (1 : Int32)), .val (.int ((0 : Int32) + (1 : Int32))), .val (.int x0)] [])) _
      refine XS.goto X7.here hx rfl (pc0 := 34) (pc' := 11) rfl (hb hby d3_34) (by decide) (by decide) ?_
      exact kt
    rw [show ((0 : Int32) + (1 : Int32)) = (1 : Int32) from by decide]
    refine own_go (B := T7.setTop (mkF m 38 #[.val (.ref a1), .val (.int p2), .val (.ref b), .val (.int (1 : Int32)), .val (.int (1 : Int32)), .val (.int x0)] [(.int (0 : Int32))])) (fun t kt => ?_) ?_
    · show Steps p.tables e below (T7.setTop (mkF m 11 #[.val (.ref a1), .val (.int p2), .val (.ref b), .val (.int (1 : Int32)), .val (.int (1 : Int32)), .val (.int x0)] [])) _
      refine XS.iload X7.here hx rfl (hb hby d3_11) rfl ?_
      show Steps p.tables e below (T7.setTop (mkF m 13 #[.val (.ref a1), .val (.int p2), .val (.ref b), .val (.int (1 : Int32)), .val (.int (1 : Int32)), .val (.int x0)] [(.int (1 : Int32))])) _
      refine XS.iloadN X7.here hx rfl (hb hby d3_13) rfl ?_
      show Steps p.tables e below (T7.setTop (mkF m 14 #[.val (.ref a1), .val (.int p2), .val (.ref b), .val (.int (1 : Int32)), .val (.int (1 : Int32)), .val (.int x0)] [(.int (1 : Int32)), (.int (1 : Int32))])) _
      refine XS.icmpYes X7.here hx rfl (pc0 := 14) (pc' := 37) rfl (hb hby d3_14) rfl (flt (by decide)).2.1 (by decide) (by decide) ?_
      show Steps p.tables e below (T7.setTop (mkF m 37 #[.val (.ref a1), .val (.int p2), .val (.ref b), .val (.int (1 : Int32)), .val (.int (1 : Int32)), .val (.int x0)] [])) _
      refine XS.iconst X7.here hx rfl (hb hby d3_37) ?_
      exact kt
    have hv : own_i (decide (p2 = x0)) = (0 : Int32) := by simp [own_i, hd0]
    obtain ⟨fs, hr, hrun, hended, hW, hsame⟩ := X7.leave (v := some (.int (0 : Int32))) (fun h => by rw [Bd.returns] at h; cases h)
    refine ⟨_, _, ?_, hrun, hended, _, _, rfl, ?_, ⟨_, rfl⟩, hW, hsame.mono (by decide) (by decide)⟩
    · show Steps p.tables e below (T7.setTop (mkF m 38 #[.val (.ref a1), .val (.int p2), .val (.ref b), .val (.int (1 : Int32)), .val (.int (1 : Int32)), .val (.int x0)] [(.int (0 : Int32))])) _
      exact retN X7 hx (t := .boolean) Bd.returns (by simp) (hb hby d3_38) hr
    · show Q3_1 Z p2 x0 h0 n0 _ T7.heap _
      rw [e7]
      exact ⟨by rw [hv], N0, rfl⟩
def Q3_2 (Z : State) (p2 x0 x1 : Int32) (h0 : Heap) (n0 : Nat) (v : Option Value) (h : Heap) (L : List Loc) : Prop := v = some (.int (own_i (decide (p2 = x0) || decide (p2 = x1)))) ∧ Fr n0 L ∧ h = h0
set_option maxRecDepth 65536 in
set_option maxHeartbeats 40000000 in
theorem rm3_2 (l : Launch) (Z : State) (a0 : Array Value) (hw : ∀ d ∈ tables_1, d.before a0 Z = true) (ws : List Jvm.Cond) (a1 : Addr) (p2 : Int32) (b : Addr) (kb : ClassId) (x0 x1 : Int32) (h0 : Heap) (n0 : Nat) (Z0 : n0 ≤ h0.size) (F : Fld Z h0 a1 "com/example/coppice/coppice/model/Variable" "values" "[I" (.ref b)) (V : Arv Z h0 b kb .int (2 : Int32) [(.int x0), (.int x1)] (.int (0 : Int32))) :
    MetFree l (⟨"com/example/coppice/coppice/model/Variable", "contains", "(I)Z"⟩ : MethodName) (head1 (Jvm.Cond.code (⟨"com/example/coppice/coppice/model/Variable", "contains", "(I)Z"⟩ : MethodName) prog_45_method_6_code 6 (some .boolean) :: ws) ({ frames := 0, cells := 0, slots := 0, locals := 0 } : Room)) (fun a U => a = #[(.ref a1), (.int p2)] ∧ Z.Warmed39 U.vm ∧ U.heap = h0) (fun _ _ _ _ _ => True) (fun _ U o U' => ∃ v L, o = .returned v ∧ Q3_2 Z p2 x0 x1 h0 n0 v U'.heap L ∧ FrameEnd U o U' L ({ frames := 0, cells := 0, slots := 0, locals := 0 } : Room).cells ({ frames := 0, cells := 0, slots := 0, locals := 0 } : Room).slots) := by
  refine MetFree.of_bodySF (plainFor_of_name pn_0) hisR ?_
  intro p e s m args below meth c s₁ Bd hml0 hP hK
  obtain ⟨rfl, hZ, hh⟩ := hP
  have hx := Bd.exec
  have hby := Bd.bytes
  have hml : c.maxLocals = 6 := hml0
  have hown : s.vm.findClass "com/example/coppice/coppice/model/Variable" = some m.cls := findClass_of_methodNamed Bd.named
  have hnm := (name_of_methodNamed Bd.named Bd.method).1
  have X0 : Stand p l e ({ frames := 0, cells := 0, slots := 0, locals := 0 } : Room) s m #[(.ref a1), (.int p2)] below meth c s₁ [] 0 0 := Stand.of_body Bd
  have e0 : s₁.heap = h0 := by rw [← hh, Bd.state]; rfl
  have N0 := Fr.nil n0
  refine own_go (B := s₁.setTop (mkF m 0 #[.val (.ref a1), .val (.int p2), .unset, .unset, .unset, .unset] [])) (fun t kt => castTop (ef_3 m a1 p2) kt) ?_
  obtain ⟨cl, Ar, qa, S, M, H, U⟩ := V
  refine own_go (B := s₁.setTop (mkF m 1 #[.val (.ref a1), .val (.int p2), .unset, .unset, .unset, .unset] [(.ref a1)])) (fun t kt => ?_) ?_
  · show Steps p.tables e below (s₁.setTop (mkF m 0 #[.val (.ref a1), .val (.int p2), .unset, .unset, .unset, .unset] [])) _
    refine XS.aloadN X0.here hx rfl (hb hby d3_0) rfl rfl ?_
    exact kt
  obtain ⟨T8, X8, e8, st8⟩ := getF X0 hx hZ hown (host := "") (Or.inl (hw _ (List.mem_of_getElem? (i := 32) rfl))) Via.refl e0 F (g := (mkF m 1 #[.val (.ref a1), .val (.int p2), .unset, .unset, .unset, .unset] [(.ref a1)])) rfl rfl (hb hby d3_1)
  refine own_go (B := T8.setTop (mkF m 4 #[.val (.ref a1), .val (.int p2), .unset, .unset, .unset, .unset] [(.ref b)])) (fun t kt => st8 t kt) ?_
  refine own_go (B := T8.setTop (mkF m 11 #[.val (.ref a1), .val (.int p2), .val (.ref b), .val (.int (2 : Int32)), .val (.int (0 : Int32)), .unset] [])) (fun t kt => ?_) ?_
  · show Steps p.tables e below (T8.setTop (mkF m 4 #[.val (.ref a1), .val (.int p2), .unset, .unset, .unset, .unset] [(.ref b)])) _
    refine XS.astoreN X8.here hx rfl (hb hby d3_4) rfl rfl (l' := #[.val (.ref a1), .val (.int p2), .val (.ref b), .unset, .unset, .unset]) rfl ?_
    show Steps p.tables e below (T8.setTop (mkF m 5 #[.val (.ref a1), .val (.int p2), .val (.ref b), .unset, .unset, .unset] [])) _
    refine XS.aloadN X8.here hx rfl (hb hby d3_5) rfl rfl ?_
    show Steps p.tables e below (T8.setTop (mkF m 6 #[.val (.ref a1), .val (.int p2), .val (.ref b), .unset, .unset, .unset] [(.ref b)])) _
    refine X8.arraylength hx (cell := cl) (by rw [e8]; exact Ar.1) (State.isArrayOf_alike hZ.alike Ar.2.1) (g := (mkF m 6 #[.val (.ref a1), .val (.int p2), .val (.ref b), .unset, .unset, .unset] [(.ref b)])) rfl rfl (hb hby d3_6) _ ?_
    rw [len_of S M]
    show Steps p.tables e below (T8.setTop (mkF m 7 #[.val (.ref a1), .val (.int p2), .val (.ref b), .unset, .unset, .unset] [(.int (2 : Int32))])) _
    refine XS.istoreN X8.here hx rfl (hb hby d3_7) rfl (l' := #[.val (.ref a1), .val (.int p2), .val (.ref b), .val (.int (2 : Int32)), .unset, .unset]) rfl ?_
    show Steps p.tables e below (T8.setTop (mkF m 8 #[.val (.ref a1), .val (.int p2), .val (.ref b), .val (.int (2 : Int32)), .unset, .unset] [])) _
    refine XS.iconst X8.here hx rfl (hb hby d3_8) ?_
    show Steps p.tables e below (T8.setTop (mkF m 9 #[.val (.ref a1), .val (.int p2), .val (.ref b), .val (.int (2 : Int32)), .unset, .unset] [(.int (0 : Int32))])) _
    refine XS.istore X8.here hx rfl (hb hby d3_9) rfl (l' := #[.val (.ref a1), .val (.int p2), .val (.ref b), .val (.int (2 : Int32)), .val (.int (0 : Int32)), .unset]) rfl ?_
    exact kt
  refine own_go (B := T8.setTop (mkF m 26 #[.val (.ref a1), .val (.int p2), .val (.ref b), .val (.int (2 : Int32)), .val (.int (0 : Int32)), .val (.int x0)] [(.int p2), (.int x0)])) (fun t kt => ?_) ?_
  · show Steps p.tables e below (T8.setTop (mkF m 11 #[.val (.ref a1), .val (.int p2), .val (.ref b), .val (.int (2 : Int32)), .val (.int (0 : Int32)), .unset] [])) _
    refine XS.iload X8.here hx rfl (hb hby d3_11) rfl ?_
    show Steps p.tables e below (T8.setTop (mkF m 13 #[.val (.ref a1), .val (.int p2), .val (.ref b), .val (.int (2 : Int32)), .val (.int (0 : Int32)), .unset] [(.int (0 : Int32))])) _
    refine XS.iloadN X8.here hx rfl (hb hby d3_13) rfl ?_
    show Steps p.tables e below (T8.setTop (mkF m 14 #[.val (.ref a1), .val (.int p2), .val (.ref b), .val (.int (2 : Int32)), .val (.int (0 : Int32)), .unset] [(.int (2 : Int32)), (.int (0 : Int32))])) _
    refine XS.icmpNo X8.here hx rfl (hb hby d3_14) rfl (tlt (by decide)).2.1 ?_
    show Steps p.tables e below (T8.setTop (mkF m 17 #[.val (.ref a1), .val (.int p2), .val (.ref b), .val (.int (2 : Int32)), .val (.int (0 : Int32)), .unset] [])) _
    refine XS.aloadN X8.here hx rfl (hb hby d3_17) rfl rfl ?_
    show Steps p.tables e below (T8.setTop (mkF m 18 #[.val (.ref a1), .val (.int p2), .val (.ref b), .val (.int (2 : Int32)), .val (.int (0 : Int32)), .unset] [(.ref b)])) _
    refine XS.iload X8.here hx rfl (hb hby d3_18) rfl ?_
    show Steps p.tables e below (T8.setTop (mkF m 20 #[.val (.ref a1), .val (.int p2), .val (.ref b), .val (.int (2 : Int32)), .val (.int (0 : Int32)), .unset] [(.int (0 : Int32)), (.ref b)])) _
    refine X8.iaload hx (j := (0 : Int32)) (v := (.int x0)) (by rw [e8]; exact Ar.1) (State.isArrayOf_alike hZ.alike Ar.2.1) Ar.2.2 (inb_of S ⟨by decide, by decide⟩) (H.at (inb_of S ⟨by decide, by decide⟩) rfl) (g := (mkF m 20 #[.val (.ref a1), .val (.int p2), .val (.ref b), .val (.int (2 : Int32)), .val (.int (0 : Int32)), .unset] [(.int (0 : Int32)), (.ref b)])) rfl rfl (hb hby d3_20) _ ?_
    show Steps p.tables e below (T8.setTop (mkF m 21 #[.val (.ref a1), .val (.int p2), .val (.ref b), .val (.int (2 : Int32)), .val (.int (0 : Int32)), .unset] [(.int x0)])) _
    refine XS.istore X8.here hx rfl (hb hby d3_21) rfl (l' := #[.val (.ref a1), .val (.int p2), .val (.ref b), .val (.int (2 : Int32)), .val (.int (0 : Int32)), .val (.int x0)]) rfl ?_
    show Steps p.tables e below (T8.setTop (mkF m 23 #[.val (.ref a1), .val (.int p2), .val (.ref b), .val (.int (2 : Int32)), .val (.int (0 : Int32)), .val (.int x0)] [])) _
    refine XS.iload X8.here hx rfl (hb hby d3_23) rfl ?_
    show Steps p.tables e below (T8.setTop (mkF m 25 #[.val (.ref a1), .val (.int p2), .val (.ref b), .val (.int (2 : Int32)), .val (.int (0 : Int32)), .val (.int x0)] [(.int x0)])) _
    refine XS.iloadN X8.here hx rfl (hb hby d3_25) rfl ?_
    exact kt
  by_cases hq0 : x0 = p2
  · have hd0 : p2 = x0 := hq0.symm
    refine own_go (B := T8.setTop (mkF m 30 #[.val (.ref a1), .val (.int p2), .val (.ref b), .val (.int (2 : Int32)), .val (.int (0 : Int32)), .val (.int x0)] [(.int (1 : Int32))])) (fun t kt => ?_) ?_
    · show Steps p.tables e below (T8.setTop (mkF m 26 #[.val (.ref a1), .val (.int p2), .val (.ref b), .val (.int (2 : Int32)), .val (.int (0 : Int32)), .val (.int x0)] [(.int p2), (.int x0)])) _
      refine XS.icmpNo X8.here hx rfl (hb hby d3_26) rfl (teq hq0).2 ?_
      show Steps p.tables e below (T8.setTop (mkF m 29 #[.val (.ref a1), .val (.int p2), .val (.ref b), .val (.int (2 : Int32)), .val (.int (0 : Int32)), .val (.int x0)] [])) _
      refine XS.iconst X8.here hx rfl (hb hby d3_29) ?_
      exact kt
    have hv : own_i (decide (p2 = x0) || decide (p2 = x1)) = (1 : Int32) := by simp [own_i, hd0]
    obtain ⟨fs, hr, hrun, hended, hW, hsame⟩ := X8.leave (v := some (.int (1 : Int32))) (fun h => by rw [Bd.returns] at h; cases h)
    refine ⟨_, _, ?_, hrun, hended, _, _, rfl, ?_, ⟨_, rfl⟩, hW, hsame.mono (by decide) (by decide)⟩
    · show Steps p.tables e below (T8.setTop (mkF m 30 #[.val (.ref a1), .val (.int p2), .val (.ref b), .val (.int (2 : Int32)), .val (.int (0 : Int32)), .val (.int x0)] [(.int (1 : Int32))])) _
      exact retN X8 hx (t := .boolean) Bd.returns (by simp) (hb hby d3_30) hr
    · show Q3_2 Z p2 x0 x1 h0 n0 _ T8.heap _
      rw [e8]
      exact ⟨by rw [hv], N0, rfl⟩
  · have hd0 : ¬ p2 = x0 := fun q => hq0 q.symm
    refine own_go (B := T8.setTop (mkF m 11 #[.val (.ref a1), .val (.int p2), .val (.ref b), .val (.int (2 : Int32)), .val (.int ((0 : Int32) + (1 : Int32))), .val (.int x0)] [])) (fun t kt => ?_) ?_
    · show Steps p.tables e below (T8.setTop (mkF m 26 #[.val (.ref a1), .val (.int p2), .val (.ref b), .val (.int (2 : Int32)), .val (.int (0 : Int32)), .val (.int x0)] [(.int p2), (.int x0)])) _
      refine XS.icmpYes X8.here hx rfl (pc0 := 26) (pc' := 31) rfl (hb hby d3_26) rfl (feq hq0).2 (by decide) (by decide) ?_
      show Steps p.tables e below (T8.setTop (mkF m 31 #[.val (.ref a1), .val (.int p2), .val (.ref b), .val (.int (2 : Int32)), .val (.int (0 : Int32)), .val (.int x0)] [])) _
      refine XS.iinc X8.here hx rfl (hb hby d3_31) rfl (l' := #[.val (.ref a1), .val (.int p2), .val (.ref b), .val (.int (2 : Int32)), .val (.int ((0 : Int32) + (1 : Int32))), .val (.int x0)]) rfl ?_
      show Steps p.tables e below (T8.setTop (mkF m 34 #[.val (.ref a1), .val (.int p2), .val (.ref b), .val (.int (2 : Int32)), .val (.int ((0 : Int32) + (1 : Int32))), .val (.int x0)] [])) _
      refine XS.goto X8.here hx rfl (pc0 := 34) (pc' := 11) rfl (hb hby d3_34) (by decide) (by decide) ?_
      exact kt
    rw [show ((0 : Int32) + (1 : Int32)) = (1 : Int32) from by decide]
    refine own_go (B := T8.setTop (mkF m 26 #[.val (.ref a1), .val (.int p2), .val (.ref b), .val (.int (2 : Int32)), .val (.int (1 : Int32)), .val (.int x1)] [(.int p2), (.int x1)])) (fun t kt => ?_) ?_
    · show Steps p.tables e below (T8.setTop (mkF m 11 #[.val (.ref a1), .val (.int p2), .val (.ref b), .val (.int (2 : Int32)), .val (.int (1 : Int32)), .val (.int x0)] [])) _
      refine XS.iload X8.here hx rfl (hb hby d3_11) rfl ?_
      show Steps p.tables e below (T8.setTop (mkF m 13 #[.val (.ref a1), .val (.int p2), .val (.ref b), .val (.int (2 : Int32)), .val (.int (1 : Int32)), .val (.int x0)] [(.int (1 : Int32))])) _
      refine XS.iloadN X8.here hx rfl (hb hby d3_13) rfl ?_
      show Steps p.tables e below (T8.setTop (mkF m 14 #[.val (.ref a1), .val (.int p2), .val (.ref b), .val (.int (2 : Int32)), .val (.int (1 : Int32)), .val (.int x0)] [(.int (2 : Int32)), (.int (1 : Int32))])) _
      refine XS.icmpNo X8.here hx rfl (hb hby d3_14) rfl (tlt (by decide)).2.1 ?_
      show Steps p.tables e below (T8.setTop (mkF m 17 #[.val (.ref a1), .val (.int p2), .val (.ref b), .val (.int (2 : Int32)), .val (.int (1 : Int32)), .val (.int x0)] [])) _
      refine XS.aloadN X8.here hx rfl (hb hby d3_17) rfl rfl ?_
      show Steps p.tables e below (T8.setTop (mkF m 18 #[.val (.ref a1), .val (.int p2), .val (.ref b), .val (.int (2 : Int32)), .val (.int (1 : Int32)), .val (.int x0)] [(.ref b)])) _
      refine XS.iload X8.here hx rfl (hb hby d3_18) rfl ?_
      show Steps p.tables e below (T8.setTop (mkF m 20 #[.val (.ref a1), .val (.int p2), .val (.ref b), .val (.int (2 : Int32)), .val (.int (1 : Int32)), .val (.int x0)] [(.int (1 : Int32)), (.ref b)])) _
      refine X8.iaload hx (j := (1 : Int32)) (v := (.int x1)) (by rw [e8]; exact Ar.1) (State.isArrayOf_alike hZ.alike Ar.2.1) Ar.2.2 (inb_of S ⟨by decide, by decide⟩) (H.at (inb_of S ⟨by decide, by decide⟩) rfl) (g := (mkF m 20 #[.val (.ref a1), .val (.int p2), .val (.ref b), .val (.int (2 : Int32)), .val (.int (1 : Int32)), .val (.int x0)] [(.int (1 : Int32)), (.ref b)])) rfl rfl (hb hby d3_20) _ ?_
      show Steps p.tables e below (T8.setTop (mkF m 21 #[.val (.ref a1), .val (.int p2), .val (.ref b), .val (.int (2 : Int32)), .val (.int (1 : Int32)), .val (.int x0)] [(.int x1)])) _
      refine XS.istore X8.here hx rfl (hb hby d3_21) rfl (l' := #[.val (.ref a1), .val (.int p2), .val (.ref b), .val (.int (2 : Int32)), .val (.int (1 : Int32)), .val (.int x1)]) rfl ?_
      show Steps p.tables e below (T8.setTop (mkF m 23 #[.val (.ref a1), .val (.int p2), .val (.ref b), .val (.int (2 : Int32)), .val (.int (1 : Int32)), .val (.int x1)] [])) _
      refine XS.iload X8.here hx rfl (hb hby d3_23) rfl ?_
      show Steps p.tables e below (T8.setTop (mkF m 25 #[.val (.ref a1), .val (.int p2), .val (.ref b), .val (.int (2 : Int32)), .val (.int (1 : Int32)), .val (.int x1)] [(.int x1)])) _
      refine XS.iloadN X8.here hx rfl (hb hby d3_25) rfl ?_
      exact kt
    by_cases hq1 : x1 = p2
    · have hd1 : p2 = x1 := hq1.symm
      refine own_go (B := T8.setTop (mkF m 30 #[.val (.ref a1), .val (.int p2), .val (.ref b), .val (.int (2 : Int32)), .val (.int (1 : Int32)), .val (.int x1)] [(.int (1 : Int32))])) (fun t kt => ?_) ?_
      · show Steps p.tables e below (T8.setTop (mkF m 26 #[.val (.ref a1), .val (.int p2), .val (.ref b), .val (.int (2 : Int32)), .val (.int (1 : Int32)), .val (.int x1)] [(.int p2), (.int x1)])) _
        refine XS.icmpNo X8.here hx rfl (hb hby d3_26) rfl (teq hq1).2 ?_
        show Steps p.tables e below (T8.setTop (mkF m 29 #[.val (.ref a1), .val (.int p2), .val (.ref b), .val (.int (2 : Int32)), .val (.int (1 : Int32)), .val (.int x1)] [])) _
        refine XS.iconst X8.here hx rfl (hb hby d3_29) ?_
        exact kt
      have hv : own_i (decide (p2 = x0) || decide (p2 = x1)) = (1 : Int32) := by simp [own_i, hd1]
      obtain ⟨fs, hr, hrun, hended, hW, hsame⟩ := X8.leave (v := some (.int (1 : Int32))) (fun h => by rw [Bd.returns] at h; cases h)
      refine ⟨_, _, ?_, hrun, hended, _, _, rfl, ?_, ⟨_, rfl⟩, hW, hsame.mono (by decide) (by decide)⟩
      · show Steps p.tables e below (T8.setTop (mkF m 30 #[.val (.ref a1), .val (.int p2), .val (.ref b), .val (.int (2 : Int32)), .val (.int (1 : Int32)), .val (.int x1)] [(.int (1 : Int32))])) _
        exact retN X8 hx (t := .boolean) Bd.returns (by simp) (hb hby d3_30) hr
      · show Q3_2 Z p2 x0 x1 h0 n0 _ T8.heap _
        rw [e8]
        exact ⟨by rw [hv], N0, rfl⟩
    · have hd1 : ¬ p2 = x1 := fun q => hq1 q.symm
      refine own_go (B := T8.setTop (mkF m 11 #[.val (.ref a1), .val (.int p2), .val (.ref b), .val (.int (2 : Int32)), .val (.int ((1 : Int32) + (1 : Int32))), .val (.int x1)] [])) (fun t kt => ?_) ?_
      · show Steps p.tables e below (T8.setTop (mkF m 26 #[.val (.ref a1), .val (.int p2), .val (.ref b), .val (.int (2 : Int32)), .val (.int (1 : Int32)), .val (.int x1)] [(.int p2), (.int x1)])) _
        refine XS.icmpYes X8.here hx rfl (pc0 := 26) (pc' := 31) rfl (hb hby d3_26) rfl (feq hq1).2 (by decide) (by decide) ?_
        show Steps p.tables e below (T8.setTop (mkF m 31 #[.val (.ref a1), .val (.int p2), .val (.ref b), .val (.int (2 : Int32)), .val (.int (1 : Int32)), .val (.int x1)] [])) _
        refine XS.iinc X8.here hx rfl (hb hby d3_31) rfl (l' := #[.val (.ref a1), .val (.int p2), .val (.ref b), .val (.int (2 : Int32)), .val (.int ((1 : Int32) + (1 : Int32))), .val (.int x1)]) rfl ?_
        show Steps p.tables e below (T8.setTop (mkF m 34 #[.val (.ref a1), .val (.int p2), .val (.ref b), .val (.int (2 : Int32)), .val (.int ((1 : Int32) + (1 : Int32))), .val (.int x1)] [])) _
        refine XS.goto X8.here hx rfl (pc0 := 34) (pc' := 11) rfl (hb hby d3_34) (by decide) (by decide) ?_
        exact kt
      rw [show ((1 : Int32) + (1 : Int32)) = (2 : Int32) from by decide]
      refine own_go (B := T8.setTop (mkF m 38 #[.val (.ref a1), .val (.int p2), .val (.ref b), .val (.int (2 : Int32)), .val (.int (2 : Int32)), .val (.int x1)] [(.int (0 : Int32))])) (fun t kt => ?_) ?_
      · show Steps p.tables e below (T8.setTop (mkF m 11 #[.val (.ref a1), .val (.int p2), .val (.ref b), .val (.int (2 : Int32)), .val (.int (2 : Int32)), .val (.int x1)] [])) _
        refine XS.iload X8.here hx rfl (hb hby d3_11) rfl ?_
        show Steps p.tables e below (T8.setTop (mkF m 13 #[.val (.ref a1), .val (.int p2), .val (.ref b), .val (.int (2 : Int32)), .val (.int (2 : Int32)), .val (.int x1)] [(.int (2 : Int32))])) _
        refine XS.iloadN X8.here hx rfl (hb hby d3_13) rfl ?_
        show Steps p.tables e below (T8.setTop (mkF m 14 #[.val (.ref a1), .val (.int p2), .val (.ref b), .val (.int (2 : Int32)), .val (.int (2 : Int32)), .val (.int x1)] [(.int (2 : Int32)), (.int (2 : Int32))])) _
        refine XS.icmpYes X8.here hx rfl (pc0 := 14) (pc' := 37) rfl (hb hby d3_14) rfl (flt (by decide)).2.1 (by decide) (by decide) ?_
        show Steps p.tables e below (T8.setTop (mkF m 37 #[.val (.ref a1), .val (.int p2), .val (.ref b), .val (.int (2 : Int32)), .val (.int (2 : Int32)), .val (.int x1)] [])) _
        refine XS.iconst X8.here hx rfl (hb hby d3_37) ?_
        exact kt
      have hv : own_i (decide (p2 = x0) || decide (p2 = x1)) = (0 : Int32) := by simp [own_i, hd0, hd1]
      obtain ⟨fs, hr, hrun, hended, hW, hsame⟩ := X8.leave (v := some (.int (0 : Int32))) (fun h => by rw [Bd.returns] at h; cases h)
      refine ⟨_, _, ?_, hrun, hended, _, _, rfl, ?_, ⟨_, rfl⟩, hW, hsame.mono (by decide) (by decide)⟩
      · show Steps p.tables e below (T8.setTop (mkF m 38 #[.val (.ref a1), .val (.int p2), .val (.ref b), .val (.int (2 : Int32)), .val (.int (2 : Int32)), .val (.int x1)] [(.int (0 : Int32))])) _
        exact retN X8 hx (t := .boolean) Bd.returns (by simp) (hb hby d3_38) hr
      · show Q3_2 Z p2 x0 x1 h0 n0 _ T8.heap _
        rw [e8]
        exact ⟨by rw [hv], N0, rfl⟩
def Q3_3 (Z : State) (p2 x0 x1 x2 : Int32) (h0 : Heap) (n0 : Nat) (v : Option Value) (h : Heap) (L : List Loc) : Prop := v = some (.int (own_i (decide (p2 = x0) || decide (p2 = x1) || decide (p2 = x2)))) ∧ Fr n0 L ∧ h = h0
set_option maxRecDepth 65536 in
set_option maxHeartbeats 40000000 in
theorem rm3_3 (l : Launch) (Z : State) (a0 : Array Value) (hw : ∀ d ∈ tables_1, d.before a0 Z = true) (ws : List Jvm.Cond) (a1 : Addr) (p2 : Int32) (b : Addr) (kb : ClassId) (x0 x1 x2 : Int32) (h0 : Heap) (n0 : Nat) (Z0 : n0 ≤ h0.size) (F : Fld Z h0 a1 "com/example/coppice/coppice/model/Variable" "values" "[I" (.ref b)) (V : Arv Z h0 b kb .int (3 : Int32) [(.int x0), (.int x1), (.int x2)] (.int (0 : Int32))) :
    MetFree l (⟨"com/example/coppice/coppice/model/Variable", "contains", "(I)Z"⟩ : MethodName) (head1 (Jvm.Cond.code (⟨"com/example/coppice/coppice/model/Variable", "contains", "(I)Z"⟩ : MethodName) prog_45_method_6_code 6 (some .boolean) :: ws) ({ frames := 0, cells := 0, slots := 0, locals := 0 } : Room)) (fun a U => a = #[(.ref a1), (.int p2)] ∧ Z.Warmed39 U.vm ∧ U.heap = h0) (fun _ _ _ _ _ => True) (fun _ U o U' => ∃ v L, o = .returned v ∧ Q3_3 Z p2 x0 x1 x2 h0 n0 v U'.heap L ∧ FrameEnd U o U' L ({ frames := 0, cells := 0, slots := 0, locals := 0 } : Room).cells ({ frames := 0, cells := 0, slots := 0, locals := 0 } : Room).slots) := by
  refine MetFree.of_bodySF (plainFor_of_name pn_0) hisR ?_
  intro p e s m args below meth c s₁ Bd hml0 hP hK
  obtain ⟨rfl, hZ, hh⟩ := hP
  have hx := Bd.exec
  have hby := Bd.bytes
  have hml : c.maxLocals = 6 := hml0
  have hown : s.vm.findClass "com/example/coppice/coppice/model/Variable" = some m.cls := findClass_of_methodNamed Bd.named
  have hnm := (name_of_methodNamed Bd.named Bd.method).1
  have X0 : Stand p l e ({ frames := 0, cells := 0, slots := 0, locals := 0 } : Room) s m #[(.ref a1), (.int p2)] below meth c s₁ [] 0 0 := Stand.of_body Bd
  have e0 : s₁.heap = h0 := by rw [← hh, Bd.state]; rfl
  have N0 := Fr.nil n0
  refine own_go (B := s₁.setTop (mkF m 0 #[.val (.ref a1), .val (.int p2), .unset, .unset, .unset, .unset] [])) (fun t kt => castTop (ef_3 m a1 p2) kt) ?_
  obtain ⟨cl, Ar, qa, S, M, H, U⟩ := V
  refine own_go (B := s₁.setTop (mkF m 1 #[.val (.ref a1), .val (.int p2), .unset, .unset, .unset, .unset] [(.ref a1)])) (fun t kt => ?_) ?_
  · show Steps p.tables e below (s₁.setTop (mkF m 0 #[.val (.ref a1), .val (.int p2), .unset, .unset, .unset, .unset] [])) _
    refine XS.aloadN X0.here hx rfl (hb hby d3_0) rfl rfl ?_
    exact kt
  obtain ⟨T9, X9, e9, st9⟩ := getF X0 hx hZ hown (host := "") (Or.inl (hw _ (List.mem_of_getElem? (i := 32) rfl))) Via.refl e0 F (g := (mkF m 1 #[.val (.ref a1), .val (.int p2), .unset, .unset, .unset, .unset] [(.ref a1)])) rfl rfl (hb hby d3_1)
  refine own_go (B := T9.setTop (mkF m 4 #[.val (.ref a1), .val (.int p2), .unset, .unset, .unset, .unset] [(.ref b)])) (fun t kt => st9 t kt) ?_
  refine own_go (B := T9.setTop (mkF m 11 #[.val (.ref a1), .val (.int p2), .val (.ref b), .val (.int (3 : Int32)), .val (.int (0 : Int32)), .unset] [])) (fun t kt => ?_) ?_
  · show Steps p.tables e below (T9.setTop (mkF m 4 #[.val (.ref a1), .val (.int p2), .unset, .unset, .unset, .unset] [(.ref b)])) _
    refine XS.astoreN X9.here hx rfl (hb hby d3_4) rfl rfl (l' := #[.val (.ref a1), .val (.int p2), .val (.ref b), .unset, .unset, .unset]) rfl ?_
    show Steps p.tables e below (T9.setTop (mkF m 5 #[.val (.ref a1), .val (.int p2), .val (.ref b), .unset, .unset, .unset] [])) _
    refine XS.aloadN X9.here hx rfl (hb hby d3_5) rfl rfl ?_
    show Steps p.tables e below (T9.setTop (mkF m 6 #[.val (.ref a1), .val (.int p2), .val (.ref b), .unset, .unset, .unset] [(.ref b)])) _
    refine X9.arraylength hx (cell := cl) (by rw [e9]; exact Ar.1) (State.isArrayOf_alike hZ.alike Ar.2.1) (g := (mkF m 6 #[.val (.ref a1), .val (.int p2), .val (.ref b), .unset, .unset, .unset] [(.ref b)])) rfl rfl (hb hby d3_6) _ ?_
    rw [len_of S M]
    show Steps p.tables e below (T9.setTop (mkF m 7 #[.val (.ref a1), .val (.int p2), .val (.ref b), .unset, .unset, .unset] [(.int (3 : Int32))])) _
    refine XS.istoreN X9.here hx rfl (hb hby d3_7) rfl (l' := #[.val (.ref a1), .val (.int p2), .val (.ref b), .val (.int (3 : Int32)), .unset, .unset]) rfl ?_
    show Steps p.tables e below (T9.setTop (mkF m 8 #[.val (.ref a1), .val (.int p2), .val (.ref b), .val (.int (3 : Int32)), .unset, .unset] [])) _
    refine XS.iconst X9.here hx rfl (hb hby d3_8) ?_
    show Steps p.tables e below (T9.setTop (mkF m 9 #[.val (.ref a1), .val (.int p2), .val (.ref b), .val (.int (3 : Int32)), .unset, .unset] [(.int (0 : Int32))])) _
    refine XS.istore X9.here hx rfl (hb hby d3_9) rfl (l' := #[.val (.ref a1), .val (.int p2), .val (.ref b), .val (.int (3 : Int32)), .val (.int (0 : Int32)), .unset]) rfl ?_
    exact kt
  refine own_go (B := T9.setTop (mkF m 26 #[.val (.ref a1), .val (.int p2), .val (.ref b), .val (.int (3 : Int32)), .val (.int (0 : Int32)), .val (.int x0)] [(.int p2), (.int x0)])) (fun t kt => ?_) ?_
  · show Steps p.tables e below (T9.setTop (mkF m 11 #[.val (.ref a1), .val (.int p2), .val (.ref b), .val (.int (3 : Int32)), .val (.int (0 : Int32)), .unset] [])) _
    refine XS.iload X9.here hx rfl (hb hby d3_11) rfl ?_
    show Steps p.tables e below (T9.setTop (mkF m 13 #[.val (.ref a1), .val (.int p2), .val (.ref b), .val (.int (3 : Int32)), .val (.int (0 : Int32)), .unset] [(.int (0 : Int32))])) _
    refine XS.iloadN X9.here hx rfl (hb hby d3_13) rfl ?_
    show Steps p.tables e below (T9.setTop (mkF m 14 #[.val (.ref a1), .val (.int p2), .val (.ref b), .val (.int (3 : Int32)), .val (.int (0 : Int32)), .unset] [(.int (3 : Int32)), (.int (0 : Int32))])) _
    refine XS.icmpNo X9.here hx rfl (hb hby d3_14) rfl (tlt (by decide)).2.1 ?_
    show Steps p.tables e below (T9.setTop (mkF m 17 #[.val (.ref a1), .val (.int p2), .val (.ref b), .val (.int (3 : Int32)), .val (.int (0 : Int32)), .unset] [])) _
    refine XS.aloadN X9.here hx rfl (hb hby d3_17) rfl rfl ?_
    show Steps p.tables e below (T9.setTop (mkF m 18 #[.val (.ref a1), .val (.int p2), .val (.ref b), .val (.int (3 : Int32)), .val (.int (0 : Int32)), .unset] [(.ref b)])) _
    refine XS.iload X9.here hx rfl (hb hby d3_18) rfl ?_
    show Steps p.tables e below (T9.setTop (mkF m 20 #[.val (.ref a1), .val (.int p2), .val (.ref b), .val (.int (3 : Int32)), .val (.int (0 : Int32)), .unset] [(.int (0 : Int32)), (.ref b)])) _
    refine X9.iaload hx (j := (0 : Int32)) (v := (.int x0)) (by rw [e9]; exact Ar.1) (State.isArrayOf_alike hZ.alike Ar.2.1) Ar.2.2 (inb_of S ⟨by decide, by decide⟩) (H.at (inb_of S ⟨by decide, by decide⟩) rfl) (g := (mkF m 20 #[.val (.ref a1), .val (.int p2), .val (.ref b), .val (.int (3 : Int32)), .val (.int (0 : Int32)), .unset] [(.int (0 : Int32)), (.ref b)])) rfl rfl (hb hby d3_20) _ ?_
    show Steps p.tables e below (T9.setTop (mkF m 21 #[.val (.ref a1), .val (.int p2), .val (.ref b), .val (.int (3 : Int32)), .val (.int (0 : Int32)), .unset] [(.int x0)])) _
    refine XS.istore X9.here hx rfl (hb hby d3_21) rfl (l' := #[.val (.ref a1), .val (.int p2), .val (.ref b), .val (.int (3 : Int32)), .val (.int (0 : Int32)), .val (.int x0)]) rfl ?_
    show Steps p.tables e below (T9.setTop (mkF m 23 #[.val (.ref a1), .val (.int p2), .val (.ref b), .val (.int (3 : Int32)), .val (.int (0 : Int32)), .val (.int x0)] [])) _
    refine XS.iload X9.here hx rfl (hb hby d3_23) rfl ?_
    show Steps p.tables e below (T9.setTop (mkF m 25 #[.val (.ref a1), .val (.int p2), .val (.ref b), .val (.int (3 : Int32)), .val (.int (0 : Int32)), .val (.int x0)] [(.int x0)])) _
    refine XS.iloadN X9.here hx rfl (hb hby d3_25) rfl ?_
    exact kt
  by_cases hq0 : x0 = p2
  · have hd0 : p2 = x0 := hq0.symm
    refine own_go (B := T9.setTop (mkF m 30 #[.val (.ref a1), .val (.int p2), .val (.ref b), .val (.int (3 : Int32)), .val (.int (0 : Int32)), .val (.int x0)] [(.int (1 : Int32))])) (fun t kt => ?_) ?_
    · show Steps p.tables e below (T9.setTop (mkF m 26 #[.val (.ref a1), .val (.int p2), .val (.ref b), .val (.int (3 : Int32)), .val (.int (0 : Int32)), .val (.int x0)] [(.int p2), (.int x0)])) _
      refine XS.icmpNo X9.here hx rfl (hb hby d3_26) rfl (teq hq0).2 ?_
      show Steps p.tables e below (T9.setTop (mkF m 29 #[.val (.ref a1), .val (.int p2), .val (.ref b), .val (.int (3 : Int32)), .val (.int (0 : Int32)), .val (.int x0)] [])) _
      refine XS.iconst X9.here hx rfl (hb hby d3_29) ?_
      exact kt
    have hv : own_i (decide (p2 = x0) || decide (p2 = x1) || decide (p2 = x2)) = (1 : Int32) := by simp [own_i, hd0]
    obtain ⟨fs, hr, hrun, hended, hW, hsame⟩ := X9.leave (v := some (.int (1 : Int32))) (fun h => by rw [Bd.returns] at h; cases h)
    refine ⟨_, _, ?_, hrun, hended, _, _, rfl, ?_, ⟨_, rfl⟩, hW, hsame.mono (by decide) (by decide)⟩
    · show Steps p.tables e below (T9.setTop (mkF m 30 #[.val (.ref a1), .val (.int p2), .val (.ref b), .val (.int (3 : Int32)), .val (.int (0 : Int32)), .val (.int x0)] [(.int (1 : Int32))])) _
      exact retN X9 hx (t := .boolean) Bd.returns (by simp) (hb hby d3_30) hr
    · show Q3_3 Z p2 x0 x1 x2 h0 n0 _ T9.heap _
      rw [e9]
      exact ⟨by rw [hv], N0, rfl⟩
  · have hd0 : ¬ p2 = x0 := fun q => hq0 q.symm
    refine own_go (B := T9.setTop (mkF m 11 #[.val (.ref a1), .val (.int p2), .val (.ref b), .val (.int (3 : Int32)), .val (.int ((0 : Int32) + (1 : Int32))), .val (.int x0)] [])) (fun t kt => ?_) ?_
    · show Steps p.tables e below (T9.setTop (mkF m 26 #[.val (.ref a1), .val (.int p2), .val (.ref b), .val (.int (3 : Int32)), .val (.int (0 : Int32)), .val (.int x0)] [(.int p2), (.int x0)])) _
      refine XS.icmpYes X9.here hx rfl (pc0 := 26) (pc' := 31) rfl (hb hby d3_26) rfl (feq hq0).2 (by decide) (by decide) ?_
      show Steps p.tables e below (T9.setTop (mkF m 31 #[.val (.ref a1), .val (.int p2), .val (.ref b), .val (.int (3 : Int32)), .val (.int (0 : Int32)), .val (.int x0)] [])) _
      refine XS.iinc X9.here hx rfl (hb hby d3_31) rfl (l' := #[.val (.ref a1), .val (.int p2), .val (.ref b), .val (.int (3 : Int32)), .val (.int ((0 : Int32) + (1 : Int32))), .val (.int x0)]) rfl ?_
      show Steps p.tables e below (T9.setTop (mkF m 34 #[.val (.ref a1), .val (.int p2), .val (.ref b), .val (.int (3 : Int32)), .val (.int ((0 : Int32) + (1 : Int32))), .val (.int x0)] [])) _
      refine XS.goto X9.here hx rfl (pc0 := 34) (pc' := 11) rfl (hb hby d3_34) (by decide) (by decide) ?_
      exact kt
    rw [show ((0 : Int32) + (1 : Int32)) = (1 : Int32) from by decide]
    refine own_go (B := T9.setTop (mkF m 26 #[.val (.ref a1), .val (.int p2), .val (.ref b), .val (.int (3 : Int32)), .val (.int (1 : Int32)), .val (.int x1)] [(.int p2), (.int x1)])) (fun t kt => ?_) ?_
    · show Steps p.tables e below (T9.setTop (mkF m 11 #[.val (.ref a1), .val (.int p2), .val (.ref b), .val (.int (3 : Int32)), .val (.int (1 : Int32)), .val (.int x0)] [])) _
      refine XS.iload X9.here hx rfl (hb hby d3_11) rfl ?_
      show Steps p.tables e below (T9.setTop (mkF m 13 #[.val (.ref a1), .val (.int p2), .val (.ref b), .val (.int (3 : Int32)), .val (.int (1 : Int32)), .val (.int x0)] [(.int (1 : Int32))])) _
      refine XS.iloadN X9.here hx rfl (hb hby d3_13) rfl ?_
      show Steps p.tables e below (T9.setTop (mkF m 14 #[.val (.ref a1), .val (.int p2), .val (.ref b), .val (.int (3 : Int32)), .val (.int (1 : Int32)), .val (.int x0)] [(.int (3 : Int32)), (.int (1 : Int32))])) _
      refine XS.icmpNo X9.here hx rfl (hb hby d3_14) rfl (tlt (by decide)).2.1 ?_
      show Steps p.tables e below (T9.setTop (mkF m 17 #[.val (.ref a1), .val (.int p2), .val (.ref b), .val (.int (3 : Int32)), .val (.int (1 : Int32)), .val (.int x0)] [])) _
      refine XS.aloadN X9.here hx rfl (hb hby d3_17) rfl rfl ?_
      show Steps p.tables e below (T9.setTop (mkF m 18 #[.val (.ref a1), .val (.int p2), .val (.ref b), .val (.int (3 : Int32)), .val (.int (1 : Int32)), .val (.int x0)] [(.ref b)])) _
      refine XS.iload X9.here hx rfl (hb hby d3_18) rfl ?_
      show Steps p.tables e below (T9.setTop (mkF m 20 #[.val (.ref a1), .val (.int p2), .val (.ref b), .val (.int (3 : Int32)), .val (.int (1 : Int32)), .val (.int x0)] [(.int (1 : Int32)), (.ref b)])) _
      refine X9.iaload hx (j := (1 : Int32)) (v := (.int x1)) (by rw [e9]; exact Ar.1) (State.isArrayOf_alike hZ.alike Ar.2.1) Ar.2.2 (inb_of S ⟨by decide, by decide⟩) (H.at (inb_of S ⟨by decide, by decide⟩) rfl) (g := (mkF m 20 #[.val (.ref a1), .val (.int p2), .val (.ref b), .val (.int (3 : Int32)), .val (.int (1 : Int32)), .val (.int x0)] [(.int (1 : Int32)), (.ref b)])) rfl rfl (hb hby d3_20) _ ?_
      show Steps p.tables e below (T9.setTop (mkF m 21 #[.val (.ref a1), .val (.int p2), .val (.ref b), .val (.int (3 : Int32)), .val (.int (1 : Int32)), .val (.int x0)] [(.int x1)])) _
      refine XS.istore X9.here hx rfl (hb hby d3_21) rfl (l' := #[.val (.ref a1), .val (.int p2), .val (.ref b), .val (.int (3 : Int32)), .val (.int (1 : Int32)), .val (.int x1)]) rfl ?_
      show Steps p.tables e below (T9.setTop (mkF m 23 #[.val (.ref a1), .val (.int p2), .val (.ref b), .val (.int (3 : Int32)), .val (.int (1 : Int32)), .val (.int x1)] [])) _
      refine XS.iload X9.here hx rfl (hb hby d3_23) rfl ?_
      show Steps p.tables e below (T9.setTop (mkF m 25 #[.val (.ref a1), .val (.int p2), .val (.ref b), .val (.int (3 : Int32)), .val (.int (1 : Int32)), .val (.int x1)] [(.int x1)])) _
      refine XS.iloadN X9.here hx rfl (hb hby d3_25) rfl ?_
      exact kt
    by_cases hq1 : x1 = p2
    · have hd1 : p2 = x1 := hq1.symm
      refine own_go (B := T9.setTop (mkF m 30 #[.val (.ref a1), .val (.int p2), .val (.ref b), .val (.int (3 : Int32)), .val (.int (1 : Int32)), .val (.int x1)] [(.int (1 : Int32))])) (fun t kt => ?_) ?_
      · show Steps p.tables e below (T9.setTop (mkF m 26 #[.val (.ref a1), .val (.int p2), .val (.ref b), .val (.int (3 : Int32)), .val (.int (1 : Int32)), .val (.int x1)] [(.int p2), (.int x1)])) _
        refine XS.icmpNo X9.here hx rfl (hb hby d3_26) rfl (teq hq1).2 ?_
        show Steps p.tables e below (T9.setTop (mkF m 29 #[.val (.ref a1), .val (.int p2), .val (.ref b), .val (.int (3 : Int32)), .val (.int (1 : Int32)), .val (.int x1)] [])) _
        refine XS.iconst X9.here hx rfl (hb hby d3_29) ?_
        exact kt
      have hv : own_i (decide (p2 = x0) || decide (p2 = x1) || decide (p2 = x2)) = (1 : Int32) := by simp [own_i, hd1]
      obtain ⟨fs, hr, hrun, hended, hW, hsame⟩ := X9.leave (v := some (.int (1 : Int32))) (fun h => by rw [Bd.returns] at h; cases h)
      refine ⟨_, _, ?_, hrun, hended, _, _, rfl, ?_, ⟨_, rfl⟩, hW, hsame.mono (by decide) (by decide)⟩
      · show Steps p.tables e below (T9.setTop (mkF m 30 #[.val (.ref a1), .val (.int p2), .val (.ref b), .val (.int (3 : Int32)), .val (.int (1 : Int32)), .val (.int x1)] [(.int (1 : Int32))])) _
        exact retN X9 hx (t := .boolean) Bd.returns (by simp) (hb hby d3_30) hr
      · show Q3_3 Z p2 x0 x1 x2 h0 n0 _ T9.heap _
        rw [e9]
        exact ⟨by rw [hv], N0, rfl⟩
    · have hd1 : ¬ p2 = x1 := fun q => hq1 q.symm
      refine own_go (B := T9.setTop (mkF m 11 #[.val (.ref a1), .val (.int p2), .val (.ref b), .val (.int (3 : Int32)), .val (.int ((1 : Int32) + (1 : Int32))), .val (.int x1)] [])) (fun t kt => ?_) ?_
      · show Steps p.tables e below (T9.setTop (mkF m 26 #[.val (.ref a1), .val (.int p2), .val (.ref b), .val (.int (3 : Int32)), .val (.int (1 : Int32)), .val (.int x1)] [(.int p2), (.int x1)])) _
        refine XS.icmpYes X9.here hx rfl (pc0 := 26) (pc' := 31) rfl (hb hby d3_26) rfl (feq hq1).2 (by decide) (by decide) ?_
        show Steps p.tables e below (T9.setTop (mkF m 31 #[.val (.ref a1), .val (.int p2), .val (.ref b), .val (.int (3 : Int32)), .val (.int (1 : Int32)), .val (.int x1)] [])) _
        refine XS.iinc X9.here hx rfl (hb hby d3_31) rfl (l' := #[.val (.ref a1), .val (.int p2), .val (.ref b), .val (.int (3 : Int32)), .val (.int ((1 : Int32) + (1 : Int32))), .val (.int x1)]) rfl ?_
        show Steps p.tables e below (T9.setTop (mkF m 34 #[.val (.ref a1), .val (.int p2), .val (.ref b), .val (.int (3 : Int32)), .val (.int ((1 : Int32) + (1 : Int32))), .val (.int x1)] [])) _
        refine XS.goto X9.here hx rfl (pc0 := 34) (pc' := 11) rfl (hb hby d3_34) (by decide) (by decide) ?_
        exact kt
      rw [show ((1 : Int32) + (1 : Int32)) = (2 : Int32) from by decide]
      refine own_go (B := T9.setTop (mkF m 26 #[.val (.ref a1), .val (.int p2), .val (.ref b), .val (.int (3 : Int32)), .val (.int (2 : Int32)), .val (.int x2)] [(.int p2), (.int x2)])) (fun t kt => ?_) ?_
      · show Steps p.tables e below (T9.setTop (mkF m 11 #[.val (.ref a1), .val (.int p2), .val (.ref b), .val (.int (3 : Int32)), .val (.int (2 : Int32)), .val (.int x1)] [])) _
        refine XS.iload X9.here hx rfl (hb hby d3_11) rfl ?_
        show Steps p.tables e below (T9.setTop (mkF m 13 #[.val (.ref a1), .val (.int p2), .val (.ref b), .val (.int (3 : Int32)), .val (.int (2 : Int32)), .val (.int x1)] [(.int (2 : Int32))])) _
        refine XS.iloadN X9.here hx rfl (hb hby d3_13) rfl ?_
        show Steps p.tables e below (T9.setTop (mkF m 14 #[.val (.ref a1), .val (.int p2), .val (.ref b), .val (.int (3 : Int32)), .val (.int (2 : Int32)), .val (.int x1)] [(.int (3 : Int32)), (.int (2 : Int32))])) _
        refine XS.icmpNo X9.here hx rfl (hb hby d3_14) rfl (tlt (by decide)).2.1 ?_
        show Steps p.tables e below (T9.setTop (mkF m 17 #[.val (.ref a1), .val (.int p2), .val (.ref b), .val (.int (3 : Int32)), .val (.int (2 : Int32)), .val (.int x1)] [])) _
        refine XS.aloadN X9.here hx rfl (hb hby d3_17) rfl rfl ?_
        show Steps p.tables e below (T9.setTop (mkF m 18 #[.val (.ref a1), .val (.int p2), .val (.ref b), .val (.int (3 : Int32)), .val (.int (2 : Int32)), .val (.int x1)] [(.ref b)])) _
        refine XS.iload X9.here hx rfl (hb hby d3_18) rfl ?_
        show Steps p.tables e below (T9.setTop (mkF m 20 #[.val (.ref a1), .val (.int p2), .val (.ref b), .val (.int (3 : Int32)), .val (.int (2 : Int32)), .val (.int x1)] [(.int (2 : Int32)), (.ref b)])) _
        refine X9.iaload hx (j := (2 : Int32)) (v := (.int x2)) (by rw [e9]; exact Ar.1) (State.isArrayOf_alike hZ.alike Ar.2.1) Ar.2.2 (inb_of S ⟨by decide, by decide⟩) (H.at (inb_of S ⟨by decide, by decide⟩) rfl) (g := (mkF m 20 #[.val (.ref a1), .val (.int p2), .val (.ref b), .val (.int (3 : Int32)), .val (.int (2 : Int32)), .val (.int x1)] [(.int (2 : Int32)), (.ref b)])) rfl rfl (hb hby d3_20) _ ?_
        show Steps p.tables e below (T9.setTop (mkF m 21 #[.val (.ref a1), .val (.int p2), .val (.ref b), .val (.int (3 : Int32)), .val (.int (2 : Int32)), .val (.int x1)] [(.int x2)])) _
        refine XS.istore X9.here hx rfl (hb hby d3_21) rfl (l' := #[.val (.ref a1), .val (.int p2), .val (.ref b), .val (.int (3 : Int32)), .val (.int (2 : Int32)), .val (.int x2)]) rfl ?_
        show Steps p.tables e below (T9.setTop (mkF m 23 #[.val (.ref a1), .val (.int p2), .val (.ref b), .val (.int (3 : Int32)), .val (.int (2 : Int32)), .val (.int x2)] [])) _
        refine XS.iload X9.here hx rfl (hb hby d3_23) rfl ?_
        show Steps p.tables e below (T9.setTop (mkF m 25 #[.val (.ref a1), .val (.int p2), .val (.ref b), .val (.int (3 : Int32)), .val (.int (2 : Int32)), .val (.int x2)] [(.int x2)])) _
        refine XS.iloadN X9.here hx rfl (hb hby d3_25) rfl ?_
        exact kt
      by_cases hq2 : x2 = p2
      · have hd2 : p2 = x2 := hq2.symm
        refine own_go (B := T9.setTop (mkF m 30 #[.val (.ref a1), .val (.int p2), .val (.ref b), .val (.int (3 : Int32)), .val (.int (2 : Int32)), .val (.int x2)] [(.int (1 : Int32))])) (fun t kt => ?_) ?_
        · show Steps p.tables e below (T9.setTop (mkF m 26 #[.val (.ref a1), .val (.int p2), .val (.ref b), .val (.int (3 : Int32)), .val (.int (2 : Int32)), .val (.int x2)] [(.int p2), (.int x2)])) _
          refine XS.icmpNo X9.here hx rfl (hb hby d3_26) rfl (teq hq2).2 ?_
          show Steps p.tables e below (T9.setTop (mkF m 29 #[.val (.ref a1), .val (.int p2), .val (.ref b), .val (.int (3 : Int32)), .val (.int (2 : Int32)), .val (.int x2)] [])) _
          refine XS.iconst X9.here hx rfl (hb hby d3_29) ?_
          exact kt
        have hv : own_i (decide (p2 = x0) || decide (p2 = x1) || decide (p2 = x2)) = (1 : Int32) := by simp [own_i, hd2]
        obtain ⟨fs, hr, hrun, hended, hW, hsame⟩ := X9.leave (v := some (.int (1 : Int32))) (fun h => by rw [Bd.returns] at h; cases h)
        refine ⟨_, _, ?_, hrun, hended, _, _, rfl, ?_, ⟨_, rfl⟩, hW, hsame.mono (by decide) (by decide)⟩
        · show Steps p.tables e below (T9.setTop (mkF m 30 #[.val (.ref a1), .val (.int p2), .val (.ref b), .val (.int (3 : Int32)), .val (.int (2 : Int32)), .val (.int x2)] [(.int (1 : Int32))])) _
          exact retN X9 hx (t := .boolean) Bd.returns (by simp) (hb hby d3_30) hr
        · show Q3_3 Z p2 x0 x1 x2 h0 n0 _ T9.heap _
          rw [e9]
          exact ⟨by rw [hv], N0, rfl⟩
      · have hd2 : ¬ p2 = x2 := fun q => hq2 q.symm
        refine own_go (B := T9.setTop (mkF m 11 #[.val (.ref a1), .val (.int p2), .val (.ref b), .val (.int (3 : Int32)), .val (.int ((2 : Int32) + (1 : Int32))), .val (.int x2)] [])) (fun t kt => ?_) ?_
        · show Steps p.tables e below (T9.setTop (mkF m 26 #[.val (.ref a1), .val (.int p2), .val (.ref b), .val (.int (3 : Int32)), .val (.int (2 : Int32)), .val (.int x2)] [(.int p2), (.int x2)])) _
          refine XS.icmpYes X9.here hx rfl (pc0 := 26) (pc' := 31) rfl (hb hby d3_26) rfl (feq hq2).2 (by decide) (by decide) ?_
          show Steps p.tables e below (T9.setTop (mkF m 31 #[.val (.ref a1), .val (.int p2), .val (.ref b), .val (.int (3 : Int32)), .val (.int (2 : Int32)), .val (.int x2)] [])) _
          refine XS.iinc X9.here hx rfl (hb hby d3_31) rfl (l' := #[.val (.ref a1), .val (.int p2), .val (.ref b), .val (.int (3 : Int32)), .val (.int ((2 : Int32) + (1 : Int32))), .val (.int x2)]) rfl ?_
          show Steps p.tables e below (T9.setTop (mkF m 34 #[.val (.ref a1), .val (.int p2), .val (.ref b), .val (.int (3 : Int32)), .val (.int ((2 : Int32) + (1 : Int32))), .val (.int x2)] [])) _
          refine XS.goto X9.here hx rfl (pc0 := 34) (pc' := 11) rfl (hb hby d3_34) (by decide) (by decide) ?_
          exact kt
        rw [show ((2 : Int32) + (1 : Int32)) = (3 : Int32) from by decide]
        refine own_go (B := T9.setTop (mkF m 38 #[.val (.ref a1), .val (.int p2), .val (.ref b), .val (.int (3 : Int32)), .val (.int (3 : Int32)), .val (.int x2)] [(.int (0 : Int32))])) (fun t kt => ?_) ?_
        · show Steps p.tables e below (T9.setTop (mkF m 11 #[.val (.ref a1), .val (.int p2), .val (.ref b), .val (.int (3 : Int32)), .val (.int (3 : Int32)), .val (.int x2)] [])) _
          refine XS.iload X9.here hx rfl (hb hby d3_11) rfl ?_
          show Steps p.tables e below (T9.setTop (mkF m 13 #[.val (.ref a1), .val (.int p2), .val (.ref b), .val (.int (3 : Int32)), .val (.int (3 : Int32)), .val (.int x2)] [(.int (3 : Int32))])) _
          refine XS.iloadN X9.here hx rfl (hb hby d3_13) rfl ?_
          show Steps p.tables e below (T9.setTop (mkF m 14 #[.val (.ref a1), .val (.int p2), .val (.ref b), .val (.int (3 : Int32)), .val (.int (3 : Int32)), .val (.int x2)] [(.int (3 : Int32)), (.int (3 : Int32))])) _
          refine XS.icmpYes X9.here hx rfl (pc0 := 14) (pc' := 37) rfl (hb hby d3_14) rfl (flt (by decide)).2.1 (by decide) (by decide) ?_
          show Steps p.tables e below (T9.setTop (mkF m 37 #[.val (.ref a1), .val (.int p2), .val (.ref b), .val (.int (3 : Int32)), .val (.int (3 : Int32)), .val (.int x2)] [])) _
          refine XS.iconst X9.here hx rfl (hb hby d3_37) ?_
          exact kt
        have hv : own_i (decide (p2 = x0) || decide (p2 = x1) || decide (p2 = x2)) = (0 : Int32) := by simp [own_i, hd0, hd1, hd2]
        obtain ⟨fs, hr, hrun, hended, hW, hsame⟩ := X9.leave (v := some (.int (0 : Int32))) (fun h => by rw [Bd.returns] at h; cases h)
        refine ⟨_, _, ?_, hrun, hended, _, _, rfl, ?_, ⟨_, rfl⟩, hW, hsame.mono (by decide) (by decide)⟩
        · show Steps p.tables e below (T9.setTop (mkF m 38 #[.val (.ref a1), .val (.int p2), .val (.ref b), .val (.int (3 : Int32)), .val (.int (3 : Int32)), .val (.int x2)] [(.int (0 : Int32))])) _
          exact retN X9 hx (t := .boolean) Bd.returns (by simp) (hb hby d3_38) hr
        · show Q3_3 Z p2 x0 x1 x2 h0 n0 _ T9.heap _
          rw [e9]
          exact ⟨by rw [hv], N0, rfl⟩
theorem ef_0 (m : MethodId) (x0 : Int32) (x1 : Int32) (x2 : Int32) (x3 : Int32) (x4 : Int32) : entryFrame m #[(.int x0), (.int x1), (.int x2), (.int x3), (.int x4)] maxLocals = mkF m 0 #[.val (.int x0), .val (.int x1), .val (.int x2), .val (.int x3), .val (.int x4), .unset, .unset, .unset, .unset, .unset, .unset] [] := by first | (simp [entryFrame, mkF, argsToLocals, Value.category, maxLocals]; done) | rfl
def Q0 (Z : State) (p1 p2 p3 p4 p5 : Int32) (h0 : Heap) (n0 : Nat) (v : Option Value) (h : Heap) (L : List Loc) : Prop := v = some (.int (1 : Int32)) ∧ Fr n0 L
set_option maxRecDepth 65536 in
set_option maxHeartbeats 40000000 in
theorem rm0 (l : Launch) (Z : State) (a0 : Array Value) (hw : ∀ d ∈ tables_1, d.before a0 Z = true) (ws : List Jvm.Cond) (p1 : Int32) (p2 : Int32) (p3 : Int32) (p4 : Int32) (p5 : Int32)  (h0 : Heap) (n0 : Nat) (Z0 : n0 ≤ h0.size)  :
    MetFree l x (head1 (Jvm.Cond.code x code maxLocals ret :: ws) room_1) (fun a U => a = #[(.int p1), (.int p2), (.int p3), (.int p4), (.int p5)] ∧ Z.Warmed39 U.vm ∧ U.heap = h0) (fun _ _ _ _ _ => True) (fun _ U o U' => ∃ v L, o = .returned v ∧ Q0 Z p1 p2 p3 p4 p5 h0 n0 v U'.heap L ∧ ReturnedEndW U o U' L room_1.cells room_1.slots) := by
  refine MetFree.of_bodySF (plainFor_of_name pn_1) hisR ?_
  intro p e s m args below meth c s₁ Bd hml0 hP hK
  obtain ⟨rfl, hZ, hh⟩ := hP
  have hx := Bd.exec
  have hby := Bd.bytes
  have hml : c.maxLocals = 11 := hml0
  have hown : s.vm.findClass "com/example/coppice/coppice/model/VariableContainsPinLaw" = some m.cls := findClass_of_methodNamed Bd.named
  have hnm := (name_of_methodNamed Bd.named Bd.method).1
  have X0 : Stand p l e room_1 s m #[(.int p1), (.int p2), (.int p3), (.int p4), (.int p5)] below meth c s₁ [] 0 0 := Stand.of_body Bd
  have e0 : s₁.heap = h0 := by rw [← hh, Bd.state]; rfl
  have N0 := Fr.nil n0
  refine own_go (B := s₁.setTop (mkF m 0 #[.val (.int p1), .val (.int p2), .val (.int p3), .val (.int p4), .val (.int p5), .unset, .unset, .unset, .unset, .unset, .unset] [])) (fun t kt => castTop (ef_0 m p1 p2 p3 p4 p5) kt) ?_
  have wS : ∀ a ∈ Bundle.stringAtoms, a.before a0 Z = true := fun a ha => by
    simp only [Bundle.stringAtoms, List.mem_cons, List.not_mem_nil, or_false] at ha
    rcases ha with rfl | rfl | rfl | rfl | rfl | rfl | rfl
    · exact (hw _ (List.mem_of_getElem? (i := 5) rfl))
    · exact (hw _ (List.mem_of_getElem? (i := 6) rfl))
    · exact (hw _ (List.mem_of_getElem? (i := 7) rfl))
    · exact (hw _ (List.mem_of_getElem? (i := 8) rfl))
    · exact (hw _ (List.mem_of_getElem? (i := 9) rfl))
    · exact (hw _ (List.mem_of_getElem? (i := 10) rfl))
    · exact (hw _ (List.mem_of_getElem? (i := 11) rfl))
  refine own_go (B := s₁.setTop (mkF m 18 #[.val (.int p1), .val (.int p2), .val (.int p3), .val (.int p4), .val (.int p5), .val (.int (((p5 &&& (3 : Int32)) % (3 : Int32)) + (1 : Int32))), .val (.int (((p5.toUInt32 >>> ((2 : Int32) &&& 31).toUInt32).toInt32) &&& (3 : Int32))), .unset, .unset, .unset, .unset] [])) (fun t kt => ?_) ?_
  · show Steps p.tables e below (s₁.setTop (mkF m 0 #[.val (.int p1), .val (.int p2), .val (.int p3), .val (.int p4), .val (.int p5), .unset, .unset, .unset, .unset, .unset, .unset] [])) _
    refine XS.iload X0.here hx rfl (hb hby at_0) rfl ?_
    show Steps p.tables e below (s₁.setTop (mkF m 2 #[.val (.int p1), .val (.int p2), .val (.int p3), .val (.int p4), .val (.int p5), .unset, .unset, .unset, .unset, .unset, .unset] [(.int p5)])) _
    refine XS.iconst X0.here hx rfl (hb hby at_2) ?_
    show Steps p.tables e below (s₁.setTop (mkF m 3 #[.val (.int p1), .val (.int p2), .val (.int p3), .val (.int p4), .val (.int p5), .unset, .unset, .unset, .unset, .unset, .unset] [(.int (3 : Int32)), (.int p5)])) _
    refine XS.iand X0.here hx rfl (hb hby at_3) rfl ?_
    show Steps p.tables e below (s₁.setTop (mkF m 4 #[.val (.int p1), .val (.int p2), .val (.int p3), .val (.int p4), .val (.int p5), .unset, .unset, .unset, .unset, .unset, .unset] [(.int (p5 &&& (3 : Int32)))])) _
    refine XS.iconst X0.here hx rfl (hb hby at_4) ?_
    show Steps p.tables e below (s₁.setTop (mkF m 5 #[.val (.int p1), .val (.int p2), .val (.int p3), .val (.int p4), .val (.int p5), .unset, .unset, .unset, .unset, .unset, .unset] [(.int (3 : Int32)), (.int (p5 &&& (3 : Int32)))])) _
    refine iremM X0 hx rfl (hb hby at_5) rfl (by decide) ?_
    show Steps p.tables e below (s₁.setTop (mkF m 6 #[.val (.int p1), .val (.int p2), .val (.int p3), .val (.int p4), .val (.int p5), .unset, .unset, .unset, .unset, .unset, .unset] [(.int ((p5 &&& (3 : Int32)) % (3 : Int32)))])) _
    refine XS.iconst X0.here hx rfl (hb hby at_6) ?_
    show Steps p.tables e below (s₁.setTop (mkF m 7 #[.val (.int p1), .val (.int p2), .val (.int p3), .val (.int p4), .val (.int p5), .unset, .unset, .unset, .unset, .unset, .unset] [(.int (1 : Int32)), (.int ((p5 &&& (3 : Int32)) % (3 : Int32)))])) _
    refine XS.iadd X0.here hx rfl (hb hby at_7) rfl ?_
    show Steps p.tables e below (s₁.setTop (mkF m 8 #[.val (.int p1), .val (.int p2), .val (.int p3), .val (.int p4), .val (.int p5), .unset, .unset, .unset, .unset, .unset, .unset] [(.int (((p5 &&& (3 : Int32)) % (3 : Int32)) + (1 : Int32)))])) _
    refine XS.istore X0.here hx rfl (hb hby at_8) rfl (l' := #[.val (.int p1), .val (.int p2), .val (.int p3), .val (.int p4), .val (.int p5), .val (.int (((p5 &&& (3 : Int32)) % (3 : Int32)) + (1 : Int32))), .unset, .unset, .unset, .unset, .unset]) rfl ?_
    show Steps p.tables e below (s₁.setTop (mkF m 10 #[.val (.int p1), .val (.int p2), .val (.int p3), .val (.int p4), .val (.int p5), .val (.int (((p5 &&& (3 : Int32)) % (3 : Int32)) + (1 : Int32))), .unset, .unset, .unset, .unset, .unset] [])) _
    refine XS.iload X0.here hx rfl (hb hby at_10) rfl ?_
    show Steps p.tables e below (s₁.setTop (mkF m 12 #[.val (.int p1), .val (.int p2), .val (.int p3), .val (.int p4), .val (.int p5), .val (.int (((p5 &&& (3 : Int32)) % (3 : Int32)) + (1 : Int32))), .unset, .unset, .unset, .unset, .unset] [(.int p5)])) _
    refine XS.iconst X0.here hx rfl (hb hby at_12) ?_
    show Steps p.tables e below (s₁.setTop (mkF m 13 #[.val (.int p1), .val (.int p2), .val (.int p3), .val (.int p4), .val (.int p5), .val (.int (((p5 &&& (3 : Int32)) % (3 : Int32)) + (1 : Int32))), .unset, .unset, .unset, .unset, .unset] [(.int (2 : Int32)), (.int p5)])) _
    refine XS.iushr X0.here hx rfl (hb hby at_13) rfl ?_
    show Steps p.tables e below (s₁.setTop (mkF m 14 #[.val (.int p1), .val (.int p2), .val (.int p3), .val (.int p4), .val (.int p5), .val (.int (((p5 &&& (3 : Int32)) % (3 : Int32)) + (1 : Int32))), .unset, .unset, .unset, .unset, .unset] [(.int ((p5.toUInt32 >>> ((2 : Int32) &&& 31).toUInt32).toInt32))])) _
    refine XS.iconst X0.here hx rfl (hb hby at_14) ?_
    show Steps p.tables e below (s₁.setTop (mkF m 15 #[.val (.int p1), .val (.int p2), .val (.int p3), .val (.int p4), .val (.int p5), .val (.int (((p5 &&& (3 : Int32)) % (3 : Int32)) + (1 : Int32))), .unset, .unset, .unset, .unset, .unset] [(.int (3 : Int32)), (.int ((p5.toUInt32 >>> ((2 : Int32) &&& 31).toUInt32).toInt32))])) _
    refine XS.iand X0.here hx rfl (hb hby at_15) rfl ?_
    show Steps p.tables e below (s₁.setTop (mkF m 16 #[.val (.int p1), .val (.int p2), .val (.int p3), .val (.int p4), .val (.int p5), .val (.int (((p5 &&& (3 : Int32)) % (3 : Int32)) + (1 : Int32))), .unset, .unset, .unset, .unset, .unset] [(.int (((p5.toUInt32 >>> ((2 : Int32) &&& 31).toUInt32).toInt32) &&& (3 : Int32)))])) _
    refine XS.istore X0.here hx rfl (hb hby at_16) rfl (l' := #[.val (.int p1), .val (.int p2), .val (.int p3), .val (.int p4), .val (.int p5), .val (.int (((p5 &&& (3 : Int32)) % (3 : Int32)) + (1 : Int32))), .val (.int (((p5.toUInt32 >>> ((2 : Int32) &&& 31).toUInt32).toInt32) &&& (3 : Int32))), .unset, .unset, .unset, .unset]) rfl ?_
    exact kt
  obtain ⟨pp, hpp⟩ : ∃ z : Int32, z = if (((p5.toUInt32 >>> ((2 : Int32) &&& 31).toUInt32).toInt32) &&& (3 : Int32)) = (0 : Int32) then p1 else if (((p5.toUInt32 >>> ((2 : Int32) &&& 31).toUInt32).toInt32) &&& (3 : Int32)) = (1 : Int32) then p2 else if (((p5.toUInt32 >>> ((2 : Int32) &&& 31).toUInt32).toInt32) &&& (3 : Int32)) = (2 : Int32) then p3 else p4 := ⟨_, rfl⟩
  refine own_go (B := s₁.setTop (mkF m 56 #[.val (.int p1), .val (.int p2), .val (.int p3), .val (.int p4), .val (.int p5), .val (.int (((p5 &&& (3 : Int32)) % (3 : Int32)) + (1 : Int32))), .val (.int (((p5.toUInt32 >>> ((2 : Int32) &&& 31).toUInt32).toInt32) &&& (3 : Int32))), .val (.int pp), .unset, .unset, .unset] [])) (fun t kt => ?_) ?_
  · show Steps p.tables e below (s₁.setTop (mkF m 18 #[.val (.int p1), .val (.int p2), .val (.int p3), .val (.int p4), .val (.int p5), .val (.int (((p5 &&& (3 : Int32)) % (3 : Int32)) + (1 : Int32))), .val (.int (((p5.toUInt32 >>> ((2 : Int32) &&& 31).toUInt32).toInt32) &&& (3 : Int32))), .unset, .unset, .unset, .unset] [])) _
    refine XS.iload X0.here hx rfl (hb hby at_18) rfl ?_
    show Steps p.tables e below (s₁.setTop (mkF m 20 #[.val (.int p1), .val (.int p2), .val (.int p3), .val (.int p4), .val (.int p5), .val (.int (((p5 &&& (3 : Int32)) % (3 : Int32)) + (1 : Int32))), .val (.int (((p5.toUInt32 >>> ((2 : Int32) &&& 31).toUInt32).toInt32) &&& (3 : Int32))), .unset, .unset, .unset, .unset] [(.int (((p5.toUInt32 >>> ((2 : Int32) &&& 31).toUInt32).toInt32) &&& (3 : Int32)))])) _
    by_cases hc20 : (((p5.toUInt32 >>> ((2 : Int32) &&& 31).toUInt32).toInt32) &&& (3 : Int32)) = (0 : Int32)
    · refine XS.ifNo X0.here hx rfl (hb hby at_20) rfl ((if0 _ _).trans (teq hc20).2) ?_
      show Steps p.tables e below (s₁.setTop (mkF m 23 #[.val (.int p1), .val (.int p2), .val (.int p3), .val (.int p4), .val (.int p5), .val (.int (((p5 &&& (3 : Int32)) % (3 : Int32)) + (1 : Int32))), .val (.int (((p5.toUInt32 >>> ((2 : Int32) &&& 31).toUInt32).toInt32) &&& (3 : Int32))), .unset, .unset, .unset, .unset] [])) _
      refine XS.iloadN X0.here hx rfl (hb hby at_23) rfl ?_
      show Steps p.tables e below (s₁.setTop (mkF m 24 #[.val (.int p1), .val (.int p2), .val (.int p3), .val (.int p4), .val (.int p5), .val (.int (((p5 &&& (3 : Int32)) % (3 : Int32)) + (1 : Int32))), .val (.int (((p5.toUInt32 >>> ((2 : Int32) &&& 31).toUInt32).toInt32) &&& (3 : Int32))), .unset, .unset, .unset, .unset] [(.int p1)])) _
      refine XS.istore X0.here hx rfl (hb hby at_24) rfl (l' := #[.val (.int p1), .val (.int p2), .val (.int p3), .val (.int p4), .val (.int p5), .val (.int (((p5 &&& (3 : Int32)) % (3 : Int32)) + (1 : Int32))), .val (.int (((p5.toUInt32 >>> ((2 : Int32) &&& 31).toUInt32).toInt32) &&& (3 : Int32))), .val (.int p1), .unset, .unset, .unset]) rfl ?_
      show Steps p.tables e below (s₁.setTop (mkF m 26 #[.val (.int p1), .val (.int p2), .val (.int p3), .val (.int p4), .val (.int p5), .val (.int (((p5 &&& (3 : Int32)) % (3 : Int32)) + (1 : Int32))), .val (.int (((p5.toUInt32 >>> ((2 : Int32) &&& 31).toUInt32).toInt32) &&& (3 : Int32))), .val (.int p1), .unset, .unset, .unset] [])) _
      refine XS.goto X0.here hx rfl (pc0 := 26) (pc' := 56) rfl (hb hby at_26) (by decide) (by decide) ?_
      exact (castTop (congrArg (fun z__ => ((mkF m 56 #[.val (.int p1), .val (.int p2), .val (.int p3), .val (.int p4), .val (.int p5), .val (.int (((p5 &&& (3 : Int32)) % (3 : Int32)) + (1 : Int32))), .val (.int (((p5.toUInt32 >>> ((2 : Int32) &&& 31).toUInt32).toInt32) &&& (3 : Int32))), .val (.int z__), .unset, .unset, .unset] []) : JFrame)) (show pp = p1 from by rw [hpp, if_pos hc20]).symm) kt)
    · refine XS.ifYes X0.here hx rfl (pc0 := 20) (pc' := 29) rfl (hb hby at_20) rfl ((if0 _ _).trans (feq hc20).2) (by decide) (by decide) ?_
      show Steps p.tables e below (s₁.setTop (mkF m 29 #[.val (.int p1), .val (.int p2), .val (.int p3), .val (.int p4), .val (.int p5), .val (.int (((p5 &&& (3 : Int32)) % (3 : Int32)) + (1 : Int32))), .val (.int (((p5.toUInt32 >>> ((2 : Int32) &&& 31).toUInt32).toInt32) &&& (3 : Int32))), .unset, .unset, .unset, .unset] [])) _
      refine XS.iload X0.here hx rfl (hb hby at_29) rfl ?_
      show Steps p.tables e below (s₁.setTop (mkF m 31 #[.val (.int p1), .val (.int p2), .val (.int p3), .val (.int p4), .val (.int p5), .val (.int (((p5 &&& (3 : Int32)) % (3 : Int32)) + (1 : Int32))), .val (.int (((p5.toUInt32 >>> ((2 : Int32) &&& 31).toUInt32).toInt32) &&& (3 : Int32))), .unset, .unset, .unset, .unset] [(.int (((p5.toUInt32 >>> ((2 : Int32) &&& 31).toUInt32).toInt32) &&& (3 : Int32)))])) _
      refine XS.iconst X0.here hx rfl (hb hby at_31) ?_
      show Steps p.tables e below (s₁.setTop (mkF m 32 #[.val (.int p1), .val (.int p2), .val (.int p3), .val (.int p4), .val (.int p5), .val (.int (((p5 &&& (3 : Int32)) % (3 : Int32)) + (1 : Int32))), .val (.int (((p5.toUInt32 >>> ((2 : Int32) &&& 31).toUInt32).toInt32) &&& (3 : Int32))), .unset, .unset, .unset, .unset] [(.int (1 : Int32)), (.int (((p5.toUInt32 >>> ((2 : Int32) &&& 31).toUInt32).toInt32) &&& (3 : Int32)))])) _
      by_cases hc32 : (((p5.toUInt32 >>> ((2 : Int32) &&& 31).toUInt32).toInt32) &&& (3 : Int32)) = (1 : Int32)
      · refine XS.icmpNo X0.here hx rfl (hb hby at_32) rfl (teq hc32).2 ?_
        show Steps p.tables e below (s₁.setTop (mkF m 35 #[.val (.int p1), .val (.int p2), .val (.int p3), .val (.int p4), .val (.int p5), .val (.int (((p5 &&& (3 : Int32)) % (3 : Int32)) + (1 : Int32))), .val (.int (((p5.toUInt32 >>> ((2 : Int32) &&& 31).toUInt32).toInt32) &&& (3 : Int32))), .unset, .unset, .unset, .unset] [])) _
        refine XS.iloadN X0.here hx rfl (hb hby at_35) rfl ?_
        show Steps p.tables e below (s₁.setTop (mkF m 36 #[.val (.int p1), .val (.int p2), .val (.int p3), .val (.int p4), .val (.int p5), .val (.int (((p5 &&& (3 : Int32)) % (3 : Int32)) + (1 : Int32))), .val (.int (((p5.toUInt32 >>> ((2 : Int32) &&& 31).toUInt32).toInt32) &&& (3 : Int32))), .unset, .unset, .unset, .unset] [(.int p2)])) _
        refine XS.istore X0.here hx rfl (hb hby at_36) rfl (l' := #[.val (.int p1), .val (.int p2), .val (.int p3), .val (.int p4), .val (.int p5), .val (.int (((p5 &&& (3 : Int32)) % (3 : Int32)) + (1 : Int32))), .val (.int (((p5.toUInt32 >>> ((2 : Int32) &&& 31).toUInt32).toInt32) &&& (3 : Int32))), .val (.int p2), .unset, .unset, .unset]) rfl ?_
        show Steps p.tables e below (s₁.setTop (mkF m 38 #[.val (.int p1), .val (.int p2), .val (.int p3), .val (.int p4), .val (.int p5), .val (.int (((p5 &&& (3 : Int32)) % (3 : Int32)) + (1 : Int32))), .val (.int (((p5.toUInt32 >>> ((2 : Int32) &&& 31).toUInt32).toInt32) &&& (3 : Int32))), .val (.int p2), .unset, .unset, .unset] [])) _
        refine XS.goto X0.here hx rfl (pc0 := 38) (pc' := 56) rfl (hb hby at_38) (by decide) (by decide) ?_
        exact (castTop (congrArg (fun z__ => ((mkF m 56 #[.val (.int p1), .val (.int p2), .val (.int p3), .val (.int p4), .val (.int p5), .val (.int (((p5 &&& (3 : Int32)) % (3 : Int32)) + (1 : Int32))), .val (.int (((p5.toUInt32 >>> ((2 : Int32) &&& 31).toUInt32).toInt32) &&& (3 : Int32))), .val (.int z__), .unset, .unset, .unset] []) : JFrame)) (show pp = p2 from by rw [hpp, if_neg hc20, if_pos hc32]).symm) kt)
      · refine XS.icmpYes X0.here hx rfl (pc0 := 32) (pc' := 41) rfl (hb hby at_32) rfl (feq hc32).2 (by decide) (by decide) ?_
        show Steps p.tables e below (s₁.setTop (mkF m 41 #[.val (.int p1), .val (.int p2), .val (.int p3), .val (.int p4), .val (.int p5), .val (.int (((p5 &&& (3 : Int32)) % (3 : Int32)) + (1 : Int32))), .val (.int (((p5.toUInt32 >>> ((2 : Int32) &&& 31).toUInt32).toInt32) &&& (3 : Int32))), .unset, .unset, .unset, .unset] [])) _
        refine XS.iload X0.here hx rfl (hb hby at_41) rfl ?_
        show Steps p.tables e below (s₁.setTop (mkF m 43 #[.val (.int p1), .val (.int p2), .val (.int p3), .val (.int p4), .val (.int p5), .val (.int (((p5 &&& (3 : Int32)) % (3 : Int32)) + (1 : Int32))), .val (.int (((p5.toUInt32 >>> ((2 : Int32) &&& 31).toUInt32).toInt32) &&& (3 : Int32))), .unset, .unset, .unset, .unset] [(.int (((p5.toUInt32 >>> ((2 : Int32) &&& 31).toUInt32).toInt32) &&& (3 : Int32)))])) _
        refine XS.iconst X0.here hx rfl (hb hby at_43) ?_
        show Steps p.tables e below (s₁.setTop (mkF m 44 #[.val (.int p1), .val (.int p2), .val (.int p3), .val (.int p4), .val (.int p5), .val (.int (((p5 &&& (3 : Int32)) % (3 : Int32)) + (1 : Int32))), .val (.int (((p5.toUInt32 >>> ((2 : Int32) &&& 31).toUInt32).toInt32) &&& (3 : Int32))), .unset, .unset, .unset, .unset] [(.int (2 : Int32)), (.int (((p5.toUInt32 >>> ((2 : Int32) &&& 31).toUInt32).toInt32) &&& (3 : Int32)))])) _
        by_cases hc44 : (((p5.toUInt32 >>> ((2 : Int32) &&& 31).toUInt32).toInt32) &&& (3 : Int32)) = (2 : Int32)
        · refine XS.icmpNo X0.here hx rfl (hb hby at_44) rfl (teq hc44).2 ?_
          show Steps p.tables e below (s₁.setTop (mkF m 47 #[.val (.int p1), .val (.int p2), .val (.int p3), .val (.int p4), .val (.int p5), .val (.int (((p5 &&& (3 : Int32)) % (3 : Int32)) + (1 : Int32))), .val (.int (((p5.toUInt32 >>> ((2 : Int32) &&& 31).toUInt32).toInt32) &&& (3 : Int32))), .unset, .unset, .unset, .unset] [])) _
          refine XS.iloadN X0.here hx rfl (hb hby at_47) rfl ?_
          show Steps p.tables e below (s₁.setTop (mkF m 48 #[.val (.int p1), .val (.int p2), .val (.int p3), .val (.int p4), .val (.int p5), .val (.int (((p5 &&& (3 : Int32)) % (3 : Int32)) + (1 : Int32))), .val (.int (((p5.toUInt32 >>> ((2 : Int32) &&& 31).toUInt32).toInt32) &&& (3 : Int32))), .unset, .unset, .unset, .unset] [(.int p3)])) _
          refine XS.istore X0.here hx rfl (hb hby at_48) rfl (l' := #[.val (.int p1), .val (.int p2), .val (.int p3), .val (.int p4), .val (.int p5), .val (.int (((p5 &&& (3 : Int32)) % (3 : Int32)) + (1 : Int32))), .val (.int (((p5.toUInt32 >>> ((2 : Int32) &&& 31).toUInt32).toInt32) &&& (3 : Int32))), .val (.int p3), .unset, .unset, .unset]) rfl ?_
          show Steps p.tables e below (s₁.setTop (mkF m 50 #[.val (.int p1), .val (.int p2), .val (.int p3), .val (.int p4), .val (.int p5), .val (.int (((p5 &&& (3 : Int32)) % (3 : Int32)) + (1 : Int32))), .val (.int (((p5.toUInt32 >>> ((2 : Int32) &&& 31).toUInt32).toInt32) &&& (3 : Int32))), .val (.int p3), .unset, .unset, .unset] [])) _
          refine XS.goto X0.here hx rfl (pc0 := 50) (pc' := 56) rfl (hb hby at_50) (by decide) (by decide) ?_
          exact (castTop (congrArg (fun z__ => ((mkF m 56 #[.val (.int p1), .val (.int p2), .val (.int p3), .val (.int p4), .val (.int p5), .val (.int (((p5 &&& (3 : Int32)) % (3 : Int32)) + (1 : Int32))), .val (.int (((p5.toUInt32 >>> ((2 : Int32) &&& 31).toUInt32).toInt32) &&& (3 : Int32))), .val (.int z__), .unset, .unset, .unset] []) : JFrame)) (show pp = p3 from by rw [hpp, if_neg hc20, if_neg hc32, if_pos hc44]).symm) kt)
        · refine XS.icmpYes X0.here hx rfl (pc0 := 44) (pc' := 53) rfl (hb hby at_44) rfl (feq hc44).2 (by decide) (by decide) ?_
          show Steps p.tables e below (s₁.setTop (mkF m 53 #[.val (.int p1), .val (.int p2), .val (.int p3), .val (.int p4), .val (.int p5), .val (.int (((p5 &&& (3 : Int32)) % (3 : Int32)) + (1 : Int32))), .val (.int (((p5.toUInt32 >>> ((2 : Int32) &&& 31).toUInt32).toInt32) &&& (3 : Int32))), .unset, .unset, .unset, .unset] [])) _
          refine XS.iloadN X0.here hx rfl (hb hby at_53) rfl ?_
          show Steps p.tables e below (s₁.setTop (mkF m 54 #[.val (.int p1), .val (.int p2), .val (.int p3), .val (.int p4), .val (.int p5), .val (.int (((p5 &&& (3 : Int32)) % (3 : Int32)) + (1 : Int32))), .val (.int (((p5.toUInt32 >>> ((2 : Int32) &&& 31).toUInt32).toInt32) &&& (3 : Int32))), .unset, .unset, .unset, .unset] [(.int p4)])) _
          refine XS.istore X0.here hx rfl (hb hby at_54) rfl (l' := #[.val (.int p1), .val (.int p2), .val (.int p3), .val (.int p4), .val (.int p5), .val (.int (((p5 &&& (3 : Int32)) % (3 : Int32)) + (1 : Int32))), .val (.int (((p5.toUInt32 >>> ((2 : Int32) &&& 31).toUInt32).toInt32) &&& (3 : Int32))), .val (.int p4), .unset, .unset, .unset]) rfl ?_
          exact (castTop (congrArg (fun z__ => ((mkF m 56 #[.val (.int p1), .val (.int p2), .val (.int p3), .val (.int p4), .val (.int p5), .val (.int (((p5 &&& (3 : Int32)) % (3 : Int32)) + (1 : Int32))), .val (.int (((p5.toUInt32 >>> ((2 : Int32) &&& 31).toUInt32).toInt32) &&& (3 : Int32))), .val (.int z__), .unset, .unset, .unset] []) : JFrame)) (show pp = p4 from by rw [hpp, if_neg hc20, if_neg hc32, if_neg hc44]).symm) kt)
  rcases own_n p5 with hk | hk | hk
  · rw [hk]
    refine own_go (B := s₁.setTop (mkF m 63 #[.val (.int p1), .val (.int p2), .val (.int p3), .val (.int p4), .val (.int p5), .val (.int (1 : Int32)), .val (.int (((p5.toUInt32 >>> ((2 : Int32) &&& 31).toUInt32).toInt32) &&& (3 : Int32))), .val (.int pp), .unset, .unset, .unset] [(.int (1 : Int32))])) (fun t kt => ?_) ?_
    · show Steps p.tables e below (s₁.setTop (mkF m 56 #[.val (.int p1), .val (.int p2), .val (.int p3), .val (.int p4), .val (.int p5), .val (.int (1 : Int32)), .val (.int (((p5.toUInt32 >>> ((2 : Int32) &&& 31).toUInt32).toInt32) &&& (3 : Int32))), .val (.int pp), .unset, .unset, .unset] [])) _
      refine XS.iload X0.here hx rfl (hb hby at_56) rfl ?_
      show Steps p.tables e below (s₁.setTop (mkF m 58 #[.val (.int p1), .val (.int p2), .val (.int p3), .val (.int p4), .val (.int p5), .val (.int (1 : Int32)), .val (.int (((p5.toUInt32 >>> ((2 : Int32) &&& 31).toUInt32).toInt32) &&& (3 : Int32))), .val (.int pp), .unset, .unset, .unset] [(.int (1 : Int32))])) _
      refine XS.iconst X0.here hx rfl (hb hby at_58) ?_
      show Steps p.tables e below (s₁.setTop (mkF m 59 #[.val (.int p1), .val (.int p2), .val (.int p3), .val (.int p4), .val (.int p5), .val (.int (1 : Int32)), .val (.int (((p5.toUInt32 >>> ((2 : Int32) &&& 31).toUInt32).toInt32) &&& (3 : Int32))), .val (.int pp), .unset, .unset, .unset] [(.int (1 : Int32)), (.int (1 : Int32))])) _
      refine XS.icmpNo X0.here hx rfl (hb hby at_59) rfl (teq (by decide)).2 ?_
      show Steps p.tables e below (s₁.setTop (mkF m 62 #[.val (.int p1), .val (.int p2), .val (.int p3), .val (.int p4), .val (.int p5), .val (.int (1 : Int32)), .val (.int (((p5.toUInt32 >>> ((2 : Int32) &&& 31).toUInt32).toInt32) &&& (3 : Int32))), .val (.int pp), .unset, .unset, .unset] [])) _
      refine XS.iconst X0.here hx rfl (hb hby at_62) ?_
      exact kt
    obtain ⟨T10, h10, k10, X10, e10, E10, A10, B10, st10⟩ := newPE X0 hx hZ (hw _ (List.mem_of_getElem? (i := 0) rfl)) e0 (g := (mkF m 63 #[.val (.int p1), .val (.int p2), .val (.int p3), .val (.int p4), .val (.int p5), .val (.int (1 : Int32)), .val (.int (((p5.toUInt32 >>> ((2 : Int32) &&& 31).toUInt32).toInt32) &&& (3 : Int32))), .val (.int pp), .unset, .unset, .unset] [(.int (1 : Int32))])) rfl (hb hby at_63) rfl (by decide) (cap := 1) (by decide) (by decide) (by decide) (by decide) (ad := "[I") (by decide)
    obtain ⟨b10, g10⟩ : ∃ z, z = h0.size := ⟨_, rfl⟩
    rw [← g10] at A10 B10 st10
    refine own_go (B := T10.setTop (mkF m 65 #[.val (.int p1), .val (.int p2), .val (.int p3), .val (.int p4), .val (.int p5), .val (.int (1 : Int32)), .val (.int (((p5.toUInt32 >>> ((2 : Int32) &&& 31).toUInt32).toInt32) &&& (3 : Int32))), .val (.int pp), .unset, .unset, .unset] [(.ref b10)])) (fun t kt => st10 t kt) ?_
    have gb : n0 ≤ b10 := Nat.le_trans Z0 (Nat.le_of_eq g10.symm)
    have Z1 : n0 ≤ h10.size := Nat.le_trans Z0 E10.1
    have V0 : Arv Z h10 b10 k10 .int (1 : Int32) [(.int (0 : Int32))] (.int (0 : Int32)) := (Arv.new A10 (by decide)).pad (pad_rep [] (.int (0 : Int32)) 1)
    have Ea0 := B10
    refine own_go (B := T10.setTop (mkF m 68 #[.val (.int p1), .val (.int p2), .val (.int p3), .val (.int p4), .val (.int p5), .val (.int (1 : Int32)), .val (.int (((p5.toUInt32 >>> ((2 : Int32) &&& 31).toUInt32).toInt32) &&& (3 : Int32))), .val (.int pp), .unset, .unset, .unset] [(.int p1), (.int (0 : Int32)), (.ref b10), (.ref b10)])) (fun t kt => ?_) ?_
    · show Steps p.tables e below (T10.setTop (mkF m 65 #[.val (.int p1), .val (.int p2), .val (.int p3), .val (.int p4), .val (.int p5), .val (.int (1 : Int32)), .val (.int (((p5.toUInt32 >>> ((2 : Int32) &&& 31).toUInt32).toInt32) &&& (3 : Int32))), .val (.int pp), .unset, .unset, .unset] [(.ref b10)])) _
      refine XS.dup X10.here hx rfl (hb hby at_65) rfl rfl ?_
      show Steps p.tables e below (T10.setTop (mkF m 66 #[.val (.int p1), .val (.int p2), .val (.int p3), .val (.int p4), .val (.int p5), .val (.int (1 : Int32)), .val (.int (((p5.toUInt32 >>> ((2 : Int32) &&& 31).toUInt32).toInt32) &&& (3 : Int32))), .val (.int pp), .unset, .unset, .unset] [(.ref b10), (.ref b10)])) _
      refine XS.iconst X10.here hx rfl (hb hby at_66) ?_
      show Steps p.tables e below (T10.setTop (mkF m 67 #[.val (.int p1), .val (.int p2), .val (.int p3), .val (.int p4), .val (.int p5), .val (.int (1 : Int32)), .val (.int (((p5.toUInt32 >>> ((2 : Int32) &&& 31).toUInt32).toInt32) &&& (3 : Int32))), .val (.int pp), .unset, .unset, .unset] [(.int (0 : Int32)), (.ref b10), (.ref b10)])) _
      refine XS.iloadN X10.here hx rfl (hb hby at_67) rfl ?_
      exact kt
    obtain ⟨cv0, Av0, qv0, Sv0, Mv0, Hv0, Uv0⟩ := V0
    obtain ⟨T11, h11, X11, e11, W11, st11⟩ := stI X10 hx hZ e10 Av0 (j := (0 : Int32)) (inb_of Sv0 ⟨by decide, by decide⟩) (g := (mkF m 68 #[.val (.int p1), .val (.int p2), .val (.int p3), .val (.int p4), .val (.int p5), .val (.int (1 : Int32)), .val (.int (((p5.toUInt32 >>> ((2 : Int32) &&& 31).toUInt32).toInt32) &&& (3 : Int32))), .val (.int pp), .unset, .unset, .unset] [(.int p1), (.int (0 : Int32)), (.ref b10), (.ref b10)])) rfl rfl (hb hby at_68)
    have N11 := Fr.snoc X11 N0 gb
    refine own_go (B := T11.setTop (mkF m 69 #[.val (.int p1), .val (.int p2), .val (.int p3), .val (.int p4), .val (.int p5), .val (.int (1 : Int32)), .val (.int (((p5.toUInt32 >>> ((2 : Int32) &&& 31).toUInt32).toInt32) &&& (3 : Int32))), .val (.int pp), .unset, .unset, .unset] [(.ref b10)])) (fun t kt => st11 t kt) ?_
    have V1 : Arv Z h11 b10 k10 .int (1 : Int32) [(.int p1)] (.int (0 : Int32)) := Arv.set Av0 qv0 Sv0 Mv0 Hv0 Uv0 rfl W11 0 rfl (Nat.le_of_ble_eq_true rfl)
    have Ea1 := Ea0.wr W11
    have Z2 : n0 ≤ h11.size := Nat.le_trans Z1 (Keep.of_wr W11).1
    refine own_go (B := T11.setTop (mkF m 113 #[.val (.int p1), .val (.int p2), .val (.int p3), .val (.int p4), .val (.int p5), .val (.int (1 : Int32)), .val (.int (((p5.toUInt32 >>> ((2 : Int32) &&& 31).toUInt32).toInt32) &&& (3 : Int32))), .val (.int pp), .val (.ref b10), .unset, .unset] [])) (fun t kt => ?_) ?_
    · show Steps p.tables e below (T11.setTop (mkF m 69 #[.val (.int p1), .val (.int p2), .val (.int p3), .val (.int p4), .val (.int p5), .val (.int (1 : Int32)), .val (.int (((p5.toUInt32 >>> ((2 : Int32) &&& 31).toUInt32).toInt32) &&& (3 : Int32))), .val (.int pp), .unset, .unset, .unset] [(.ref b10)])) _
      refine XS.astore X11.here hx rfl (hb hby at_69) rfl rfl (l' := #[.val (.int p1), .val (.int p2), .val (.int p3), .val (.int p4), .val (.int p5), .val (.int (1 : Int32)), .val (.int (((p5.toUInt32 >>> ((2 : Int32) &&& 31).toUInt32).toInt32) &&& (3 : Int32))), .val (.int pp), .val (.ref b10), .unset, .unset]) rfl ?_
      show Steps p.tables e below (T11.setTop (mkF m 71 #[.val (.int p1), .val (.int p2), .val (.int p3), .val (.int p4), .val (.int p5), .val (.int (1 : Int32)), .val (.int (((p5.toUInt32 >>> ((2 : Int32) &&& 31).toUInt32).toInt32) &&& (3 : Int32))), .val (.int pp), .val (.ref b10), .unset, .unset] [])) _
      refine XS.goto X11.here hx rfl (pc0 := 71) (pc' := 113) rfl (hb hby at_71) (by decide) (by decide) ?_
      exact kt
    obtain ⟨T12, h12, X12, e12, E12, A12, D12, -, st12⟩ := newO X11 hx hZ hown (hw _ (List.mem_of_getElem? (i := 1) rfl)) (hw _ (List.mem_of_getElem? (i := 2) rfl)) (hw _ (List.mem_of_getElem? (i := 3) rfl)) e11 (g := (mkF m 113 #[.val (.int p1), .val (.int p2), .val (.int p3), .val (.int p4), .val (.int p5), .val (.int (1 : Int32)), .val (.int (((p5.toUInt32 >>> ((2 : Int32) &&& 31).toUInt32).toInt32) &&& (3 : Int32))), .val (.int pp), .val (.ref b10), .unset, .unset] [])) rfl (hb hby at_113) (by decide) (by decide)
    obtain ⟨b12, g12⟩ : ∃ z, z = h11.size := ⟨_, rfl⟩
    rw [← g12] at A12 D12 st12
    have F12_name : Fld Z h12 b12 "com/example/coppice/coppice/model/Variable" "name" "Ljava/lang/String;" .null := D12 (Or.inr (hw _ (List.mem_of_getElem? (i := 20) rfl))) (ty := (.object "java/lang/String")) (by decide)
    have F12_agent : Fld Z h12 b12 "com/example/coppice/coppice/model/Variable" "agent" "Ljava/lang/String;" .null := D12 (Or.inr (hw _ (List.mem_of_getElem? (i := 22) rfl))) (ty := (.object "java/lang/String")) (by decide)
    have F12_values : Fld Z h12 b12 "com/example/coppice/coppice/model/Variable" "values" "[I" .null := D12 (Or.inr (hw _ (List.mem_of_getElem? (i := 33) rfl))) (ty := (.array .int)) (by decide)
    refine own_go (B := T12.setTop (mkF m 116 #[.val (.int p1), .val (.int p2), .val (.int p3), .val (.int p4), .val (.int p5), .val (.int (1 : Int32)), .val (.int (((p5.toUInt32 >>> ((2 : Int32) &&& 31).toUInt32).toInt32) &&& (3 : Int32))), .val (.int pp), .val (.ref b10), .unset, .unset] [(.ref b12)])) (fun t kt => st12 t kt) ?_
    have go : n0 ≤ b12 := Nat.le_trans Z2 (Nat.le_of_eq g12.symm)
    have Zo : n0 ≤ h12.size := Nat.le_trans Z2 E12.1
    have hne : b10 ≠ b12 := Nat.ne_of_lt (Nat.lt_of_lt_of_le V1.lt (Nat.le_of_eq g12.symm))
    refine own_go (B := T12.setTop (mkF m 117 #[.val (.int p1), .val (.int p2), .val (.int p3), .val (.int p4), .val (.int p5), .val (.int (1 : Int32)), .val (.int (((p5.toUInt32 >>> ((2 : Int32) &&& 31).toUInt32).toInt32) &&& (3 : Int32))), .val (.int pp), .val (.ref b10), .unset, .unset] [(.ref b12), (.ref b12)])) (fun t kt => ?_) ?_
    · show Steps p.tables e below (T12.setTop (mkF m 116 #[.val (.int p1), .val (.int p2), .val (.int p3), .val (.int p4), .val (.int p5), .val (.int (1 : Int32)), .val (.int (((p5.toUInt32 >>> ((2 : Int32) &&& 31).toUInt32).toInt32) &&& (3 : Int32))), .val (.int pp), .val (.ref b10), .unset, .unset] [(.ref b12)])) _
      refine XS.dup X12.here hx rfl (hb hby at_116) rfl rfl ?_
      exact kt
    obtain ⟨a13, T13, h13, j13, X13, e13, E13, hS13, hk13, hZ, hown, st13⟩ := ldcS (s := s) (vm0 := s.vm) X12 hx hZ hown (hw _ (List.mem_of_getElem? (i := 4) rfl)) wS e12 (hS := (State.WarmedH.refl s).since 0) (Nat.zero_le _) (g := (mkF m 117 #[.val (.int p1), .val (.int p2), .val (.int p3), .val (.int p4), .val (.int p5), .val (.int (1 : Int32)), .val (.int (((p5.toUInt32 >>> ((2 : Int32) &&& 31).toUInt32).toInt32) &&& (3 : Int32))), .val (.int pp), .val (.ref b10), .unset, .unset] [(.ref b12), (.ref b12)])) rfl (hb hby at_117) (n := 4) (by decide) (by decide) (by decide) (by decide)
    refine own_go (B := T13.setTop (mkF m 119 #[.val (.int p1), .val (.int p2), .val (.int p3), .val (.int p4), .val (.int p5), .val (.int (1 : Int32)), .val (.int (((p5.toUInt32 >>> ((2 : Int32) &&& 31).toUInt32).toInt32) &&& (3 : Int32))), .val (.int pp), .val (.ref b10), .unset, .unset] [(.ref a13), (.ref b12), (.ref b12)])) (fun t kt => st13 t kt) ?_
    obtain ⟨a14, T14, h14, j14, X14, e14, E14, hS14, hk14, hZ, hown, st14⟩ := ldcS (s := s) X13 hx hZ hown (hw _ (List.mem_of_getElem? (i := 12) rfl)) wS e13 hS13 hk13 (g := (mkF m 119 #[.val (.int p1), .val (.int p2), .val (.int p3), .val (.int p4), .val (.int p5), .val (.int (1 : Int32)), .val (.int (((p5.toUInt32 >>> ((2 : Int32) &&& 31).toUInt32).toInt32) &&& (3 : Int32))), .val (.int pp), .val (.ref b10), .unset, .unset] [(.ref a13), (.ref b12), (.ref b12)])) rfl (hb hby at_119) (n := 4) (by decide) (by decide) (by decide) (by decide)
    refine own_go (B := T14.setTop (mkF m 121 #[.val (.int p1), .val (.int p2), .val (.int p3), .val (.int p4), .val (.int p5), .val (.int (1 : Int32)), .val (.int (((p5.toUInt32 >>> ((2 : Int32) &&& 31).toUInt32).toInt32) &&& (3 : Int32))), .val (.int pp), .val (.ref b10), .unset, .unset] [(.ref a14), (.ref a13), (.ref b12), (.ref b12)])) (fun t kt => st14 t kt) ?_
    have Zp : n0 ≤ h14.size := Nat.le_trans (Nat.le_trans Zo E13.1) E14.1
    refine own_go (B := T14.setTop (mkF m 123 #[.val (.int p1), .val (.int p2), .val (.int p3), .val (.int p4), .val (.int p5), .val (.int (1 : Int32)), .val (.int (((p5.toUInt32 >>> ((2 : Int32) &&& 31).toUInt32).toInt32) &&& (3 : Int32))), .val (.int pp), .val (.ref b10), .unset, .unset] [(.ref b10), (.ref a14), (.ref a13), (.ref b12), (.ref b12)])) (fun t kt => ?_) ?_
    · show Steps p.tables e below (T14.setTop (mkF m 121 #[.val (.int p1), .val (.int p2), .val (.int p3), .val (.int p4), .val (.int p5), .val (.int (1 : Int32)), .val (.int (((p5.toUInt32 >>> ((2 : Int32) &&& 31).toUInt32).toInt32) &&& (3 : Int32))), .val (.int pp), .val (.ref b10), .unset, .unset] [(.ref a14), (.ref a13), (.ref b12), (.ref b12)])) _
      refine XS.aload X14.here hx rfl (hb hby at_121) rfl rfl ?_
      exact kt
    obtain ⟨_, _, ⟨T15, L15, k15, n15⟩, -, X15, ⟨Lc15, hQ15, l15, y15, z15⟩, st15⟩ := X14.specialBack hx (y := (⟨"com/example/coppice/coppice/model/Variable", "<init>", "(Ljava/lang/String;Ljava/lang/String;[I)V"⟩ : MethodName)) rfl hown (mvT hZ (hw _ (List.mem_of_getElem? (i := 13) rfl))) (mvT hZ (hw _ (List.mem_of_getElem? (i := 14) rfl))) (mvT hZ (hw _ (List.mem_of_getElem? (i := 15) rfl))) (by decide) (backOf (W := 1) (rm1 l Z a0 hw [] b12 a13 a14 b10 k10 (1 : Int32) [(.int p1)] (.int (0 : Int32)) h14 n0 Zp ((F12_name.ext E13).ext E14) ((F12_agent.ext E13).ext E14) ((F12_values.ext E13).ext E14) ((A12.ext E13).ext E14) go (((V1.ext E12).ext E13).ext E14) (((Ea1.ext E12).ext E13).ext E14) (by decide) (by decide) hne) hZ (hw _ (List.mem_of_getElem? (i := 15) rfl)) (hw _ (List.mem_of_getElem? (i := 3) rfl)) (by decide) (by decide)) (g := (mkF m 123 #[.val (.int p1), .val (.int p2), .val (.int p3), .val (.int p4), .val (.int p5), .val (.int (1 : Int32)), .val (.int (((p5.toUInt32 >>> ((2 : Int32) &&& 31).toUInt32).toInt32) &&& (3 : Int32))), .val (.int pp), .val (.ref b10), .unset, .unset] [(.ref b10), (.ref a14), (.ref a13), (.ref b12), (.ref b12)])) rfl (by rw [hml]; rfl) (Steps.refl _) (a := b12) (argsL := [(.ref a13), (.ref a14), (.ref b10)]) (rest := [(.ref b12)]) (lenOf pd_0 rfl) rfl (by show 2 * 0 + _ ≤ _; exact Nat.le_of_eq rfl) (hb hby at_123) (fun _ _ => ⟨rfl, e14, (by decide : ((((0 + 1) + 1) + 2) + 2) + 1 ≤ _), (by decide : ((((0 + 1) + 3) + (4 + 4)) + (4 + 4)) + 3 ≤ _)⟩)
    dsimp only [Pt.U, Pt.locs, Pt.cells, Pt.slots] at X15 l15 y15 z15 st15 hQ15
    subst l15 y15 z15
    obtain ⟨rfl, N15q, K15, E15, c15, F15, V15⟩ := hQ15
    have N15 := Fr.app N11 N15q
    refine own_go (B := T15.setTop (mkF m 126 #[.val (.int p1), .val (.int p2), .val (.int p3), .val (.int p4), .val (.int p5), .val (.int (1 : Int32)), .val (.int (((p5.toUInt32 >>> ((2 : Int32) &&& 31).toUInt32).toInt32) &&& (3 : Int32))), .val (.int pp), .val (.ref b10), .unset, .unset] [(.ref b12)])) (fun t kt => st15.trans kt) ?_
    have Zq : n0 ≤ T15.heap.size := Nat.le_trans Zp K15.1
    have hkq : j14 ≤ T15.heap.size := Nat.le_trans hk14 K15.1
    refine own_go (B := T15.setTop (mkF m 128 #[.val (.int p1), .val (.int p2), .val (.int p3), .val (.int p4), .val (.int p5), .val (.int (1 : Int32)), .val (.int (((p5.toUInt32 >>> ((2 : Int32) &&& 31).toUInt32).toInt32) &&& (3 : Int32))), .val (.int pp), .val (.ref b10), .val (.ref b12), .unset] [])) (fun t kt => ?_) ?_
    · show Steps p.tables e below (T15.setTop (mkF m 126 #[.val (.int p1), .val (.int p2), .val (.int p3), .val (.int p4), .val (.int p5), .val (.int (1 : Int32)), .val (.int (((p5.toUInt32 >>> ((2 : Int32) &&& 31).toUInt32).toInt32) &&& (3 : Int32))), .val (.int pp), .val (.ref b10), .unset, .unset] [(.ref b12)])) _
      refine XS.astore X15.here hx rfl (hb hby at_126) rfl rfl (l' := #[.val (.int p1), .val (.int p2), .val (.int p3), .val (.int p4), .val (.int p5), .val (.int (1 : Int32)), .val (.int (((p5.toUInt32 >>> ((2 : Int32) &&& 31).toUInt32).toInt32) &&& (3 : Int32))), .val (.int pp), .val (.ref b10), .val (.ref b12), .unset]) rfl ?_
      exact kt
    refine own_go (B := T15.setTop (mkF m 163 #[.val (.int p1), .val (.int p2), .val (.int p3), .val (.int p4), .val (.int p5), .val (.int (1 : Int32)), .val (.int (((p5.toUInt32 >>> ((2 : Int32) &&& 31).toUInt32).toInt32) &&& (3 : Int32))), .val (.int pp), .val (.ref b10), .val (.ref b12), .unset] [(.int (own_i (decide (pp = p1))))])) (fun t kt => ?_) ?_
    · show Steps p.tables e below (T15.setTop (mkF m 128 #[.val (.int p1), .val (.int p2), .val (.int p3), .val (.int p4), .val (.int p5), .val (.int (1 : Int32)), .val (.int (((p5.toUInt32 >>> ((2 : Int32) &&& 31).toUInt32).toInt32) &&& (3 : Int32))), .val (.int pp), .val (.ref b10), .val (.ref b12), .unset] [])) _
      refine XS.iload X15.here hx rfl (hb hby at_128) rfl ?_
      show Steps p.tables e below (T15.setTop (mkF m 130 #[.val (.int p1), .val (.int p2), .val (.int p3), .val (.int p4), .val (.int p5), .val (.int (1 : Int32)), .val (.int (((p5.toUInt32 >>> ((2 : Int32) &&& 31).toUInt32).toInt32) &&& (3 : Int32))), .val (.int pp), .val (.ref b10), .val (.ref b12), .unset] [(.int pp)])) _
      refine XS.iloadN X15.here hx rfl (hb hby at_130) rfl ?_
      show Steps p.tables e below (T15.setTop (mkF m 131 #[.val (.int p1), .val (.int p2), .val (.int p3), .val (.int p4), .val (.int p5), .val (.int (1 : Int32)), .val (.int (((p5.toUInt32 >>> ((2 : Int32) &&& 31).toUInt32).toInt32) &&& (3 : Int32))), .val (.int pp), .val (.ref b10), .val (.ref b12), .unset] [(.int p1), (.int pp)])) _
      by_cases hc131 : pp = p1
      · refine XS.icmpYes X15.here hx rfl (pc0 := 131) (pc' := 158) rfl (hb hby at_131) rfl (teq hc131).1 (by decide) (by decide) ?_
        show Steps p.tables e below (T15.setTop (mkF m 158 #[.val (.int p1), .val (.int p2), .val (.int p3), .val (.int p4), .val (.int p5), .val (.int (1 : Int32)), .val (.int (((p5.toUInt32 >>> ((2 : Int32) &&& 31).toUInt32).toInt32) &&& (3 : Int32))), .val (.int pp), .val (.ref b10), .val (.ref b12), .unset] [])) _
        refine XS.iconst X15.here hx rfl (hb hby at_158) ?_
        show Steps p.tables e below (T15.setTop (mkF m 159 #[.val (.int p1), .val (.int p2), .val (.int p3), .val (.int p4), .val (.int p5), .val (.int (1 : Int32)), .val (.int (((p5.toUInt32 >>> ((2 : Int32) &&& 31).toUInt32).toInt32) &&& (3 : Int32))), .val (.int pp), .val (.ref b10), .val (.ref b12), .unset] [(.int (1 : Int32))])) _
        refine XS.goto X15.here hx rfl (pc0 := 159) (pc' := 163) rfl (hb hby at_159) (by decide) (by decide) ?_
        exact (castTop (congrArg (fun z__ => ((mkF m 163 #[.val (.int p1), .val (.int p2), .val (.int p3), .val (.int p4), .val (.int p5), .val (.int (1 : Int32)), .val (.int (((p5.toUInt32 >>> ((2 : Int32) &&& 31).toUInt32).toInt32) &&& (3 : Int32))), .val (.int pp), .val (.ref b10), .val (.ref b12), .unset] [(.int z__)]) : JFrame)) (show (own_i (decide (pp = p1))) = (1 : Int32) from by simp [own_i, hc131]).symm) kt)
      · refine XS.icmpNo X15.here hx rfl (hb hby at_131) rfl (feq hc131).1 ?_
        show Steps p.tables e below (T15.setTop (mkF m 134 #[.val (.int p1), .val (.int p2), .val (.int p3), .val (.int p4), .val (.int p5), .val (.int (1 : Int32)), .val (.int (((p5.toUInt32 >>> ((2 : Int32) &&& 31).toUInt32).toInt32) &&& (3 : Int32))), .val (.int pp), .val (.ref b10), .val (.ref b12), .unset] [])) _
        refine XS.iload X15.here hx rfl (hb hby at_134) rfl ?_
        show Steps p.tables e below (T15.setTop (mkF m 136 #[.val (.int p1), .val (.int p2), .val (.int p3), .val (.int p4), .val (.int p5), .val (.int (1 : Int32)), .val (.int (((p5.toUInt32 >>> ((2 : Int32) &&& 31).toUInt32).toInt32) &&& (3 : Int32))), .val (.int pp), .val (.ref b10), .val (.ref b12), .unset] [(.int (1 : Int32))])) _
        refine XS.iconst X15.here hx rfl (hb hby at_136) ?_
        show Steps p.tables e below (T15.setTop (mkF m 137 #[.val (.int p1), .val (.int p2), .val (.int p3), .val (.int p4), .val (.int p5), .val (.int (1 : Int32)), .val (.int (((p5.toUInt32 >>> ((2 : Int32) &&& 31).toUInt32).toInt32) &&& (3 : Int32))), .val (.int pp), .val (.ref b10), .val (.ref b12), .unset] [(.int (2 : Int32)), (.int (1 : Int32))])) _
        refine XS.icmpYes X15.here hx rfl (pc0 := 137) (pc' := 146) rfl (hb hby at_137) rfl (tlt (by decide)).1 (by decide) (by decide) ?_
        show Steps p.tables e below (T15.setTop (mkF m 146 #[.val (.int p1), .val (.int p2), .val (.int p3), .val (.int p4), .val (.int p5), .val (.int (1 : Int32)), .val (.int (((p5.toUInt32 >>> ((2 : Int32) &&& 31).toUInt32).toInt32) &&& (3 : Int32))), .val (.int pp), .val (.ref b10), .val (.ref b12), .unset] [])) _
        refine XS.iload X15.here hx rfl (hb hby at_146) rfl ?_
        show Steps p.tables e below (T15.setTop (mkF m 148 #[.val (.int p1), .val (.int p2), .val (.int p3), .val (.int p4), .val (.int p5), .val (.int (1 : Int32)), .val (.int (((p5.toUInt32 >>> ((2 : Int32) &&& 31).toUInt32).toInt32) &&& (3 : Int32))), .val (.int pp), .val (.ref b10), .val (.ref b12), .unset] [(.int (1 : Int32))])) _
        refine XS.iconst X15.here hx rfl (hb hby at_148) ?_
        show Steps p.tables e below (T15.setTop (mkF m 149 #[.val (.int p1), .val (.int p2), .val (.int p3), .val (.int p4), .val (.int p5), .val (.int (1 : Int32)), .val (.int (((p5.toUInt32 >>> ((2 : Int32) &&& 31).toUInt32).toInt32) &&& (3 : Int32))), .val (.int pp), .val (.ref b10), .val (.ref b12), .unset] [(.int (3 : Int32)), (.int (1 : Int32))])) _
        refine XS.icmpYes X15.here hx rfl (pc0 := 149) (pc' := 162) rfl (hb hby at_149) rfl (tlt (by decide)).1 (by decide) (by decide) ?_
        show Steps p.tables e below (T15.setTop (mkF m 162 #[.val (.int p1), .val (.int p2), .val (.int p3), .val (.int p4), .val (.int p5), .val (.int (1 : Int32)), .val (.int (((p5.toUInt32 >>> ((2 : Int32) &&& 31).toUInt32).toInt32) &&& (3 : Int32))), .val (.int pp), .val (.ref b10), .val (.ref b12), .unset] [])) _
        refine XS.iconst X15.here hx rfl (hb hby at_162) ?_
        exact (castTop (congrArg (fun z__ => ((mkF m 163 #[.val (.int p1), .val (.int p2), .val (.int p3), .val (.int p4), .val (.int p5), .val (.int (1 : Int32)), .val (.int (((p5.toUInt32 >>> ((2 : Int32) &&& 31).toUInt32).toInt32) &&& (3 : Int32))), .val (.int pp), .val (.ref b10), .val (.ref b12), .unset] [(.int z__)]) : JFrame)) (show (own_i (decide (pp = p1))) = (0 : Int32) from by simp [own_i, hc131]).symm) kt)
    refine own_go (B := T15.setTop (mkF m 169 #[.val (.int p1), .val (.int p2), .val (.int p3), .val (.int p4), .val (.int p5), .val (.int (1 : Int32)), .val (.int (((p5.toUInt32 >>> ((2 : Int32) &&& 31).toUInt32).toInt32) &&& (3 : Int32))), .val (.int pp), .val (.ref b10), .val (.ref b12), .val (.int (own_i (decide (pp = p1))))] [(.int pp), (.ref b12)])) (fun t kt => ?_) ?_
    · show Steps p.tables e below (T15.setTop (mkF m 163 #[.val (.int p1), .val (.int p2), .val (.int p3), .val (.int p4), .val (.int p5), .val (.int (1 : Int32)), .val (.int (((p5.toUInt32 >>> ((2 : Int32) &&& 31).toUInt32).toInt32) &&& (3 : Int32))), .val (.int pp), .val (.ref b10), .val (.ref b12), .unset] [(.int (own_i (decide (pp = p1))))])) _
      refine XS.istore X15.here hx rfl (hb hby at_163) rfl (l' := #[.val (.int p1), .val (.int p2), .val (.int p3), .val (.int p4), .val (.int p5), .val (.int (1 : Int32)), .val (.int (((p5.toUInt32 >>> ((2 : Int32) &&& 31).toUInt32).toInt32) &&& (3 : Int32))), .val (.int pp), .val (.ref b10), .val (.ref b12), .val (.int (own_i (decide (pp = p1))))]) rfl ?_
      show Steps p.tables e below (T15.setTop (mkF m 165 #[.val (.int p1), .val (.int p2), .val (.int p3), .val (.int p4), .val (.int p5), .val (.int (1 : Int32)), .val (.int (((p5.toUInt32 >>> ((2 : Int32) &&& 31).toUInt32).toInt32) &&& (3 : Int32))), .val (.int pp), .val (.ref b10), .val (.ref b12), .val (.int (own_i (decide (pp = p1))))] [])) _
      refine XS.aload X15.here hx rfl (hb hby at_165) rfl rfl ?_
      show Steps p.tables e below (T15.setTop (mkF m 167 #[.val (.int p1), .val (.int p2), .val (.int p3), .val (.int p4), .val (.int p5), .val (.int (1 : Int32)), .val (.int (((p5.toUInt32 >>> ((2 : Int32) &&& 31).toUInt32).toInt32) &&& (3 : Int32))), .val (.int pp), .val (.ref b10), .val (.ref b12), .val (.int (own_i (decide (pp = p1))))] [(.ref b12)])) _
      refine XS.iload X15.here hx rfl (hb hby at_167) rfl ?_
      exact kt
    obtain ⟨cq16, kq16, q16a, q16b, q16c⟩ := isOf hZ rfl E15
    obtain ⟨_, _, ⟨T16, L16, k16, n16⟩, -, X16, ⟨Lc16, hQ16, l16, y16, z16⟩, st16⟩ := X15.virtualBack hx (y := (⟨"com/example/coppice/coppice/model/Variable", "contains", "(I)Z"⟩ : MethodName)) (z := (⟨"com/example/coppice/coppice/model/Variable", "contains", "(I)Z"⟩ : MethodName)) hown (mvT hZ (hw _ (List.mem_of_getElem? (i := 34) rfl))) (mvT hZ (hw _ (List.mem_of_getElem? (i := 35) rfl))) (notFace_of_selects (args := #[]) (mvT hZ (hw _ (List.mem_of_getElem? (i := 37) rfl)))) (mvT hZ (hw _ (List.mem_of_getElem? (i := 37) rfl))) (mvT hZ (hw _ (List.mem_of_getElem? (i := 36) rfl))) (by decide) (backOf (W := 0) (rm3_1 l Z a0 hw [] b12 pp c15 k10 p1 T15.heap n0 Zq F15 V15) hZ (hw _ (List.mem_of_getElem? (i := 38) rfl)) (hw _ (List.mem_of_getElem? (i := 3) rfl)) (by decide) (by decide)) q16a q16c (g := (mkF m 169 #[.val (.int p1), .val (.int p2), .val (.int p3), .val (.int p4), .val (.int p5), .val (.int (1 : Int32)), .val (.int (((p5.toUInt32 >>> ((2 : Int32) &&& 31).toUInt32).toInt32) &&& (3 : Int32))), .val (.int pp), .val (.ref b10), .val (.ref b12), .val (.int (own_i (decide (pp = p1))))] [(.int pp), (.ref b12)])) rfl (by rw [hml]; rfl) (Steps.refl _) (argsL := [(.int pp)]) (rest := []) (lenOf pd_1 rfl) rfl (by show 2 * 0 + _ ≤ _; exact Nat.le_of_eq rfl) (hb hby at_169) (fun _ _ => ⟨rfl, rfl, (by decide : (((((0 + 1) + 1) + 2) + 2) + 1) + 0 ≤ _), (by decide : (((((0 + 1) + 3) + (4 + 4)) + (4 + 4)) + 3) + 0 ≤ _)⟩)
    dsimp only [Pt.U, Pt.locs, Pt.cells, Pt.slots] at X16 l16 y16 z16 st16 hQ16
    subst l16 y16 z16
    obtain ⟨rfl, N16q, e16⟩ := hQ16
    have N16 := Fr.app N15 N16q
    refine own_go (B := T16.setTop (mkF m 172 #[.val (.int p1), .val (.int p2), .val (.int p3), .val (.int p4), .val (.int p5), .val (.int (1 : Int32)), .val (.int (((p5.toUInt32 >>> ((2 : Int32) &&& 31).toUInt32).toInt32) &&& (3 : Int32))), .val (.int pp), .val (.ref b10), .val (.ref b12), .val (.int (own_i (decide (pp = p1))))] [(.int (own_i (decide (pp = p1))))])) (fun t kt => st16.trans kt) ?_
    refine own_go (B := T16.setTop (mkF m 182 #[.val (.int p1), .val (.int p2), .val (.int p3), .val (.int p4), .val (.int p5), .val (.int (1 : Int32)), .val (.int (((p5.toUInt32 >>> ((2 : Int32) &&& 31).toUInt32).toInt32) &&& (3 : Int32))), .val (.int pp), .val (.ref b10), .val (.ref b12), .val (.int (own_i (decide (pp = p1))))] [(.int (1 : Int32))])) (fun t kt => ?_) ?_
    · show Steps p.tables e below (T16.setTop (mkF m 172 #[.val (.int p1), .val (.int p2), .val (.int p3), .val (.int p4), .val (.int p5), .val (.int (1 : Int32)), .val (.int (((p5.toUInt32 >>> ((2 : Int32) &&& 31).toUInt32).toInt32) &&& (3 : Int32))), .val (.int pp), .val (.ref b10), .val (.ref b12), .val (.int (own_i (decide (pp = p1))))] [(.int (own_i (decide (pp = p1))))])) _
      refine XS.iload X16.here hx rfl (hb hby at_172) rfl ?_
      show Steps p.tables e below (T16.setTop (mkF m 174 #[.val (.int p1), .val (.int p2), .val (.int p3), .val (.int p4), .val (.int p5), .val (.int (1 : Int32)), .val (.int (((p5.toUInt32 >>> ((2 : Int32) &&& 31).toUInt32).toInt32) &&& (3 : Int32))), .val (.int pp), .val (.ref b10), .val (.ref b12), .val (.int (own_i (decide (pp = p1))))] [(.int (own_i (decide (pp = p1)))), (.int (own_i (decide (pp = p1))))])) _
      refine XS.icmpNo X16.here hx rfl (hb hby at_174) rfl (teq rfl).2 ?_
      show Steps p.tables e below (T16.setTop (mkF m 177 #[.val (.int p1), .val (.int p2), .val (.int p3), .val (.int p4), .val (.int p5), .val (.int (1 : Int32)), .val (.int (((p5.toUInt32 >>> ((2 : Int32) &&& 31).toUInt32).toInt32) &&& (3 : Int32))), .val (.int pp), .val (.ref b10), .val (.ref b12), .val (.int (own_i (decide (pp = p1))))] [])) _
      refine XS.iconst X16.here hx rfl (hb hby at_177) ?_
      show Steps p.tables e below (T16.setTop (mkF m 178 #[.val (.int p1), .val (.int p2), .val (.int p3), .val (.int p4), .val (.int p5), .val (.int (1 : Int32)), .val (.int (((p5.toUInt32 >>> ((2 : Int32) &&& 31).toUInt32).toInt32) &&& (3 : Int32))), .val (.int pp), .val (.ref b10), .val (.ref b12), .val (.int (own_i (decide (pp = p1))))] [(.int (1 : Int32))])) _
      refine XS.goto X16.here hx rfl (pc0 := 178) (pc' := 182) rfl (hb hby at_178) (by decide) (by decide) ?_
      exact kt
    obtain ⟨fs, hr, hrun, hended, hend⟩ := X16.leaveW hS14 (by rw [e16]; exact hkq) (v := some (.int (1 : Int32))) (fun h => by rw [Bd.returns] at h; cases h)
    refine ⟨_, _, ?_, hrun, hended, _, _, rfl, ?_, hend.1, hend.2.1, hend.2.2.1, hend.2.2.2.mono (by decide) (by decide)⟩
    · show Steps p.tables e below (T16.setTop (mkF m 182 #[.val (.int p1), .val (.int p2), .val (.int p3), .val (.int p4), .val (.int p5), .val (.int (1 : Int32)), .val (.int (((p5.toUInt32 >>> ((2 : Int32) &&& 31).toUInt32).toInt32) &&& (3 : Int32))), .val (.int pp), .val (.ref b10), .val (.ref b12), .val (.int (own_i (decide (pp = p1))))] [(.int (1 : Int32))])) _
      exact retN X16 hx (t := .boolean) Bd.returns (by simp) (hb hby at_182) hr
    · show Q0 Z p1 p2 p3 p4 p5 h0 n0 _ T16.heap _
      rw [e16]
      exact ⟨rfl, N16⟩
  · rw [hk]
    refine own_go (B := s₁.setTop (mkF m 81 #[.val (.int p1), .val (.int p2), .val (.int p3), .val (.int p4), .val (.int p5), .val (.int (2 : Int32)), .val (.int (((p5.toUInt32 >>> ((2 : Int32) &&& 31).toUInt32).toInt32) &&& (3 : Int32))), .val (.int pp), .unset, .unset, .unset] [(.int (2 : Int32))])) (fun t kt => ?_) ?_
    · show Steps p.tables e below (s₁.setTop (mkF m 56 #[.val (.int p1), .val (.int p2), .val (.int p3), .val (.int p4), .val (.int p5), .val (.int (2 : Int32)), .val (.int (((p5.toUInt32 >>> ((2 : Int32) &&& 31).toUInt32).toInt32) &&& (3 : Int32))), .val (.int pp), .unset, .unset, .unset] [])) _
      refine XS.iload X0.here hx rfl (hb hby at_56) rfl ?_
      show Steps p.tables e below (s₁.setTop (mkF m 58 #[.val (.int p1), .val (.int p2), .val (.int p3), .val (.int p4), .val (.int p5), .val (.int (2 : Int32)), .val (.int (((p5.toUInt32 >>> ((2 : Int32) &&& 31).toUInt32).toInt32) &&& (3 : Int32))), .val (.int pp), .unset, .unset, .unset] [(.int (2 : Int32))])) _
      refine XS.iconst X0.here hx rfl (hb hby at_58) ?_
      show Steps p.tables e below (s₁.setTop (mkF m 59 #[.val (.int p1), .val (.int p2), .val (.int p3), .val (.int p4), .val (.int p5), .val (.int (2 : Int32)), .val (.int (((p5.toUInt32 >>> ((2 : Int32) &&& 31).toUInt32).toInt32) &&& (3 : Int32))), .val (.int pp), .unset, .unset, .unset] [(.int (1 : Int32)), (.int (2 : Int32))])) _
      refine XS.icmpYes X0.here hx rfl (pc0 := 59) (pc' := 74) rfl (hb hby at_59) rfl (feq (by decide)).2 (by decide) (by decide) ?_
      show Steps p.tables e below (s₁.setTop (mkF m 74 #[.val (.int p1), .val (.int p2), .val (.int p3), .val (.int p4), .val (.int p5), .val (.int (2 : Int32)), .val (.int (((p5.toUInt32 >>> ((2 : Int32) &&& 31).toUInt32).toInt32) &&& (3 : Int32))), .val (.int pp), .unset, .unset, .unset] [])) _
      refine XS.iload X0.here hx rfl (hb hby at_74) rfl ?_
      show Steps p.tables e below (s₁.setTop (mkF m 76 #[.val (.int p1), .val (.int p2), .val (.int p3), .val (.int p4), .val (.int p5), .val (.int (2 : Int32)), .val (.int (((p5.toUInt32 >>> ((2 : Int32) &&& 31).toUInt32).toInt32) &&& (3 : Int32))), .val (.int pp), .unset, .unset, .unset] [(.int (2 : Int32))])) _
      refine XS.iconst X0.here hx rfl (hb hby at_76) ?_
      show Steps p.tables e below (s₁.setTop (mkF m 77 #[.val (.int p1), .val (.int p2), .val (.int p3), .val (.int p4), .val (.int p5), .val (.int (2 : Int32)), .val (.int (((p5.toUInt32 >>> ((2 : Int32) &&& 31).toUInt32).toInt32) &&& (3 : Int32))), .val (.int pp), .unset, .unset, .unset] [(.int (2 : Int32)), (.int (2 : Int32))])) _
      refine XS.icmpNo X0.here hx rfl (hb hby at_77) rfl (teq (by decide)).2 ?_
      show Steps p.tables e below (s₁.setTop (mkF m 80 #[.val (.int p1), .val (.int p2), .val (.int p3), .val (.int p4), .val (.int p5), .val (.int (2 : Int32)), .val (.int (((p5.toUInt32 >>> ((2 : Int32) &&& 31).toUInt32).toInt32) &&& (3 : Int32))), .val (.int pp), .unset, .unset, .unset] [])) _
      refine XS.iconst X0.here hx rfl (hb hby at_80) ?_
      exact kt
    obtain ⟨T17, h17, k17, X17, e17, E17, A17, B17, st17⟩ := newPE X0 hx hZ (hw _ (List.mem_of_getElem? (i := 0) rfl)) e0 (g := (mkF m 81 #[.val (.int p1), .val (.int p2), .val (.int p3), .val (.int p4), .val (.int p5), .val (.int (2 : Int32)), .val (.int (((p5.toUInt32 >>> ((2 : Int32) &&& 31).toUInt32).toInt32) &&& (3 : Int32))), .val (.int pp), .unset, .unset, .unset] [(.int (2 : Int32))])) rfl (hb hby at_81) rfl (by decide) (cap := 2) (by decide) (by decide) (by decide) (by decide) (ad := "[I") (by decide)
    obtain ⟨b17, g17⟩ : ∃ z, z = h0.size := ⟨_, rfl⟩
    rw [← g17] at A17 B17 st17
    refine own_go (B := T17.setTop (mkF m 83 #[.val (.int p1), .val (.int p2), .val (.int p3), .val (.int p4), .val (.int p5), .val (.int (2 : Int32)), .val (.int (((p5.toUInt32 >>> ((2 : Int32) &&& 31).toUInt32).toInt32) &&& (3 : Int32))), .val (.int pp), .unset, .unset, .unset] [(.ref b17)])) (fun t kt => st17 t kt) ?_
    have gb : n0 ≤ b17 := Nat.le_trans Z0 (Nat.le_of_eq g17.symm)
    have Z1 : n0 ≤ h17.size := Nat.le_trans Z0 E17.1
    have V0 : Arv Z h17 b17 k17 .int (2 : Int32) [(.int (0 : Int32)), (.int (0 : Int32))] (.int (0 : Int32)) := (Arv.new A17 (by decide)).pad (pad_rep [] (.int (0 : Int32)) 2)
    have Ea0 := B17
    refine own_go (B := T17.setTop (mkF m 86 #[.val (.int p1), .val (.int p2), .val (.int p3), .val (.int p4), .val (.int p5), .val (.int (2 : Int32)), .val (.int (((p5.toUInt32 >>> ((2 : Int32) &&& 31).toUInt32).toInt32) &&& (3 : Int32))), .val (.int pp), .unset, .unset, .unset] [(.int p1), (.int (0 : Int32)), (.ref b17), (.ref b17)])) (fun t kt => ?_) ?_
    · show Steps p.tables e below (T17.setTop (mkF m 83 #[.val (.int p1), .val (.int p2), .val (.int p3), .val (.int p4), .val (.int p5), .val (.int (2 : Int32)), .val (.int (((p5.toUInt32 >>> ((2 : Int32) &&& 31).toUInt32).toInt32) &&& (3 : Int32))), .val (.int pp), .unset, .unset, .unset] [(.ref b17)])) _
      refine XS.dup X17.here hx rfl (hb hby at_83) rfl rfl ?_
      show Steps p.tables e below (T17.setTop (mkF m 84 #[.val (.int p1), .val (.int p2), .val (.int p3), .val (.int p4), .val (.int p5), .val (.int (2 : Int32)), .val (.int (((p5.toUInt32 >>> ((2 : Int32) &&& 31).toUInt32).toInt32) &&& (3 : Int32))), .val (.int pp), .unset, .unset, .unset] [(.ref b17), (.ref b17)])) _
      refine XS.iconst X17.here hx rfl (hb hby at_84) ?_
      show Steps p.tables e below (T17.setTop (mkF m 85 #[.val (.int p1), .val (.int p2), .val (.int p3), .val (.int p4), .val (.int p5), .val (.int (2 : Int32)), .val (.int (((p5.toUInt32 >>> ((2 : Int32) &&& 31).toUInt32).toInt32) &&& (3 : Int32))), .val (.int pp), .unset, .unset, .unset] [(.int (0 : Int32)), (.ref b17), (.ref b17)])) _
      refine XS.iloadN X17.here hx rfl (hb hby at_85) rfl ?_
      exact kt
    obtain ⟨cv0, Av0, qv0, Sv0, Mv0, Hv0, Uv0⟩ := V0
    obtain ⟨T18, h18, X18, e18, W18, st18⟩ := stI X17 hx hZ e17 Av0 (j := (0 : Int32)) (inb_of Sv0 ⟨by decide, by decide⟩) (g := (mkF m 86 #[.val (.int p1), .val (.int p2), .val (.int p3), .val (.int p4), .val (.int p5), .val (.int (2 : Int32)), .val (.int (((p5.toUInt32 >>> ((2 : Int32) &&& 31).toUInt32).toInt32) &&& (3 : Int32))), .val (.int pp), .unset, .unset, .unset] [(.int p1), (.int (0 : Int32)), (.ref b17), (.ref b17)])) rfl rfl (hb hby at_86)
    have N18 := Fr.snoc X18 N0 gb
    refine own_go (B := T18.setTop (mkF m 87 #[.val (.int p1), .val (.int p2), .val (.int p3), .val (.int p4), .val (.int p5), .val (.int (2 : Int32)), .val (.int (((p5.toUInt32 >>> ((2 : Int32) &&& 31).toUInt32).toInt32) &&& (3 : Int32))), .val (.int pp), .unset, .unset, .unset] [(.ref b17)])) (fun t kt => st18 t kt) ?_
    have V1 : Arv Z h18 b17 k17 .int (2 : Int32) [(.int p1), (.int (0 : Int32))] (.int (0 : Int32)) := Arv.set Av0 qv0 Sv0 Mv0 Hv0 Uv0 rfl W18 0 rfl (Nat.le_of_ble_eq_true rfl)
    have Ea1 := Ea0.wr W18
    have Z2 : n0 ≤ h18.size := Nat.le_trans Z1 (Keep.of_wr W18).1
    refine own_go (B := T18.setTop (mkF m 90 #[.val (.int p1), .val (.int p2), .val (.int p3), .val (.int p4), .val (.int p5), .val (.int (2 : Int32)), .val (.int (((p5.toUInt32 >>> ((2 : Int32) &&& 31).toUInt32).toInt32) &&& (3 : Int32))), .val (.int pp), .unset, .unset, .unset] [(.int p2), (.int (1 : Int32)), (.ref b17), (.ref b17)])) (fun t kt => ?_) ?_
    · show Steps p.tables e below (T18.setTop (mkF m 87 #[.val (.int p1), .val (.int p2), .val (.int p3), .val (.int p4), .val (.int p5), .val (.int (2 : Int32)), .val (.int (((p5.toUInt32 >>> ((2 : Int32) &&& 31).toUInt32).toInt32) &&& (3 : Int32))), .val (.int pp), .unset, .unset, .unset] [(.ref b17)])) _
      refine XS.dup X18.here hx rfl (hb hby at_87) rfl rfl ?_
      show Steps p.tables e below (T18.setTop (mkF m 88 #[.val (.int p1), .val (.int p2), .val (.int p3), .val (.int p4), .val (.int p5), .val (.int (2 : Int32)), .val (.int (((p5.toUInt32 >>> ((2 : Int32) &&& 31).toUInt32).toInt32) &&& (3 : Int32))), .val (.int pp), .unset, .unset, .unset] [(.ref b17), (.ref b17)])) _
      refine XS.iconst X18.here hx rfl (hb hby at_88) ?_
      show Steps p.tables e below (T18.setTop (mkF m 89 #[.val (.int p1), .val (.int p2), .val (.int p3), .val (.int p4), .val (.int p5), .val (.int (2 : Int32)), .val (.int (((p5.toUInt32 >>> ((2 : Int32) &&& 31).toUInt32).toInt32) &&& (3 : Int32))), .val (.int pp), .unset, .unset, .unset] [(.int (1 : Int32)), (.ref b17), (.ref b17)])) _
      refine XS.iloadN X18.here hx rfl (hb hby at_89) rfl ?_
      exact kt
    obtain ⟨cv1, Av1, qv1, Sv1, Mv1, Hv1, Uv1⟩ := V1
    obtain ⟨T19, h19, X19, e19, W19, st19⟩ := stI X18 hx hZ e18 Av1 (j := (1 : Int32)) (inb_of Sv1 ⟨by decide, by decide⟩) (g := (mkF m 90 #[.val (.int p1), .val (.int p2), .val (.int p3), .val (.int p4), .val (.int p5), .val (.int (2 : Int32)), .val (.int (((p5.toUInt32 >>> ((2 : Int32) &&& 31).toUInt32).toInt32) &&& (3 : Int32))), .val (.int pp), .unset, .unset, .unset] [(.int p2), (.int (1 : Int32)), (.ref b17), (.ref b17)])) rfl rfl (hb hby at_90)
    have N19 := Fr.snoc X19 N18 gb
    refine own_go (B := T19.setTop (mkF m 91 #[.val (.int p1), .val (.int p2), .val (.int p3), .val (.int p4), .val (.int p5), .val (.int (2 : Int32)), .val (.int (((p5.toUInt32 >>> ((2 : Int32) &&& 31).toUInt32).toInt32) &&& (3 : Int32))), .val (.int pp), .unset, .unset, .unset] [(.ref b17)])) (fun t kt => st19 t kt) ?_
    have V2 : Arv Z h19 b17 k17 .int (2 : Int32) [(.int p1), (.int p2)] (.int (0 : Int32)) := Arv.set Av1 qv1 Sv1 Mv1 Hv1 Uv1 rfl W19 1 rfl (Nat.le_of_ble_eq_true rfl)
    have Ea2 := Ea1.wr W19
    have Z3 : n0 ≤ h19.size := Nat.le_trans Z2 (Keep.of_wr W19).1
    refine own_go (B := T19.setTop (mkF m 113 #[.val (.int p1), .val (.int p2), .val (.int p3), .val (.int p4), .val (.int p5), .val (.int (2 : Int32)), .val (.int (((p5.toUInt32 >>> ((2 : Int32) &&& 31).toUInt32).toInt32) &&& (3 : Int32))), .val (.int pp), .val (.ref b17), .unset, .unset] [])) (fun t kt => ?_) ?_
    · show Steps p.tables e below (T19.setTop (mkF m 91 #[.val (.int p1), .val (.int p2), .val (.int p3), .val (.int p4), .val (.int p5), .val (.int (2 : Int32)), .val (.int (((p5.toUInt32 >>> ((2 : Int32) &&& 31).toUInt32).toInt32) &&& (3 : Int32))), .val (.int pp), .unset, .unset, .unset] [(.ref b17)])) _
      refine XS.astore X19.here hx rfl (hb hby at_91) rfl rfl (l' := #[.val (.int p1), .val (.int p2), .val (.int p3), .val (.int p4), .val (.int p5), .val (.int (2 : Int32)), .val (.int (((p5.toUInt32 >>> ((2 : Int32) &&& 31).toUInt32).toInt32) &&& (3 : Int32))), .val (.int pp), .val (.ref b17), .unset, .unset]) rfl ?_
      show Steps p.tables e below (T19.setTop (mkF m 93 #[.val (.int p1), .val (.int p2), .val (.int p3), .val (.int p4), .val (.int p5), .val (.int (2 : Int32)), .val (.int (((p5.toUInt32 >>> ((2 : Int32) &&& 31).toUInt32).toInt32) &&& (3 : Int32))), .val (.int pp), .val (.ref b17), .unset, .unset] [])) _
      refine XS.goto X19.here hx rfl (pc0 := 93) (pc' := 113) rfl (hb hby at_93) (by decide) (by decide) ?_
      exact kt
    obtain ⟨T20, h20, X20, e20, E20, A20, D20, -, st20⟩ := newO X19 hx hZ hown (hw _ (List.mem_of_getElem? (i := 1) rfl)) (hw _ (List.mem_of_getElem? (i := 2) rfl)) (hw _ (List.mem_of_getElem? (i := 3) rfl)) e19 (g := (mkF m 113 #[.val (.int p1), .val (.int p2), .val (.int p3), .val (.int p4), .val (.int p5), .val (.int (2 : Int32)), .val (.int (((p5.toUInt32 >>> ((2 : Int32) &&& 31).toUInt32).toInt32) &&& (3 : Int32))), .val (.int pp), .val (.ref b17), .unset, .unset] [])) rfl (hb hby at_113) (by decide) (by decide)
    obtain ⟨b20, g20⟩ : ∃ z, z = h19.size := ⟨_, rfl⟩
    rw [← g20] at A20 D20 st20
    have F20_name : Fld Z h20 b20 "com/example/coppice/coppice/model/Variable" "name" "Ljava/lang/String;" .null := D20 (Or.inr (hw _ (List.mem_of_getElem? (i := 20) rfl))) (ty := (.object "java/lang/String")) (by decide)
    have F20_agent : Fld Z h20 b20 "com/example/coppice/coppice/model/Variable" "agent" "Ljava/lang/String;" .null := D20 (Or.inr (hw _ (List.mem_of_getElem? (i := 22) rfl))) (ty := (.object "java/lang/String")) (by decide)
    have F20_values : Fld Z h20 b20 "com/example/coppice/coppice/model/Variable" "values" "[I" .null := D20 (Or.inr (hw _ (List.mem_of_getElem? (i := 33) rfl))) (ty := (.array .int)) (by decide)
    refine own_go (B := T20.setTop (mkF m 116 #[.val (.int p1), .val (.int p2), .val (.int p3), .val (.int p4), .val (.int p5), .val (.int (2 : Int32)), .val (.int (((p5.toUInt32 >>> ((2 : Int32) &&& 31).toUInt32).toInt32) &&& (3 : Int32))), .val (.int pp), .val (.ref b17), .unset, .unset] [(.ref b20)])) (fun t kt => st20 t kt) ?_
    have go : n0 ≤ b20 := Nat.le_trans Z3 (Nat.le_of_eq g20.symm)
    have Zo : n0 ≤ h20.size := Nat.le_trans Z3 E20.1
    have hne : b17 ≠ b20 := Nat.ne_of_lt (Nat.lt_of_lt_of_le V2.lt (Nat.le_of_eq g20.symm))
    refine own_go (B := T20.setTop (mkF m 117 #[.val (.int p1), .val (.int p2), .val (.int p3), .val (.int p4), .val (.int p5), .val (.int (2 : Int32)), .val (.int (((p5.toUInt32 >>> ((2 : Int32) &&& 31).toUInt32).toInt32) &&& (3 : Int32))), .val (.int pp), .val (.ref b17), .unset, .unset] [(.ref b20), (.ref b20)])) (fun t kt => ?_) ?_
    · show Steps p.tables e below (T20.setTop (mkF m 116 #[.val (.int p1), .val (.int p2), .val (.int p3), .val (.int p4), .val (.int p5), .val (.int (2 : Int32)), .val (.int (((p5.toUInt32 >>> ((2 : Int32) &&& 31).toUInt32).toInt32) &&& (3 : Int32))), .val (.int pp), .val (.ref b17), .unset, .unset] [(.ref b20)])) _
      refine XS.dup X20.here hx rfl (hb hby at_116) rfl rfl ?_
      exact kt
    obtain ⟨a21, T21, h21, j21, X21, e21, E21, hS21, hk21, hZ, hown, st21⟩ := ldcS (s := s) (vm0 := s.vm) X20 hx hZ hown (hw _ (List.mem_of_getElem? (i := 4) rfl)) wS e20 (hS := (State.WarmedH.refl s).since 0) (Nat.zero_le _) (g := (mkF m 117 #[.val (.int p1), .val (.int p2), .val (.int p3), .val (.int p4), .val (.int p5), .val (.int (2 : Int32)), .val (.int (((p5.toUInt32 >>> ((2 : Int32) &&& 31).toUInt32).toInt32) &&& (3 : Int32))), .val (.int pp), .val (.ref b17), .unset, .unset] [(.ref b20), (.ref b20)])) rfl (hb hby at_117) (n := 4) (by decide) (by decide) (by decide) (by decide)
    refine own_go (B := T21.setTop (mkF m 119 #[.val (.int p1), .val (.int p2), .val (.int p3), .val (.int p4), .val (.int p5), .val (.int (2 : Int32)), .val (.int (((p5.toUInt32 >>> ((2 : Int32) &&& 31).toUInt32).toInt32) &&& (3 : Int32))), .val (.int pp), .val (.ref b17), .unset, .unset] [(.ref a21), (.ref b20), (.ref b20)])) (fun t kt => st21 t kt) ?_
    obtain ⟨a22, T22, h22, j22, X22, e22, E22, hS22, hk22, hZ, hown, st22⟩ := ldcS (s := s) X21 hx hZ hown (hw _ (List.mem_of_getElem? (i := 12) rfl)) wS e21 hS21 hk21 (g := (mkF m 119 #[.val (.int p1), .val (.int p2), .val (.int p3), .val (.int p4), .val (.int p5), .val (.int (2 : Int32)), .val (.int (((p5.toUInt32 >>> ((2 : Int32) &&& 31).toUInt32).toInt32) &&& (3 : Int32))), .val (.int pp), .val (.ref b17), .unset, .unset] [(.ref a21), (.ref b20), (.ref b20)])) rfl (hb hby at_119) (n := 4) (by decide) (by decide) (by decide) (by decide)
    refine own_go (B := T22.setTop (mkF m 121 #[.val (.int p1), .val (.int p2), .val (.int p3), .val (.int p4), .val (.int p5), .val (.int (2 : Int32)), .val (.int (((p5.toUInt32 >>> ((2 : Int32) &&& 31).toUInt32).toInt32) &&& (3 : Int32))), .val (.int pp), .val (.ref b17), .unset, .unset] [(.ref a22), (.ref a21), (.ref b20), (.ref b20)])) (fun t kt => st22 t kt) ?_
    have Zp : n0 ≤ h22.size := Nat.le_trans (Nat.le_trans Zo E21.1) E22.1
    refine own_go (B := T22.setTop (mkF m 123 #[.val (.int p1), .val (.int p2), .val (.int p3), .val (.int p4), .val (.int p5), .val (.int (2 : Int32)), .val (.int (((p5.toUInt32 >>> ((2 : Int32) &&& 31).toUInt32).toInt32) &&& (3 : Int32))), .val (.int pp), .val (.ref b17), .unset, .unset] [(.ref b17), (.ref a22), (.ref a21), (.ref b20), (.ref b20)])) (fun t kt => ?_) ?_
    · show Steps p.tables e below (T22.setTop (mkF m 121 #[.val (.int p1), .val (.int p2), .val (.int p3), .val (.int p4), .val (.int p5), .val (.int (2 : Int32)), .val (.int (((p5.toUInt32 >>> ((2 : Int32) &&& 31).toUInt32).toInt32) &&& (3 : Int32))), .val (.int pp), .val (.ref b17), .unset, .unset] [(.ref a22), (.ref a21), (.ref b20), (.ref b20)])) _
      refine XS.aload X22.here hx rfl (hb hby at_121) rfl rfl ?_
      exact kt
    obtain ⟨_, _, ⟨T23, L23, k23, n23⟩, -, X23, ⟨Lc23, hQ23, l23, y23, z23⟩, st23⟩ := X22.specialBack hx (y := (⟨"com/example/coppice/coppice/model/Variable", "<init>", "(Ljava/lang/String;Ljava/lang/String;[I)V"⟩ : MethodName)) rfl hown (mvT hZ (hw _ (List.mem_of_getElem? (i := 13) rfl))) (mvT hZ (hw _ (List.mem_of_getElem? (i := 14) rfl))) (mvT hZ (hw _ (List.mem_of_getElem? (i := 15) rfl))) (by decide) (backOf (W := 1) (rm1 l Z a0 hw [] b20 a21 a22 b17 k17 (2 : Int32) [(.int p1), (.int p2)] (.int (0 : Int32)) h22 n0 Zp ((F20_name.ext E21).ext E22) ((F20_agent.ext E21).ext E22) ((F20_values.ext E21).ext E22) ((A20.ext E21).ext E22) go (((V2.ext E20).ext E21).ext E22) (((Ea2.ext E20).ext E21).ext E22) (by decide) (by decide) hne) hZ (hw _ (List.mem_of_getElem? (i := 15) rfl)) (hw _ (List.mem_of_getElem? (i := 3) rfl)) (by decide) (by decide)) (g := (mkF m 123 #[.val (.int p1), .val (.int p2), .val (.int p3), .val (.int p4), .val (.int p5), .val (.int (2 : Int32)), .val (.int (((p5.toUInt32 >>> ((2 : Int32) &&& 31).toUInt32).toInt32) &&& (3 : Int32))), .val (.int pp), .val (.ref b17), .unset, .unset] [(.ref b17), (.ref a22), (.ref a21), (.ref b20), (.ref b20)])) rfl (by rw [hml]; rfl) (Steps.refl _) (a := b20) (argsL := [(.ref a21), (.ref a22), (.ref b17)]) (rest := [(.ref b20)]) (lenOf pd_0 rfl) rfl (by show 2 * 0 + _ ≤ _; exact Nat.le_of_eq rfl) (hb hby at_123) (fun _ _ => ⟨rfl, e22, (by decide : ((((0 + 1) + 1) + 2) + 2) + 1 ≤ _), (by decide : ((((0 + 2) + 3) + (4 + 4)) + (4 + 4)) + 3 ≤ _)⟩)
    dsimp only [Pt.U, Pt.locs, Pt.cells, Pt.slots] at X23 l23 y23 z23 st23 hQ23
    subst l23 y23 z23
    obtain ⟨rfl, N23q, K23, E23, c23, F23, V23⟩ := hQ23
    have N23 := Fr.app N19 N23q
    refine own_go (B := T23.setTop (mkF m 126 #[.val (.int p1), .val (.int p2), .val (.int p3), .val (.int p4), .val (.int p5), .val (.int (2 : Int32)), .val (.int (((p5.toUInt32 >>> ((2 : Int32) &&& 31).toUInt32).toInt32) &&& (3 : Int32))), .val (.int pp), .val (.ref b17), .unset, .unset] [(.ref b20)])) (fun t kt => st23.trans kt) ?_
    have Zq : n0 ≤ T23.heap.size := Nat.le_trans Zp K23.1
    have hkq : j22 ≤ T23.heap.size := Nat.le_trans hk22 K23.1
    refine own_go (B := T23.setTop (mkF m 128 #[.val (.int p1), .val (.int p2), .val (.int p3), .val (.int p4), .val (.int p5), .val (.int (2 : Int32)), .val (.int (((p5.toUInt32 >>> ((2 : Int32) &&& 31).toUInt32).toInt32) &&& (3 : Int32))), .val (.int pp), .val (.ref b17), .val (.ref b20), .unset] [])) (fun t kt => ?_) ?_
    · show Steps p.tables e below (T23.setTop (mkF m 126 #[.val (.int p1), .val (.int p2), .val (.int p3), .val (.int p4), .val (.int p5), .val (.int (2 : Int32)), .val (.int (((p5.toUInt32 >>> ((2 : Int32) &&& 31).toUInt32).toInt32) &&& (3 : Int32))), .val (.int pp), .val (.ref b17), .unset, .unset] [(.ref b20)])) _
      refine XS.astore X23.here hx rfl (hb hby at_126) rfl rfl (l' := #[.val (.int p1), .val (.int p2), .val (.int p3), .val (.int p4), .val (.int p5), .val (.int (2 : Int32)), .val (.int (((p5.toUInt32 >>> ((2 : Int32) &&& 31).toUInt32).toInt32) &&& (3 : Int32))), .val (.int pp), .val (.ref b17), .val (.ref b20), .unset]) rfl ?_
      exact kt
    refine own_go (B := T23.setTop (mkF m 163 #[.val (.int p1), .val (.int p2), .val (.int p3), .val (.int p4), .val (.int p5), .val (.int (2 : Int32)), .val (.int (((p5.toUInt32 >>> ((2 : Int32) &&& 31).toUInt32).toInt32) &&& (3 : Int32))), .val (.int pp), .val (.ref b17), .val (.ref b20), .unset] [(.int (own_i (decide (pp = p1) || decide (pp = p2))))])) (fun t kt => ?_) ?_
    · show Steps p.tables e below (T23.setTop (mkF m 128 #[.val (.int p1), .val (.int p2), .val (.int p3), .val (.int p4), .val (.int p5), .val (.int (2 : Int32)), .val (.int (((p5.toUInt32 >>> ((2 : Int32) &&& 31).toUInt32).toInt32) &&& (3 : Int32))), .val (.int pp), .val (.ref b17), .val (.ref b20), .unset] [])) _
      refine XS.iload X23.here hx rfl (hb hby at_128) rfl ?_
      show Steps p.tables e below (T23.setTop (mkF m 130 #[.val (.int p1), .val (.int p2), .val (.int p3), .val (.int p4), .val (.int p5), .val (.int (2 : Int32)), .val (.int (((p5.toUInt32 >>> ((2 : Int32) &&& 31).toUInt32).toInt32) &&& (3 : Int32))), .val (.int pp), .val (.ref b17), .val (.ref b20), .unset] [(.int pp)])) _
      refine XS.iloadN X23.here hx rfl (hb hby at_130) rfl ?_
      show Steps p.tables e below (T23.setTop (mkF m 131 #[.val (.int p1), .val (.int p2), .val (.int p3), .val (.int p4), .val (.int p5), .val (.int (2 : Int32)), .val (.int (((p5.toUInt32 >>> ((2 : Int32) &&& 31).toUInt32).toInt32) &&& (3 : Int32))), .val (.int pp), .val (.ref b17), .val (.ref b20), .unset] [(.int p1), (.int pp)])) _
      by_cases hc131 : pp = p1
      · refine XS.icmpYes X23.here hx rfl (pc0 := 131) (pc' := 158) rfl (hb hby at_131) rfl (teq hc131).1 (by decide) (by decide) ?_
        show Steps p.tables e below (T23.setTop (mkF m 158 #[.val (.int p1), .val (.int p2), .val (.int p3), .val (.int p4), .val (.int p5), .val (.int (2 : Int32)), .val (.int (((p5.toUInt32 >>> ((2 : Int32) &&& 31).toUInt32).toInt32) &&& (3 : Int32))), .val (.int pp), .val (.ref b17), .val (.ref b20), .unset] [])) _
        refine XS.iconst X23.here hx rfl (hb hby at_158) ?_
        show Steps p.tables e below (T23.setTop (mkF m 159 #[.val (.int p1), .val (.int p2), .val (.int p3), .val (.int p4), .val (.int p5), .val (.int (2 : Int32)), .val (.int (((p5.toUInt32 >>> ((2 : Int32) &&& 31).toUInt32).toInt32) &&& (3 : Int32))), .val (.int pp), .val (.ref b17), .val (.ref b20), .unset] [(.int (1 : Int32))])) _
        refine XS.goto X23.here hx rfl (pc0 := 159) (pc' := 163) rfl (hb hby at_159) (by decide) (by decide) ?_
        exact (castTop (congrArg (fun z__ => ((mkF m 163 #[.val (.int p1), .val (.int p2), .val (.int p3), .val (.int p4), .val (.int p5), .val (.int (2 : Int32)), .val (.int (((p5.toUInt32 >>> ((2 : Int32) &&& 31).toUInt32).toInt32) &&& (3 : Int32))), .val (.int pp), .val (.ref b17), .val (.ref b20), .unset] [(.int z__)]) : JFrame)) (show (own_i (decide (pp = p1) || decide (pp = p2))) = (1 : Int32) from by simp [own_i, hc131]).symm) kt)
      · refine XS.icmpNo X23.here hx rfl (hb hby at_131) rfl (feq hc131).1 ?_
        show Steps p.tables e below (T23.setTop (mkF m 134 #[.val (.int p1), .val (.int p2), .val (.int p3), .val (.int p4), .val (.int p5), .val (.int (2 : Int32)), .val (.int (((p5.toUInt32 >>> ((2 : Int32) &&& 31).toUInt32).toInt32) &&& (3 : Int32))), .val (.int pp), .val (.ref b17), .val (.ref b20), .unset] [])) _
        refine XS.iload X23.here hx rfl (hb hby at_134) rfl ?_
        show Steps p.tables e below (T23.setTop (mkF m 136 #[.val (.int p1), .val (.int p2), .val (.int p3), .val (.int p4), .val (.int p5), .val (.int (2 : Int32)), .val (.int (((p5.toUInt32 >>> ((2 : Int32) &&& 31).toUInt32).toInt32) &&& (3 : Int32))), .val (.int pp), .val (.ref b17), .val (.ref b20), .unset] [(.int (2 : Int32))])) _
        refine XS.iconst X23.here hx rfl (hb hby at_136) ?_
        show Steps p.tables e below (T23.setTop (mkF m 137 #[.val (.int p1), .val (.int p2), .val (.int p3), .val (.int p4), .val (.int p5), .val (.int (2 : Int32)), .val (.int (((p5.toUInt32 >>> ((2 : Int32) &&& 31).toUInt32).toInt32) &&& (3 : Int32))), .val (.int pp), .val (.ref b17), .val (.ref b20), .unset] [(.int (2 : Int32)), (.int (2 : Int32))])) _
        refine XS.icmpNo X23.here hx rfl (hb hby at_137) rfl (flt (by decide)).1 ?_
        show Steps p.tables e below (T23.setTop (mkF m 140 #[.val (.int p1), .val (.int p2), .val (.int p3), .val (.int p4), .val (.int p5), .val (.int (2 : Int32)), .val (.int (((p5.toUInt32 >>> ((2 : Int32) &&& 31).toUInt32).toInt32) &&& (3 : Int32))), .val (.int pp), .val (.ref b17), .val (.ref b20), .unset] [])) _
        refine XS.iload X23.here hx rfl (hb hby at_140) rfl ?_
        show Steps p.tables e below (T23.setTop (mkF m 142 #[.val (.int p1), .val (.int p2), .val (.int p3), .val (.int p4), .val (.int p5), .val (.int (2 : Int32)), .val (.int (((p5.toUInt32 >>> ((2 : Int32) &&& 31).toUInt32).toInt32) &&& (3 : Int32))), .val (.int pp), .val (.ref b17), .val (.ref b20), .unset] [(.int pp)])) _
        refine XS.iloadN X23.here hx rfl (hb hby at_142) rfl ?_
        show Steps p.tables e below (T23.setTop (mkF m 143 #[.val (.int p1), .val (.int p2), .val (.int p3), .val (.int p4), .val (.int p5), .val (.int (2 : Int32)), .val (.int (((p5.toUInt32 >>> ((2 : Int32) &&& 31).toUInt32).toInt32) &&& (3 : Int32))), .val (.int pp), .val (.ref b17), .val (.ref b20), .unset] [(.int p2), (.int pp)])) _
        by_cases hc143 : pp = p2
        · refine XS.icmpYes X23.here hx rfl (pc0 := 143) (pc' := 158) rfl (hb hby at_143) rfl (teq hc143).1 (by decide) (by decide) ?_
          show Steps p.tables e below (T23.setTop (mkF m 158 #[.val (.int p1), .val (.int p2), .val (.int p3), .val (.int p4), .val (.int p5), .val (.int (2 : Int32)), .val (.int (((p5.toUInt32 >>> ((2 : Int32) &&& 31).toUInt32).toInt32) &&& (3 : Int32))), .val (.int pp), .val (.ref b17), .val (.ref b20), .unset] [])) _
          refine XS.iconst X23.here hx rfl (hb hby at_158) ?_
          show Steps p.tables e below (T23.setTop (mkF m 159 #[.val (.int p1), .val (.int p2), .val (.int p3), .val (.int p4), .val (.int p5), .val (.int (2 : Int32)), .val (.int (((p5.toUInt32 >>> ((2 : Int32) &&& 31).toUInt32).toInt32) &&& (3 : Int32))), .val (.int pp), .val (.ref b17), .val (.ref b20), .unset] [(.int (1 : Int32))])) _
          refine XS.goto X23.here hx rfl (pc0 := 159) (pc' := 163) rfl (hb hby at_159) (by decide) (by decide) ?_
          exact (castTop (congrArg (fun z__ => ((mkF m 163 #[.val (.int p1), .val (.int p2), .val (.int p3), .val (.int p4), .val (.int p5), .val (.int (2 : Int32)), .val (.int (((p5.toUInt32 >>> ((2 : Int32) &&& 31).toUInt32).toInt32) &&& (3 : Int32))), .val (.int pp), .val (.ref b17), .val (.ref b20), .unset] [(.int z__)]) : JFrame)) (show (own_i (decide (pp = p1) || decide (pp = p2))) = (1 : Int32) from by simp [own_i, hc131, hc143]).symm) kt)
        · refine XS.icmpNo X23.here hx rfl (hb hby at_143) rfl (feq hc143).1 ?_
          show Steps p.tables e below (T23.setTop (mkF m 146 #[.val (.int p1), .val (.int p2), .val (.int p3), .val (.int p4), .val (.int p5), .val (.int (2 : Int32)), .val (.int (((p5.toUInt32 >>> ((2 : Int32) &&& 31).toUInt32).toInt32) &&& (3 : Int32))), .val (.int pp), .val (.ref b17), .val (.ref b20), .unset] [])) _
          refine XS.iload X23.here hx rfl (hb hby at_146) rfl ?_
          show Steps p.tables e below (T23.setTop (mkF m 148 #[.val (.int p1), .val (.int p2), .val (.int p3), .val (.int p4), .val (.int p5), .val (.int (2 : Int32)), .val (.int (((p5.toUInt32 >>> ((2 : Int32) &&& 31).toUInt32).toInt32) &&& (3 : Int32))), .val (.int pp), .val (.ref b17), .val (.ref b20), .unset] [(.int (2 : Int32))])) _
          refine XS.iconst X23.here hx rfl (hb hby at_148) ?_
          show Steps p.tables e below (T23.setTop (mkF m 149 #[.val (.int p1), .val (.int p2), .val (.int p3), .val (.int p4), .val (.int p5), .val (.int (2 : Int32)), .val (.int (((p5.toUInt32 >>> ((2 : Int32) &&& 31).toUInt32).toInt32) &&& (3 : Int32))), .val (.int pp), .val (.ref b17), .val (.ref b20), .unset] [(.int (3 : Int32)), (.int (2 : Int32))])) _
          refine XS.icmpYes X23.here hx rfl (pc0 := 149) (pc' := 162) rfl (hb hby at_149) rfl (tlt (by decide)).1 (by decide) (by decide) ?_
          show Steps p.tables e below (T23.setTop (mkF m 162 #[.val (.int p1), .val (.int p2), .val (.int p3), .val (.int p4), .val (.int p5), .val (.int (2 : Int32)), .val (.int (((p5.toUInt32 >>> ((2 : Int32) &&& 31).toUInt32).toInt32) &&& (3 : Int32))), .val (.int pp), .val (.ref b17), .val (.ref b20), .unset] [])) _
          refine XS.iconst X23.here hx rfl (hb hby at_162) ?_
          exact (castTop (congrArg (fun z__ => ((mkF m 163 #[.val (.int p1), .val (.int p2), .val (.int p3), .val (.int p4), .val (.int p5), .val (.int (2 : Int32)), .val (.int (((p5.toUInt32 >>> ((2 : Int32) &&& 31).toUInt32).toInt32) &&& (3 : Int32))), .val (.int pp), .val (.ref b17), .val (.ref b20), .unset] [(.int z__)]) : JFrame)) (show (own_i (decide (pp = p1) || decide (pp = p2))) = (0 : Int32) from by simp [own_i, hc131, hc143]).symm) kt)
    refine own_go (B := T23.setTop (mkF m 169 #[.val (.int p1), .val (.int p2), .val (.int p3), .val (.int p4), .val (.int p5), .val (.int (2 : Int32)), .val (.int (((p5.toUInt32 >>> ((2 : Int32) &&& 31).toUInt32).toInt32) &&& (3 : Int32))), .val (.int pp), .val (.ref b17), .val (.ref b20), .val (.int (own_i (decide (pp = p1) || decide (pp = p2))))] [(.int pp), (.ref b20)])) (fun t kt => ?_) ?_
    · show Steps p.tables e below (T23.setTop (mkF m 163 #[.val (.int p1), .val (.int p2), .val (.int p3), .val (.int p4), .val (.int p5), .val (.int (2 : Int32)), .val (.int (((p5.toUInt32 >>> ((2 : Int32) &&& 31).toUInt32).toInt32) &&& (3 : Int32))), .val (.int pp), .val (.ref b17), .val (.ref b20), .unset] [(.int (own_i (decide (pp = p1) || decide (pp = p2))))])) _
      refine XS.istore X23.here hx rfl (hb hby at_163) rfl (l' := #[.val (.int p1), .val (.int p2), .val (.int p3), .val (.int p4), .val (.int p5), .val (.int (2 : Int32)), .val (.int (((p5.toUInt32 >>> ((2 : Int32) &&& 31).toUInt32).toInt32) &&& (3 : Int32))), .val (.int pp), .val (.ref b17), .val (.ref b20), .val (.int (own_i (decide (pp = p1) || decide (pp = p2))))]) rfl ?_
      show Steps p.tables e below (T23.setTop (mkF m 165 #[.val (.int p1), .val (.int p2), .val (.int p3), .val (.int p4), .val (.int p5), .val (.int (2 : Int32)), .val (.int (((p5.toUInt32 >>> ((2 : Int32) &&& 31).toUInt32).toInt32) &&& (3 : Int32))), .val (.int pp), .val (.ref b17), .val (.ref b20), .val (.int (own_i (decide (pp = p1) || decide (pp = p2))))] [])) _
      refine XS.aload X23.here hx rfl (hb hby at_165) rfl rfl ?_
      show Steps p.tables e below (T23.setTop (mkF m 167 #[.val (.int p1), .val (.int p2), .val (.int p3), .val (.int p4), .val (.int p5), .val (.int (2 : Int32)), .val (.int (((p5.toUInt32 >>> ((2 : Int32) &&& 31).toUInt32).toInt32) &&& (3 : Int32))), .val (.int pp), .val (.ref b17), .val (.ref b20), .val (.int (own_i (decide (pp = p1) || decide (pp = p2))))] [(.ref b20)])) _
      refine XS.iload X23.here hx rfl (hb hby at_167) rfl ?_
      exact kt
    obtain ⟨cq24, kq24, q24a, q24b, q24c⟩ := isOf hZ rfl E23
    obtain ⟨_, _, ⟨T24, L24, k24, n24⟩, -, X24, ⟨Lc24, hQ24, l24, y24, z24⟩, st24⟩ := X23.virtualBack hx (y := (⟨"com/example/coppice/coppice/model/Variable", "contains", "(I)Z"⟩ : MethodName)) (z := (⟨"com/example/coppice/coppice/model/Variable", "contains", "(I)Z"⟩ : MethodName)) hown (mvT hZ (hw _ (List.mem_of_getElem? (i := 34) rfl))) (mvT hZ (hw _ (List.mem_of_getElem? (i := 35) rfl))) (notFace_of_selects (args := #[]) (mvT hZ (hw _ (List.mem_of_getElem? (i := 37) rfl)))) (mvT hZ (hw _ (List.mem_of_getElem? (i := 37) rfl))) (mvT hZ (hw _ (List.mem_of_getElem? (i := 36) rfl))) (by decide) (backOf (W := 0) (rm3_2 l Z a0 hw [] b20 pp c23 k17 p1 p2 T23.heap n0 Zq F23 V23) hZ (hw _ (List.mem_of_getElem? (i := 38) rfl)) (hw _ (List.mem_of_getElem? (i := 3) rfl)) (by decide) (by decide)) q24a q24c (g := (mkF m 169 #[.val (.int p1), .val (.int p2), .val (.int p3), .val (.int p4), .val (.int p5), .val (.int (2 : Int32)), .val (.int (((p5.toUInt32 >>> ((2 : Int32) &&& 31).toUInt32).toInt32) &&& (3 : Int32))), .val (.int pp), .val (.ref b17), .val (.ref b20), .val (.int (own_i (decide (pp = p1) || decide (pp = p2))))] [(.int pp), (.ref b20)])) rfl (by rw [hml]; rfl) (Steps.refl _) (argsL := [(.int pp)]) (rest := []) (lenOf pd_1 rfl) rfl (by show 2 * 0 + _ ≤ _; exact Nat.le_of_eq rfl) (hb hby at_169) (fun _ _ => ⟨rfl, rfl, (by decide : (((((0 + 1) + 1) + 2) + 2) + 1) + 0 ≤ _), (by decide : (((((0 + 2) + 3) + (4 + 4)) + (4 + 4)) + 3) + 0 ≤ _)⟩)
    dsimp only [Pt.U, Pt.locs, Pt.cells, Pt.slots] at X24 l24 y24 z24 st24 hQ24
    subst l24 y24 z24
    obtain ⟨rfl, N24q, e24⟩ := hQ24
    have N24 := Fr.app N23 N24q
    refine own_go (B := T24.setTop (mkF m 172 #[.val (.int p1), .val (.int p2), .val (.int p3), .val (.int p4), .val (.int p5), .val (.int (2 : Int32)), .val (.int (((p5.toUInt32 >>> ((2 : Int32) &&& 31).toUInt32).toInt32) &&& (3 : Int32))), .val (.int pp), .val (.ref b17), .val (.ref b20), .val (.int (own_i (decide (pp = p1) || decide (pp = p2))))] [(.int (own_i (decide (pp = p1) || decide (pp = p2))))])) (fun t kt => st24.trans kt) ?_
    refine own_go (B := T24.setTop (mkF m 182 #[.val (.int p1), .val (.int p2), .val (.int p3), .val (.int p4), .val (.int p5), .val (.int (2 : Int32)), .val (.int (((p5.toUInt32 >>> ((2 : Int32) &&& 31).toUInt32).toInt32) &&& (3 : Int32))), .val (.int pp), .val (.ref b17), .val (.ref b20), .val (.int (own_i (decide (pp = p1) || decide (pp = p2))))] [(.int (1 : Int32))])) (fun t kt => ?_) ?_
    · show Steps p.tables e below (T24.setTop (mkF m 172 #[.val (.int p1), .val (.int p2), .val (.int p3), .val (.int p4), .val (.int p5), .val (.int (2 : Int32)), .val (.int (((p5.toUInt32 >>> ((2 : Int32) &&& 31).toUInt32).toInt32) &&& (3 : Int32))), .val (.int pp), .val (.ref b17), .val (.ref b20), .val (.int (own_i (decide (pp = p1) || decide (pp = p2))))] [(.int (own_i (decide (pp = p1) || decide (pp = p2))))])) _
      refine XS.iload X24.here hx rfl (hb hby at_172) rfl ?_
      show Steps p.tables e below (T24.setTop (mkF m 174 #[.val (.int p1), .val (.int p2), .val (.int p3), .val (.int p4), .val (.int p5), .val (.int (2 : Int32)), .val (.int (((p5.toUInt32 >>> ((2 : Int32) &&& 31).toUInt32).toInt32) &&& (3 : Int32))), .val (.int pp), .val (.ref b17), .val (.ref b20), .val (.int (own_i (decide (pp = p1) || decide (pp = p2))))] [(.int (own_i (decide (pp = p1) || decide (pp = p2)))), (.int (own_i (decide (pp = p1) || decide (pp = p2))))])) _
      refine XS.icmpNo X24.here hx rfl (hb hby at_174) rfl (teq rfl).2 ?_
      show Steps p.tables e below (T24.setTop (mkF m 177 #[.val (.int p1), .val (.int p2), .val (.int p3), .val (.int p4), .val (.int p5), .val (.int (2 : Int32)), .val (.int (((p5.toUInt32 >>> ((2 : Int32) &&& 31).toUInt32).toInt32) &&& (3 : Int32))), .val (.int pp), .val (.ref b17), .val (.ref b20), .val (.int (own_i (decide (pp = p1) || decide (pp = p2))))] [])) _
      refine XS.iconst X24.here hx rfl (hb hby at_177) ?_
      show Steps p.tables e below (T24.setTop (mkF m 178 #[.val (.int p1), .val (.int p2), .val (.int p3), .val (.int p4), .val (.int p5), .val (.int (2 : Int32)), .val (.int (((p5.toUInt32 >>> ((2 : Int32) &&& 31).toUInt32).toInt32) &&& (3 : Int32))), .val (.int pp), .val (.ref b17), .val (.ref b20), .val (.int (own_i (decide (pp = p1) || decide (pp = p2))))] [(.int (1 : Int32))])) _
      refine XS.goto X24.here hx rfl (pc0 := 178) (pc' := 182) rfl (hb hby at_178) (by decide) (by decide) ?_
      exact kt
    obtain ⟨fs, hr, hrun, hended, hend⟩ := X24.leaveW hS22 (by rw [e24]; exact hkq) (v := some (.int (1 : Int32))) (fun h => by rw [Bd.returns] at h; cases h)
    refine ⟨_, _, ?_, hrun, hended, _, _, rfl, ?_, hend.1, hend.2.1, hend.2.2.1, hend.2.2.2.mono (by decide) (by decide)⟩
    · show Steps p.tables e below (T24.setTop (mkF m 182 #[.val (.int p1), .val (.int p2), .val (.int p3), .val (.int p4), .val (.int p5), .val (.int (2 : Int32)), .val (.int (((p5.toUInt32 >>> ((2 : Int32) &&& 31).toUInt32).toInt32) &&& (3 : Int32))), .val (.int pp), .val (.ref b17), .val (.ref b20), .val (.int (own_i (decide (pp = p1) || decide (pp = p2))))] [(.int (1 : Int32))])) _
      exact retN X24 hx (t := .boolean) Bd.returns (by simp) (hb hby at_182) hr
    · show Q0 Z p1 p2 p3 p4 p5 h0 n0 _ T24.heap _
      rw [e24]
      exact ⟨rfl, N24⟩
  · rw [hk]
    refine own_go (B := s₁.setTop (mkF m 97 #[.val (.int p1), .val (.int p2), .val (.int p3), .val (.int p4), .val (.int p5), .val (.int (3 : Int32)), .val (.int (((p5.toUInt32 >>> ((2 : Int32) &&& 31).toUInt32).toInt32) &&& (3 : Int32))), .val (.int pp), .unset, .unset, .unset] [(.int (3 : Int32))])) (fun t kt => ?_) ?_
    · show Steps p.tables e below (s₁.setTop (mkF m 56 #[.val (.int p1), .val (.int p2), .val (.int p3), .val (.int p4), .val (.int p5), .val (.int (3 : Int32)), .val (.int (((p5.toUInt32 >>> ((2 : Int32) &&& 31).toUInt32).toInt32) &&& (3 : Int32))), .val (.int pp), .unset, .unset, .unset] [])) _
      refine XS.iload X0.here hx rfl (hb hby at_56) rfl ?_
      show Steps p.tables e below (s₁.setTop (mkF m 58 #[.val (.int p1), .val (.int p2), .val (.int p3), .val (.int p4), .val (.int p5), .val (.int (3 : Int32)), .val (.int (((p5.toUInt32 >>> ((2 : Int32) &&& 31).toUInt32).toInt32) &&& (3 : Int32))), .val (.int pp), .unset, .unset, .unset] [(.int (3 : Int32))])) _
      refine XS.iconst X0.here hx rfl (hb hby at_58) ?_
      show Steps p.tables e below (s₁.setTop (mkF m 59 #[.val (.int p1), .val (.int p2), .val (.int p3), .val (.int p4), .val (.int p5), .val (.int (3 : Int32)), .val (.int (((p5.toUInt32 >>> ((2 : Int32) &&& 31).toUInt32).toInt32) &&& (3 : Int32))), .val (.int pp), .unset, .unset, .unset] [(.int (1 : Int32)), (.int (3 : Int32))])) _
      refine XS.icmpYes X0.here hx rfl (pc0 := 59) (pc' := 74) rfl (hb hby at_59) rfl (feq (by decide)).2 (by decide) (by decide) ?_
      show Steps p.tables e below (s₁.setTop (mkF m 74 #[.val (.int p1), .val (.int p2), .val (.int p3), .val (.int p4), .val (.int p5), .val (.int (3 : Int32)), .val (.int (((p5.toUInt32 >>> ((2 : Int32) &&& 31).toUInt32).toInt32) &&& (3 : Int32))), .val (.int pp), .unset, .unset, .unset] [])) _
      refine XS.iload X0.here hx rfl (hb hby at_74) rfl ?_
      show Steps p.tables e below (s₁.setTop (mkF m 76 #[.val (.int p1), .val (.int p2), .val (.int p3), .val (.int p4), .val (.int p5), .val (.int (3 : Int32)), .val (.int (((p5.toUInt32 >>> ((2 : Int32) &&& 31).toUInt32).toInt32) &&& (3 : Int32))), .val (.int pp), .unset, .unset, .unset] [(.int (3 : Int32))])) _
      refine XS.iconst X0.here hx rfl (hb hby at_76) ?_
      show Steps p.tables e below (s₁.setTop (mkF m 77 #[.val (.int p1), .val (.int p2), .val (.int p3), .val (.int p4), .val (.int p5), .val (.int (3 : Int32)), .val (.int (((p5.toUInt32 >>> ((2 : Int32) &&& 31).toUInt32).toInt32) &&& (3 : Int32))), .val (.int pp), .unset, .unset, .unset] [(.int (2 : Int32)), (.int (3 : Int32))])) _
      refine XS.icmpYes X0.here hx rfl (pc0 := 77) (pc' := 96) rfl (hb hby at_77) rfl (feq (by decide)).2 (by decide) (by decide) ?_
      show Steps p.tables e below (s₁.setTop (mkF m 96 #[.val (.int p1), .val (.int p2), .val (.int p3), .val (.int p4), .val (.int p5), .val (.int (3 : Int32)), .val (.int (((p5.toUInt32 >>> ((2 : Int32) &&& 31).toUInt32).toInt32) &&& (3 : Int32))), .val (.int pp), .unset, .unset, .unset] [])) _
      refine XS.iconst X0.here hx rfl (hb hby at_96) ?_
      exact kt
    obtain ⟨T25, h25, k25, X25, e25, E25, A25, B25, st25⟩ := newPE X0 hx hZ (hw _ (List.mem_of_getElem? (i := 0) rfl)) e0 (g := (mkF m 97 #[.val (.int p1), .val (.int p2), .val (.int p3), .val (.int p4), .val (.int p5), .val (.int (3 : Int32)), .val (.int (((p5.toUInt32 >>> ((2 : Int32) &&& 31).toUInt32).toInt32) &&& (3 : Int32))), .val (.int pp), .unset, .unset, .unset] [(.int (3 : Int32))])) rfl (hb hby at_97) rfl (by decide) (cap := 3) (by decide) (by decide) (by decide) (by decide) (ad := "[I") (by decide)
    obtain ⟨b25, g25⟩ : ∃ z, z = h0.size := ⟨_, rfl⟩
    rw [← g25] at A25 B25 st25
    refine own_go (B := T25.setTop (mkF m 99 #[.val (.int p1), .val (.int p2), .val (.int p3), .val (.int p4), .val (.int p5), .val (.int (3 : Int32)), .val (.int (((p5.toUInt32 >>> ((2 : Int32) &&& 31).toUInt32).toInt32) &&& (3 : Int32))), .val (.int pp), .unset, .unset, .unset] [(.ref b25)])) (fun t kt => st25 t kt) ?_
    have gb : n0 ≤ b25 := Nat.le_trans Z0 (Nat.le_of_eq g25.symm)
    have Z1 : n0 ≤ h25.size := Nat.le_trans Z0 E25.1
    have V0 : Arv Z h25 b25 k25 .int (3 : Int32) [(.int (0 : Int32)), (.int (0 : Int32)), (.int (0 : Int32))] (.int (0 : Int32)) := (Arv.new A25 (by decide)).pad (pad_rep [] (.int (0 : Int32)) 3)
    have Ea0 := B25
    refine own_go (B := T25.setTop (mkF m 102 #[.val (.int p1), .val (.int p2), .val (.int p3), .val (.int p4), .val (.int p5), .val (.int (3 : Int32)), .val (.int (((p5.toUInt32 >>> ((2 : Int32) &&& 31).toUInt32).toInt32) &&& (3 : Int32))), .val (.int pp), .unset, .unset, .unset] [(.int p1), (.int (0 : Int32)), (.ref b25), (.ref b25)])) (fun t kt => ?_) ?_
    · show Steps p.tables e below (T25.setTop (mkF m 99 #[.val (.int p1), .val (.int p2), .val (.int p3), .val (.int p4), .val (.int p5), .val (.int (3 : Int32)), .val (.int (((p5.toUInt32 >>> ((2 : Int32) &&& 31).toUInt32).toInt32) &&& (3 : Int32))), .val (.int pp), .unset, .unset, .unset] [(.ref b25)])) _
      refine XS.dup X25.here hx rfl (hb hby at_99) rfl rfl ?_
      show Steps p.tables e below (T25.setTop (mkF m 100 #[.val (.int p1), .val (.int p2), .val (.int p3), .val (.int p4), .val (.int p5), .val (.int (3 : Int32)), .val (.int (((p5.toUInt32 >>> ((2 : Int32) &&& 31).toUInt32).toInt32) &&& (3 : Int32))), .val (.int pp), .unset, .unset, .unset] [(.ref b25), (.ref b25)])) _
      refine XS.iconst X25.here hx rfl (hb hby at_100) ?_
      show Steps p.tables e below (T25.setTop (mkF m 101 #[.val (.int p1), .val (.int p2), .val (.int p3), .val (.int p4), .val (.int p5), .val (.int (3 : Int32)), .val (.int (((p5.toUInt32 >>> ((2 : Int32) &&& 31).toUInt32).toInt32) &&& (3 : Int32))), .val (.int pp), .unset, .unset, .unset] [(.int (0 : Int32)), (.ref b25), (.ref b25)])) _
      refine XS.iloadN X25.here hx rfl (hb hby at_101) rfl ?_
      exact kt
    obtain ⟨cv0, Av0, qv0, Sv0, Mv0, Hv0, Uv0⟩ := V0
    obtain ⟨T26, h26, X26, e26, W26, st26⟩ := stI X25 hx hZ e25 Av0 (j := (0 : Int32)) (inb_of Sv0 ⟨by decide, by decide⟩) (g := (mkF m 102 #[.val (.int p1), .val (.int p2), .val (.int p3), .val (.int p4), .val (.int p5), .val (.int (3 : Int32)), .val (.int (((p5.toUInt32 >>> ((2 : Int32) &&& 31).toUInt32).toInt32) &&& (3 : Int32))), .val (.int pp), .unset, .unset, .unset] [(.int p1), (.int (0 : Int32)), (.ref b25), (.ref b25)])) rfl rfl (hb hby at_102)
    have N26 := Fr.snoc X26 N0 gb
    refine own_go (B := T26.setTop (mkF m 103 #[.val (.int p1), .val (.int p2), .val (.int p3), .val (.int p4), .val (.int p5), .val (.int (3 : Int32)), .val (.int (((p5.toUInt32 >>> ((2 : Int32) &&& 31).toUInt32).toInt32) &&& (3 : Int32))), .val (.int pp), .unset, .unset, .unset] [(.ref b25)])) (fun t kt => st26 t kt) ?_
    have V1 : Arv Z h26 b25 k25 .int (3 : Int32) [(.int p1), (.int (0 : Int32)), (.int (0 : Int32))] (.int (0 : Int32)) := Arv.set Av0 qv0 Sv0 Mv0 Hv0 Uv0 rfl W26 0 rfl (Nat.le_of_ble_eq_true rfl)
    have Ea1 := Ea0.wr W26
    have Z2 : n0 ≤ h26.size := Nat.le_trans Z1 (Keep.of_wr W26).1
    refine own_go (B := T26.setTop (mkF m 106 #[.val (.int p1), .val (.int p2), .val (.int p3), .val (.int p4), .val (.int p5), .val (.int (3 : Int32)), .val (.int (((p5.toUInt32 >>> ((2 : Int32) &&& 31).toUInt32).toInt32) &&& (3 : Int32))), .val (.int pp), .unset, .unset, .unset] [(.int p2), (.int (1 : Int32)), (.ref b25), (.ref b25)])) (fun t kt => ?_) ?_
    · show Steps p.tables e below (T26.setTop (mkF m 103 #[.val (.int p1), .val (.int p2), .val (.int p3), .val (.int p4), .val (.int p5), .val (.int (3 : Int32)), .val (.int (((p5.toUInt32 >>> ((2 : Int32) &&& 31).toUInt32).toInt32) &&& (3 : Int32))), .val (.int pp), .unset, .unset, .unset] [(.ref b25)])) _
      refine XS.dup X26.here hx rfl (hb hby at_103) rfl rfl ?_
      show Steps p.tables e below (T26.setTop (mkF m 104 #[.val (.int p1), .val (.int p2), .val (.int p3), .val (.int p4), .val (.int p5), .val (.int (3 : Int32)), .val (.int (((p5.toUInt32 >>> ((2 : Int32) &&& 31).toUInt32).toInt32) &&& (3 : Int32))), .val (.int pp), .unset, .unset, .unset] [(.ref b25), (.ref b25)])) _
      refine XS.iconst X26.here hx rfl (hb hby at_104) ?_
      show Steps p.tables e below (T26.setTop (mkF m 105 #[.val (.int p1), .val (.int p2), .val (.int p3), .val (.int p4), .val (.int p5), .val (.int (3 : Int32)), .val (.int (((p5.toUInt32 >>> ((2 : Int32) &&& 31).toUInt32).toInt32) &&& (3 : Int32))), .val (.int pp), .unset, .unset, .unset] [(.int (1 : Int32)), (.ref b25), (.ref b25)])) _
      refine XS.iloadN X26.here hx rfl (hb hby at_105) rfl ?_
      exact kt
    obtain ⟨cv1, Av1, qv1, Sv1, Mv1, Hv1, Uv1⟩ := V1
    obtain ⟨T27, h27, X27, e27, W27, st27⟩ := stI X26 hx hZ e26 Av1 (j := (1 : Int32)) (inb_of Sv1 ⟨by decide, by decide⟩) (g := (mkF m 106 #[.val (.int p1), .val (.int p2), .val (.int p3), .val (.int p4), .val (.int p5), .val (.int (3 : Int32)), .val (.int (((p5.toUInt32 >>> ((2 : Int32) &&& 31).toUInt32).toInt32) &&& (3 : Int32))), .val (.int pp), .unset, .unset, .unset] [(.int p2), (.int (1 : Int32)), (.ref b25), (.ref b25)])) rfl rfl (hb hby at_106)
    have N27 := Fr.snoc X27 N26 gb
    refine own_go (B := T27.setTop (mkF m 107 #[.val (.int p1), .val (.int p2), .val (.int p3), .val (.int p4), .val (.int p5), .val (.int (3 : Int32)), .val (.int (((p5.toUInt32 >>> ((2 : Int32) &&& 31).toUInt32).toInt32) &&& (3 : Int32))), .val (.int pp), .unset, .unset, .unset] [(.ref b25)])) (fun t kt => st27 t kt) ?_
    have V2 : Arv Z h27 b25 k25 .int (3 : Int32) [(.int p1), (.int p2), (.int (0 : Int32))] (.int (0 : Int32)) := Arv.set Av1 qv1 Sv1 Mv1 Hv1 Uv1 rfl W27 1 rfl (Nat.le_of_ble_eq_true rfl)
    have Ea2 := Ea1.wr W27
    have Z3 : n0 ≤ h27.size := Nat.le_trans Z2 (Keep.of_wr W27).1
    refine own_go (B := T27.setTop (mkF m 110 #[.val (.int p1), .val (.int p2), .val (.int p3), .val (.int p4), .val (.int p5), .val (.int (3 : Int32)), .val (.int (((p5.toUInt32 >>> ((2 : Int32) &&& 31).toUInt32).toInt32) &&& (3 : Int32))), .val (.int pp), .unset, .unset, .unset] [(.int p3), (.int (2 : Int32)), (.ref b25), (.ref b25)])) (fun t kt => ?_) ?_
    · show Steps p.tables e below (T27.setTop (mkF m 107 #[.val (.int p1), .val (.int p2), .val (.int p3), .val (.int p4), .val (.int p5), .val (.int (3 : Int32)), .val (.int (((p5.toUInt32 >>> ((2 : Int32) &&& 31).toUInt32).toInt32) &&& (3 : Int32))), .val (.int pp), .unset, .unset, .unset] [(.ref b25)])) _
      refine XS.dup X27.here hx rfl (hb hby at_107) rfl rfl ?_
      show Steps p.tables e below (T27.setTop (mkF m 108 #[.val (.int p1), .val (.int p2), .val (.int p3), .val (.int p4), .val (.int p5), .val (.int (3 : Int32)), .val (.int (((p5.toUInt32 >>> ((2 : Int32) &&& 31).toUInt32).toInt32) &&& (3 : Int32))), .val (.int pp), .unset, .unset, .unset] [(.ref b25), (.ref b25)])) _
      refine XS.iconst X27.here hx rfl (hb hby at_108) ?_
      show Steps p.tables e below (T27.setTop (mkF m 109 #[.val (.int p1), .val (.int p2), .val (.int p3), .val (.int p4), .val (.int p5), .val (.int (3 : Int32)), .val (.int (((p5.toUInt32 >>> ((2 : Int32) &&& 31).toUInt32).toInt32) &&& (3 : Int32))), .val (.int pp), .unset, .unset, .unset] [(.int (2 : Int32)), (.ref b25), (.ref b25)])) _
      refine XS.iloadN X27.here hx rfl (hb hby at_109) rfl ?_
      exact kt
    obtain ⟨cv2, Av2, qv2, Sv2, Mv2, Hv2, Uv2⟩ := V2
    obtain ⟨T28, h28, X28, e28, W28, st28⟩ := stI X27 hx hZ e27 Av2 (j := (2 : Int32)) (inb_of Sv2 ⟨by decide, by decide⟩) (g := (mkF m 110 #[.val (.int p1), .val (.int p2), .val (.int p3), .val (.int p4), .val (.int p5), .val (.int (3 : Int32)), .val (.int (((p5.toUInt32 >>> ((2 : Int32) &&& 31).toUInt32).toInt32) &&& (3 : Int32))), .val (.int pp), .unset, .unset, .unset] [(.int p3), (.int (2 : Int32)), (.ref b25), (.ref b25)])) rfl rfl (hb hby at_110)
    have N28 := Fr.snoc X28 N27 gb
    refine own_go (B := T28.setTop (mkF m 111 #[.val (.int p1), .val (.int p2), .val (.int p3), .val (.int p4), .val (.int p5), .val (.int (3 : Int32)), .val (.int (((p5.toUInt32 >>> ((2 : Int32) &&& 31).toUInt32).toInt32) &&& (3 : Int32))), .val (.int pp), .unset, .unset, .unset] [(.ref b25)])) (fun t kt => st28 t kt) ?_
    have V3 : Arv Z h28 b25 k25 .int (3 : Int32) [(.int p1), (.int p2), (.int p3)] (.int (0 : Int32)) := Arv.set Av2 qv2 Sv2 Mv2 Hv2 Uv2 rfl W28 2 rfl (Nat.le_of_ble_eq_true rfl)
    have Ea3 := Ea2.wr W28
    have Z4 : n0 ≤ h28.size := Nat.le_trans Z3 (Keep.of_wr W28).1
    refine own_go (B := T28.setTop (mkF m 113 #[.val (.int p1), .val (.int p2), .val (.int p3), .val (.int p4), .val (.int p5), .val (.int (3 : Int32)), .val (.int (((p5.toUInt32 >>> ((2 : Int32) &&& 31).toUInt32).toInt32) &&& (3 : Int32))), .val (.int pp), .val (.ref b25), .unset, .unset] [])) (fun t kt => ?_) ?_
    · show Steps p.tables e below (T28.setTop (mkF m 111 #[.val (.int p1), .val (.int p2), .val (.int p3), .val (.int p4), .val (.int p5), .val (.int (3 : Int32)), .val (.int (((p5.toUInt32 >>> ((2 : Int32) &&& 31).toUInt32).toInt32) &&& (3 : Int32))), .val (.int pp), .unset, .unset, .unset] [(.ref b25)])) _
      refine XS.astore X28.here hx rfl (hb hby at_111) rfl rfl (l' := #[.val (.int p1), .val (.int p2), .val (.int p3), .val (.int p4), .val (.int p5), .val (.int (3 : Int32)), .val (.int (((p5.toUInt32 >>> ((2 : Int32) &&& 31).toUInt32).toInt32) &&& (3 : Int32))), .val (.int pp), .val (.ref b25), .unset, .unset]) rfl ?_
      exact kt
    obtain ⟨T29, h29, X29, e29, E29, A29, D29, -, st29⟩ := newO X28 hx hZ hown (hw _ (List.mem_of_getElem? (i := 1) rfl)) (hw _ (List.mem_of_getElem? (i := 2) rfl)) (hw _ (List.mem_of_getElem? (i := 3) rfl)) e28 (g := (mkF m 113 #[.val (.int p1), .val (.int p2), .val (.int p3), .val (.int p4), .val (.int p5), .val (.int (3 : Int32)), .val (.int (((p5.toUInt32 >>> ((2 : Int32) &&& 31).toUInt32).toInt32) &&& (3 : Int32))), .val (.int pp), .val (.ref b25), .unset, .unset] [])) rfl (hb hby at_113) (by decide) (by decide)
    obtain ⟨b29, g29⟩ : ∃ z, z = h28.size := ⟨_, rfl⟩
    rw [← g29] at A29 D29 st29
    have F29_name : Fld Z h29 b29 "com/example/coppice/coppice/model/Variable" "name" "Ljava/lang/String;" .null := D29 (Or.inr (hw _ (List.mem_of_getElem? (i := 20) rfl))) (ty := (.object "java/lang/String")) (by decide)
    have F29_agent : Fld Z h29 b29 "com/example/coppice/coppice/model/Variable" "agent" "Ljava/lang/String;" .null := D29 (Or.inr (hw _ (List.mem_of_getElem? (i := 22) rfl))) (ty := (.object "java/lang/String")) (by decide)
    have F29_values : Fld Z h29 b29 "com/example/coppice/coppice/model/Variable" "values" "[I" .null := D29 (Or.inr (hw _ (List.mem_of_getElem? (i := 33) rfl))) (ty := (.array .int)) (by decide)
    refine own_go (B := T29.setTop (mkF m 116 #[.val (.int p1), .val (.int p2), .val (.int p3), .val (.int p4), .val (.int p5), .val (.int (3 : Int32)), .val (.int (((p5.toUInt32 >>> ((2 : Int32) &&& 31).toUInt32).toInt32) &&& (3 : Int32))), .val (.int pp), .val (.ref b25), .unset, .unset] [(.ref b29)])) (fun t kt => st29 t kt) ?_
    have go : n0 ≤ b29 := Nat.le_trans Z4 (Nat.le_of_eq g29.symm)
    have Zo : n0 ≤ h29.size := Nat.le_trans Z4 E29.1
    have hne : b25 ≠ b29 := Nat.ne_of_lt (Nat.lt_of_lt_of_le V3.lt (Nat.le_of_eq g29.symm))
    refine own_go (B := T29.setTop (mkF m 117 #[.val (.int p1), .val (.int p2), .val (.int p3), .val (.int p4), .val (.int p5), .val (.int (3 : Int32)), .val (.int (((p5.toUInt32 >>> ((2 : Int32) &&& 31).toUInt32).toInt32) &&& (3 : Int32))), .val (.int pp), .val (.ref b25), .unset, .unset] [(.ref b29), (.ref b29)])) (fun t kt => ?_) ?_
    · show Steps p.tables e below (T29.setTop (mkF m 116 #[.val (.int p1), .val (.int p2), .val (.int p3), .val (.int p4), .val (.int p5), .val (.int (3 : Int32)), .val (.int (((p5.toUInt32 >>> ((2 : Int32) &&& 31).toUInt32).toInt32) &&& (3 : Int32))), .val (.int pp), .val (.ref b25), .unset, .unset] [(.ref b29)])) _
      refine XS.dup X29.here hx rfl (hb hby at_116) rfl rfl ?_
      exact kt
    obtain ⟨a30, T30, h30, j30, X30, e30, E30, hS30, hk30, hZ, hown, st30⟩ := ldcS (s := s) (vm0 := s.vm) X29 hx hZ hown (hw _ (List.mem_of_getElem? (i := 4) rfl)) wS e29 (hS := (State.WarmedH.refl s).since 0) (Nat.zero_le _) (g := (mkF m 117 #[.val (.int p1), .val (.int p2), .val (.int p3), .val (.int p4), .val (.int p5), .val (.int (3 : Int32)), .val (.int (((p5.toUInt32 >>> ((2 : Int32) &&& 31).toUInt32).toInt32) &&& (3 : Int32))), .val (.int pp), .val (.ref b25), .unset, .unset] [(.ref b29), (.ref b29)])) rfl (hb hby at_117) (n := 4) (by decide) (by decide) (by decide) (by decide)
    refine own_go (B := T30.setTop (mkF m 119 #[.val (.int p1), .val (.int p2), .val (.int p3), .val (.int p4), .val (.int p5), .val (.int (3 : Int32)), .val (.int (((p5.toUInt32 >>> ((2 : Int32) &&& 31).toUInt32).toInt32) &&& (3 : Int32))), .val (.int pp), .val (.ref b25), .unset, .unset] [(.ref a30), (.ref b29), (.ref b29)])) (fun t kt => st30 t kt) ?_
    obtain ⟨a31, T31, h31, j31, X31, e31, E31, hS31, hk31, hZ, hown, st31⟩ := ldcS (s := s) X30 hx hZ hown (hw _ (List.mem_of_getElem? (i := 12) rfl)) wS e30 hS30 hk30 (g := (mkF m 119 #[.val (.int p1), .val (.int p2), .val (.int p3), .val (.int p4), .val (.int p5), .val (.int (3 : Int32)), .val (.int (((p5.toUInt32 >>> ((2 : Int32) &&& 31).toUInt32).toInt32) &&& (3 : Int32))), .val (.int pp), .val (.ref b25), .unset, .unset] [(.ref a30), (.ref b29), (.ref b29)])) rfl (hb hby at_119) (n := 4) (by decide) (by decide) (by decide) (by decide)
    refine own_go (B := T31.setTop (mkF m 121 #[.val (.int p1), .val (.int p2), .val (.int p3), .val (.int p4), .val (.int p5), .val (.int (3 : Int32)), .val (.int (((p5.toUInt32 >>> ((2 : Int32) &&& 31).toUInt32).toInt32) &&& (3 : Int32))), .val (.int pp), .val (.ref b25), .unset, .unset] [(.ref a31), (.ref a30), (.ref b29), (.ref b29)])) (fun t kt => st31 t kt) ?_
    have Zp : n0 ≤ h31.size := Nat.le_trans (Nat.le_trans Zo E30.1) E31.1
    refine own_go (B := T31.setTop (mkF m 123 #[.val (.int p1), .val (.int p2), .val (.int p3), .val (.int p4), .val (.int p5), .val (.int (3 : Int32)), .val (.int (((p5.toUInt32 >>> ((2 : Int32) &&& 31).toUInt32).toInt32) &&& (3 : Int32))), .val (.int pp), .val (.ref b25), .unset, .unset] [(.ref b25), (.ref a31), (.ref a30), (.ref b29), (.ref b29)])) (fun t kt => ?_) ?_
    · show Steps p.tables e below (T31.setTop (mkF m 121 #[.val (.int p1), .val (.int p2), .val (.int p3), .val (.int p4), .val (.int p5), .val (.int (3 : Int32)), .val (.int (((p5.toUInt32 >>> ((2 : Int32) &&& 31).toUInt32).toInt32) &&& (3 : Int32))), .val (.int pp), .val (.ref b25), .unset, .unset] [(.ref a31), (.ref a30), (.ref b29), (.ref b29)])) _
      refine XS.aload X31.here hx rfl (hb hby at_121) rfl rfl ?_
      exact kt
    obtain ⟨_, _, ⟨T32, L32, k32, n32⟩, -, X32, ⟨Lc32, hQ32, l32, y32, z32⟩, st32⟩ := X31.specialBack hx (y := (⟨"com/example/coppice/coppice/model/Variable", "<init>", "(Ljava/lang/String;Ljava/lang/String;[I)V"⟩ : MethodName)) rfl hown (mvT hZ (hw _ (List.mem_of_getElem? (i := 13) rfl))) (mvT hZ (hw _ (List.mem_of_getElem? (i := 14) rfl))) (mvT hZ (hw _ (List.mem_of_getElem? (i := 15) rfl))) (by decide) (backOf (W := 1) (rm1 l Z a0 hw [] b29 a30 a31 b25 k25 (3 : Int32) [(.int p1), (.int p2), (.int p3)] (.int (0 : Int32)) h31 n0 Zp ((F29_name.ext E30).ext E31) ((F29_agent.ext E30).ext E31) ((F29_values.ext E30).ext E31) ((A29.ext E30).ext E31) go (((V3.ext E29).ext E30).ext E31) (((Ea3.ext E29).ext E30).ext E31) (by decide) (by decide) hne) hZ (hw _ (List.mem_of_getElem? (i := 15) rfl)) (hw _ (List.mem_of_getElem? (i := 3) rfl)) (by decide) (by decide)) (g := (mkF m 123 #[.val (.int p1), .val (.int p2), .val (.int p3), .val (.int p4), .val (.int p5), .val (.int (3 : Int32)), .val (.int (((p5.toUInt32 >>> ((2 : Int32) &&& 31).toUInt32).toInt32) &&& (3 : Int32))), .val (.int pp), .val (.ref b25), .unset, .unset] [(.ref b25), (.ref a31), (.ref a30), (.ref b29), (.ref b29)])) rfl (by rw [hml]; rfl) (Steps.refl _) (a := b29) (argsL := [(.ref a30), (.ref a31), (.ref b25)]) (rest := [(.ref b29)]) (lenOf pd_0 rfl) rfl (by show 2 * 0 + _ ≤ _; exact Nat.le_of_eq rfl) (hb hby at_123) (fun _ _ => ⟨rfl, e31, (by decide : ((((0 + 1) + 1) + 2) + 2) + 1 ≤ _), (by decide : ((((0 + 3) + 3) + (4 + 4)) + (4 + 4)) + 3 ≤ _)⟩)
    dsimp only [Pt.U, Pt.locs, Pt.cells, Pt.slots] at X32 l32 y32 z32 st32 hQ32
    subst l32 y32 z32
    obtain ⟨rfl, N32q, K32, E32, c32, F32, V32⟩ := hQ32
    have N32 := Fr.app N28 N32q
    refine own_go (B := T32.setTop (mkF m 126 #[.val (.int p1), .val (.int p2), .val (.int p3), .val (.int p4), .val (.int p5), .val (.int (3 : Int32)), .val (.int (((p5.toUInt32 >>> ((2 : Int32) &&& 31).toUInt32).toInt32) &&& (3 : Int32))), .val (.int pp), .val (.ref b25), .unset, .unset] [(.ref b29)])) (fun t kt => st32.trans kt) ?_
    have Zq : n0 ≤ T32.heap.size := Nat.le_trans Zp K32.1
    have hkq : j31 ≤ T32.heap.size := Nat.le_trans hk31 K32.1
    refine own_go (B := T32.setTop (mkF m 128 #[.val (.int p1), .val (.int p2), .val (.int p3), .val (.int p4), .val (.int p5), .val (.int (3 : Int32)), .val (.int (((p5.toUInt32 >>> ((2 : Int32) &&& 31).toUInt32).toInt32) &&& (3 : Int32))), .val (.int pp), .val (.ref b25), .val (.ref b29), .unset] [])) (fun t kt => ?_) ?_
    · show Steps p.tables e below (T32.setTop (mkF m 126 #[.val (.int p1), .val (.int p2), .val (.int p3), .val (.int p4), .val (.int p5), .val (.int (3 : Int32)), .val (.int (((p5.toUInt32 >>> ((2 : Int32) &&& 31).toUInt32).toInt32) &&& (3 : Int32))), .val (.int pp), .val (.ref b25), .unset, .unset] [(.ref b29)])) _
      refine XS.astore X32.here hx rfl (hb hby at_126) rfl rfl (l' := #[.val (.int p1), .val (.int p2), .val (.int p3), .val (.int p4), .val (.int p5), .val (.int (3 : Int32)), .val (.int (((p5.toUInt32 >>> ((2 : Int32) &&& 31).toUInt32).toInt32) &&& (3 : Int32))), .val (.int pp), .val (.ref b25), .val (.ref b29), .unset]) rfl ?_
      exact kt
    refine own_go (B := T32.setTop (mkF m 163 #[.val (.int p1), .val (.int p2), .val (.int p3), .val (.int p4), .val (.int p5), .val (.int (3 : Int32)), .val (.int (((p5.toUInt32 >>> ((2 : Int32) &&& 31).toUInt32).toInt32) &&& (3 : Int32))), .val (.int pp), .val (.ref b25), .val (.ref b29), .unset] [(.int (own_i (decide (pp = p1) || decide (pp = p2) || decide (pp = p3))))])) (fun t kt => ?_) ?_
    · show Steps p.tables e below (T32.setTop (mkF m 128 #[.val (.int p1), .val (.int p2), .val (.int p3), .val (.int p4), .val (.int p5), .val (.int (3 : Int32)), .val (.int (((p5.toUInt32 >>> ((2 : Int32) &&& 31).toUInt32).toInt32) &&& (3 : Int32))), .val (.int pp), .val (.ref b25), .val (.ref b29), .unset] [])) _
      refine XS.iload X32.here hx rfl (hb hby at_128) rfl ?_
      show Steps p.tables e below (T32.setTop (mkF m 130 #[.val (.int p1), .val (.int p2), .val (.int p3), .val (.int p4), .val (.int p5), .val (.int (3 : Int32)), .val (.int (((p5.toUInt32 >>> ((2 : Int32) &&& 31).toUInt32).toInt32) &&& (3 : Int32))), .val (.int pp), .val (.ref b25), .val (.ref b29), .unset] [(.int pp)])) _
      refine XS.iloadN X32.here hx rfl (hb hby at_130) rfl ?_
      show Steps p.tables e below (T32.setTop (mkF m 131 #[.val (.int p1), .val (.int p2), .val (.int p3), .val (.int p4), .val (.int p5), .val (.int (3 : Int32)), .val (.int (((p5.toUInt32 >>> ((2 : Int32) &&& 31).toUInt32).toInt32) &&& (3 : Int32))), .val (.int pp), .val (.ref b25), .val (.ref b29), .unset] [(.int p1), (.int pp)])) _
      by_cases hc131 : pp = p1
      · refine XS.icmpYes X32.here hx rfl (pc0 := 131) (pc' := 158) rfl (hb hby at_131) rfl (teq hc131).1 (by decide) (by decide) ?_
        show Steps p.tables e below (T32.setTop (mkF m 158 #[.val (.int p1), .val (.int p2), .val (.int p3), .val (.int p4), .val (.int p5), .val (.int (3 : Int32)), .val (.int (((p5.toUInt32 >>> ((2 : Int32) &&& 31).toUInt32).toInt32) &&& (3 : Int32))), .val (.int pp), .val (.ref b25), .val (.ref b29), .unset] [])) _
        refine XS.iconst X32.here hx rfl (hb hby at_158) ?_
        show Steps p.tables e below (T32.setTop (mkF m 159 #[.val (.int p1), .val (.int p2), .val (.int p3), .val (.int p4), .val (.int p5), .val (.int (3 : Int32)), .val (.int (((p5.toUInt32 >>> ((2 : Int32) &&& 31).toUInt32).toInt32) &&& (3 : Int32))), .val (.int pp), .val (.ref b25), .val (.ref b29), .unset] [(.int (1 : Int32))])) _
        refine XS.goto X32.here hx rfl (pc0 := 159) (pc' := 163) rfl (hb hby at_159) (by decide) (by decide) ?_
        exact (castTop (congrArg (fun z__ => ((mkF m 163 #[.val (.int p1), .val (.int p2), .val (.int p3), .val (.int p4), .val (.int p5), .val (.int (3 : Int32)), .val (.int (((p5.toUInt32 >>> ((2 : Int32) &&& 31).toUInt32).toInt32) &&& (3 : Int32))), .val (.int pp), .val (.ref b25), .val (.ref b29), .unset] [(.int z__)]) : JFrame)) (show (own_i (decide (pp = p1) || decide (pp = p2) || decide (pp = p3))) = (1 : Int32) from by simp [own_i, hc131]).symm) kt)
      · refine XS.icmpNo X32.here hx rfl (hb hby at_131) rfl (feq hc131).1 ?_
        show Steps p.tables e below (T32.setTop (mkF m 134 #[.val (.int p1), .val (.int p2), .val (.int p3), .val (.int p4), .val (.int p5), .val (.int (3 : Int32)), .val (.int (((p5.toUInt32 >>> ((2 : Int32) &&& 31).toUInt32).toInt32) &&& (3 : Int32))), .val (.int pp), .val (.ref b25), .val (.ref b29), .unset] [])) _
        refine XS.iload X32.here hx rfl (hb hby at_134) rfl ?_
        show Steps p.tables e below (T32.setTop (mkF m 136 #[.val (.int p1), .val (.int p2), .val (.int p3), .val (.int p4), .val (.int p5), .val (.int (3 : Int32)), .val (.int (((p5.toUInt32 >>> ((2 : Int32) &&& 31).toUInt32).toInt32) &&& (3 : Int32))), .val (.int pp), .val (.ref b25), .val (.ref b29), .unset] [(.int (3 : Int32))])) _
        refine XS.iconst X32.here hx rfl (hb hby at_136) ?_
        show Steps p.tables e below (T32.setTop (mkF m 137 #[.val (.int p1), .val (.int p2), .val (.int p3), .val (.int p4), .val (.int p5), .val (.int (3 : Int32)), .val (.int (((p5.toUInt32 >>> ((2 : Int32) &&& 31).toUInt32).toInt32) &&& (3 : Int32))), .val (.int pp), .val (.ref b25), .val (.ref b29), .unset] [(.int (2 : Int32)), (.int (3 : Int32))])) _
        refine XS.icmpNo X32.here hx rfl (hb hby at_137) rfl (flt (by decide)).1 ?_
        show Steps p.tables e below (T32.setTop (mkF m 140 #[.val (.int p1), .val (.int p2), .val (.int p3), .val (.int p4), .val (.int p5), .val (.int (3 : Int32)), .val (.int (((p5.toUInt32 >>> ((2 : Int32) &&& 31).toUInt32).toInt32) &&& (3 : Int32))), .val (.int pp), .val (.ref b25), .val (.ref b29), .unset] [])) _
        refine XS.iload X32.here hx rfl (hb hby at_140) rfl ?_
        show Steps p.tables e below (T32.setTop (mkF m 142 #[.val (.int p1), .val (.int p2), .val (.int p3), .val (.int p4), .val (.int p5), .val (.int (3 : Int32)), .val (.int (((p5.toUInt32 >>> ((2 : Int32) &&& 31).toUInt32).toInt32) &&& (3 : Int32))), .val (.int pp), .val (.ref b25), .val (.ref b29), .unset] [(.int pp)])) _
        refine XS.iloadN X32.here hx rfl (hb hby at_142) rfl ?_
        show Steps p.tables e below (T32.setTop (mkF m 143 #[.val (.int p1), .val (.int p2), .val (.int p3), .val (.int p4), .val (.int p5), .val (.int (3 : Int32)), .val (.int (((p5.toUInt32 >>> ((2 : Int32) &&& 31).toUInt32).toInt32) &&& (3 : Int32))), .val (.int pp), .val (.ref b25), .val (.ref b29), .unset] [(.int p2), (.int pp)])) _
        by_cases hc143 : pp = p2
        · refine XS.icmpYes X32.here hx rfl (pc0 := 143) (pc' := 158) rfl (hb hby at_143) rfl (teq hc143).1 (by decide) (by decide) ?_
          show Steps p.tables e below (T32.setTop (mkF m 158 #[.val (.int p1), .val (.int p2), .val (.int p3), .val (.int p4), .val (.int p5), .val (.int (3 : Int32)), .val (.int (((p5.toUInt32 >>> ((2 : Int32) &&& 31).toUInt32).toInt32) &&& (3 : Int32))), .val (.int pp), .val (.ref b25), .val (.ref b29), .unset] [])) _
          refine XS.iconst X32.here hx rfl (hb hby at_158) ?_
          show Steps p.tables e below (T32.setTop (mkF m 159 #[.val (.int p1), .val (.int p2), .val (.int p3), .val (.int p4), .val (.int p5), .val (.int (3 : Int32)), .val (.int (((p5.toUInt32 >>> ((2 : Int32) &&& 31).toUInt32).toInt32) &&& (3 : Int32))), .val (.int pp), .val (.ref b25), .val (.ref b29), .unset] [(.int (1 : Int32))])) _
          refine XS.goto X32.here hx rfl (pc0 := 159) (pc' := 163) rfl (hb hby at_159) (by decide) (by decide) ?_
          exact (castTop (congrArg (fun z__ => ((mkF m 163 #[.val (.int p1), .val (.int p2), .val (.int p3), .val (.int p4), .val (.int p5), .val (.int (3 : Int32)), .val (.int (((p5.toUInt32 >>> ((2 : Int32) &&& 31).toUInt32).toInt32) &&& (3 : Int32))), .val (.int pp), .val (.ref b25), .val (.ref b29), .unset] [(.int z__)]) : JFrame)) (show (own_i (decide (pp = p1) || decide (pp = p2) || decide (pp = p3))) = (1 : Int32) from by simp [own_i, hc131, hc143]).symm) kt)
        · refine XS.icmpNo X32.here hx rfl (hb hby at_143) rfl (feq hc143).1 ?_
          show Steps p.tables e below (T32.setTop (mkF m 146 #[.val (.int p1), .val (.int p2), .val (.int p3), .val (.int p4), .val (.int p5), .val (.int (3 : Int32)), .val (.int (((p5.toUInt32 >>> ((2 : Int32) &&& 31).toUInt32).toInt32) &&& (3 : Int32))), .val (.int pp), .val (.ref b25), .val (.ref b29), .unset] [])) _
          refine XS.iload X32.here hx rfl (hb hby at_146) rfl ?_
          show Steps p.tables e below (T32.setTop (mkF m 148 #[.val (.int p1), .val (.int p2), .val (.int p3), .val (.int p4), .val (.int p5), .val (.int (3 : Int32)), .val (.int (((p5.toUInt32 >>> ((2 : Int32) &&& 31).toUInt32).toInt32) &&& (3 : Int32))), .val (.int pp), .val (.ref b25), .val (.ref b29), .unset] [(.int (3 : Int32))])) _
          refine XS.iconst X32.here hx rfl (hb hby at_148) ?_
          show Steps p.tables e below (T32.setTop (mkF m 149 #[.val (.int p1), .val (.int p2), .val (.int p3), .val (.int p4), .val (.int p5), .val (.int (3 : Int32)), .val (.int (((p5.toUInt32 >>> ((2 : Int32) &&& 31).toUInt32).toInt32) &&& (3 : Int32))), .val (.int pp), .val (.ref b25), .val (.ref b29), .unset] [(.int (3 : Int32)), (.int (3 : Int32))])) _
          refine XS.icmpNo X32.here hx rfl (hb hby at_149) rfl (flt (by decide)).1 ?_
          show Steps p.tables e below (T32.setTop (mkF m 152 #[.val (.int p1), .val (.int p2), .val (.int p3), .val (.int p4), .val (.int p5), .val (.int (3 : Int32)), .val (.int (((p5.toUInt32 >>> ((2 : Int32) &&& 31).toUInt32).toInt32) &&& (3 : Int32))), .val (.int pp), .val (.ref b25), .val (.ref b29), .unset] [])) _
          refine XS.iload X32.here hx rfl (hb hby at_152) rfl ?_
          show Steps p.tables e below (T32.setTop (mkF m 154 #[.val (.int p1), .val (.int p2), .val (.int p3), .val (.int p4), .val (.int p5), .val (.int (3 : Int32)), .val (.int (((p5.toUInt32 >>> ((2 : Int32) &&& 31).toUInt32).toInt32) &&& (3 : Int32))), .val (.int pp), .val (.ref b25), .val (.ref b29), .unset] [(.int pp)])) _
          refine XS.iloadN X32.here hx rfl (hb hby at_154) rfl ?_
          show Steps p.tables e below (T32.setTop (mkF m 155 #[.val (.int p1), .val (.int p2), .val (.int p3), .val (.int p4), .val (.int p5), .val (.int (3 : Int32)), .val (.int (((p5.toUInt32 >>> ((2 : Int32) &&& 31).toUInt32).toInt32) &&& (3 : Int32))), .val (.int pp), .val (.ref b25), .val (.ref b29), .unset] [(.int p3), (.int pp)])) _
          by_cases hc155 : pp = p3
          · refine XS.icmpNo X32.here hx rfl (hb hby at_155) rfl (teq hc155).2 ?_
            show Steps p.tables e below (T32.setTop (mkF m 158 #[.val (.int p1), .val (.int p2), .val (.int p3), .val (.int p4), .val (.int p5), .val (.int (3 : Int32)), .val (.int (((p5.toUInt32 >>> ((2 : Int32) &&& 31).toUInt32).toInt32) &&& (3 : Int32))), .val (.int pp), .val (.ref b25), .val (.ref b29), .unset] [])) _
            refine XS.iconst X32.here hx rfl (hb hby at_158) ?_
            show Steps p.tables e below (T32.setTop (mkF m 159 #[.val (.int p1), .val (.int p2), .val (.int p3), .val (.int p4), .val (.int p5), .val (.int (3 : Int32)), .val (.int (((p5.toUInt32 >>> ((2 : Int32) &&& 31).toUInt32).toInt32) &&& (3 : Int32))), .val (.int pp), .val (.ref b25), .val (.ref b29), .unset] [(.int (1 : Int32))])) _
            refine XS.goto X32.here hx rfl (pc0 := 159) (pc' := 163) rfl (hb hby at_159) (by decide) (by decide) ?_
            exact (castTop (congrArg (fun z__ => ((mkF m 163 #[.val (.int p1), .val (.int p2), .val (.int p3), .val (.int p4), .val (.int p5), .val (.int (3 : Int32)), .val (.int (((p5.toUInt32 >>> ((2 : Int32) &&& 31).toUInt32).toInt32) &&& (3 : Int32))), .val (.int pp), .val (.ref b25), .val (.ref b29), .unset] [(.int z__)]) : JFrame)) (show (own_i (decide (pp = p1) || decide (pp = p2) || decide (pp = p3))) = (1 : Int32) from by simp [own_i, hc131, hc143, hc155]).symm) kt)
          · refine XS.icmpYes X32.here hx rfl (pc0 := 155) (pc' := 162) rfl (hb hby at_155) rfl (feq hc155).2 (by decide) (by decide) ?_
            show Steps p.tables e below (T32.setTop (mkF m 162 #[.val (.int p1), .val (.int p2), .val (.int p3), .val (.int p4), .val (.int p5), .val (.int (3 : Int32)), .val (.int (((p5.toUInt32 >>> ((2 : Int32) &&& 31).toUInt32).toInt32) &&& (3 : Int32))), .val (.int pp), .val (.ref b25), .val (.ref b29), .unset] [])) _
            refine XS.iconst X32.here hx rfl (hb hby at_162) ?_
            exact (castTop (congrArg (fun z__ => ((mkF m 163 #[.val (.int p1), .val (.int p2), .val (.int p3), .val (.int p4), .val (.int p5), .val (.int (3 : Int32)), .val (.int (((p5.toUInt32 >>> ((2 : Int32) &&& 31).toUInt32).toInt32) &&& (3 : Int32))), .val (.int pp), .val (.ref b25), .val (.ref b29), .unset] [(.int z__)]) : JFrame)) (show (own_i (decide (pp = p1) || decide (pp = p2) || decide (pp = p3))) = (0 : Int32) from by simp [own_i, hc131, hc143, hc155]).symm) kt)
    refine own_go (B := T32.setTop (mkF m 169 #[.val (.int p1), .val (.int p2), .val (.int p3), .val (.int p4), .val (.int p5), .val (.int (3 : Int32)), .val (.int (((p5.toUInt32 >>> ((2 : Int32) &&& 31).toUInt32).toInt32) &&& (3 : Int32))), .val (.int pp), .val (.ref b25), .val (.ref b29), .val (.int (own_i (decide (pp = p1) || decide (pp = p2) || decide (pp = p3))))] [(.int pp), (.ref b29)])) (fun t kt => ?_) ?_
    · show Steps p.tables e below (T32.setTop (mkF m 163 #[.val (.int p1), .val (.int p2), .val (.int p3), .val (.int p4), .val (.int p5), .val (.int (3 : Int32)), .val (.int (((p5.toUInt32 >>> ((2 : Int32) &&& 31).toUInt32).toInt32) &&& (3 : Int32))), .val (.int pp), .val (.ref b25), .val (.ref b29), .unset] [(.int (own_i (decide (pp = p1) || decide (pp = p2) || decide (pp = p3))))])) _
      refine XS.istore X32.here hx rfl (hb hby at_163) rfl (l' := #[.val (.int p1), .val (.int p2), .val (.int p3), .val (.int p4), .val (.int p5), .val (.int (3 : Int32)), .val (.int (((p5.toUInt32 >>> ((2 : Int32) &&& 31).toUInt32).toInt32) &&& (3 : Int32))), .val (.int pp), .val (.ref b25), .val (.ref b29), .val (.int (own_i (decide (pp = p1) || decide (pp = p2) || decide (pp = p3))))]) rfl ?_
      show Steps p.tables e below (T32.setTop (mkF m 165 #[.val (.int p1), .val (.int p2), .val (.int p3), .val (.int p4), .val (.int p5), .val (.int (3 : Int32)), .val (.int (((p5.toUInt32 >>> ((2 : Int32) &&& 31).toUInt32).toInt32) &&& (3 : Int32))), .val (.int pp), .val (.ref b25), .val (.ref b29), .val (.int (own_i (decide (pp = p1) || decide (pp = p2) || decide (pp = p3))))] [])) _
      refine XS.aload X32.here hx rfl (hb hby at_165) rfl rfl ?_
      show Steps p.tables e below (T32.setTop (mkF m 167 #[.val (.int p1), .val (.int p2), .val (.int p3), .val (.int p4), .val (.int p5), .val (.int (3 : Int32)), .val (.int (((p5.toUInt32 >>> ((2 : Int32) &&& 31).toUInt32).toInt32) &&& (3 : Int32))), .val (.int pp), .val (.ref b25), .val (.ref b29), .val (.int (own_i (decide (pp = p1) || decide (pp = p2) || decide (pp = p3))))] [(.ref b29)])) _
      refine XS.iload X32.here hx rfl (hb hby at_167) rfl ?_
      exact kt
    obtain ⟨cq33, kq33, q33a, q33b, q33c⟩ := isOf hZ rfl E32
    obtain ⟨_, _, ⟨T33, L33, k33, n33⟩, -, X33, ⟨Lc33, hQ33, l33, y33, z33⟩, st33⟩ := X32.virtualBack hx (y := (⟨"com/example/coppice/coppice/model/Variable", "contains", "(I)Z"⟩ : MethodName)) (z := (⟨"com/example/coppice/coppice/model/Variable", "contains", "(I)Z"⟩ : MethodName)) hown (mvT hZ (hw _ (List.mem_of_getElem? (i := 34) rfl))) (mvT hZ (hw _ (List.mem_of_getElem? (i := 35) rfl))) (notFace_of_selects (args := #[]) (mvT hZ (hw _ (List.mem_of_getElem? (i := 37) rfl)))) (mvT hZ (hw _ (List.mem_of_getElem? (i := 37) rfl))) (mvT hZ (hw _ (List.mem_of_getElem? (i := 36) rfl))) (by decide) (backOf (W := 0) (rm3_3 l Z a0 hw [] b29 pp c32 k25 p1 p2 p3 T32.heap n0 Zq F32 V32) hZ (hw _ (List.mem_of_getElem? (i := 38) rfl)) (hw _ (List.mem_of_getElem? (i := 3) rfl)) (by decide) (by decide)) q33a q33c (g := (mkF m 169 #[.val (.int p1), .val (.int p2), .val (.int p3), .val (.int p4), .val (.int p5), .val (.int (3 : Int32)), .val (.int (((p5.toUInt32 >>> ((2 : Int32) &&& 31).toUInt32).toInt32) &&& (3 : Int32))), .val (.int pp), .val (.ref b25), .val (.ref b29), .val (.int (own_i (decide (pp = p1) || decide (pp = p2) || decide (pp = p3))))] [(.int pp), (.ref b29)])) rfl (by rw [hml]; rfl) (Steps.refl _) (argsL := [(.int pp)]) (rest := []) (lenOf pd_1 rfl) rfl (by show 2 * 0 + _ ≤ _; exact Nat.le_of_eq rfl) (hb hby at_169) (fun _ _ => ⟨rfl, rfl, (by decide : (((((0 + 1) + 1) + 2) + 2) + 1) + 0 ≤ _), (by decide : (((((0 + 3) + 3) + (4 + 4)) + (4 + 4)) + 3) + 0 ≤ _)⟩)
    dsimp only [Pt.U, Pt.locs, Pt.cells, Pt.slots] at X33 l33 y33 z33 st33 hQ33
    subst l33 y33 z33
    obtain ⟨rfl, N33q, e33⟩ := hQ33
    have N33 := Fr.app N32 N33q
    refine own_go (B := T33.setTop (mkF m 172 #[.val (.int p1), .val (.int p2), .val (.int p3), .val (.int p4), .val (.int p5), .val (.int (3 : Int32)), .val (.int (((p5.toUInt32 >>> ((2 : Int32) &&& 31).toUInt32).toInt32) &&& (3 : Int32))), .val (.int pp), .val (.ref b25), .val (.ref b29), .val (.int (own_i (decide (pp = p1) || decide (pp = p2) || decide (pp = p3))))] [(.int (own_i (decide (pp = p1) || decide (pp = p2) || decide (pp = p3))))])) (fun t kt => st33.trans kt) ?_
    refine own_go (B := T33.setTop (mkF m 182 #[.val (.int p1), .val (.int p2), .val (.int p3), .val (.int p4), .val (.int p5), .val (.int (3 : Int32)), .val (.int (((p5.toUInt32 >>> ((2 : Int32) &&& 31).toUInt32).toInt32) &&& (3 : Int32))), .val (.int pp), .val (.ref b25), .val (.ref b29), .val (.int (own_i (decide (pp = p1) || decide (pp = p2) || decide (pp = p3))))] [(.int (1 : Int32))])) (fun t kt => ?_) ?_
    · show Steps p.tables e below (T33.setTop (mkF m 172 #[.val (.int p1), .val (.int p2), .val (.int p3), .val (.int p4), .val (.int p5), .val (.int (3 : Int32)), .val (.int (((p5.toUInt32 >>> ((2 : Int32) &&& 31).toUInt32).toInt32) &&& (3 : Int32))), .val (.int pp), .val (.ref b25), .val (.ref b29), .val (.int (own_i (decide (pp = p1) || decide (pp = p2) || decide (pp = p3))))] [(.int (own_i (decide (pp = p1) || decide (pp = p2) || decide (pp = p3))))])) _
      refine XS.iload X33.here hx rfl (hb hby at_172) rfl ?_
      show Steps p.tables e below (T33.setTop (mkF m 174 #[.val (.int p1), .val (.int p2), .val (.int p3), .val (.int p4), .val (.int p5), .val (.int (3 : Int32)), .val (.int (((p5.toUInt32 >>> ((2 : Int32) &&& 31).toUInt32).toInt32) &&& (3 : Int32))), .val (.int pp), .val (.ref b25), .val (.ref b29), .val (.int (own_i (decide (pp = p1) || decide (pp = p2) || decide (pp = p3))))] [(.int (own_i (decide (pp = p1) || decide (pp = p2) || decide (pp = p3)))), (.int (own_i (decide (pp = p1) || decide (pp = p2) || decide (pp = p3))))])) _
      refine XS.icmpNo X33.here hx rfl (hb hby at_174) rfl (teq rfl).2 ?_
      show Steps p.tables e below (T33.setTop (mkF m 177 #[.val (.int p1), .val (.int p2), .val (.int p3), .val (.int p4), .val (.int p5), .val (.int (3 : Int32)), .val (.int (((p5.toUInt32 >>> ((2 : Int32) &&& 31).toUInt32).toInt32) &&& (3 : Int32))), .val (.int pp), .val (.ref b25), .val (.ref b29), .val (.int (own_i (decide (pp = p1) || decide (pp = p2) || decide (pp = p3))))] [])) _
      refine XS.iconst X33.here hx rfl (hb hby at_177) ?_
      show Steps p.tables e below (T33.setTop (mkF m 178 #[.val (.int p1), .val (.int p2), .val (.int p3), .val (.int p4), .val (.int p5), .val (.int (3 : Int32)), .val (.int (((p5.toUInt32 >>> ((2 : Int32) &&& 31).toUInt32).toInt32) &&& (3 : Int32))), .val (.int pp), .val (.ref b25), .val (.ref b29), .val (.int (own_i (decide (pp = p1) || decide (pp = p2) || decide (pp = p3))))] [(.int (1 : Int32))])) _
      refine XS.goto X33.here hx rfl (pc0 := 178) (pc' := 182) rfl (hb hby at_178) (by decide) (by decide) ?_
      exact kt
    obtain ⟨fs, hr, hrun, hended, hend⟩ := X33.leaveW hS31 (by rw [e33]; exact hkq) (v := some (.int (1 : Int32))) (fun h => by rw [Bd.returns] at h; cases h)
    refine ⟨_, _, ?_, hrun, hended, _, _, rfl, ?_, hend.1, hend.2.1, hend.2.2.1, hend.2.2.2.mono (by decide) (by decide)⟩
    · show Steps p.tables e below (T33.setTop (mkF m 182 #[.val (.int p1), .val (.int p2), .val (.int p3), .val (.int p4), .val (.int p5), .val (.int (3 : Int32)), .val (.int (((p5.toUInt32 >>> ((2 : Int32) &&& 31).toUInt32).toInt32) &&& (3 : Int32))), .val (.int pp), .val (.ref b25), .val (.ref b29), .val (.int (own_i (decide (pp = p1) || decide (pp = p2) || decide (pp = p3))))] [(.int (1 : Int32))])) _
      exact retN X33 hx (t := .boolean) Bd.returns (by simp) (hb hby at_182) hr
    · show Q0 Z p1 p2 p3 p4 p5 h0 n0 _ T33.heap _
      rw [e33]
      exact ⟨rfl, N33⟩
set_option maxRecDepth 65536 in
set_option maxHeartbeats 40000000 in
theorem comes_1 {Post : Tables → Env → Array Value → State → Outcome → State → Prop} (hpost : ∀ tb e args s v u, (limb_1_1.after args s (.returned v) u = true ∧ limb_1_2.after args s (.returned v) u = true ∧ True) → ReturnedEndW s (.returned v) u (Jvm.fieldLocs frame_1_writes args s ++ Jvm.arrayLocs frame_1_arrays args s ++ Jvm.staticLocs frame_1_statics s) 24 2176 → Post tb e args s (.returned v) u) :
    ArmFor flags0 classFile x code maxLocals ret World_1 tables_1 room_1 Calls_1 rest_1 Pre_1 Post := by
  intro l hfl _ _ p e ha hc hk s m args below hf hA hF happ hP
  obtain ⟨hcalls, hrest, hpre⟩ := hP
  obtain ⟨-, -, -, hnamed, -, -, -, hat⟩ := (Spec.applies_iff hf).mp happ
  obtain ⟨hg, hn⟩ := and_e (Cond.before_iff.mp (show (Jvm.Cond.and given_1 narrow_1).before args s = true from hpre))
  obtain ⟨gg1, gg2⟩ := and_e hg
  obtain ⟨gg3, gg4⟩ := and_e gg2
  obtain ⟨gg5, gg6⟩ := and_e gg4
  obtain ⟨gg7, gg8⟩ := and_e gg6
  obtain ⟨gg9, gg10⟩ := and_e gg8
  obtain ⟨w0, w1, w2, w3, w4, rfl⟩ : ∃ w0 w1 w2 w3 w4 : Value, args = #[w0, w1, w2, w3, w4] := by
    have hs : args.size = 5 := by simpa [Cond.value, given_1] using gg1
    obtain ⟨L⟩ := args
    match L, hs with
    | [w0, w1, w2, w3, w4], _ => exact ⟨w0, w1, w2, w3, w4, rfl⟩
  have hw := fun d (hd : d ∈ tables_1) => atoms_spec (ws := Jvm.Cond.code x code maxLocals ret :: tables_1) hat d (List.mem_cons_of_mem _ hd)
  obtain ⟨i0, ei0⟩ := is_v gg3
  obtain rfl : w0 = (.int i0) := Option.some.inj ei0
  obtain ⟨i1, ei1⟩ := is_v gg5
  obtain rfl : w1 = (.int i1) := Option.some.inj ei1
  obtain ⟨i2, ei2⟩ := is_v gg7
  obtain rfl : w2 = (.int i2) := Option.some.inj ei2
  obtain ⟨i3, ei3⟩ := is_v gg9
  obtain rfl : w3 = (.int i3) := Option.some.inj ei3
  obtain ⟨i4, ei4⟩ := is_v gg10
  obtain rfl : w4 = (.int i4) := Option.some.inj ei4
  obtain ⟨n, o, h1, h2, h3, _, L, rfl, ⟨rfl, N⟩, hq⟩ := rm0 l s _ hw tables_1 i0 i1 i2 i3 i4  s.heap s.heap.size (Nat.le_refl _)  p e ha hc hk s m _ below hf ((Spec.applies_iff_loose hf).mp happ).1 ⟨rfl, State.Warmed39.refl s, rfl⟩ trivial
  refine ⟨n, _, h1, h2, h3, hpost _ _ _ _ _ _ ⟨Cond.after_iff.mpr rfl, Cond.after_iff.mpr (eq_i res_at (Term.int_eval (1)) rfl), trivial⟩ ⟨hq.1, hq.2.1, hq.2.2.1, (hq.2.2.2.sift fun y hy => Or.inr (N y hy)).mono (by decide) (by decide)⟩⟩
theorem main_1_1 : Claimed_1_1 := comes_1 fun _ _ _ _ _ _ h hF => ⟨h.1, hF⟩
theorem main_1_2 : Claimed_1_2 := comes_1 fun _ _ _ _ _ _ h hF => ⟨h.2.1, hF⟩
end Jvm.Pilot.@@N@@
namespace Jvm.Pilot.@@N@@
open Jvm Jvm.ClassFile Sem Op Lib Jvm.Free Jvm.Stand Jvm.Pilot.@@N@@.Jvm.D
/-! MADE BY PROGRAM (witnessworld.py) out of the Statement's table words and the real class files: 14 classes; the members and pool entries that the words name. The judged class is class 1, her method 1. -/
namespace start1
open Jvm.ClassFile
def u (s : String) : CpInfo := .utf8 (stringToUtf16 s)
/-- a pool by its gaps: so many unusable entries, then the entry; so many at the end -/
def gap : Nat → List CpInfo → List CpInfo
  | 0, r => r
  | n + 1, r => .unusable :: gap n r
def poolList (es : List (Nat × CpInfo)) (last : Nat) : List CpInfo := es.foldr (fun e r => gap e.1 (e.2 :: r)) (gap last [])
def pool (es : List (Nat × CpInfo)) (last : Nat) : Array CpInfo := ⟨poolList es last⟩
def fileOf (pool : Array CpInfo) (this : Nat) (attrs : Array Attribute := #[]) (ms : Array MethodInfo := #[]) (fl : Nat := 33) (sup : Nat := 0) (ifs : Array Nat := #[]) (fds : Array FieldInfo := #[]) : ClassFile where
  minorVersion := 0
  majorVersion := 65
  constantPool := pool
  accessFlags := fl
  thisClass := this
  superClass := sup
  interfaces := ifs
  fields := fds
  methods := ms
  attributes := attrs
def plain (name : String) (sup : Option ClassId) : Class where
  name := name
  kind := .ordinary
  loader := none
  accessFlags := 33
  super := sup
  interfaces := #[]
  cf := none
  fields := #[]
  methods := #[]
  instanceTypes := #[]
  staticTypes := #[]
  resolved := #[]
  callSites := []
  init := .initialized
  statics := none
  mirror := none

def pool0 : Array CpInfo := pool [(5, u "<init>"), (0, u "()V"), (1, .class_ 10), (1, u "java/lang/Object"), (85, u "clone"), (0, u "()Ljava/lang/Object;")] 26

def k0c0 : Code := { maxStack := 0, maxLocals := 1, code := object_method_1_code, exceptionTable := #[], attributes := #[] }
def k0m0 : Method := { name := "<init>", desc := "()V", sig := { parameters := [], returnType := none }, accessFlags := 1, code := some k0c0 }
def k0m1 : Method := { name := "clone", desc := "()Ljava/lang/Object;", sig := { parameters := [], returnType := some (.object "java/lang/Object") }, accessFlags := 260, code := none }
/-- java/lang/Object -/
def k0 : Class := { plain "java/lang/Object" none with
  accessFlags := 33
  interfaces := #[]
  cf := some (fileOf pool0 8 #[] #[{ accessFlags := 1, nameIndex := 5, descriptorIndex := 6, attributes := #[] }, { accessFlags := 260, nameIndex := 96, descriptorIndex := 97, attributes := #[] }] 33 0 #[] #[])
  fields := #[]
  methods := #[k0m0, k0m1]
  instanceTypes := #[]
  staticTypes := #[]
  resolved := Array.replicate 124 none
  statics := none }

def pool1 : Array CpInfo := pool [(2, .class_ 4), (1, u "java/lang/Object"), (0, u "<init>"), (0, u "()V"), (0, .class_ 8), (0, u "com/example/coppice/coppice/model/Variable"), (0, .string 10), (0, u "x"), (0, .string 12), (0, u "y"), (0, .methodref 7 14), (0, .nameAndType 5 15), (0, u "(Ljava/lang/String;Ljava/lang/String;[I)V"), (0, .methodref 7 17), (0, .nameAndType 18 19), (0, u "contains"), (0, u "(I)Z"), (0, .class_ 21), (0, u "com/example/coppice/coppice/model/VariableContainsPinLaw"), (2, u "law"), (0, u "(IIIII)Z")] 8

def k1m0 : Method := { name := "<init>", desc := "()V", sig := { parameters := [], returnType := none }, accessFlags := 1, code := none }
def k1c1 : Code := { maxStack := 5, maxLocals := 11, code := code, exceptionTable := #[], attributes := #[] }
def k1m1 : Method := { name := "law", desc := "(IIIII)Z", sig := { parameters := [.int, .int, .int, .int, .int], returnType := some .boolean }, accessFlags := 9, code := some k1c1 }
/-- com/example/coppice/coppice/model/VariableContainsPinLaw -/
def k1 : Class := { plain "com/example/coppice/coppice/model/VariableContainsPinLaw" (some 0) with
  accessFlags := 49
  interfaces := #[]
  cf := some (fileOf pool1 20 #[] #[{ accessFlags := 1, nameIndex := 5, descriptorIndex := 6, attributes := #[] }, { accessFlags := 9, nameIndex := 24, descriptorIndex := 25, attributes := #[] }] 49 2 #[] #[])
  fields := #[]
  methods := #[k1m0, k1m1]
  instanceTypes := #[]
  staticTypes := #[]
  resolved := Array.replicate 34 none
  statics := none }

def pool2 : Array CpInfo := pool [(1, .methodref 2 3), (0, .class_ 4), (0, .nameAndType 5 6), (0, u "java/lang/Object"), (0, u "<init>"), (0, u "()V"), (9, .fieldref 17 18), (0, .class_ 19), (0, .nameAndType 20 21), (0, u "com/example/coppice/coppice/model/Variable"), (0, u "name"), (0, u "Ljava/lang/String;"), (0, .fieldref 17 23), (0, .nameAndType 24 21), (0, u "agent"), (0, .methodref 26 27), (0, .class_ 28), (0, .nameAndType 29 30), (0, u "[I"), (0, u "clone"), (0, u "()Ljava/lang/Object;"), (0, .fieldref 17 32), (0, .nameAndType 33 28), (0, u "values"), (0, u "(Ljava/lang/String;Ljava/lang/String;[I)V"), (11, u "contains"), (0, u "(I)Z")] 18

def k2c0 : Code := { maxStack := 3, maxLocals := 4, code := prog_45_method_1_code, exceptionTable := #[], attributes := #[] }
def k2m0 : Method := { name := "<init>", desc := "(Ljava/lang/String;Ljava/lang/String;[I)V", sig := { parameters := [(.object "java/lang/String"), (.object "java/lang/String"), (.array .int)], returnType := none }, accessFlags := 1, code := some k2c0 }
def k2c1 : Code := { maxStack := 2, maxLocals := 6, code := prog_45_method_6_code, exceptionTable := #[], attributes := #[] }
def k2m1 : Method := { name := "contains", desc := "(I)Z", sig := { parameters := [.int], returnType := some .boolean }, accessFlags := 1, code := some k2c1 }
/-- com/example/coppice/coppice/model/Variable -/
def k2 : Class := { plain "com/example/coppice/coppice/model/Variable" (some 0) with
  accessFlags := 49
  interfaces := #[]
  cf := some (fileOf pool2 17 #[] #[{ accessFlags := 1, nameIndex := 5, descriptorIndex := 34, attributes := #[] }, { accessFlags := 1, nameIndex := 46, descriptorIndex := 47, attributes := #[] }] 49 2 #[] #[{ accessFlags := 18, nameIndex := 20, descriptorIndex := 21, attributes := #[] }, { accessFlags := 18, nameIndex := 24, descriptorIndex := 21, attributes := #[] }, { accessFlags := 18, nameIndex := 33, descriptorIndex := 28, attributes := #[] }])
  fields := #[{ name := "name", type := (.object "java/lang/String"), accessFlags := 18, slot := 0, constantValue := 0 }, { name := "agent", type := (.object "java/lang/String"), accessFlags := 18, slot := 1, constantValue := 0 }, { name := "values", type := (.array .int), accessFlags := 18, slot := 2, constantValue := 0 }]
  methods := #[k2m0, k2m1]
  instanceTypes := #[(.object "java/lang/String"), (.object "java/lang/String"), (.array .int)]
  staticTypes := #[]
  resolved := Array.replicate 66 none
  statics := none }

def pool3 : Array CpInfo := pool [(1, .class_ 2), (0, u "java/io/Serializable"), (0, .class_ 4), (0, u "java/lang/Object")] 2

/-- java/io/Serializable -/
def k3 : Class := { plain "java/io/Serializable" (some 0) with
  accessFlags := 1537
  interfaces := #[]
  cf := some (fileOf pool3 1 #[] #[] 1537 3 #[] #[])
  fields := #[]
  methods := #[]
  instanceTypes := #[]
  staticTypes := #[]
  resolved := Array.replicate 7 none
  statics := none }

def pool4 : Array CpInfo := pool [(1, .class_ 2), (0, u "java/lang/Comparable"), (0, .class_ 4), (0, u "java/lang/Object")] 7

/-- java/lang/Comparable -/
def k4 : Class := { plain "java/lang/Comparable" (some 0) with
  accessFlags := 1537
  interfaces := #[]
  cf := some (fileOf pool4 1 #[] #[] 1537 3 #[] #[])
  fields := #[]
  methods := #[]
  instanceTypes := #[]
  staticTypes := #[]
  resolved := Array.replicate 12 none
  statics := none }

def pool5 : Array CpInfo := pool [(2, .class_ 4), (1, u "java/lang/CharSequence"), (42, .class_ 48), (0, u "java/lang/CharSequence$1CodePointIterator"), (10, .class_ 60), (0, u "java/lang/CharSequence$1CharIterator"), (5, .class_ 67), (0, u "java/lang/Object")] 63

/-- java/lang/CharSequence -/
def k5 : Class := { plain "java/lang/CharSequence" (some 0) with
  accessFlags := 1537
  interfaces := #[]
  cf := some (fileOf pool5 2 #[.nestMembers #[47, 59]] #[] 1537 66 #[] #[])
  fields := #[]
  methods := #[]
  instanceTypes := #[]
  staticTypes := #[]
  resolved := Array.replicate 131 none
  statics := none }

def pool6 : Array CpInfo := pool [(1, .class_ 2), (0, u "java/lang/constant/Constable"), (0, .class_ 4), (0, u "java/lang/Object")] 6

/-- java/lang/constant/Constable -/
def k6 : Class := { plain "java/lang/constant/Constable" (some 0) with
  accessFlags := 1537
  interfaces := #[]
  cf := some (fileOf pool6 1 #[] #[] 1537 3 #[] #[])
  fields := #[]
  methods := #[]
  instanceTypes := #[]
  staticTypes := #[]
  resolved := Array.replicate 11 none
  statics := none }

def pool7 : Array CpInfo := pool [(1, .class_ 2), (0, u "java/lang/constant/ConstantDesc"), (0, .class_ 4), (0, u "java/lang/Object")] 32

/-- java/lang/constant/ConstantDesc -/
def k7 : Class := { plain "java/lang/constant/ConstantDesc" (some 0) with
  accessFlags := 1537
  interfaces := #[]
  cf := some (fileOf pool7 1 #[] #[] 1537 3 #[] #[])
  fields := #[]
  methods := #[]
  instanceTypes := #[]
  staticTypes := #[]
  resolved := Array.replicate 37 none
  statics := none }

def pool8 : Array CpInfo := pool [(2, .class_ 4), (1, u "java/lang/Object"), (0, u "<init>"), (0, u "()V"), (3, .class_ 12), (1, u "java/lang/String"), (0, u "value"), (0, u "[B"), (2, u "coder"), (0, u "B"), (2, u "hash"), (0, u "I"), (2, u "hashIsZero"), (0, u "Z"), (13, u "COMPACT_STRINGS"), (534, .class_ 576), (0, u "java/lang/CharSequence"), (22, u "CASE_INSENSITIVE_ORDER"), (0, u "Ljava/util/Comparator;"), (500, u "serialPersistentFields"), (0, u "[Ljava/io/ObjectStreamField;"), (0, .class_ 1104), (0, u "java/lang/String$CaseInsensitiveComparator"), (1, .class_ 1107), (0, u "java/io/Serializable"), (0, .class_ 1109), (0, u "java/lang/Comparable"), (0, .class_ 1111), (0, u "java/lang/constant/Constable"), (0, .class_ 1113), (0, u "java/lang/constant/ConstantDesc"), (2, u "serialVersionUID"), (0, u "J"), (3, u "REPL"), (0, u "C"), (2, u "LATIN1"), (1, u "UTF16")] 323

def k8m0 : Method := { name := "<init>", desc := "()V", sig := { parameters := [], returnType := none }, accessFlags := 1, code := none }
/-- java/lang/String -/
def k8 : Class := { plain "java/lang/String" (some 0) with
  accessFlags := 49
  interfaces := #[3, 4, 5, 6, 7]
  cf := some (fileOf pool8 10 #[.nestMembers #[1103]] #[{ accessFlags := 1, nameIndex := 5, descriptorIndex := 6, attributes := #[] }] 49 2 #[1106, 1108, 575, 1110, 1112] #[{ accessFlags := 18, nameIndex := 13, descriptorIndex := 14, attributes := #[] }, { accessFlags := 18, nameIndex := 17, descriptorIndex := 18, attributes := #[] }, { accessFlags := 2, nameIndex := 21, descriptorIndex := 22, attributes := #[] }, { accessFlags := 2, nameIndex := 25, descriptorIndex := 26, attributes := #[] }, { accessFlags := 26, nameIndex := 1116, descriptorIndex := 1117, attributes := #[] }, { accessFlags := 24, nameIndex := 40, descriptorIndex := 26, attributes := #[] }, { accessFlags := 26, nameIndex := 1101, descriptorIndex := 1102, attributes := #[] }, { accessFlags := 26, nameIndex := 1121, descriptorIndex := 1122, attributes := #[] }, { accessFlags := 25, nameIndex := 599, descriptorIndex := 600, attributes := #[] }, { accessFlags := 24, nameIndex := 1125, descriptorIndex := 18, attributes := #[] }, { accessFlags := 24, nameIndex := 1127, descriptorIndex := 18, attributes := #[] }])
  fields := #[{ name := "value", type := (.array .byte), accessFlags := 18, slot := 0, constantValue := 0 }, { name := "coder", type := .byte, accessFlags := 18, slot := 1, constantValue := 0 }, { name := "hash", type := .int, accessFlags := 2, slot := 2, constantValue := 0 }, { name := "hashIsZero", type := .boolean, accessFlags := 2, slot := 3, constantValue := 0 }, { name := "serialVersionUID", type := .long, accessFlags := 26, slot := 0, constantValue := 0 }, { name := "COMPACT_STRINGS", type := .boolean, accessFlags := 24, slot := 1, constantValue := 0 }, { name := "serialPersistentFields", type := (.array (.object "java/io/ObjectStreamField")), accessFlags := 26, slot := 2, constantValue := 0 }, { name := "REPL", type := .char, accessFlags := 26, slot := 3, constantValue := 0 }, { name := "CASE_INSENSITIVE_ORDER", type := (.object "java/util/Comparator"), accessFlags := 25, slot := 4, constantValue := 0 }, { name := "LATIN1", type := .byte, accessFlags := 24, slot := 5, constantValue := 0 }, { name := "UTF16", type := .byte, accessFlags := 24, slot := 6, constantValue := 0 }]
  methods := #[k8m0]
  instanceTypes := #[(.array .byte), .byte, .int, .boolean]
  staticTypes := #[.long, .boolean, (.array (.object "java/io/ObjectStreamField")), .char, (.object "java/util/Comparator"), .byte, .byte]
  resolved := Array.replicate 1451 none
  statics := none }

def pool9 : Array CpInfo := pool [(1, .class_ 2), (0, u "java/lang/Cloneable"), (0, .class_ 4), (0, u "java/lang/Object")] 2

/-- java/lang/Cloneable -/
def k9 : Class := { plain "java/lang/Cloneable" (some 0) with
  accessFlags := 1537
  interfaces := #[]
  cf := some (fileOf pool9 1 #[] #[] 1537 3 #[] #[])
  fields := #[]
  methods := #[]
  instanceTypes := #[]
  staticTypes := #[]
  resolved := Array.replicate 7 none
  statics := none }

/-- the primitive byte -/
def k10 : Class := { plain "byte" none with kind := .primitive 'B', accessFlags := 0x411 }
/-- [B -/
def k11 : Class := { plain "[B" (some 0) with kind := .array 10 .byte, interfaces := #[9, 3], accessFlags := 1041 }

/-- the primitive int -/
def k12 : Class := { plain "int" none with kind := .primitive 'I', accessFlags := 0x411 }
/-- [I -/
def k13 : Class := { plain "[I" (some 0) with kind := .array 12 .int, interfaces := #[9, 3], accessFlags := 1041 }

def heap : Heap := #[]
def classes : Array Class := #[k0, k1, k2, k3, k4, k5, k6, k7, k8, k9, k10, k11, k12, k13]
def interned : List (Array UInt16 × Addr) := []
def slotsUsed : Nat := 0
def theMethod : MethodId := ⟨1, 1⟩
def args0 : Array Value := #[.int 4, .int 77, .int 5, .int 6, .int 2]
def aboutOver (below : List Frame) : State where
  vm := { classes := classes, interned := interned.toArray }
  heap := heap
  slotsUsed := slotsUsed
  threads := #[{ frames := .invoking theMethod args0 :: below }]
def below0 : List Frame := [.native { method := ⟨0, 0⟩, args := #[] }]
def about1 : State := aboutOver below0
def p0 : Program := .bare "" "" ""
def e0 : Env := launch0.env 0 0 0
theorem w_frames : about1.frames = Frame.invoking theMethod args0 :: below0 := rfl
set_option maxRecDepth 65536 in
theorem w_args : argsFit about1.vm theMethod args0 = true := by decide +kernel
set_option maxRecDepth 65536 in
theorem w_heap : heapFits about1 = true := by decide +kernel
set_option maxRecDepth 65536 in
theorem w_runnable : about1.curStatus? = some .runnable := by decide +kernel
set_option maxRecDepth 65536 in
theorem w_alone : about1.alone = true := by decide +kernel
set_option maxRecDepth 65536 in
theorem w_named : about1.methodNamed? x = some theMethod := by decide +kernel
set_option maxRecDepth 65536 in
theorem w_hears : about1.hears theMethod below0 = true := by decide +kernel
set_option maxRecDepth 65536 in
theorem w_ripe : about1.ripe theMethod args0 below0 = true := by decide +kernel
theorem w_running : about1.status = .running := rfl
set_option maxRecDepth 65536 in
theorem w_room : about1.hasRoom e0.platform room_1 = true :=
  launch0.hasRoom_least _ room_1 (by decide +kernel) (by decide +kernel) (by decide +kernel) (by decide +kernel) (by decide +kernel) (by decide +kernel)
theorem allAtoms_all (ts : List Jvm.Cond) (a : Array Jvm.Value) (st : Jvm.State) : (allAtoms ts).before a st = ts.all (fun c => c.before a st) := by
  induction ts with
  | nil => rfl
  | cons c t ih =>
    show (Jvm.Cond.and c (allAtoms t)).before a st = _
    rw [Jvm.Cond.before_and, ih, List.all_cons]
def words1 : List Jvm.Cond := Jvm.Cond.code x code maxLocals ret :: tables_1
/-- a 'code' word, met by the world's own term for the bytes: nothing is compared byte by byte -/
theorem code_word {y : MethodName} {bytes : ByteArray} {mx : Nat} {rt : Option FieldType} {a : Array Value} {s : State} {m : MethodId} {meth : Method} {c : Code} (h1 : s.methodNamed? y = some m) (h2 : s.vm.method? m = some meth) (h3 : meth.code = some c) (h4 : c.code = bytes)
    (h5 : (c.maxLocals == mx && c.exceptionTable.isEmpty && decide (c.maxStack ≤ mostOperands) && decide (meth.sig.returnType = rt) && !meth.locks && decide (parseMethodDescriptor y.desc = some meth.sig)) = true) : (Jvm.Cond.code y bytes mx rt).before a s = true := by
  simp only [Bool.and_eq_true, beq_iff_eq, Bool.not_eq_true', decide_eq_true_eq] at h5
  obtain ⟨⟨⟨⟨⟨g1, g2⟩, g3⟩, g4⟩, g5⟩, g6⟩ := h5
  simp [Cond.before, Cond.holds, Cond.value, h1, h2, h3, h4, g1, g2, g3, g4, g5, g6]
def isCode : Jvm.Cond → Bool
  | .code _ _ _ _ => true
  | _ => false
theorem all_split {L : List Jvm.Cond} {P : Jvm.Cond → Bool} (h1 : L.all (fun c => isCode c || P c) = true) (h2 : ∀ c ∈ L.filter isCode, P c = true) : L.all P = true := by
  refine List.all_eq_true.mpr fun c hc => ?_
  have h := List.all_eq_true.mp h1 c hc
  rcases Bool.eq_false_or_eq_true (isCode c) with hi | hi
  · exact h2 c (List.mem_filter.mpr ⟨hc, hi⟩)
  · simpa [hi] using h
set_option maxRecDepth 65536 in
theorem w_c0 : (Jvm.Cond.code x code maxLocals ret).before args0 about1 = true := code_word (m := ⟨1, 1⟩) (meth := k1m1) (c := k1c1) (by decide +kernel) rfl rfl rfl (by decide +kernel)
set_option maxRecDepth 65536 in
theorem w_c1 : (Jvm.Cond.code ({ cls := "com/example/coppice/coppice/model/Variable", name := "<init>", desc := "(Ljava/lang/String;Ljava/lang/String;[I)V" } : Jvm.MethodName) prog_45_method_1_code (4 : Nat) (Option.none : Option Jvm.ClassFile.FieldType)).before args0 about1 = true := code_word (m := ⟨2, 0⟩) (meth := k2m0) (c := k2c0) (by decide +kernel) rfl rfl rfl (by decide +kernel)
set_option maxRecDepth 65536 in
theorem w_c2 : (Jvm.Cond.code ({ cls := "java/lang/Object", name := "<init>", desc := "()V" } : Jvm.MethodName) object_method_1_code (1 : Nat) (Option.none : Option Jvm.ClassFile.FieldType)).before args0 about1 = true := code_word (m := ⟨0, 0⟩) (meth := k0m0) (c := k0c0) (by decide +kernel) rfl rfl rfl (by decide +kernel)
set_option maxRecDepth 65536 in
theorem w_c3 : (Jvm.Cond.code ({ cls := "com/example/coppice/coppice/model/Variable", name := "contains", desc := "(I)Z" } : Jvm.MethodName) prog_45_method_6_code (6 : Nat) (Option.some Jvm.ClassFile.FieldType.boolean)).before args0 about1 = true := code_word (m := ⟨2, 1⟩) (meth := k2m1) (c := k2c1) (by decide +kernel) rfl rfl rfl (by decide +kernel)
def codes1 : List Jvm.Cond := [Jvm.Cond.code x code maxLocals ret, Jvm.Cond.code ({ cls := "com/example/coppice/coppice/model/Variable", name := "<init>", desc := "(Ljava/lang/String;Ljava/lang/String;[I)V" } : Jvm.MethodName) prog_45_method_1_code (4 : Nat) (Option.none : Option Jvm.ClassFile.FieldType), Jvm.Cond.code ({ cls := "java/lang/Object", name := "<init>", desc := "()V" } : Jvm.MethodName) object_method_1_code (1 : Nat) (Option.none : Option Jvm.ClassFile.FieldType), Jvm.Cond.code ({ cls := "com/example/coppice/coppice/model/Variable", name := "contains", desc := "(I)Z" } : Jvm.MethodName) prog_45_method_6_code (6 : Nat) (Option.some Jvm.ClassFile.FieldType.boolean)]
set_option maxRecDepth 65536 in
theorem codes_eq : words1.filter isCode = codes1 := rfl
theorem w_codes : ∀ c ∈ words1.filter isCode, c.before args0 about1 = true := by
  rw [codes_eq]
  intro c hc
  simp only [codes1, List.mem_cons, List.not_mem_nil, or_false] at hc
  rcases hc with rfl | rfl | rfl | rfl
  · exact w_c0
  · exact w_c1
  · exact w_c2
  · exact w_c3
set_option maxRecDepth 65536 in
theorem w_t1 : (words1.take 24).all (fun c => isCode c || c.before args0 about1) = true := by decide +kernel
set_option maxRecDepth 65536 in
theorem w_t2 : (words1.drop 24).all (fun c => isCode c || c.before args0 about1) = true := by decide +kernel
theorem w_tables : (allAtoms (Jvm.Cond.code x code maxLocals ret :: tables_1)).before args0 about1 = true := by
  rw [allAtoms_all]
  show words1.all (fun c => c.before args0 about1) = true
  refine all_split ?_ w_codes
  rw [← List.take_append_drop 24 words1, List.all_append, w_t1, w_t2]
  rfl
set_option maxRecDepth 65536 in
theorem w_case : (Jvm.Cond.and given_1 narrow_1).before args0 about1 = true := by decide +kernel
theorem w_applies : (headSpec (Jvm.Cond.code x code maxLocals ret :: tables_1) room_1).applies x e0.platform about1 = true :=
  (Spec.applies_iff w_frames).mpr ⟨w_running, w_runnable, w_alone, w_named, w_hears, w_ripe, w_room, w_tables⟩
theorem atStart : AtStart classFile x code maxLocals ret World_1 tables_1 room_1 Calls_1 rest_1 Pre_1 launch0 p0 e0 about1 theMethod args0 below0 :=
  ⟨lists_1, trivial, launch0.admits_env _ _ _, launch0.least_env, fairChoices_fair.cas, fairChoices_fair.clock, w_frames, w_args, w_heap, w_applies, trivial, trivial, w_case⟩
end start1
theorem witness_1 : WitnessClaimed_1 := ⟨start1.p0, start1.e0, start1.about1, start1.theMethod, start1.args0, start1.below0, start1.atStart⟩
end Jvm.Pilot.@@N@@
