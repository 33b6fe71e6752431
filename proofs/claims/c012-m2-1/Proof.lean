import JvmDerived
import JvmDerived.Pilot.@@N@@Statement
import JvmDerived.Pilot.@@N@@Code
set_option linter.unusedVariables false
set_option linter.unusedSimpArgs false
namespace Jvm.Pilot.@@N@@
open Jvm Jvm.ClassFile Sem Op Lib Jvm.Free Jvm.Stand Jvm.LawKit Jvm.RoadKit Bundle Jvm.Pilot.@@N@@.Jvm.D
theorem own_ord {args : Array Value} {s : State} {t : Term} {x : Addr} {C n d : String} {k : Int32} (ev : t.eval args s none [] s = some (.ref x)) (h : (Jvm.Cond.eq (.field t C n d) (.int k)).value args s none s [] = some true) : s.fieldOf? x C n d = some (.int k) := by
  cases hf : s.fieldOf? x C n d with
  | none => simp [Cond.value, fld_at ev, hf, Term.int_eval] at h
  | some v => cases v <;> simp [Cond.value, fld_at ev, hf, Term.int_eval] at h ⊢; exact h
def own_W (Z : State) (h : Heap) (wEQUAL wBELOW wABOVE : Addr) : Prop := Sta Z h "com/example/true_witness/truewitness/datatypes/Order$Relation" "EQUAL" "Lcom/example/true_witness/truewitness/datatypes/Order$Relation;" (.ref wEQUAL) ∧ Sta Z h "com/example/true_witness/truewitness/datatypes/Order$Relation" "BELOW" "Lcom/example/true_witness/truewitness/datatypes/Order$Relation;" (.ref wBELOW) ∧ Sta Z h "com/example/true_witness/truewitness/datatypes/Order$Relation" "ABOVE" "Lcom/example/true_witness/truewitness/datatypes/Order$Relation;" (.ref wABOVE) ∧ Exa Z h wEQUAL "com/example/true_witness/truewitness/datatypes/Order$Relation" ∧ Exa Z h wBELOW "com/example/true_witness/truewitness/datatypes/Order$Relation" ∧ Exa Z h wABOVE "com/example/true_witness/truewitness/datatypes/Order$Relation" ∧ wEQUAL ≠ wBELOW ∧ wEQUAL ≠ wABOVE ∧ wBELOW ≠ wABOVE
set_option maxRecDepth 65536 in
theorem own_world {args : Array Value} {s : State} (hw : ∀ d ∈ tables_1, d.before args s = true) (hn : narrow_1.value args s none s [] = some true) : ∃ wEQUAL wBELOW wABOVE : Addr, own_W s s.heap wEQUAL wBELOW wABOVE := by
  obtain ⟨n0, m0⟩ := and_e hn
  obtain ⟨n1, m1⟩ := and_e m0
  obtain ⟨n2, m2⟩ := and_e m1
  obtain ⟨n3, m3⟩ := and_e m2
  obtain ⟨n4, m4⟩ := and_e m3
  obtain ⟨wEQUAL, ev_EQUAL⟩ := exa_v n0
  have S_EQUAL := Sta.start ev_EQUAL (Or.inr ⟨(hw _ (List.mem_of_getElem? (i := 6) rfl)), (hw _ (List.mem_of_getElem? (i := 9) rfl))⟩)
  have E_EQUAL := Exa.start ev_EQUAL n0
  have f_EQUAL := own_ord ev_EQUAL n2
  obtain ⟨wBELOW, ev_BELOW⟩ := exa_v n1
  have S_BELOW := Sta.start ev_BELOW (Or.inr ⟨(hw _ (List.mem_of_getElem? (i := 6) rfl)), (hw _ (List.mem_of_getElem? (i := 11) rfl))⟩)
  have E_BELOW := Exa.start ev_BELOW n1
  have f_BELOW := own_ord ev_BELOW n3
  obtain ⟨wABOVE, ev_ABOVE⟩ := exa_v n4
  have S_ABOVE := Sta.start ev_ABOVE (Or.inr ⟨(hw _ (List.mem_of_getElem? (i := 6) rfl)), (hw _ (List.mem_of_getElem? (i := 14) rfl))⟩)
  have E_ABOVE := Exa.start ev_ABOVE n4
  have f_ABOVE := own_ord ev_ABOVE m4
  have n_EQUAL_BELOW : wEQUAL ≠ wBELOW := fun e => by rw [e, f_BELOW] at f_EQUAL; exact absurd f_EQUAL (by decide)
  have n_EQUAL_ABOVE : wEQUAL ≠ wABOVE := fun e => by rw [e, f_ABOVE] at f_EQUAL; exact absurd f_EQUAL (by decide)
  have n_BELOW_ABOVE : wBELOW ≠ wABOVE := fun e => by rw [e, f_ABOVE] at f_BELOW; exact absurd f_BELOW (by decide)
  exact ⟨wEQUAL, wBELOW, wABOVE, S_EQUAL, S_BELOW, S_ABOVE, E_EQUAL, E_BELOW, E_ABOVE, n_EQUAL_BELOW, n_EQUAL_ABOVE, n_BELOW_ABOVE⟩
theorem own_a {p : Int32} (h : p < 0) : ¬ p = 0 := fun e => by subst e; exact absurd h (by decide)
theorem own_b {p : Int32} (h : p < 0) : ¬ 0 < p := fun e => by rw [Int32.lt_iff_toInt_lt] at h e; omega
theorem own_c {p : Int32} (h : p = 0) : ¬ 0 < p := fun e => by subst h; exact absurd e (by decide)
theorem own_d {p : Int32} (h : ¬ p < 0) (h' : ¬ p = 0) : 0 < p := by
  rw [Int32.lt_iff_toInt_lt] at h ⊢; rw [← Int32.toInt_inj] at h'
  have : (0 : Int32).toInt = 0 := rfl
  omega
theorem d2_0 : decode prog_121_method_4_code 0 = .ok (.iload_n 0, 1) := by decide +kernel
theorem d2_1 : decode prog_121_method_4_code 1 = .ok (.ifCond .ge 10, 3) := by decide +kernel
theorem d2_4 : decode prog_121_method_4_code 4 = .ok (.getstatic 3, 3) := by decide +kernel
theorem d2_7 : decode prog_121_method_4_code 7 = .ok (.astore_n 1, 1) := by decide +kernel
theorem d2_8 : decode prog_121_method_4_code 8 = .ok (.goto 18, 3) := by decide +kernel
theorem d2_11 : decode prog_121_method_4_code 11 = .ok (.iload_n 0, 1) := by decide +kernel
theorem d2_12 : decode prog_121_method_4_code 12 = .ok (.ifCond .ne 10, 3) := by decide +kernel
theorem d2_15 : decode prog_121_method_4_code 15 = .ok (.getstatic 7, 3) := by decide +kernel
theorem d2_18 : decode prog_121_method_4_code 18 = .ok (.astore_n 1, 1) := by decide +kernel
theorem d2_19 : decode prog_121_method_4_code 19 = .ok (.goto 7, 3) := by decide +kernel
theorem d2_22 : decode prog_121_method_4_code 22 = .ok (.getstatic 10, 3) := by decide +kernel
theorem d2_25 : decode prog_121_method_4_code 25 = .ok (.astore_n 1, 1) := by decide +kernel
theorem d2_26 : decode prog_121_method_4_code 26 = .ok (.aload_n 1, 1) := by decide +kernel
theorem d2_27 : decode prog_121_method_4_code 27 = .ok (.areturn, 1) := by decide +kernel
theorem pn_2 : plainName "com/example/true_witness/truewitness/datatypes/Order$Relation" = true := by first | (simp [plainName, overriddenIn]; done) | decide +kernel
theorem ef_2 (m : MethodId) (p0 : Int32) : entryFrame m #[(.int p0)] 2 = mkF m 0 #[.val (.int p0), .unset] [] := by first | (simp [entryFrame, mkF, argsToLocals, Value.category]; done) | rfl
def F2 (p0 : Int32) (wEQUAL : Addr) (wBELOW : Addr) (wABOVE : Addr) : Addr := (if p0 < (0 : Int32) then wBELOW else (if p0 = (0 : Int32) then wEQUAL else wABOVE))
def Q2 (Z : State) (p0 : Int32) (wEQUAL : Addr) (wBELOW : Addr) (wABOVE : Addr) (h0 : Heap) (n0 : Nat) (v : Option Value) (h : Heap) (L : List Loc) : Prop := v = some (.ref (F2 p0 wEQUAL wBELOW wABOVE)) ∧ Fr n0 L ∧ h = h0
set_option maxRecDepth 65536 in
set_option maxHeartbeats 40000000 in
theorem rm2 (l : Launch) (Z : State) (a0 : Array Value) (hw : ∀ d ∈ tables_1, d.before a0 Z = true) (ws : List Jvm.Cond) (p0 : Int32) (wEQUAL : Addr) (wBELOW : Addr) (wABOVE : Addr) (h0 : Heap) (n0 : Nat) (Z0 : n0 ≤ h0.size) (W : own_W Z h0 wEQUAL wBELOW wABOVE) :
    MetFree l (⟨"com/example/true_witness/truewitness/datatypes/Order$Relation", "of", "(I)Lcom/example/true_witness/truewitness/datatypes/Order$Relation;"⟩ : MethodName) (head1 (Jvm.Cond.code (⟨"com/example/true_witness/truewitness/datatypes/Order$Relation", "of", "(I)Lcom/example/true_witness/truewitness/datatypes/Order$Relation;"⟩ : MethodName) prog_121_method_4_code 2 (some (.object "com/example/true_witness/truewitness/datatypes/Order$Relation")) :: ws) ({ frames := 0, cells := 0, slots := 0, locals := 0 } : Room)) (fun a U => a = #[(.int p0)] ∧ Z.Warmed39 U.vm ∧ U.heap = h0) (fun _ _ _ _ _ => True) (fun _ U o U' => ∃ v L, o = .returned v ∧ Q2 Z p0 wEQUAL wBELOW wABOVE h0 n0 v U'.heap L ∧ FrameEnd U o U' L ({ frames := 0, cells := 0, slots := 0, locals := 0 } : Room).cells ({ frames := 0, cells := 0, slots := 0, locals := 0 } : Room).slots) := by
  refine MetFree.of_bodySF (plainFor_of_name pn_2) hisR ?_
  intro p e s m args below meth c s₁ Bd hml0 hP hK
  obtain ⟨rfl, hZ, hh⟩ := hP
  have hx := Bd.exec
  have hby := Bd.bytes
  have hml : c.maxLocals = 2 := hml0
  have hown : s.vm.findClass "com/example/true_witness/truewitness/datatypes/Order$Relation" = some m.cls := findClass_of_methodNamed Bd.named
  have X0 : Stand p l e ({ frames := 0, cells := 0, slots := 0, locals := 0 } : Room) s m #[(.int p0)] below meth c s₁ [] 0 0 := Stand.of_body Bd
  have e0 : s₁.heap = h0 := by rw [← hh, Bd.state]; rfl
  have N0 := Fr.nil n0
  have pre0 : ∀ t, Steps p.tables e below (s₁.setTop (mkF m 0 #[.val (.int p0), .unset] [])) t → Steps p.tables e below (s₁.setTop (entryFrame m #[(.int p0)] 2)) t := fun t k => castTop (ef_2 m p0) k
  have W0 := W
  obtain ⟨S_EQUAL, S_BELOW, S_ABOVE, E_EQUAL, E_BELOW, E_ABOVE, n_EQUAL_BELOW, n_EQUAL_ABOVE, n_BELOW_ABOVE⟩ := W0
  by_cases c1 : p0 < (0 : Int32)
  · obtain ⟨T2, X2, e2, st2⟩ := getS2 X0 hx hZ hown (host := "") (Or.inl (hw _ (List.mem_of_getElem? (i := 16) rfl))) Via.refl e0 S_BELOW (g := (mkF m 4 #[.val (.int p0), .unset] [])) rfl (hb hby d2_4)
    obtain ⟨fs, hr, hrun, hended, hW, hsame⟩ := X2.leave (v := some (.ref wBELOW)) (fun h => by rw [Bd.returns] at h; cases h)
    refine ⟨_, _, pre0 _ ?_, hrun, hended, _, _, rfl, ?_, ⟨_, rfl⟩, hW, hsame.mono (by decide) (by decide)⟩
    · show Steps p.tables e below (s₁.setTop (mkF m 0 #[.val (.int p0), .unset] [])) _
      refine XS.iloadN X0.here hx rfl (hb hby d2_0) rfl ?_
      show Steps p.tables e below (s₁.setTop (mkF m 1 #[.val (.int p0), .unset] [(.int p0)])) _
      refine XS.ifNo X0.here hx rfl (hb hby d2_1) rfl ((if0 _ _).trans (tlt c1).2.1) ?_
      show Steps p.tables e below (s₁.setTop (mkF m 4 #[.val (.int p0), .unset] [])) _
      refine st2 _ ?_
      show Steps p.tables e below (T2.setTop (mkF m 7 #[.val (.int p0), .unset] [(.ref wBELOW)])) _
      refine XS.astoreN X2.here hx rfl (hb hby d2_7) rfl rfl (l' := #[.val (.int p0), .val (.ref wBELOW)]) rfl ?_
      show Steps p.tables e below (T2.setTop (mkF m 8 #[.val (.int p0), .val (.ref wBELOW)] [])) _
      refine XS.goto X2.here hx rfl (pc0 := 8) (pc' := 26) rfl (hb hby d2_8) (by decide) (by decide) ?_
      show Steps p.tables e below (T2.setTop (mkF m 26 #[.val (.int p0), .val (.ref wBELOW)] [])) _
      refine XS.aloadN X2.here hx rfl (hb hby d2_26) rfl rfl ?_
      show Steps p.tables e below (T2.setTop (mkF m 27 #[.val (.int p0), .val (.ref wBELOW)] [(.ref wBELOW)])) _
      exact retOut X2 hx Bd.returns rfl (Or.inr (Or.inr (Or.inr (Or.inr ⟨rfl, rfl, rfl⟩)))) (hb hby d2_27) hr
    · show Q2 Z p0 wEQUAL wBELOW wABOVE h0 n0 _ T2.heap _
      rw [e2]
      exact ⟨(congrArg (fun z => some (Value.ref z)) ((if_pos c1).trans rfl).symm), N0, rfl⟩
  · by_cases c4 : p0 = (0 : Int32)
    · obtain ⟨T5, X5, e5, st5⟩ := getS2 X0 hx hZ hown (host := "") (Or.inl (hw _ (List.mem_of_getElem? (i := 8) rfl))) Via.refl e0 S_EQUAL (g := (mkF m 15 #[.val (.int p0), .unset] [])) rfl (hb hby d2_15)
      obtain ⟨fs, hr, hrun, hended, hW, hsame⟩ := X5.leave (v := some (.ref wEQUAL)) (fun h => by rw [Bd.returns] at h; cases h)
      refine ⟨_, _, pre0 _ ?_, hrun, hended, _, _, rfl, ?_, ⟨_, rfl⟩, hW, hsame.mono (by decide) (by decide)⟩
      · show Steps p.tables e below (s₁.setTop (mkF m 0 #[.val (.int p0), .unset] [])) _
        refine XS.iloadN X0.here hx rfl (hb hby d2_0) rfl ?_
        show Steps p.tables e below (s₁.setTop (mkF m 1 #[.val (.int p0), .unset] [(.int p0)])) _
        refine XS.ifYes X0.here hx rfl (pc0 := 1) (pc' := 11) rfl (hb hby d2_1) rfl ((if0 _ _).trans (flt c1).2.1) (by decide) (by decide) ?_
        show Steps p.tables e below (s₁.setTop (mkF m 11 #[.val (.int p0), .unset] [])) _
        refine XS.iloadN X0.here hx rfl (hb hby d2_11) rfl ?_
        show Steps p.tables e below (s₁.setTop (mkF m 12 #[.val (.int p0), .unset] [(.int p0)])) _
        refine XS.ifNo X0.here hx rfl (hb hby d2_12) rfl ((if0 _ _).trans (teq c4).2) ?_
        show Steps p.tables e below (s₁.setTop (mkF m 15 #[.val (.int p0), .unset] [])) _
        refine st5 _ ?_
        show Steps p.tables e below (T5.setTop (mkF m 18 #[.val (.int p0), .unset] [(.ref wEQUAL)])) _
        refine XS.astoreN X5.here hx rfl (hb hby d2_18) rfl rfl (l' := #[.val (.int p0), .val (.ref wEQUAL)]) rfl ?_
        show Steps p.tables e below (T5.setTop (mkF m 19 #[.val (.int p0), .val (.ref wEQUAL)] [])) _
        refine XS.goto X5.here hx rfl (pc0 := 19) (pc' := 26) rfl (hb hby d2_19) (by decide) (by decide) ?_
        show Steps p.tables e below (T5.setTop (mkF m 26 #[.val (.int p0), .val (.ref wEQUAL)] [])) _
        refine XS.aloadN X5.here hx rfl (hb hby d2_26) rfl rfl ?_
        show Steps p.tables e below (T5.setTop (mkF m 27 #[.val (.int p0), .val (.ref wEQUAL)] [(.ref wEQUAL)])) _
        exact retOut X5 hx Bd.returns rfl (Or.inr (Or.inr (Or.inr (Or.inr ⟨rfl, rfl, rfl⟩)))) (hb hby d2_27) hr
      · show Q2 Z p0 wEQUAL wBELOW wABOVE h0 n0 _ T5.heap _
        rw [e5]
        exact ⟨(congrArg (fun z => some (Value.ref z)) ((if_neg c1).trans ((if_pos c4).trans rfl)).symm), N0, rfl⟩
    · obtain ⟨T7, X7, e7, st7⟩ := getS2 X0 hx hZ hown (host := "") (Or.inl (hw _ (List.mem_of_getElem? (i := 15) rfl))) Via.refl e0 S_ABOVE (g := (mkF m 22 #[.val (.int p0), .unset] [])) rfl (hb hby d2_22)
      obtain ⟨fs, hr, hrun, hended, hW, hsame⟩ := X7.leave (v := some (.ref wABOVE)) (fun h => by rw [Bd.returns] at h; cases h)
      refine ⟨_, _, pre0 _ ?_, hrun, hended, _, _, rfl, ?_, ⟨_, rfl⟩, hW, hsame.mono (by decide) (by decide)⟩
      · show Steps p.tables e below (s₁.setTop (mkF m 0 #[.val (.int p0), .unset] [])) _
        refine XS.iloadN X0.here hx rfl (hb hby d2_0) rfl ?_
        show Steps p.tables e below (s₁.setTop (mkF m 1 #[.val (.int p0), .unset] [(.int p0)])) _
        refine XS.ifYes X0.here hx rfl (pc0 := 1) (pc' := 11) rfl (hb hby d2_1) rfl ((if0 _ _).trans (flt c1).2.1) (by decide) (by decide) ?_
        show Steps p.tables e below (s₁.setTop (mkF m 11 #[.val (.int p0), .unset] [])) _
        refine XS.iloadN X0.here hx rfl (hb hby d2_11) rfl ?_
        show Steps p.tables e below (s₁.setTop (mkF m 12 #[.val (.int p0), .unset] [(.int p0)])) _
        refine XS.ifYes X0.here hx rfl (pc0 := 12) (pc' := 22) rfl (hb hby d2_12) rfl ((if0 _ _).trans (feq c4).2) (by decide) (by decide) ?_
        show Steps p.tables e below (s₁.setTop (mkF m 22 #[.val (.int p0), .unset] [])) _
        refine st7 _ ?_
        show Steps p.tables e below (T7.setTop (mkF m 25 #[.val (.int p0), .unset] [(.ref wABOVE)])) _
        refine XS.astoreN X7.here hx rfl (hb hby d2_25) rfl rfl (l' := #[.val (.int p0), .val (.ref wABOVE)]) rfl ?_
        show Steps p.tables e below (T7.setTop (mkF m 26 #[.val (.int p0), .val (.ref wABOVE)] [])) _
        refine XS.aloadN X7.here hx rfl (hb hby d2_26) rfl rfl ?_
        show Steps p.tables e below (T7.setTop (mkF m 27 #[.val (.int p0), .val (.ref wABOVE)] [(.ref wABOVE)])) _
        exact retOut X7 hx Bd.returns rfl (Or.inr (Or.inr (Or.inr (Or.inr ⟨rfl, rfl, rfl⟩)))) (hb hby d2_27) hr
      · show Q2 Z p0 wEQUAL wBELOW wABOVE h0 n0 _ T7.heap _
        rw [e7]
        exact ⟨(congrArg (fun z => some (Value.ref z)) ((if_neg c1).trans ((if_neg c4).trans rfl)).symm), N0, rfl⟩
theorem pd_0 : parseMethodDescriptor "(I)Lcom/example/true_witness/truewitness/datatypes/Order$Relation;" = some ⟨[.int], some (.object "com/example/true_witness/truewitness/datatypes/Order$Relation")⟩ := by decide +kernel
theorem d1_0 : decode method_3_code 0 = .ok (.iload_n 0, 1) := by decide +kernel
theorem d1_1 : decode method_3_code 1 = .ok (.invokestatic 13, 3) := by decide +kernel
theorem d1_4 : decode method_3_code 4 = .ok (.astore_n 1, 1) := by decide +kernel
theorem d1_5 : decode method_3_code 5 = .ok (.aload_n 1, 1) := by decide +kernel
theorem d1_6 : decode method_3_code 6 = .ok (.getstatic 19, 3) := by decide +kernel
theorem d1_9 : decode method_3_code 9 = .ok (.if_acmp .ne 7, 3) := by decide +kernel
theorem d1_12 : decode method_3_code 12 = .ok (.iconst 1, 1) := by decide +kernel
theorem d1_13 : decode method_3_code 13 = .ok (.goto 4, 3) := by decide +kernel
theorem d1_16 : decode method_3_code 16 = .ok (.iconst 0, 1) := by decide +kernel
theorem d1_17 : decode method_3_code 17 = .ok (.istore_n 2, 1) := by decide +kernel
theorem d1_18 : decode method_3_code 18 = .ok (.aload_n 1, 1) := by decide +kernel
theorem d1_19 : decode method_3_code 19 = .ok (.getstatic 23, 3) := by decide +kernel
theorem d1_22 : decode method_3_code 22 = .ok (.if_acmp .ne 7, 3) := by decide +kernel
theorem d1_25 : decode method_3_code 25 = .ok (.iconst 1, 1) := by decide +kernel
theorem d1_26 : decode method_3_code 26 = .ok (.goto 4, 3) := by decide +kernel
theorem d1_29 : decode method_3_code 29 = .ok (.iconst 0, 1) := by decide +kernel
theorem d1_30 : decode method_3_code 30 = .ok (.istore_n 3, 1) := by decide +kernel
theorem d1_31 : decode method_3_code 31 = .ok (.aload_n 1, 1) := by decide +kernel
theorem d1_32 : decode method_3_code 32 = .ok (.getstatic 26, 3) := by decide +kernel
theorem d1_35 : decode method_3_code 35 = .ok (.if_acmp .ne 7, 3) := by decide +kernel
theorem d1_38 : decode method_3_code 38 = .ok (.iconst 1, 1) := by decide +kernel
theorem d1_39 : decode method_3_code 39 = .ok (.goto 4, 3) := by decide +kernel
theorem d1_42 : decode method_3_code 42 = .ok (.iconst 0, 1) := by decide +kernel
theorem d1_43 : decode method_3_code 43 = .ok (.istore 4, 2) := by decide +kernel
theorem d1_45 : decode method_3_code 45 = .ok (.iload_n 2, 1) := by decide +kernel
theorem d1_46 : decode method_3_code 46 = .ok (.iload_n 0, 1) := by decide +kernel
theorem d1_47 : decode method_3_code 47 = .ok (.ifCond .ge 7, 3) := by decide +kernel
theorem d1_50 : decode method_3_code 50 = .ok (.iconst 1, 1) := by decide +kernel
theorem d1_51 : decode method_3_code 51 = .ok (.goto 4, 3) := by decide +kernel
theorem d1_54 : decode method_3_code 54 = .ok (.iconst 0, 1) := by decide +kernel
theorem d1_55 : decode method_3_code 55 = .ok (.if_icmp .ne 34, 3) := by decide +kernel
theorem d1_58 : decode method_3_code 58 = .ok (.iload_n 3, 1) := by decide +kernel
theorem d1_59 : decode method_3_code 59 = .ok (.iload_n 0, 1) := by decide +kernel
theorem d1_60 : decode method_3_code 60 = .ok (.ifCond .ne 7, 3) := by decide +kernel
theorem d1_63 : decode method_3_code 63 = .ok (.iconst 1, 1) := by decide +kernel
theorem d1_64 : decode method_3_code 64 = .ok (.goto 4, 3) := by decide +kernel
theorem d1_67 : decode method_3_code 67 = .ok (.iconst 0, 1) := by decide +kernel
theorem d1_68 : decode method_3_code 68 = .ok (.if_icmp .ne 21, 3) := by decide +kernel
theorem d1_71 : decode method_3_code 71 = .ok (.iload 4, 2) := by decide +kernel
theorem d1_73 : decode method_3_code 73 = .ok (.iload_n 0, 1) := by decide +kernel
theorem d1_74 : decode method_3_code 74 = .ok (.ifCond .le 7, 3) := by decide +kernel
theorem d1_77 : decode method_3_code 77 = .ok (.iconst 1, 1) := by decide +kernel
theorem d1_78 : decode method_3_code 78 = .ok (.goto 4, 3) := by decide +kernel
theorem d1_81 : decode method_3_code 81 = .ok (.iconst 0, 1) := by decide +kernel
theorem d1_82 : decode method_3_code 82 = .ok (.if_icmp .ne 7, 3) := by decide +kernel
theorem d1_85 : decode method_3_code 85 = .ok (.iconst 1, 1) := by decide +kernel
theorem d1_86 : decode method_3_code 86 = .ok (.goto 4, 3) := by decide +kernel
theorem d1_90 : decode method_3_code 90 = .ok (.ireturn, 1) := by decide +kernel
theorem pn_1 : plainName "com/example/true_witness/truewitness/datatypes/RelationOfPinLaw" = true := by first | (simp [plainName, overriddenIn]; done) | decide +kernel
theorem ef_1 (m : MethodId) (p0 : Int32) : entryFrame m #[(.int p0)] 5 = mkF m 0 #[.val (.int p0), .unset, .unset, .unset, .unset] [] := by first | (simp [entryFrame, mkF, argsToLocals, Value.category]; done) | rfl
def Q1 (Z : State) (p0 : Int32) (wEQUAL : Addr) (wBELOW : Addr) (wABOVE : Addr) (h0 : Heap) (n0 : Nat) (v : Option Value) (h : Heap) (L : List Loc) : Prop := v = some (.int (1 : Int32)) ∧ Fr n0 L ∧ h = h0
set_option maxRecDepth 65536 in
set_option maxHeartbeats 40000000 in
theorem rm1 (l : Launch) (Z : State) (a0 : Array Value) (hw : ∀ d ∈ tables_1, d.before a0 Z = true) (ws : List Jvm.Cond) (p0 : Int32) (wEQUAL : Addr) (wBELOW : Addr) (wABOVE : Addr) (h0 : Heap) (n0 : Nat) (Z0 : n0 ≤ h0.size) (W : own_W Z h0 wEQUAL wBELOW wABOVE) :
    MetFree l (⟨"com/example/true_witness/truewitness/datatypes/RelationOfPinLaw", "signAgrees", "(I)Z"⟩ : MethodName) (head1 (Jvm.Cond.code (⟨"com/example/true_witness/truewitness/datatypes/RelationOfPinLaw", "signAgrees", "(I)Z"⟩ : MethodName) method_3_code 5 (some .boolean) :: ws) ({ frames := 1, cells := 0, slots := 0, locals := 13 } : Room)) (fun a U => a = #[(.int p0)] ∧ Z.Warmed39 U.vm ∧ U.heap = h0) (fun _ _ _ _ _ => True) (fun _ U o U' => ∃ v L, o = .returned v ∧ Q1 Z p0 wEQUAL wBELOW wABOVE h0 n0 v U'.heap L ∧ FrameEnd U o U' L ({ frames := 1, cells := 0, slots := 0, locals := 13 } : Room).cells ({ frames := 1, cells := 0, slots := 0, locals := 13 } : Room).slots) := by
  refine MetFree.of_bodySF (plainFor_of_name pn_1) hisR ?_
  intro p e s m args below meth c s₁ Bd hml0 hP hK
  obtain ⟨rfl, hZ, hh⟩ := hP
  have hx := Bd.exec
  have hby := Bd.bytes
  have hml : c.maxLocals = 5 := hml0
  have hown : s.vm.findClass "com/example/true_witness/truewitness/datatypes/RelationOfPinLaw" = some m.cls := findClass_of_methodNamed Bd.named
  have X0 : Stand p l e ({ frames := 1, cells := 0, slots := 0, locals := 13 } : Room) s m #[(.int p0)] below meth c s₁ [] 0 0 := Stand.of_body Bd
  have e0 : s₁.heap = h0 := by rw [← hh, Bd.state]; rfl
  have N0 := Fr.nil n0
  have pre0 : ∀ t, Steps p.tables e below (s₁.setTop (mkF m 0 #[.val (.int p0), .unset, .unset, .unset, .unset] [])) t → Steps p.tables e below (s₁.setTop (entryFrame m #[(.int p0)] 5)) t := fun t k => castTop (ef_1 m p0) k
  have W0 := W
  obtain ⟨S_EQUAL, S_BELOW, S_ABOVE, E_EQUAL, E_BELOW, E_ABOVE, n_EQUAL_BELOW, n_EQUAL_ABOVE, n_BELOW_ABOVE⟩ := W0
  by_cases s0 : p0 < (0 : Int32)
  · obtain ⟨_, _, ⟨T9, L9, k9, n9⟩, -, X9, ⟨Lc9, hQ9, l9, y9, z9⟩, st9⟩ := Jvm.LawKit.callS X0 hx (y := (⟨"com/example/true_witness/truewitness/datatypes/Order$Relation", "of", "(I)Lcom/example/true_witness/truewitness/datatypes/Order$Relation;"⟩ : MethodName)) hown (mvT hZ (hw _ (List.mem_of_getElem? (i := 4) rfl))) (mvT hZ (hw _ (List.mem_of_getElem? (i := 5) rfl))) (mvT hZ (hw _ (List.mem_of_getElem? (i := 6) rfl))) (mvT hZ (hw _ (List.mem_of_getElem? (i := 7) rfl))) (by decide) (backOf (W := 0) (rm2 l Z a0 hw [] p0 wEQUAL wBELOW wABOVE h0 n0 Z0 W) hZ (hw _ (List.mem_of_getElem? (i := 7) rfl)) (hw _ (List.mem_of_getElem? (i := 6) rfl)) (by decide) (by decide)) (g := (mkF m 1 #[.val (.int p0), .unset, .unset, .unset, .unset] [(.int p0)])) rfl (by rw [hml]; rfl) (argsL := [(.int p0)]) (rest := []) (lenOf pd_0 rfl) rfl (by show 2 * 0 + _ ≤ _; exact Nat.le_of_eq rfl) (hb hby d1_1) (fun _ _ => ⟨rfl, e0, (by decide : 0 + 0 ≤ _), (by decide : 0 + 0 ≤ _)⟩)
    dsimp only [Pt.U, Pt.locs, Pt.cells, Pt.slots] at X9 l9 y9 z9 st9 hQ9
    subst l9 y9 z9
    obtain ⟨rfl, N9q, e9⟩ := hQ9
    have N9 := Fr.app N0 N9q
    obtain ⟨T10, X10, e10, st10⟩ := getS2 X9 hx hZ hown (host := "") (Or.inl (hw _ (List.mem_of_getElem? (i := 10) rfl))) Via.refl e9 S_BELOW (g := (mkF m 6 #[.val (.int p0), .val (.ref (F2 p0 wEQUAL wBELOW wABOVE)), .unset, .unset, .unset] [(.ref (F2 p0 wEQUAL wBELOW wABOVE))])) rfl (hb hby d1_6)
    obtain ⟨T11, X11, e11, st11⟩ := getS2 X10 hx hZ hown (host := "") (Or.inl (hw _ (List.mem_of_getElem? (i := 12) rfl))) Via.refl e10 S_EQUAL (g := (mkF m 19 #[.val (.int p0), .val (.ref (F2 p0 wEQUAL wBELOW wABOVE)), .val (.int (1 : Int32)), .unset, .unset] [(.ref (F2 p0 wEQUAL wBELOW wABOVE))])) rfl (hb hby d1_19)
    obtain ⟨T12, X12, e12, st12⟩ := getS2 X11 hx hZ hown (host := "") (Or.inl (hw _ (List.mem_of_getElem? (i := 13) rfl))) Via.refl e11 S_ABOVE (g := (mkF m 32 #[.val (.int p0), .val (.ref (F2 p0 wEQUAL wBELOW wABOVE)), .val (.int (1 : Int32)), .val (.int (0 : Int32)), .unset] [(.ref (F2 p0 wEQUAL wBELOW wABOVE))])) rfl (hb hby d1_32)
    obtain ⟨fs, hr, hrun, hended, hW, hsame⟩ := X12.leave (v := some (.int (1 : Int32))) (fun h => by rw [Bd.returns] at h; cases h)
    refine ⟨_, _, pre0 _ ?_, hrun, hended, _, _, rfl, ?_, ⟨_, rfl⟩, hW, hsame.mono (by decide) (by decide)⟩
    · show Steps p.tables e below (s₁.setTop (mkF m 0 #[.val (.int p0), .unset, .unset, .unset, .unset] [])) _
      refine XS.iloadN X0.here hx rfl (hb hby d1_0) rfl ?_
      show Steps p.tables e below (s₁.setTop (mkF m 1 #[.val (.int p0), .unset, .unset, .unset, .unset] [(.int p0)])) _
      refine st9 _ ?_
      show Steps p.tables e below (T9.setTop (mkF m 4 #[.val (.int p0), .unset, .unset, .unset, .unset] [(.ref (F2 p0 wEQUAL wBELOW wABOVE))])) _
      refine XS.astoreN X9.here hx rfl (hb hby d1_4) rfl rfl (l' := #[.val (.int p0), .val (.ref (F2 p0 wEQUAL wBELOW wABOVE)), .unset, .unset, .unset]) rfl ?_
      show Steps p.tables e below (T9.setTop (mkF m 5 #[.val (.int p0), .val (.ref (F2 p0 wEQUAL wBELOW wABOVE)), .unset, .unset, .unset] [])) _
      refine XS.aloadN X9.here hx rfl (hb hby d1_5) rfl rfl ?_
      show Steps p.tables e below (T9.setTop (mkF m 6 #[.val (.int p0), .val (.ref (F2 p0 wEQUAL wBELOW wABOVE)), .unset, .unset, .unset] [(.ref (F2 p0 wEQUAL wBELOW wABOVE))])) _
      refine st10 _ ?_
      show Steps p.tables e below (T10.setTop (mkF m 9 #[.val (.int p0), .val (.ref (F2 p0 wEQUAL wBELOW wABOVE)), .unset, .unset, .unset] [(.ref wBELOW), (.ref (F2 p0 wEQUAL wBELOW wABOVE))])) _
      refine Jvm.RoadKit.acmp (g := (mkF m 9 #[.val (.int p0), .val (.ref (F2 p0 wEQUAL wBELOW wABOVE)), .unset, .unset, .unset] [(.ref wBELOW), (.ref (F2 p0 wEQUAL wBELOW wABOVE))])) X10 hx rfl rfl rfl (pc0 := 9) (pc' := 12) (same := true) rfl (hb hby d1_9) rfl (decide_eq_true (congrArg Value.ref ((by simp [F2, s0, n_EQUAL_BELOW, n_EQUAL_BELOW.symm, n_EQUAL_ABOVE, n_EQUAL_ABOVE.symm, n_BELOW_ABOVE, n_BELOW_ABOVE.symm]) : (F2 p0 wEQUAL wBELOW wABOVE) = wBELOW))) (by decide) (by decide) ?_
      show Steps p.tables e below (T10.setTop (mkF m 12 #[.val (.int p0), .val (.ref (F2 p0 wEQUAL wBELOW wABOVE)), .unset, .unset, .unset] [])) _
      refine XS.iconst X10.here hx rfl (hb hby d1_12) ?_
      show Steps p.tables e below (T10.setTop (mkF m 13 #[.val (.int p0), .val (.ref (F2 p0 wEQUAL wBELOW wABOVE)), .unset, .unset, .unset] [(.int (1 : Int32))])) _
      refine XS.goto X10.here hx rfl (pc0 := 13) (pc' := 17) rfl (hb hby d1_13) (by decide) (by decide) ?_
      show Steps p.tables e below (T10.setTop (mkF m 17 #[.val (.int p0), .val (.ref (F2 p0 wEQUAL wBELOW wABOVE)), .unset, .unset, .unset] [(.int (1 : Int32))])) _
      refine XS.istoreN X10.here hx rfl (hb hby d1_17) rfl (l' := #[.val (.int p0), .val (.ref (F2 p0 wEQUAL wBELOW wABOVE)), .val (.int (1 : Int32)), .unset, .unset]) rfl ?_
      show Steps p.tables e below (T10.setTop (mkF m 18 #[.val (.int p0), .val (.ref (F2 p0 wEQUAL wBELOW wABOVE)), .val (.int (1 : Int32)), .unset, .unset] [])) _
      refine XS.aloadN X10.here hx rfl (hb hby d1_18) rfl rfl ?_
      show Steps p.tables e below (T10.setTop (mkF m 19 #[.val (.int p0), .val (.ref (F2 p0 wEQUAL wBELOW wABOVE)), .val (.int (1 : Int32)), .unset, .unset] [(.ref (F2 p0 wEQUAL wBELOW wABOVE))])) _
      refine st11 _ ?_
      show Steps p.tables e below (T11.setTop (mkF m 22 #[.val (.int p0), .val (.ref (F2 p0 wEQUAL wBELOW wABOVE)), .val (.int (1 : Int32)), .unset, .unset] [(.ref wEQUAL), (.ref (F2 p0 wEQUAL wBELOW wABOVE))])) _
      refine Jvm.RoadKit.acmp (g := (mkF m 22 #[.val (.int p0), .val (.ref (F2 p0 wEQUAL wBELOW wABOVE)), .val (.int (1 : Int32)), .unset, .unset] [(.ref wEQUAL), (.ref (F2 p0 wEQUAL wBELOW wABOVE))])) X11 hx rfl rfl rfl (pc0 := 22) (pc' := 29) (same := false) rfl (hb hby d1_22) rfl (decide_eq_false fun q => ((by simp [F2, s0, n_EQUAL_BELOW, n_EQUAL_BELOW.symm, n_EQUAL_ABOVE, n_EQUAL_ABOVE.symm, n_BELOW_ABOVE, n_BELOW_ABOVE.symm]) : ¬ ((F2 p0 wEQUAL wBELOW wABOVE) = wEQUAL)) (Value.ref.inj q)) (by decide) (by decide) ?_
      show Steps p.tables e below (T11.setTop (mkF m 29 #[.val (.int p0), .val (.ref (F2 p0 wEQUAL wBELOW wABOVE)), .val (.int (1 : Int32)), .unset, .unset] [])) _
      refine XS.iconst X11.here hx rfl (hb hby d1_29) ?_
      show Steps p.tables e below (T11.setTop (mkF m 30 #[.val (.int p0), .val (.ref (F2 p0 wEQUAL wBELOW wABOVE)), .val (.int (1 : Int32)), .unset, .unset] [(.int (0 : Int32))])) _
      refine XS.istoreN X11.here hx rfl (hb hby d1_30) rfl (l' := #[.val (.int p0), .val (.ref (F2 p0 wEQUAL wBELOW wABOVE)), .val (.int (1 : Int32)), .val (.int (0 : Int32)), .unset]) rfl ?_
      show Steps p.tables e below (T11.setTop (mkF m 31 #[.val (.int p0), .val (.ref (F2 p0 wEQUAL wBELOW wABOVE)), .val (.int (1 : Int32)), .val (.int (0 : Int32)), .unset] [])) _
      refine XS.aloadN X11.here hx rfl (hb hby d1_31) rfl rfl ?_
      show Steps p.tables e below (T11.setTop (mkF m 32 #[.val (.int p0), .val (.ref (F2 p0 wEQUAL wBELOW wABOVE)), .val (.int (1 : Int32)), .val (.int (0 : Int32)), .unset] [(.ref (F2 p0 wEQUAL wBELOW wABOVE))])) _
      refine st12 _ ?_
      show Steps p.tables e below (T12.setTop (mkF m 35 #[.val (.int p0), .val (.ref (F2 p0 wEQUAL wBELOW wABOVE)), .val (.int (1 : Int32)), .val (.int (0 : Int32)), .unset] [(.ref wABOVE), (.ref (F2 p0 wEQUAL wBELOW wABOVE))])) _
      refine Jvm.RoadKit.acmp (g := (mkF m 35 #[.val (.int p0), .val (.ref (F2 p0 wEQUAL wBELOW wABOVE)), .val (.int (1 : Int32)), .val (.int (0 : Int32)), .unset] [(.ref wABOVE), (.ref (F2 p0 wEQUAL wBELOW wABOVE))])) X12 hx rfl rfl rfl (pc0 := 35) (pc' := 42) (same := false) rfl (hb hby d1_35) rfl (decide_eq_false fun q => ((by simp [F2, s0, n_EQUAL_BELOW, n_EQUAL_BELOW.symm, n_EQUAL_ABOVE, n_EQUAL_ABOVE.symm, n_BELOW_ABOVE, n_BELOW_ABOVE.symm]) : ¬ ((F2 p0 wEQUAL wBELOW wABOVE) = wABOVE)) (Value.ref.inj q)) (by decide) (by decide) ?_
      show Steps p.tables e below (T12.setTop (mkF m 42 #[.val (.int p0), .val (.ref (F2 p0 wEQUAL wBELOW wABOVE)), .val (.int (1 : Int32)), .val (.int (0 : Int32)), .unset] [])) _
      refine XS.iconst X12.here hx rfl (hb hby d1_42) ?_
      show Steps p.tables e below (T12.setTop (mkF m 43 #[.val (.int p0), .val (.ref (F2 p0 wEQUAL wBELOW wABOVE)), .val (.int (1 : Int32)), .val (.int (0 : Int32)), .unset] [(.int (0 : Int32))])) _
      refine XS.istore X12.here hx rfl (hb hby d1_43) rfl (l' := #[.val (.int p0), .val (.ref (F2 p0 wEQUAL wBELOW wABOVE)), .val (.int (1 : Int32)), .val (.int (0 : Int32)), .val (.int (0 : Int32))]) rfl ?_
      show Steps p.tables e below (T12.setTop (mkF m 45 #[.val (.int p0), .val (.ref (F2 p0 wEQUAL wBELOW wABOVE)), .val (.int (1 : Int32)), .val (.int (0 : Int32)), .val (.int (0 : Int32))] [])) _
      refine XS.iloadN X12.here hx rfl (hb hby d1_45) rfl ?_
      show Steps p.tables e below (T12.setTop (mkF m 46 #[.val (.int p0), .val (.ref (F2 p0 wEQUAL wBELOW wABOVE)), .val (.int (1 : Int32)), .val (.int (0 : Int32)), .val (.int (0 : Int32))] [(.int (1 : Int32))])) _
      refine XS.iloadN X12.here hx rfl (hb hby d1_46) rfl ?_
      show Steps p.tables e below (T12.setTop (mkF m 47 #[.val (.int p0), .val (.ref (F2 p0 wEQUAL wBELOW wABOVE)), .val (.int (1 : Int32)), .val (.int (0 : Int32)), .val (.int (0 : Int32))] [(.int p0), (.int (1 : Int32))])) _
      refine XS.ifNo X12.here hx rfl (hb hby d1_47) rfl ((if0 _ _).trans (tlt s0).2.1) ?_
      show Steps p.tables e below (T12.setTop (mkF m 50 #[.val (.int p0), .val (.ref (F2 p0 wEQUAL wBELOW wABOVE)), .val (.int (1 : Int32)), .val (.int (0 : Int32)), .val (.int (0 : Int32))] [(.int (1 : Int32))])) _
      refine XS.iconst X12.here hx rfl (hb hby d1_50) ?_
      show Steps p.tables e below (T12.setTop (mkF m 51 #[.val (.int p0), .val (.ref (F2 p0 wEQUAL wBELOW wABOVE)), .val (.int (1 : Int32)), .val (.int (0 : Int32)), .val (.int (0 : Int32))] [(.int (1 : Int32)), (.int (1 : Int32))])) _
      refine XS.goto X12.here hx rfl (pc0 := 51) (pc' := 55) rfl (hb hby d1_51) (by decide) (by decide) ?_
      show Steps p.tables e below (T12.setTop (mkF m 55 #[.val (.int p0), .val (.ref (F2 p0 wEQUAL wBELOW wABOVE)), .val (.int (1 : Int32)), .val (.int (0 : Int32)), .val (.int (0 : Int32))] [(.int (1 : Int32)), (.int (1 : Int32))])) _
      refine XS.icmpNo X12.here hx rfl (hb hby d1_55) rfl (teq ((by decide) : (1 : Int32) = (1 : Int32))).2 ?_
      show Steps p.tables e below (T12.setTop (mkF m 58 #[.val (.int p0), .val (.ref (F2 p0 wEQUAL wBELOW wABOVE)), .val (.int (1 : Int32)), .val (.int (0 : Int32)), .val (.int (0 : Int32))] [])) _
      refine XS.iloadN X12.here hx rfl (hb hby d1_58) rfl ?_
      show Steps p.tables e below (T12.setTop (mkF m 59 #[.val (.int p0), .val (.ref (F2 p0 wEQUAL wBELOW wABOVE)), .val (.int (1 : Int32)), .val (.int (0 : Int32)), .val (.int (0 : Int32))] [(.int (0 : Int32))])) _
      refine XS.iloadN X12.here hx rfl (hb hby d1_59) rfl ?_
      show Steps p.tables e below (T12.setTop (mkF m 60 #[.val (.int p0), .val (.ref (F2 p0 wEQUAL wBELOW wABOVE)), .val (.int (1 : Int32)), .val (.int (0 : Int32)), .val (.int (0 : Int32))] [(.int p0), (.int (0 : Int32))])) _
      refine XS.ifYes X12.here hx rfl (pc0 := 60) (pc' := 67) rfl (hb hby d1_60) rfl ((if0 _ _).trans (feq ((own_a s0) : ¬ (p0 = (0 : Int32)))).2) (by decide) (by decide) ?_
      show Steps p.tables e below (T12.setTop (mkF m 67 #[.val (.int p0), .val (.ref (F2 p0 wEQUAL wBELOW wABOVE)), .val (.int (1 : Int32)), .val (.int (0 : Int32)), .val (.int (0 : Int32))] [(.int (0 : Int32))])) _
      refine XS.iconst X12.here hx rfl (hb hby d1_67) ?_
      show Steps p.tables e below (T12.setTop (mkF m 68 #[.val (.int p0), .val (.ref (F2 p0 wEQUAL wBELOW wABOVE)), .val (.int (1 : Int32)), .val (.int (0 : Int32)), .val (.int (0 : Int32))] [(.int (0 : Int32)), (.int (0 : Int32))])) _
      refine XS.icmpNo X12.here hx rfl (hb hby d1_68) rfl (teq ((by decide) : (0 : Int32) = (0 : Int32))).2 ?_
      show Steps p.tables e below (T12.setTop (mkF m 71 #[.val (.int p0), .val (.ref (F2 p0 wEQUAL wBELOW wABOVE)), .val (.int (1 : Int32)), .val (.int (0 : Int32)), .val (.int (0 : Int32))] [])) _
      refine XS.iload X12.here hx rfl (hb hby d1_71) rfl ?_
      show Steps p.tables e below (T12.setTop (mkF m 73 #[.val (.int p0), .val (.ref (F2 p0 wEQUAL wBELOW wABOVE)), .val (.int (1 : Int32)), .val (.int (0 : Int32)), .val (.int (0 : Int32))] [(.int (0 : Int32))])) _
      refine XS.iloadN X12.here hx rfl (hb hby d1_73) rfl ?_
      show Steps p.tables e below (T12.setTop (mkF m 74 #[.val (.int p0), .val (.ref (F2 p0 wEQUAL wBELOW wABOVE)), .val (.int (1 : Int32)), .val (.int (0 : Int32)), .val (.int (0 : Int32))] [(.int p0), (.int (0 : Int32))])) _
      refine XS.ifYes X12.here hx rfl (pc0 := 74) (pc' := 81) rfl (hb hby d1_74) rfl ((if0 _ _).trans (flt ((own_b s0) : ¬ ((0 : Int32) < p0))).2.2.2) (by decide) (by decide) ?_
      show Steps p.tables e below (T12.setTop (mkF m 81 #[.val (.int p0), .val (.ref (F2 p0 wEQUAL wBELOW wABOVE)), .val (.int (1 : Int32)), .val (.int (0 : Int32)), .val (.int (0 : Int32))] [(.int (0 : Int32))])) _
      refine XS.iconst X12.here hx rfl (hb hby d1_81) ?_
      show Steps p.tables e below (T12.setTop (mkF m 82 #[.val (.int p0), .val (.ref (F2 p0 wEQUAL wBELOW wABOVE)), .val (.int (1 : Int32)), .val (.int (0 : Int32)), .val (.int (0 : Int32))] [(.int (0 : Int32)), (.int (0 : Int32))])) _
      refine XS.icmpNo X12.here hx rfl (hb hby d1_82) rfl (teq ((by decide) : (0 : Int32) = (0 : Int32))).2 ?_
      show Steps p.tables e below (T12.setTop (mkF m 85 #[.val (.int p0), .val (.ref (F2 p0 wEQUAL wBELOW wABOVE)), .val (.int (1 : Int32)), .val (.int (0 : Int32)), .val (.int (0 : Int32))] [])) _
      refine XS.iconst X12.here hx rfl (hb hby d1_85) ?_
      show Steps p.tables e below (T12.setTop (mkF m 86 #[.val (.int p0), .val (.ref (F2 p0 wEQUAL wBELOW wABOVE)), .val (.int (1 : Int32)), .val (.int (0 : Int32)), .val (.int (0 : Int32))] [(.int (1 : Int32))])) _
      refine XS.goto X12.here hx rfl (pc0 := 86) (pc' := 90) rfl (hb hby d1_86) (by decide) (by decide) ?_
      show Steps p.tables e below (T12.setTop (mkF m 90 #[.val (.int p0), .val (.ref (F2 p0 wEQUAL wBELOW wABOVE)), .val (.int (1 : Int32)), .val (.int (0 : Int32)), .val (.int (0 : Int32))] [(.int (1 : Int32))])) _
      exact retN X12 hx (t := .boolean) Bd.returns (by simp) (hb hby d1_90) hr
    · show Q1 Z p0 wEQUAL wBELOW wABOVE h0 n0 _ T12.heap _
      rw [e12]
      exact ⟨rfl, N9, rfl⟩
  · by_cases s1 : p0 = (0 : Int32)
    · obtain ⟨_, _, ⟨T14, L14, k14, n14⟩, -, X14, ⟨Lc14, hQ14, l14, y14, z14⟩, st14⟩ := Jvm.LawKit.callS X0 hx (y := (⟨"com/example/true_witness/truewitness/datatypes/Order$Relation", "of", "(I)Lcom/example/true_witness/truewitness/datatypes/Order$Relation;"⟩ : MethodName)) hown (mvT hZ (hw _ (List.mem_of_getElem? (i := 4) rfl))) (mvT hZ (hw _ (List.mem_of_getElem? (i := 5) rfl))) (mvT hZ (hw _ (List.mem_of_getElem? (i := 6) rfl))) (mvT hZ (hw _ (List.mem_of_getElem? (i := 7) rfl))) (by decide) (backOf (W := 0) (rm2 l Z a0 hw [] p0 wEQUAL wBELOW wABOVE h0 n0 Z0 W) hZ (hw _ (List.mem_of_getElem? (i := 7) rfl)) (hw _ (List.mem_of_getElem? (i := 6) rfl)) (by decide) (by decide)) (g := (mkF m 1 #[.val (.int p0), .unset, .unset, .unset, .unset] [(.int p0)])) rfl (by rw [hml]; rfl) (argsL := [(.int p0)]) (rest := []) (lenOf pd_0 rfl) rfl (by show 2 * 0 + _ ≤ _; exact Nat.le_of_eq rfl) (hb hby d1_1) (fun _ _ => ⟨rfl, e0, (by decide : 0 + 0 ≤ _), (by decide : 0 + 0 ≤ _)⟩)
      dsimp only [Pt.U, Pt.locs, Pt.cells, Pt.slots] at X14 l14 y14 z14 st14 hQ14
      subst l14 y14 z14
      obtain ⟨rfl, N14q, e14⟩ := hQ14
      have N14 := Fr.app N0 N14q
      obtain ⟨T15, X15, e15, st15⟩ := getS2 X14 hx hZ hown (host := "") (Or.inl (hw _ (List.mem_of_getElem? (i := 10) rfl))) Via.refl e14 S_BELOW (g := (mkF m 6 #[.val (.int p0), .val (.ref (F2 p0 wEQUAL wBELOW wABOVE)), .unset, .unset, .unset] [(.ref (F2 p0 wEQUAL wBELOW wABOVE))])) rfl (hb hby d1_6)
      obtain ⟨T16, X16, e16, st16⟩ := getS2 X15 hx hZ hown (host := "") (Or.inl (hw _ (List.mem_of_getElem? (i := 12) rfl))) Via.refl e15 S_EQUAL (g := (mkF m 19 #[.val (.int p0), .val (.ref (F2 p0 wEQUAL wBELOW wABOVE)), .val (.int (0 : Int32)), .unset, .unset] [(.ref (F2 p0 wEQUAL wBELOW wABOVE))])) rfl (hb hby d1_19)
      obtain ⟨T17, X17, e17, st17⟩ := getS2 X16 hx hZ hown (host := "") (Or.inl (hw _ (List.mem_of_getElem? (i := 13) rfl))) Via.refl e16 S_ABOVE (g := (mkF m 32 #[.val (.int p0), .val (.ref (F2 p0 wEQUAL wBELOW wABOVE)), .val (.int (0 : Int32)), .val (.int (1 : Int32)), .unset] [(.ref (F2 p0 wEQUAL wBELOW wABOVE))])) rfl (hb hby d1_32)
      obtain ⟨fs, hr, hrun, hended, hW, hsame⟩ := X17.leave (v := some (.int (1 : Int32))) (fun h => by rw [Bd.returns] at h; cases h)
      refine ⟨_, _, pre0 _ ?_, hrun, hended, _, _, rfl, ?_, ⟨_, rfl⟩, hW, hsame.mono (by decide) (by decide)⟩
      · show Steps p.tables e below (s₁.setTop (mkF m 0 #[.val (.int p0), .unset, .unset, .unset, .unset] [])) _
        refine XS.iloadN X0.here hx rfl (hb hby d1_0) rfl ?_
        show Steps p.tables e below (s₁.setTop (mkF m 1 #[.val (.int p0), .unset, .unset, .unset, .unset] [(.int p0)])) _
        refine st14 _ ?_
        show Steps p.tables e below (T14.setTop (mkF m 4 #[.val (.int p0), .unset, .unset, .unset, .unset] [(.ref (F2 p0 wEQUAL wBELOW wABOVE))])) _
        refine XS.astoreN X14.here hx rfl (hb hby d1_4) rfl rfl (l' := #[.val (.int p0), .val (.ref (F2 p0 wEQUAL wBELOW wABOVE)), .unset, .unset, .unset]) rfl ?_
        show Steps p.tables e below (T14.setTop (mkF m 5 #[.val (.int p0), .val (.ref (F2 p0 wEQUAL wBELOW wABOVE)), .unset, .unset, .unset] [])) _
        refine XS.aloadN X14.here hx rfl (hb hby d1_5) rfl rfl ?_
        show Steps p.tables e below (T14.setTop (mkF m 6 #[.val (.int p0), .val (.ref (F2 p0 wEQUAL wBELOW wABOVE)), .unset, .unset, .unset] [(.ref (F2 p0 wEQUAL wBELOW wABOVE))])) _
        refine st15 _ ?_
        show Steps p.tables e below (T15.setTop (mkF m 9 #[.val (.int p0), .val (.ref (F2 p0 wEQUAL wBELOW wABOVE)), .unset, .unset, .unset] [(.ref wBELOW), (.ref (F2 p0 wEQUAL wBELOW wABOVE))])) _
        refine Jvm.RoadKit.acmp (g := (mkF m 9 #[.val (.int p0), .val (.ref (F2 p0 wEQUAL wBELOW wABOVE)), .unset, .unset, .unset] [(.ref wBELOW), (.ref (F2 p0 wEQUAL wBELOW wABOVE))])) X15 hx rfl rfl rfl (pc0 := 9) (pc' := 16) (same := false) rfl (hb hby d1_9) rfl (decide_eq_false fun q => ((by simp [F2, s0, s1, n_EQUAL_BELOW, n_EQUAL_BELOW.symm, n_EQUAL_ABOVE, n_EQUAL_ABOVE.symm, n_BELOW_ABOVE, n_BELOW_ABOVE.symm]) : ¬ ((F2 p0 wEQUAL wBELOW wABOVE) = wBELOW)) (Value.ref.inj q)) (by decide) (by decide) ?_
        show Steps p.tables e below (T15.setTop (mkF m 16 #[.val (.int p0), .val (.ref (F2 p0 wEQUAL wBELOW wABOVE)), .unset, .unset, .unset] [])) _
        refine XS.iconst X15.here hx rfl (hb hby d1_16) ?_
        show Steps p.tables e below (T15.setTop (mkF m 17 #[.val (.int p0), .val (.ref (F2 p0 wEQUAL wBELOW wABOVE)), .unset, .unset, .unset] [(.int (0 : Int32))])) _
        refine XS.istoreN X15.here hx rfl (hb hby d1_17) rfl (l' := #[.val (.int p0), .val (.ref (F2 p0 wEQUAL wBELOW wABOVE)), .val (.int (0 : Int32)), .unset, .unset]) rfl ?_
        show Steps p.tables e below (T15.setTop (mkF m 18 #[.val (.int p0), .val (.ref (F2 p0 wEQUAL wBELOW wABOVE)), .val (.int (0 : Int32)), .unset, .unset] [])) _
        refine XS.aloadN X15.here hx rfl (hb hby d1_18) rfl rfl ?_
        show Steps p.tables e below (T15.setTop (mkF m 19 #[.val (.int p0), .val (.ref (F2 p0 wEQUAL wBELOW wABOVE)), .val (.int (0 : Int32)), .unset, .unset] [(.ref (F2 p0 wEQUAL wBELOW wABOVE))])) _
        refine st16 _ ?_
        show Steps p.tables e below (T16.setTop (mkF m 22 #[.val (.int p0), .val (.ref (F2 p0 wEQUAL wBELOW wABOVE)), .val (.int (0 : Int32)), .unset, .unset] [(.ref wEQUAL), (.ref (F2 p0 wEQUAL wBELOW wABOVE))])) _
        refine Jvm.RoadKit.acmp (g := (mkF m 22 #[.val (.int p0), .val (.ref (F2 p0 wEQUAL wBELOW wABOVE)), .val (.int (0 : Int32)), .unset, .unset] [(.ref wEQUAL), (.ref (F2 p0 wEQUAL wBELOW wABOVE))])) X16 hx rfl rfl rfl (pc0 := 22) (pc' := 25) (same := true) rfl (hb hby d1_22) rfl (decide_eq_true (congrArg Value.ref ((by simp [F2, s0, s1, n_EQUAL_BELOW, n_EQUAL_BELOW.symm, n_EQUAL_ABOVE, n_EQUAL_ABOVE.symm, n_BELOW_ABOVE, n_BELOW_ABOVE.symm]) : (F2 p0 wEQUAL wBELOW wABOVE) = wEQUAL))) (by decide) (by decide) ?_
        show Steps p.tables e below (T16.setTop (mkF m 25 #[.val (.int p0), .val (.ref (F2 p0 wEQUAL wBELOW wABOVE)), .val (.int (0 : Int32)), .unset, .unset] [])) _
        refine XS.iconst X16.here hx rfl (hb hby d1_25) ?_
        show Steps p.tables e below (T16.setTop (mkF m 26 #[.val (.int p0), .val (.ref (F2 p0 wEQUAL wBELOW wABOVE)), .val (.int (0 : Int32)), .unset, .unset] [(.int (1 : Int32))])) _
        refine XS.goto X16.here hx rfl (pc0 := 26) (pc' := 30) rfl (hb hby d1_26) (by decide) (by decide) ?_
        show Steps p.tables e below (T16.setTop (mkF m 30 #[.val (.int p0), .val (.ref (F2 p0 wEQUAL wBELOW wABOVE)), .val (.int (0 : Int32)), .unset, .unset] [(.int (1 : Int32))])) _
        refine XS.istoreN X16.here hx rfl (hb hby d1_30) rfl (l' := #[.val (.int p0), .val (.ref (F2 p0 wEQUAL wBELOW wABOVE)), .val (.int (0 : Int32)), .val (.int (1 : Int32)), .unset]) rfl ?_
        show Steps p.tables e below (T16.setTop (mkF m 31 #[.val (.int p0), .val (.ref (F2 p0 wEQUAL wBELOW wABOVE)), .val (.int (0 : Int32)), .val (.int (1 : Int32)), .unset] [])) _
        refine XS.aloadN X16.here hx rfl (hb hby d1_31) rfl rfl ?_
        show Steps p.tables e below (T16.setTop (mkF m 32 #[.val (.int p0), .val (.ref (F2 p0 wEQUAL wBELOW wABOVE)), .val (.int (0 : Int32)), .val (.int (1 : Int32)), .unset] [(.ref (F2 p0 wEQUAL wBELOW wABOVE))])) _
        refine st17 _ ?_
        show Steps p.tables e below (T17.setTop (mkF m 35 #[.val (.int p0), .val (.ref (F2 p0 wEQUAL wBELOW wABOVE)), .val (.int (0 : Int32)), .val (.int (1 : Int32)), .unset] [(.ref wABOVE), (.ref (F2 p0 wEQUAL wBELOW wABOVE))])) _
        refine Jvm.RoadKit.acmp (g := (mkF m 35 #[.val (.int p0), .val (.ref (F2 p0 wEQUAL wBELOW wABOVE)), .val (.int (0 : Int32)), .val (.int (1 : Int32)), .unset] [(.ref wABOVE), (.ref (F2 p0 wEQUAL wBELOW wABOVE))])) X17 hx rfl rfl rfl (pc0 := 35) (pc' := 42) (same := false) rfl (hb hby d1_35) rfl (decide_eq_false fun q => ((by simp [F2, s0, s1, n_EQUAL_BELOW, n_EQUAL_BELOW.symm, n_EQUAL_ABOVE, n_EQUAL_ABOVE.symm, n_BELOW_ABOVE, n_BELOW_ABOVE.symm]) : ¬ ((F2 p0 wEQUAL wBELOW wABOVE) = wABOVE)) (Value.ref.inj q)) (by decide) (by decide) ?_
        show Steps p.tables e below (T17.setTop (mkF m 42 #[.val (.int p0), .val (.ref (F2 p0 wEQUAL wBELOW wABOVE)), .val (.int (0 : Int32)), .val (.int (1 : Int32)), .unset] [])) _
        refine XS.iconst X17.here hx rfl (hb hby d1_42) ?_
        show Steps p.tables e below (T17.setTop (mkF m 43 #[.val (.int p0), .val (.ref (F2 p0 wEQUAL wBELOW wABOVE)), .val (.int (0 : Int32)), .val (.int (1 : Int32)), .unset] [(.int (0 : Int32))])) _
        refine XS.istore X17.here hx rfl (hb hby d1_43) rfl (l' := #[.val (.int p0), .val (.ref (F2 p0 wEQUAL wBELOW wABOVE)), .val (.int (0 : Int32)), .val (.int (1 : Int32)), .val (.int (0 : Int32))]) rfl ?_
        show Steps p.tables e below (T17.setTop (mkF m 45 #[.val (.int p0), .val (.ref (F2 p0 wEQUAL wBELOW wABOVE)), .val (.int (0 : Int32)), .val (.int (1 : Int32)), .val (.int (0 : Int32))] [])) _
        refine XS.iloadN X17.here hx rfl (hb hby d1_45) rfl ?_
        show Steps p.tables e below (T17.setTop (mkF m 46 #[.val (.int p0), .val (.ref (F2 p0 wEQUAL wBELOW wABOVE)), .val (.int (0 : Int32)), .val (.int (1 : Int32)), .val (.int (0 : Int32))] [(.int (0 : Int32))])) _
        refine XS.iloadN X17.here hx rfl (hb hby d1_46) rfl ?_
        show Steps p.tables e below (T17.setTop (mkF m 47 #[.val (.int p0), .val (.ref (F2 p0 wEQUAL wBELOW wABOVE)), .val (.int (0 : Int32)), .val (.int (1 : Int32)), .val (.int (0 : Int32))] [(.int p0), (.int (0 : Int32))])) _
        refine XS.ifYes X17.here hx rfl (pc0 := 47) (pc' := 54) rfl (hb hby d1_47) rfl ((if0 _ _).trans (flt s0).2.1) (by decide) (by decide) ?_
        show Steps p.tables e below (T17.setTop (mkF m 54 #[.val (.int p0), .val (.ref (F2 p0 wEQUAL wBELOW wABOVE)), .val (.int (0 : Int32)), .val (.int (1 : Int32)), .val (.int (0 : Int32))] [(.int (0 : Int32))])) _
        refine XS.iconst X17.here hx rfl (hb hby d1_54) ?_
        show Steps p.tables e below (T17.setTop (mkF m 55 #[.val (.int p0), .val (.ref (F2 p0 wEQUAL wBELOW wABOVE)), .val (.int (0 : Int32)), .val (.int (1 : Int32)), .val (.int (0 : Int32))] [(.int (0 : Int32)), (.int (0 : Int32))])) _
        refine XS.icmpNo X17.here hx rfl (hb hby d1_55) rfl (teq ((by decide) : (0 : Int32) = (0 : Int32))).2 ?_
        show Steps p.tables e below (T17.setTop (mkF m 58 #[.val (.int p0), .val (.ref (F2 p0 wEQUAL wBELOW wABOVE)), .val (.int (0 : Int32)), .val (.int (1 : Int32)), .val (.int (0 : Int32))] [])) _
        refine XS.iloadN X17.here hx rfl (hb hby d1_58) rfl ?_
        show Steps p.tables e below (T17.setTop (mkF m 59 #[.val (.int p0), .val (.ref (F2 p0 wEQUAL wBELOW wABOVE)), .val (.int (0 : Int32)), .val (.int (1 : Int32)), .val (.int (0 : Int32))] [(.int (1 : Int32))])) _
        refine XS.iloadN X17.here hx rfl (hb hby d1_59) rfl ?_
        show Steps p.tables e below (T17.setTop (mkF m 60 #[.val (.int p0), .val (.ref (F2 p0 wEQUAL wBELOW wABOVE)), .val (.int (0 : Int32)), .val (.int (1 : Int32)), .val (.int (0 : Int32))] [(.int p0), (.int (1 : Int32))])) _
        refine XS.ifNo X17.here hx rfl (hb hby d1_60) rfl ((if0 _ _).trans (teq s1).2) ?_
        show Steps p.tables e below (T17.setTop (mkF m 63 #[.val (.int p0), .val (.ref (F2 p0 wEQUAL wBELOW wABOVE)), .val (.int (0 : Int32)), .val (.int (1 : Int32)), .val (.int (0 : Int32))] [(.int (1 : Int32))])) _
        refine XS.iconst X17.here hx rfl (hb hby d1_63) ?_
        show Steps p.tables e below (T17.setTop (mkF m 64 #[.val (.int p0), .val (.ref (F2 p0 wEQUAL wBELOW wABOVE)), .val (.int (0 : Int32)), .val (.int (1 : Int32)), .val (.int (0 : Int32))] [(.int (1 : Int32)), (.int (1 : Int32))])) _
        refine XS.goto X17.here hx rfl (pc0 := 64) (pc' := 68) rfl (hb hby d1_64) (by decide) (by decide) ?_
        show Steps p.tables e below (T17.setTop (mkF m 68 #[.val (.int p0), .val (.ref (F2 p0 wEQUAL wBELOW wABOVE)), .val (.int (0 : Int32)), .val (.int (1 : Int32)), .val (.int (0 : Int32))] [(.int (1 : Int32)), (.int (1 : Int32))])) _
        refine XS.icmpNo X17.here hx rfl (hb hby d1_68) rfl (teq ((by decide) : (1 : Int32) = (1 : Int32))).2 ?_
        show Steps p.tables e below (T17.setTop (mkF m 71 #[.val (.int p0), .val (.ref (F2 p0 wEQUAL wBELOW wABOVE)), .val (.int (0 : Int32)), .val (.int (1 : Int32)), .val (.int (0 : Int32))] [])) _
        refine XS.iload X17.here hx rfl (hb hby d1_71) rfl ?_
        show Steps p.tables e below (T17.setTop (mkF m 73 #[.val (.int p0), .val (.ref (F2 p0 wEQUAL wBELOW wABOVE)), .val (.int (0 : Int32)), .val (.int (1 : Int32)), .val (.int (0 : Int32))] [(.int (0 : Int32))])) _
        refine XS.iloadN X17.here hx rfl (hb hby d1_73) rfl ?_
        show Steps p.tables e below (T17.setTop (mkF m 74 #[.val (.int p0), .val (.ref (F2 p0 wEQUAL wBELOW wABOVE)), .val (.int (0 : Int32)), .val (.int (1 : Int32)), .val (.int (0 : Int32))] [(.int p0), (.int (0 : Int32))])) _
        refine XS.ifYes X17.here hx rfl (pc0 := 74) (pc' := 81) rfl (hb hby d1_74) rfl ((if0 _ _).trans (flt ((own_c s1) : ¬ ((0 : Int32) < p0))).2.2.2) (by decide) (by decide) ?_
        show Steps p.tables e below (T17.setTop (mkF m 81 #[.val (.int p0), .val (.ref (F2 p0 wEQUAL wBELOW wABOVE)), .val (.int (0 : Int32)), .val (.int (1 : Int32)), .val (.int (0 : Int32))] [(.int (0 : Int32))])) _
        refine XS.iconst X17.here hx rfl (hb hby d1_81) ?_
        show Steps p.tables e below (T17.setTop (mkF m 82 #[.val (.int p0), .val (.ref (F2 p0 wEQUAL wBELOW wABOVE)), .val (.int (0 : Int32)), .val (.int (1 : Int32)), .val (.int (0 : Int32))] [(.int (0 : Int32)), (.int (0 : Int32))])) _
        refine XS.icmpNo X17.here hx rfl (hb hby d1_82) rfl (teq ((by decide) : (0 : Int32) = (0 : Int32))).2 ?_
        show Steps p.tables e below (T17.setTop (mkF m 85 #[.val (.int p0), .val (.ref (F2 p0 wEQUAL wBELOW wABOVE)), .val (.int (0 : Int32)), .val (.int (1 : Int32)), .val (.int (0 : Int32))] [])) _
        refine XS.iconst X17.here hx rfl (hb hby d1_85) ?_
        show Steps p.tables e below (T17.setTop (mkF m 86 #[.val (.int p0), .val (.ref (F2 p0 wEQUAL wBELOW wABOVE)), .val (.int (0 : Int32)), .val (.int (1 : Int32)), .val (.int (0 : Int32))] [(.int (1 : Int32))])) _
        refine XS.goto X17.here hx rfl (pc0 := 86) (pc' := 90) rfl (hb hby d1_86) (by decide) (by decide) ?_
        show Steps p.tables e below (T17.setTop (mkF m 90 #[.val (.int p0), .val (.ref (F2 p0 wEQUAL wBELOW wABOVE)), .val (.int (0 : Int32)), .val (.int (1 : Int32)), .val (.int (0 : Int32))] [(.int (1 : Int32))])) _
        exact retN X17 hx (t := .boolean) Bd.returns (by simp) (hb hby d1_90) hr
      · show Q1 Z p0 wEQUAL wBELOW wABOVE h0 n0 _ T17.heap _
        rw [e17]
        exact ⟨rfl, N14, rfl⟩
    · obtain ⟨_, _, ⟨T19, L19, k19, n19⟩, -, X19, ⟨Lc19, hQ19, l19, y19, z19⟩, st19⟩ := Jvm.LawKit.callS X0 hx (y := (⟨"com/example/true_witness/truewitness/datatypes/Order$Relation", "of", "(I)Lcom/example/true_witness/truewitness/datatypes/Order$Relation;"⟩ : MethodName)) hown (mvT hZ (hw _ (List.mem_of_getElem? (i := 4) rfl))) (mvT hZ (hw _ (List.mem_of_getElem? (i := 5) rfl))) (mvT hZ (hw _ (List.mem_of_getElem? (i := 6) rfl))) (mvT hZ (hw _ (List.mem_of_getElem? (i := 7) rfl))) (by decide) (backOf (W := 0) (rm2 l Z a0 hw [] p0 wEQUAL wBELOW wABOVE h0 n0 Z0 W) hZ (hw _ (List.mem_of_getElem? (i := 7) rfl)) (hw _ (List.mem_of_getElem? (i := 6) rfl)) (by decide) (by decide)) (g := (mkF m 1 #[.val (.int p0), .unset, .unset, .unset, .unset] [(.int p0)])) rfl (by rw [hml]; rfl) (argsL := [(.int p0)]) (rest := []) (lenOf pd_0 rfl) rfl (by show 2 * 0 + _ ≤ _; exact Nat.le_of_eq rfl) (hb hby d1_1) (fun _ _ => ⟨rfl, e0, (by decide : 0 + 0 ≤ _), (by decide : 0 + 0 ≤ _)⟩)
      dsimp only [Pt.U, Pt.locs, Pt.cells, Pt.slots] at X19 l19 y19 z19 st19 hQ19
      subst l19 y19 z19
      obtain ⟨rfl, N19q, e19⟩ := hQ19
      have N19 := Fr.app N0 N19q
      obtain ⟨T20, X20, e20, st20⟩ := getS2 X19 hx hZ hown (host := "") (Or.inl (hw _ (List.mem_of_getElem? (i := 10) rfl))) Via.refl e19 S_BELOW (g := (mkF m 6 #[.val (.int p0), .val (.ref (F2 p0 wEQUAL wBELOW wABOVE)), .unset, .unset, .unset] [(.ref (F2 p0 wEQUAL wBELOW wABOVE))])) rfl (hb hby d1_6)
      obtain ⟨T21, X21, e21, st21⟩ := getS2 X20 hx hZ hown (host := "") (Or.inl (hw _ (List.mem_of_getElem? (i := 12) rfl))) Via.refl e20 S_EQUAL (g := (mkF m 19 #[.val (.int p0), .val (.ref (F2 p0 wEQUAL wBELOW wABOVE)), .val (.int (0 : Int32)), .unset, .unset] [(.ref (F2 p0 wEQUAL wBELOW wABOVE))])) rfl (hb hby d1_19)
      obtain ⟨T22, X22, e22, st22⟩ := getS2 X21 hx hZ hown (host := "") (Or.inl (hw _ (List.mem_of_getElem? (i := 13) rfl))) Via.refl e21 S_ABOVE (g := (mkF m 32 #[.val (.int p0), .val (.ref (F2 p0 wEQUAL wBELOW wABOVE)), .val (.int (0 : Int32)), .val (.int (0 : Int32)), .unset] [(.ref (F2 p0 wEQUAL wBELOW wABOVE))])) rfl (hb hby d1_32)
      obtain ⟨fs, hr, hrun, hended, hW, hsame⟩ := X22.leave (v := some (.int (1 : Int32))) (fun h => by rw [Bd.returns] at h; cases h)
      refine ⟨_, _, pre0 _ ?_, hrun, hended, _, _, rfl, ?_, ⟨_, rfl⟩, hW, hsame.mono (by decide) (by decide)⟩
      · show Steps p.tables e below (s₁.setTop (mkF m 0 #[.val (.int p0), .unset, .unset, .unset, .unset] [])) _
        refine XS.iloadN X0.here hx rfl (hb hby d1_0) rfl ?_
        show Steps p.tables e below (s₁.setTop (mkF m 1 #[.val (.int p0), .unset, .unset, .unset, .unset] [(.int p0)])) _
        refine st19 _ ?_
        show Steps p.tables e below (T19.setTop (mkF m 4 #[.val (.int p0), .unset, .unset, .unset, .unset] [(.ref (F2 p0 wEQUAL wBELOW wABOVE))])) _
        refine XS.astoreN X19.here hx rfl (hb hby d1_4) rfl rfl (l' := #[.val (.int p0), .val (.ref (F2 p0 wEQUAL wBELOW wABOVE)), .unset, .unset, .unset]) rfl ?_
        show Steps p.tables e below (T19.setTop (mkF m 5 #[.val (.int p0), .val (.ref (F2 p0 wEQUAL wBELOW wABOVE)), .unset, .unset, .unset] [])) _
        refine XS.aloadN X19.here hx rfl (hb hby d1_5) rfl rfl ?_
        show Steps p.tables e below (T19.setTop (mkF m 6 #[.val (.int p0), .val (.ref (F2 p0 wEQUAL wBELOW wABOVE)), .unset, .unset, .unset] [(.ref (F2 p0 wEQUAL wBELOW wABOVE))])) _
        refine st20 _ ?_
        show Steps p.tables e below (T20.setTop (mkF m 9 #[.val (.int p0), .val (.ref (F2 p0 wEQUAL wBELOW wABOVE)), .unset, .unset, .unset] [(.ref wBELOW), (.ref (F2 p0 wEQUAL wBELOW wABOVE))])) _
        refine Jvm.RoadKit.acmp (g := (mkF m 9 #[.val (.int p0), .val (.ref (F2 p0 wEQUAL wBELOW wABOVE)), .unset, .unset, .unset] [(.ref wBELOW), (.ref (F2 p0 wEQUAL wBELOW wABOVE))])) X20 hx rfl rfl rfl (pc0 := 9) (pc' := 16) (same := false) rfl (hb hby d1_9) rfl (decide_eq_false fun q => ((by simp [F2, s0, s1, n_EQUAL_BELOW, n_EQUAL_BELOW.symm, n_EQUAL_ABOVE, n_EQUAL_ABOVE.symm, n_BELOW_ABOVE, n_BELOW_ABOVE.symm]) : ¬ ((F2 p0 wEQUAL wBELOW wABOVE) = wBELOW)) (Value.ref.inj q)) (by decide) (by decide) ?_
        show Steps p.tables e below (T20.setTop (mkF m 16 #[.val (.int p0), .val (.ref (F2 p0 wEQUAL wBELOW wABOVE)), .unset, .unset, .unset] [])) _
        refine XS.iconst X20.here hx rfl (hb hby d1_16) ?_
        show Steps p.tables e below (T20.setTop (mkF m 17 #[.val (.int p0), .val (.ref (F2 p0 wEQUAL wBELOW wABOVE)), .unset, .unset, .unset] [(.int (0 : Int32))])) _
        refine XS.istoreN X20.here hx rfl (hb hby d1_17) rfl (l' := #[.val (.int p0), .val (.ref (F2 p0 wEQUAL wBELOW wABOVE)), .val (.int (0 : Int32)), .unset, .unset]) rfl ?_
        show Steps p.tables e below (T20.setTop (mkF m 18 #[.val (.int p0), .val (.ref (F2 p0 wEQUAL wBELOW wABOVE)), .val (.int (0 : Int32)), .unset, .unset] [])) _
        refine XS.aloadN X20.here hx rfl (hb hby d1_18) rfl rfl ?_
        show Steps p.tables e below (T20.setTop (mkF m 19 #[.val (.int p0), .val (.ref (F2 p0 wEQUAL wBELOW wABOVE)), .val (.int (0 : Int32)), .unset, .unset] [(.ref (F2 p0 wEQUAL wBELOW wABOVE))])) _
        refine st21 _ ?_
        show Steps p.tables e below (T21.setTop (mkF m 22 #[.val (.int p0), .val (.ref (F2 p0 wEQUAL wBELOW wABOVE)), .val (.int (0 : Int32)), .unset, .unset] [(.ref wEQUAL), (.ref (F2 p0 wEQUAL wBELOW wABOVE))])) _
        refine Jvm.RoadKit.acmp (g := (mkF m 22 #[.val (.int p0), .val (.ref (F2 p0 wEQUAL wBELOW wABOVE)), .val (.int (0 : Int32)), .unset, .unset] [(.ref wEQUAL), (.ref (F2 p0 wEQUAL wBELOW wABOVE))])) X21 hx rfl rfl rfl (pc0 := 22) (pc' := 29) (same := false) rfl (hb hby d1_22) rfl (decide_eq_false fun q => ((by simp [F2, s0, s1, n_EQUAL_BELOW, n_EQUAL_BELOW.symm, n_EQUAL_ABOVE, n_EQUAL_ABOVE.symm, n_BELOW_ABOVE, n_BELOW_ABOVE.symm]) : ¬ ((F2 p0 wEQUAL wBELOW wABOVE) = wEQUAL)) (Value.ref.inj q)) (by decide) (by decide) ?_
        show Steps p.tables e below (T21.setTop (mkF m 29 #[.val (.int p0), .val (.ref (F2 p0 wEQUAL wBELOW wABOVE)), .val (.int (0 : Int32)), .unset, .unset] [])) _
        refine XS.iconst X21.here hx rfl (hb hby d1_29) ?_
        show Steps p.tables e below (T21.setTop (mkF m 30 #[.val (.int p0), .val (.ref (F2 p0 wEQUAL wBELOW wABOVE)), .val (.int (0 : Int32)), .unset, .unset] [(.int (0 : Int32))])) _
        refine XS.istoreN X21.here hx rfl (hb hby d1_30) rfl (l' := #[.val (.int p0), .val (.ref (F2 p0 wEQUAL wBELOW wABOVE)), .val (.int (0 : Int32)), .val (.int (0 : Int32)), .unset]) rfl ?_
        show Steps p.tables e below (T21.setTop (mkF m 31 #[.val (.int p0), .val (.ref (F2 p0 wEQUAL wBELOW wABOVE)), .val (.int (0 : Int32)), .val (.int (0 : Int32)), .unset] [])) _
        refine XS.aloadN X21.here hx rfl (hb hby d1_31) rfl rfl ?_
        show Steps p.tables e below (T21.setTop (mkF m 32 #[.val (.int p0), .val (.ref (F2 p0 wEQUAL wBELOW wABOVE)), .val (.int (0 : Int32)), .val (.int (0 : Int32)), .unset] [(.ref (F2 p0 wEQUAL wBELOW wABOVE))])) _
        refine st22 _ ?_
        show Steps p.tables e below (T22.setTop (mkF m 35 #[.val (.int p0), .val (.ref (F2 p0 wEQUAL wBELOW wABOVE)), .val (.int (0 : Int32)), .val (.int (0 : Int32)), .unset] [(.ref wABOVE), (.ref (F2 p0 wEQUAL wBELOW wABOVE))])) _
        refine Jvm.RoadKit.acmp (g := (mkF m 35 #[.val (.int p0), .val (.ref (F2 p0 wEQUAL wBELOW wABOVE)), .val (.int (0 : Int32)), .val (.int (0 : Int32)), .unset] [(.ref wABOVE), (.ref (F2 p0 wEQUAL wBELOW wABOVE))])) X22 hx rfl rfl rfl (pc0 := 35) (pc' := 38) (same := true) rfl (hb hby d1_35) rfl (decide_eq_true (congrArg Value.ref ((by simp [F2, s0, s1, n_EQUAL_BELOW, n_EQUAL_BELOW.symm, n_EQUAL_ABOVE, n_EQUAL_ABOVE.symm, n_BELOW_ABOVE, n_BELOW_ABOVE.symm]) : (F2 p0 wEQUAL wBELOW wABOVE) = wABOVE))) (by decide) (by decide) ?_
        show Steps p.tables e below (T22.setTop (mkF m 38 #[.val (.int p0), .val (.ref (F2 p0 wEQUAL wBELOW wABOVE)), .val (.int (0 : Int32)), .val (.int (0 : Int32)), .unset] [])) _
        refine XS.iconst X22.here hx rfl (hb hby d1_38) ?_
        show Steps p.tables e below (T22.setTop (mkF m 39 #[.val (.int p0), .val (.ref (F2 p0 wEQUAL wBELOW wABOVE)), .val (.int (0 : Int32)), .val (.int (0 : Int32)), .unset] [(.int (1 : Int32))])) _
        refine XS.goto X22.here hx rfl (pc0 := 39) (pc' := 43) rfl (hb hby d1_39) (by decide) (by decide) ?_
        show Steps p.tables e below (T22.setTop (mkF m 43 #[.val (.int p0), .val (.ref (F2 p0 wEQUAL wBELOW wABOVE)), .val (.int (0 : Int32)), .val (.int (0 : Int32)), .unset] [(.int (1 : Int32))])) _
        refine XS.istore X22.here hx rfl (hb hby d1_43) rfl (l' := #[.val (.int p0), .val (.ref (F2 p0 wEQUAL wBELOW wABOVE)), .val (.int (0 : Int32)), .val (.int (0 : Int32)), .val (.int (1 : Int32))]) rfl ?_
        show Steps p.tables e below (T22.setTop (mkF m 45 #[.val (.int p0), .val (.ref (F2 p0 wEQUAL wBELOW wABOVE)), .val (.int (0 : Int32)), .val (.int (0 : Int32)), .val (.int (1 : Int32))] [])) _
        refine XS.iloadN X22.here hx rfl (hb hby d1_45) rfl ?_
        show Steps p.tables e below (T22.setTop (mkF m 46 #[.val (.int p0), .val (.ref (F2 p0 wEQUAL wBELOW wABOVE)), .val (.int (0 : Int32)), .val (.int (0 : Int32)), .val (.int (1 : Int32))] [(.int (0 : Int32))])) _
        refine XS.iloadN X22.here hx rfl (hb hby d1_46) rfl ?_
        show Steps p.tables e below (T22.setTop (mkF m 47 #[.val (.int p0), .val (.ref (F2 p0 wEQUAL wBELOW wABOVE)), .val (.int (0 : Int32)), .val (.int (0 : Int32)), .val (.int (1 : Int32))] [(.int p0), (.int (0 : Int32))])) _
        refine XS.ifYes X22.here hx rfl (pc0 := 47) (pc' := 54) rfl (hb hby d1_47) rfl ((if0 _ _).trans (flt s0).2.1) (by decide) (by decide) ?_
        show Steps p.tables e below (T22.setTop (mkF m 54 #[.val (.int p0), .val (.ref (F2 p0 wEQUAL wBELOW wABOVE)), .val (.int (0 : Int32)), .val (.int (0 : Int32)), .val (.int (1 : Int32))] [(.int (0 : Int32))])) _
        refine XS.iconst X22.here hx rfl (hb hby d1_54) ?_
        show Steps p.tables e below (T22.setTop (mkF m 55 #[.val (.int p0), .val (.ref (F2 p0 wEQUAL wBELOW wABOVE)), .val (.int (0 : Int32)), .val (.int (0 : Int32)), .val (.int (1 : Int32))] [(.int (0 : Int32)), (.int (0 : Int32))])) _
        refine XS.icmpNo X22.here hx rfl (hb hby d1_55) rfl (teq ((by decide) : (0 : Int32) = (0 : Int32))).2 ?_
        show Steps p.tables e below (T22.setTop (mkF m 58 #[.val (.int p0), .val (.ref (F2 p0 wEQUAL wBELOW wABOVE)), .val (.int (0 : Int32)), .val (.int (0 : Int32)), .val (.int (1 : Int32))] [])) _
        refine XS.iloadN X22.here hx rfl (hb hby d1_58) rfl ?_
        show Steps p.tables e below (T22.setTop (mkF m 59 #[.val (.int p0), .val (.ref (F2 p0 wEQUAL wBELOW wABOVE)), .val (.int (0 : Int32)), .val (.int (0 : Int32)), .val (.int (1 : Int32))] [(.int (0 : Int32))])) _
        refine XS.iloadN X22.here hx rfl (hb hby d1_59) rfl ?_
        show Steps p.tables e below (T22.setTop (mkF m 60 #[.val (.int p0), .val (.ref (F2 p0 wEQUAL wBELOW wABOVE)), .val (.int (0 : Int32)), .val (.int (0 : Int32)), .val (.int (1 : Int32))] [(.int p0), (.int (0 : Int32))])) _
        refine XS.ifYes X22.here hx rfl (pc0 := 60) (pc' := 67) rfl (hb hby d1_60) rfl ((if0 _ _).trans (feq s1).2) (by decide) (by decide) ?_
        show Steps p.tables e below (T22.setTop (mkF m 67 #[.val (.int p0), .val (.ref (F2 p0 wEQUAL wBELOW wABOVE)), .val (.int (0 : Int32)), .val (.int (0 : Int32)), .val (.int (1 : Int32))] [(.int (0 : Int32))])) _
        refine XS.iconst X22.here hx rfl (hb hby d1_67) ?_
        show Steps p.tables e below (T22.setTop (mkF m 68 #[.val (.int p0), .val (.ref (F2 p0 wEQUAL wBELOW wABOVE)), .val (.int (0 : Int32)), .val (.int (0 : Int32)), .val (.int (1 : Int32))] [(.int (0 : Int32)), (.int (0 : Int32))])) _
        refine XS.icmpNo X22.here hx rfl (hb hby d1_68) rfl (teq ((by decide) : (0 : Int32) = (0 : Int32))).2 ?_
        show Steps p.tables e below (T22.setTop (mkF m 71 #[.val (.int p0), .val (.ref (F2 p0 wEQUAL wBELOW wABOVE)), .val (.int (0 : Int32)), .val (.int (0 : Int32)), .val (.int (1 : Int32))] [])) _
        refine XS.iload X22.here hx rfl (hb hby d1_71) rfl ?_
        show Steps p.tables e below (T22.setTop (mkF m 73 #[.val (.int p0), .val (.ref (F2 p0 wEQUAL wBELOW wABOVE)), .val (.int (0 : Int32)), .val (.int (0 : Int32)), .val (.int (1 : Int32))] [(.int (1 : Int32))])) _
        refine XS.iloadN X22.here hx rfl (hb hby d1_73) rfl ?_
        show Steps p.tables e below (T22.setTop (mkF m 74 #[.val (.int p0), .val (.ref (F2 p0 wEQUAL wBELOW wABOVE)), .val (.int (0 : Int32)), .val (.int (0 : Int32)), .val (.int (1 : Int32))] [(.int p0), (.int (1 : Int32))])) _
        refine XS.ifNo X22.here hx rfl (hb hby d1_74) rfl ((if0 _ _).trans (tlt ((own_d s0 s1) : (0 : Int32) < p0)).2.2.2) ?_
        show Steps p.tables e below (T22.setTop (mkF m 77 #[.val (.int p0), .val (.ref (F2 p0 wEQUAL wBELOW wABOVE)), .val (.int (0 : Int32)), .val (.int (0 : Int32)), .val (.int (1 : Int32))] [(.int (1 : Int32))])) _
        refine XS.iconst X22.here hx rfl (hb hby d1_77) ?_
        show Steps p.tables e below (T22.setTop (mkF m 78 #[.val (.int p0), .val (.ref (F2 p0 wEQUAL wBELOW wABOVE)), .val (.int (0 : Int32)), .val (.int (0 : Int32)), .val (.int (1 : Int32))] [(.int (1 : Int32)), (.int (1 : Int32))])) _
        refine XS.goto X22.here hx rfl (pc0 := 78) (pc' := 82) rfl (hb hby d1_78) (by decide) (by decide) ?_
        show Steps p.tables e below (T22.setTop (mkF m 82 #[.val (.int p0), .val (.ref (F2 p0 wEQUAL wBELOW wABOVE)), .val (.int (0 : Int32)), .val (.int (0 : Int32)), .val (.int (1 : Int32))] [(.int (1 : Int32)), (.int (1 : Int32))])) _
        refine XS.icmpNo X22.here hx rfl (hb hby d1_82) rfl (teq ((by decide) : (1 : Int32) = (1 : Int32))).2 ?_
        show Steps p.tables e below (T22.setTop (mkF m 85 #[.val (.int p0), .val (.ref (F2 p0 wEQUAL wBELOW wABOVE)), .val (.int (0 : Int32)), .val (.int (0 : Int32)), .val (.int (1 : Int32))] [])) _
        refine XS.iconst X22.here hx rfl (hb hby d1_85) ?_
        show Steps p.tables e below (T22.setTop (mkF m 86 #[.val (.int p0), .val (.ref (F2 p0 wEQUAL wBELOW wABOVE)), .val (.int (0 : Int32)), .val (.int (0 : Int32)), .val (.int (1 : Int32))] [(.int (1 : Int32))])) _
        refine XS.goto X22.here hx rfl (pc0 := 86) (pc' := 90) rfl (hb hby d1_86) (by decide) (by decide) ?_
        show Steps p.tables e below (T22.setTop (mkF m 90 #[.val (.int p0), .val (.ref (F2 p0 wEQUAL wBELOW wABOVE)), .val (.int (0 : Int32)), .val (.int (0 : Int32)), .val (.int (1 : Int32))] [(.int (1 : Int32))])) _
        exact retN X22 hx (t := .boolean) Bd.returns (by simp) (hb hby d1_90) hr
      · show Q1 Z p0 wEQUAL wBELOW wABOVE h0 n0 _ T22.heap _
        rw [e22]
        exact ⟨rfl, N19, rfl⟩
theorem pd_1 : parseMethodDescriptor "(I)Z" = some ⟨[.int], some .boolean⟩ := by decide +kernel
theorem pn_0 : plainName "com/example/true_witness/truewitness/datatypes/RelationOfPinLaw" = true := by first | (simp [plainName, overriddenIn]; done) | decide +kernel
theorem ef_0 (m : MethodId) (p0 : Int32) (p1 : Int32) : entryFrame m #[(.int p0), (.int p1)] maxLocals = mkF m 0 #[.val (.int p0), .val (.int p1), .unset] [] := by first | (simp [entryFrame, mkF, argsToLocals, Value.category, maxLocals]; done) | rfl
def Q0 (Z : State) (p0 : Int32) (p1 : Int32) (wEQUAL : Addr) (wBELOW : Addr) (wABOVE : Addr) (h0 : Heap) (n0 : Nat) (v : Option Value) (h : Heap) (L : List Loc) : Prop := v = some (.int (1 : Int32)) ∧ Fr n0 L ∧ h = h0
set_option maxRecDepth 65536 in
set_option maxHeartbeats 40000000 in
theorem rm0 (l : Launch) (Z : State) (a0 : Array Value) (hw : ∀ d ∈ tables_1, d.before a0 Z = true) (ws : List Jvm.Cond) (p0 : Int32) (p1 : Int32) (wEQUAL : Addr) (wBELOW : Addr) (wABOVE : Addr) (h0 : Heap) (n0 : Nat) (Z0 : n0 ≤ h0.size) (W : own_W Z h0 wEQUAL wBELOW wABOVE) :
    MetFree l x (head1 (Jvm.Cond.code x code maxLocals ret :: ws) room_1) (fun a U => a = #[(.int p0), (.int p1)] ∧ Z.Warmed39 U.vm ∧ U.heap = h0) (fun _ _ _ _ _ => True) (fun _ U o U' => ∃ v L, o = .returned v ∧ Q0 Z p0 p1 wEQUAL wBELOW wABOVE h0 n0 v U'.heap L ∧ FrameEnd U o U' L room_1.cells room_1.slots) := by
  refine MetFree.of_bodySF (plainFor_of_name pn_0) hisR ?_
  intro p e s m args below meth c s₁ Bd hml0 hP hK
  obtain ⟨rfl, hZ, hh⟩ := hP
  have hx := Bd.exec
  have hby := Bd.bytes
  have hml : c.maxLocals = 3 := hml0
  have hown : s.vm.findClass "com/example/true_witness/truewitness/datatypes/RelationOfPinLaw" = some m.cls := findClass_of_methodNamed Bd.named
  have X0 : Stand p l e room_1 s m #[(.int p0), (.int p1)] below meth c s₁ [] 0 0 := Stand.of_body Bd
  have e0 : s₁.heap = h0 := by rw [← hh, Bd.state]; rfl
  have N0 := Fr.nil n0
  have pre0 : ∀ t, Steps p.tables e below (s₁.setTop (mkF m 0 #[.val (.int p0), .val (.int p1), .unset] [])) t → Steps p.tables e below (s₁.setTop (entryFrame m #[(.int p0), (.int p1)] maxLocals)) t := fun t k => castTop (ef_0 m p0 p1) k
  have W0 := W
  obtain ⟨S_EQUAL, S_BELOW, S_ABOVE, E_EQUAL, E_BELOW, E_ABOVE, n_EQUAL_BELOW, n_EQUAL_ABOVE, n_BELOW_ABOVE⟩ := W0
  by_cases c24 : (p1 &&& (3 : Int32)) = (0 : Int32)
  · obtain ⟨_, _, ⟨T25, L25, k25, n25⟩, -, X25, ⟨Lc25, hQ25, l25, y25, z25⟩, st25⟩ := Jvm.LawKit.callS X0 hx (y := (⟨"com/example/true_witness/truewitness/datatypes/RelationOfPinLaw", "signAgrees", "(I)Z"⟩ : MethodName)) hown (mvT hZ (hw _ (List.mem_of_getElem? (i := 0) rfl))) (mvT hZ (hw _ (List.mem_of_getElem? (i := 1) rfl))) (mvT hZ (hw _ (List.mem_of_getElem? (i := 2) rfl))) (mvT hZ (hw _ (List.mem_of_getElem? (i := 3) rfl))) (by decide) (backOf (W := 0) (rm1 l Z a0 hw [] p0 wEQUAL wBELOW wABOVE h0 n0 Z0 W) hZ (hw _ (List.mem_of_getElem? (i := 3) rfl)) (hw _ (List.mem_of_getElem? (i := 2) rfl)) (by decide) (by decide)) (g := (mkF m 13 #[.val (.int p0), .val (.int p1), .val (.int (0 : Int32))] [(.int p0)])) rfl (by rw [hml]; rfl) (argsL := [(.int p0)]) (rest := []) (lenOf pd_1 rfl) rfl (by show 2 * 0 + _ ≤ _; exact Nat.le_of_eq rfl) (hb hby at_13) (fun _ _ => ⟨rfl, e0, (by decide : 0 + 0 ≤ _), (by decide : 0 + 0 ≤ _)⟩)
    dsimp only [Pt.U, Pt.locs, Pt.cells, Pt.slots] at X25 l25 y25 z25 st25 hQ25
    subst l25 y25 z25
    obtain ⟨rfl, N25q, e25⟩ := hQ25
    have N25 := Fr.app N0 N25q
    obtain ⟨_, _, ⟨T26, L26, k26, n26⟩, -, X26, ⟨Lc26, hQ26, l26, y26, z26⟩, st26⟩ := Jvm.LawKit.callS X25 hx (y := (⟨"com/example/true_witness/truewitness/datatypes/RelationOfPinLaw", "signAgrees", "(I)Z"⟩ : MethodName)) hown (mvT hZ (hw _ (List.mem_of_getElem? (i := 0) rfl))) (mvT hZ (hw _ (List.mem_of_getElem? (i := 1) rfl))) (mvT hZ (hw _ (List.mem_of_getElem? (i := 2) rfl))) (mvT hZ (hw _ (List.mem_of_getElem? (i := 3) rfl))) (by decide) (backOf (W := 0) (rm1 l Z a0 hw [] p1 wEQUAL wBELOW wABOVE h0 n0 Z0 W) hZ (hw _ (List.mem_of_getElem? (i := 3) rfl)) (hw _ (List.mem_of_getElem? (i := 2) rfl)) (by decide) (by decide)) (g := (mkF m 20 #[.val (.int p0), .val (.int p1), .val (.int (0 : Int32))] [(.int p1)])) rfl (by rw [hml]; rfl) (argsL := [(.int p1)]) (rest := []) (lenOf pd_1 rfl) rfl (by show 2 * 0 + _ ≤ _; exact Nat.le_of_eq rfl) (hb hby at_20) (fun _ _ => ⟨rfl, e25, (by decide : 0 + 0 ≤ _), (by decide : 0 + 0 ≤ _)⟩)
    dsimp only [Pt.U, Pt.locs, Pt.cells, Pt.slots] at X26 l26 y26 z26 st26 hQ26
    subst l26 y26 z26
    obtain ⟨rfl, N26q, e26⟩ := hQ26
    have N26 := Fr.app N25 N26q
    obtain ⟨_, _, ⟨T27, L27, k27, n27⟩, -, X27, ⟨Lc27, hQ27, l27, y27, z27⟩, st27⟩ := Jvm.LawKit.callS X26 hx (y := (⟨"com/example/true_witness/truewitness/datatypes/RelationOfPinLaw", "signAgrees", "(I)Z"⟩ : MethodName)) hown (mvT hZ (hw _ (List.mem_of_getElem? (i := 0) rfl))) (mvT hZ (hw _ (List.mem_of_getElem? (i := 1) rfl))) (mvT hZ (hw _ (List.mem_of_getElem? (i := 2) rfl))) (mvT hZ (hw _ (List.mem_of_getElem? (i := 3) rfl))) (by decide) (backOf (W := 0) (rm1 l Z a0 hw [] (0 : Int32) wEQUAL wBELOW wABOVE h0 n0 Z0 W) hZ (hw _ (List.mem_of_getElem? (i := 3) rfl)) (hw _ (List.mem_of_getElem? (i := 2) rfl)) (by decide) (by decide)) (g := (mkF m 27 #[.val (.int p0), .val (.int p1), .val (.int (0 : Int32))] [(.int (0 : Int32))])) rfl (by rw [hml]; rfl) (argsL := [(.int (0 : Int32))]) (rest := []) (lenOf pd_1 rfl) rfl (by show 2 * 0 + _ ≤ _; exact Nat.le_of_eq rfl) (hb hby at_27) (fun _ _ => ⟨rfl, e26, (by decide : 0 + 0 ≤ _), (by decide : 0 + 0 ≤ _)⟩)
    dsimp only [Pt.U, Pt.locs, Pt.cells, Pt.slots] at X27 l27 y27 z27 st27 hQ27
    subst l27 y27 z27
    obtain ⟨rfl, N27q, e27⟩ := hQ27
    have N27 := Fr.app N26 N27q
    obtain ⟨fs, hr, hrun, hended, hW, hsame⟩ := X27.leave (v := some (.int (1 : Int32))) (fun h => by rw [Bd.returns] at h; cases h)
    refine ⟨_, _, pre0 _ ?_, hrun, hended, _, _, rfl, ?_, ⟨_, rfl⟩, hW, hsame.mono (by decide) (by decide)⟩
    · show Steps p.tables e below (s₁.setTop (mkF m 0 #[.val (.int p0), .val (.int p1), .unset] [])) _
      refine XS.iloadN X0.here hx rfl (hb hby at_0) rfl ?_
      show Steps p.tables e below (s₁.setTop (mkF m 1 #[.val (.int p0), .val (.int p1), .unset] [(.int p1)])) _
      refine XS.iconst X0.here hx rfl (hb hby at_1) ?_
      show Steps p.tables e below (s₁.setTop (mkF m 2 #[.val (.int p0), .val (.int p1), .unset] [(.int (3 : Int32)), (.int p1)])) _
      refine XS.iand X0.here hx rfl (hb hby at_2) rfl ?_
      show Steps p.tables e below (s₁.setTop (mkF m 3 #[.val (.int p0), .val (.int p1), .unset] [(.int (p1 &&& (3 : Int32)))])) _
      refine XS.ifNo X0.here hx rfl (hb hby at_3) rfl ((if0 _ _).trans (teq c24).2) ?_
      show Steps p.tables e below (s₁.setTop (mkF m 6 #[.val (.int p0), .val (.int p1), .unset] [])) _
      refine XS.iconst X0.here hx rfl (hb hby at_6) ?_
      show Steps p.tables e below (s₁.setTop (mkF m 7 #[.val (.int p0), .val (.int p1), .unset] [(.int (0 : Int32))])) _
      refine XS.goto X0.here hx rfl (pc0 := 7) (pc' := 11) rfl (hb hby at_7) (by decide) (by decide) ?_
      show Steps p.tables e below (s₁.setTop (mkF m 11 #[.val (.int p0), .val (.int p1), .unset] [(.int (0 : Int32))])) _
      refine XS.istoreN X0.here hx rfl (hb hby at_11) rfl (l' := #[.val (.int p0), .val (.int p1), .val (.int (0 : Int32))]) rfl ?_
      show Steps p.tables e below (s₁.setTop (mkF m 12 #[.val (.int p0), .val (.int p1), .val (.int (0 : Int32))] [])) _
      refine XS.iloadN X0.here hx rfl (hb hby at_12) rfl ?_
      show Steps p.tables e below (s₁.setTop (mkF m 13 #[.val (.int p0), .val (.int p1), .val (.int (0 : Int32))] [(.int p0)])) _
      refine st25 _ ?_
      show Steps p.tables e below (T25.setTop (mkF m 16 #[.val (.int p0), .val (.int p1), .val (.int (0 : Int32))] [(.int (1 : Int32))])) _
      refine XS.ifNo X25.here hx rfl (hb hby at_16) rfl ((if0 _ _).trans (feq ((by decide) : ¬ ((1 : Int32) = (0 : Int32)))).1) ?_
      show Steps p.tables e below (T25.setTop (mkF m 19 #[.val (.int p0), .val (.int p1), .val (.int (0 : Int32))] [])) _
      refine XS.iloadN X25.here hx rfl (hb hby at_19) rfl ?_
      show Steps p.tables e below (T25.setTop (mkF m 20 #[.val (.int p0), .val (.int p1), .val (.int (0 : Int32))] [(.int p1)])) _
      refine st26 _ ?_
      show Steps p.tables e below (T26.setTop (mkF m 23 #[.val (.int p0), .val (.int p1), .val (.int (0 : Int32))] [(.int (1 : Int32))])) _
      refine XS.ifNo X26.here hx rfl (hb hby at_23) rfl ((if0 _ _).trans (feq ((by decide) : ¬ ((1 : Int32) = (0 : Int32)))).1) ?_
      show Steps p.tables e below (T26.setTop (mkF m 26 #[.val (.int p0), .val (.int p1), .val (.int (0 : Int32))] [])) _
      refine XS.iloadN X26.here hx rfl (hb hby at_26) rfl ?_
      show Steps p.tables e below (T26.setTop (mkF m 27 #[.val (.int p0), .val (.int p1), .val (.int (0 : Int32))] [(.int (0 : Int32))])) _
      refine st27 _ ?_
      show Steps p.tables e below (T27.setTop (mkF m 30 #[.val (.int p0), .val (.int p1), .val (.int (0 : Int32))] [(.int (1 : Int32))])) _
      refine XS.ifNo X27.here hx rfl (hb hby at_30) rfl ((if0 _ _).trans (feq ((by decide) : ¬ ((1 : Int32) = (0 : Int32)))).1) ?_
      show Steps p.tables e below (T27.setTop (mkF m 33 #[.val (.int p0), .val (.int p1), .val (.int (0 : Int32))] [])) _
      refine XS.iconst X27.here hx rfl (hb hby at_33) ?_
      show Steps p.tables e below (T27.setTop (mkF m 34 #[.val (.int p0), .val (.int p1), .val (.int (0 : Int32))] [(.int (1 : Int32))])) _
      refine XS.goto X27.here hx rfl (pc0 := 34) (pc' := 38) rfl (hb hby at_34) (by decide) (by decide) ?_
      show Steps p.tables e below (T27.setTop (mkF m 38 #[.val (.int p0), .val (.int p1), .val (.int (0 : Int32))] [(.int (1 : Int32))])) _
      exact retN X27 hx (t := .boolean) Bd.returns (by simp) (hb hby at_38) hr
    · show Q0 Z p0 p1 wEQUAL wBELOW wABOVE h0 n0 _ T27.heap _
      rw [e27]
      exact ⟨rfl, N27, rfl⟩
  · obtain ⟨_, _, ⟨T29, L29, k29, n29⟩, -, X29, ⟨Lc29, hQ29, l29, y29, z29⟩, st29⟩ := Jvm.LawKit.callS X0 hx (y := (⟨"com/example/true_witness/truewitness/datatypes/RelationOfPinLaw", "signAgrees", "(I)Z"⟩ : MethodName)) hown (mvT hZ (hw _ (List.mem_of_getElem? (i := 0) rfl))) (mvT hZ (hw _ (List.mem_of_getElem? (i := 1) rfl))) (mvT hZ (hw _ (List.mem_of_getElem? (i := 2) rfl))) (mvT hZ (hw _ (List.mem_of_getElem? (i := 3) rfl))) (by decide) (backOf (W := 0) (rm1 l Z a0 hw [] p0 wEQUAL wBELOW wABOVE h0 n0 Z0 W) hZ (hw _ (List.mem_of_getElem? (i := 3) rfl)) (hw _ (List.mem_of_getElem? (i := 2) rfl)) (by decide) (by decide)) (g := (mkF m 13 #[.val (.int p0), .val (.int p1), .val (.int p0)] [(.int p0)])) rfl (by rw [hml]; rfl) (argsL := [(.int p0)]) (rest := []) (lenOf pd_1 rfl) rfl (by show 2 * 0 + _ ≤ _; exact Nat.le_of_eq rfl) (hb hby at_13) (fun _ _ => ⟨rfl, e0, (by decide : 0 + 0 ≤ _), (by decide : 0 + 0 ≤ _)⟩)
    dsimp only [Pt.U, Pt.locs, Pt.cells, Pt.slots] at X29 l29 y29 z29 st29 hQ29
    subst l29 y29 z29
    obtain ⟨rfl, N29q, e29⟩ := hQ29
    have N29 := Fr.app N0 N29q
    obtain ⟨_, _, ⟨T30, L30, k30, n30⟩, -, X30, ⟨Lc30, hQ30, l30, y30, z30⟩, st30⟩ := Jvm.LawKit.callS X29 hx (y := (⟨"com/example/true_witness/truewitness/datatypes/RelationOfPinLaw", "signAgrees", "(I)Z"⟩ : MethodName)) hown (mvT hZ (hw _ (List.mem_of_getElem? (i := 0) rfl))) (mvT hZ (hw _ (List.mem_of_getElem? (i := 1) rfl))) (mvT hZ (hw _ (List.mem_of_getElem? (i := 2) rfl))) (mvT hZ (hw _ (List.mem_of_getElem? (i := 3) rfl))) (by decide) (backOf (W := 0) (rm1 l Z a0 hw [] p1 wEQUAL wBELOW wABOVE h0 n0 Z0 W) hZ (hw _ (List.mem_of_getElem? (i := 3) rfl)) (hw _ (List.mem_of_getElem? (i := 2) rfl)) (by decide) (by decide)) (g := (mkF m 20 #[.val (.int p0), .val (.int p1), .val (.int p0)] [(.int p1)])) rfl (by rw [hml]; rfl) (argsL := [(.int p1)]) (rest := []) (lenOf pd_1 rfl) rfl (by show 2 * 0 + _ ≤ _; exact Nat.le_of_eq rfl) (hb hby at_20) (fun _ _ => ⟨rfl, e29, (by decide : 0 + 0 ≤ _), (by decide : 0 + 0 ≤ _)⟩)
    dsimp only [Pt.U, Pt.locs, Pt.cells, Pt.slots] at X30 l30 y30 z30 st30 hQ30
    subst l30 y30 z30
    obtain ⟨rfl, N30q, e30⟩ := hQ30
    have N30 := Fr.app N29 N30q
    obtain ⟨_, _, ⟨T31, L31, k31, n31⟩, -, X31, ⟨Lc31, hQ31, l31, y31, z31⟩, st31⟩ := Jvm.LawKit.callS X30 hx (y := (⟨"com/example/true_witness/truewitness/datatypes/RelationOfPinLaw", "signAgrees", "(I)Z"⟩ : MethodName)) hown (mvT hZ (hw _ (List.mem_of_getElem? (i := 0) rfl))) (mvT hZ (hw _ (List.mem_of_getElem? (i := 1) rfl))) (mvT hZ (hw _ (List.mem_of_getElem? (i := 2) rfl))) (mvT hZ (hw _ (List.mem_of_getElem? (i := 3) rfl))) (by decide) (backOf (W := 0) (rm1 l Z a0 hw [] p0 wEQUAL wBELOW wABOVE h0 n0 Z0 W) hZ (hw _ (List.mem_of_getElem? (i := 3) rfl)) (hw _ (List.mem_of_getElem? (i := 2) rfl)) (by decide) (by decide)) (g := (mkF m 27 #[.val (.int p0), .val (.int p1), .val (.int p0)] [(.int p0)])) rfl (by rw [hml]; rfl) (argsL := [(.int p0)]) (rest := []) (lenOf pd_1 rfl) rfl (by show 2 * 0 + _ ≤ _; exact Nat.le_of_eq rfl) (hb hby at_27) (fun _ _ => ⟨rfl, e30, (by decide : 0 + 0 ≤ _), (by decide : 0 + 0 ≤ _)⟩)
    dsimp only [Pt.U, Pt.locs, Pt.cells, Pt.slots] at X31 l31 y31 z31 st31 hQ31
    subst l31 y31 z31
    obtain ⟨rfl, N31q, e31⟩ := hQ31
    have N31 := Fr.app N30 N31q
    obtain ⟨fs, hr, hrun, hended, hW, hsame⟩ := X31.leave (v := some (.int (1 : Int32))) (fun h => by rw [Bd.returns] at h; cases h)
    refine ⟨_, _, pre0 _ ?_, hrun, hended, _, _, rfl, ?_, ⟨_, rfl⟩, hW, hsame.mono (by decide) (by decide)⟩
    · show Steps p.tables e below (s₁.setTop (mkF m 0 #[.val (.int p0), .val (.int p1), .unset] [])) _
      refine XS.iloadN X0.here hx rfl (hb hby at_0) rfl ?_
      show Steps p.tables e below (s₁.setTop (mkF m 1 #[.val (.int p0), .val (.int p1), .unset] [(.int p1)])) _
      refine XS.iconst X0.here hx rfl (hb hby at_1) ?_
      show Steps p.tables e below (s₁.setTop (mkF m 2 #[.val (.int p0), .val (.int p1), .unset] [(.int (3 : Int32)), (.int p1)])) _
      refine XS.iand X0.here hx rfl (hb hby at_2) rfl ?_
      show Steps p.tables e below (s₁.setTop (mkF m 3 #[.val (.int p0), .val (.int p1), .unset] [(.int (p1 &&& (3 : Int32)))])) _
      refine XS.ifYes X0.here hx rfl (pc0 := 3) (pc' := 10) rfl (hb hby at_3) rfl ((if0 _ _).trans (feq c24).2) (by decide) (by decide) ?_
      show Steps p.tables e below (s₁.setTop (mkF m 10 #[.val (.int p0), .val (.int p1), .unset] [])) _
      refine XS.iloadN X0.here hx rfl (hb hby at_10) rfl ?_
      show Steps p.tables e below (s₁.setTop (mkF m 11 #[.val (.int p0), .val (.int p1), .unset] [(.int p0)])) _
      refine XS.istoreN X0.here hx rfl (hb hby at_11) rfl (l' := #[.val (.int p0), .val (.int p1), .val (.int p0)]) rfl ?_
      show Steps p.tables e below (s₁.setTop (mkF m 12 #[.val (.int p0), .val (.int p1), .val (.int p0)] [])) _
      refine XS.iloadN X0.here hx rfl (hb hby at_12) rfl ?_
      show Steps p.tables e below (s₁.setTop (mkF m 13 #[.val (.int p0), .val (.int p1), .val (.int p0)] [(.int p0)])) _
      refine st29 _ ?_
      show Steps p.tables e below (T29.setTop (mkF m 16 #[.val (.int p0), .val (.int p1), .val (.int p0)] [(.int (1 : Int32))])) _
      refine XS.ifNo X29.here hx rfl (hb hby at_16) rfl ((if0 _ _).trans (feq ((by decide) : ¬ ((1 : Int32) = (0 : Int32)))).1) ?_
      show Steps p.tables e below (T29.setTop (mkF m 19 #[.val (.int p0), .val (.int p1), .val (.int p0)] [])) _
      refine XS.iloadN X29.here hx rfl (hb hby at_19) rfl ?_
      show Steps p.tables e below (T29.setTop (mkF m 20 #[.val (.int p0), .val (.int p1), .val (.int p0)] [(.int p1)])) _
      refine st30 _ ?_
      show Steps p.tables e below (T30.setTop (mkF m 23 #[.val (.int p0), .val (.int p1), .val (.int p0)] [(.int (1 : Int32))])) _
      refine XS.ifNo X30.here hx rfl (hb hby at_23) rfl ((if0 _ _).trans (feq ((by decide) : ¬ ((1 : Int32) = (0 : Int32)))).1) ?_
      show Steps p.tables e below (T30.setTop (mkF m 26 #[.val (.int p0), .val (.int p1), .val (.int p0)] [])) _
      refine XS.iloadN X30.here hx rfl (hb hby at_26) rfl ?_
      show Steps p.tables e below (T30.setTop (mkF m 27 #[.val (.int p0), .val (.int p1), .val (.int p0)] [(.int p0)])) _
      refine st31 _ ?_
      show Steps p.tables e below (T31.setTop (mkF m 30 #[.val (.int p0), .val (.int p1), .val (.int p0)] [(.int (1 : Int32))])) _
      refine XS.ifNo X31.here hx rfl (hb hby at_30) rfl ((if0 _ _).trans (feq ((by decide) : ¬ ((1 : Int32) = (0 : Int32)))).1) ?_
      show Steps p.tables e below (T31.setTop (mkF m 33 #[.val (.int p0), .val (.int p1), .val (.int p0)] [])) _
      refine XS.iconst X31.here hx rfl (hb hby at_33) ?_
      show Steps p.tables e below (T31.setTop (mkF m 34 #[.val (.int p0), .val (.int p1), .val (.int p0)] [(.int (1 : Int32))])) _
      refine XS.goto X31.here hx rfl (pc0 := 34) (pc' := 38) rfl (hb hby at_34) (by decide) (by decide) ?_
      show Steps p.tables e below (T31.setTop (mkF m 38 #[.val (.int p0), .val (.int p1), .val (.int p0)] [(.int (1 : Int32))])) _
      exact retN X31 hx (t := .boolean) Bd.returns (by simp) (hb hby at_38) hr
    · show Q0 Z p0 p1 wEQUAL wBELOW wABOVE h0 n0 _ T31.heap _
      rw [e31]
      exact ⟨rfl, N31, rfl⟩
set_option maxRecDepth 65536 in
set_option maxHeartbeats 40000000 in
theorem comes_1 {Post : Tables → Env → Array Value → State → Outcome → State → Prop} (hpost : ∀ tb e args s v u, (limb_1_1.after args s (.returned v) u = true ∧ limb_1_2.after args s (.returned v) u = true ∧ True) → FrameEnd s (.returned v) u (Jvm.fieldLocs frame_1_writes args s ++ Jvm.arrayLocs frame_1_arrays args s ++ Jvm.staticLocs frame_1_statics s) 0 0 → Post tb e args s (.returned v) u) :
    ArmFor flags0 classFile x code maxLocals ret World_1 tables_1 room_1 Calls_1 rest_1 Pre_1 Post := by
  intro l hfl _ _ p e ha hc hk s m args below hf hA hF happ hP
  obtain ⟨hcalls, hrest, hpre⟩ := hP
  obtain ⟨-, -, -, hnamed, -, -, -, hat⟩ := (Spec.applies_iff hf).mp happ
  obtain ⟨hg, hn⟩ := and_e (Cond.before_iff.mp (show (Jvm.Cond.and given_1 narrow_1).before args s = true from hpre))
  obtain ⟨g0, r0⟩ := and_e hg
  obtain ⟨g1, r1⟩ := and_e r0
  obtain ⟨w0, w1, rfl⟩ : ∃ w0 w1 : Value, args = #[w0, w1] := by
    have hs : args.size = 2 := by simpa [Cond.value, given_1] using g0
    obtain ⟨L⟩ := args
    match L, hs with
    | [w0, w1], _ => exact ⟨w0, w1, rfl⟩
  have hw := fun d (hd : d ∈ tables_1) => atoms_spec (ws := Jvm.Cond.code x code maxLocals ret :: tables_1) hat d (List.mem_cons_of_mem _ hd)
  obtain ⟨i0, ei0⟩ := is_v g1
  obtain rfl : w0 = (.int i0) := Option.some.inj ei0
  obtain ⟨i1, ei1⟩ := is_v r1
  obtain rfl : w1 = (.int i1) := Option.some.inj ei1
  obtain ⟨wEQUAL, wBELOW, wABOVE, W⟩ := own_world hw hn
  obtain ⟨n, o, h1, h2, h3, _, L, rfl, ⟨rfl, N, -⟩, hq⟩ := rm0 l s _ hw tables_1 i0 i1 wEQUAL wBELOW wABOVE s.heap s.heap.size (Nat.le_refl _) W p e ha hc hk s m _ below hf ((Spec.applies_iff_loose hf).mp happ).1 ⟨rfl, State.Warmed39.refl s, rfl⟩ trivial
  refine ⟨n, _, h1, h2, h3, hpost _ _ _ _ _ _ ⟨Cond.after_iff.mpr rfl, Cond.after_iff.mpr (eq_i res_at (Term.int_eval (1)) rfl), trivial⟩ ⟨hq.1, hq.2.1, (hq.2.2.sift fun y hy => Or.inr (N y hy)).mono (by decide) (by decide)⟩⟩
theorem main_1_1 : Claimed_1_1 := comes_1 fun _ _ _ _ _ _ h hF => ⟨h.1, hF⟩
theorem main_1_2 : Claimed_1_2 := comes_1 fun _ _ _ _ _ _ h hF => ⟨h.2.1, hF⟩
end Jvm.Pilot.@@N@@
namespace Jvm.Pilot.@@N@@
open Jvm Jvm.ClassFile Sem Op Lib Jvm.Free Jvm.Stand Jvm.Pilot.@@N@@.Jvm.D
/-! MADE BY PROGRAM (witnessworld.py) out of the Statement's table words and the real class files: 10 classes; the members and pool entries that the words name. The judged class is class 1, her method 1. -/
namespace start1
open Jvm.ClassFile
def u (s : String) : CpInfo := .utf8 (stringToUtf16 s)
/-- a pool by its gaps: so many unusable entries, then the entry; so many at the end -/
def gap : Nat → List CpInfo → List CpInfo
  | 0, r => r
  | n + 1, r => .unusable :: gap n r
def poolList (es : List (Nat × CpInfo)) (last : Nat) : List CpInfo := es.foldr (fun e r => gap e.1 (e.2 :: r)) (gap last [])
def pool (es : List (Nat × CpInfo)) (last : Nat) : Array CpInfo := ⟨poolList es last⟩
def fileOf (pool : Array CpInfo) (this : Nat) (attrs : Array Attribute := #[]) (ms : Array MethodInfo := #[]) (fl : Nat := 33) (sup : Nat := 0) (ifs : Array Nat := #[]) (fds : Array FieldInfo := #[]) : ClassFile where
  minorVersion := 0
  majorVersion := 65
  constantPool := pool
  accessFlags := fl
  thisClass := this
  superClass := sup
  interfaces := ifs
  fields := fds
  methods := ms
  attributes := attrs
def plain (name : String) (sup : Option ClassId) : Class where
  name := name
  kind := .ordinary
  loader := none
  accessFlags := 33
  super := sup
  interfaces := #[]
  cf := none
  fields := #[]
  methods := #[]
  instanceTypes := #[]
  staticTypes := #[]
  resolved := #[]
  callSites := []
  init := .initialized
  statics := none
  mirror := none

def pool0 : Array CpInfo := pool [(5, u "<init>"), (0, u "()V"), (1, .class_ 10), (1, u "java/lang/Object")] 113

def k0m0 : Method := { name := "<init>", desc := "()V", sig := { parameters := [], returnType := none }, accessFlags := 1, code := none }
/-- java/lang/Object -/
def k0 : Class := { plain "java/lang/Object" none with
  accessFlags := 33
  interfaces := #[]
  cf := some (fileOf pool0 8 #[] #[{ accessFlags := 1, nameIndex := 5, descriptorIndex := 6, attributes := #[] }] 33 0 #[] #[])
  fields := #[]
  methods := #[k0m0]
  instanceTypes := #[]
  staticTypes := #[]
  resolved := Array.replicate 124 none
  statics := none }

def pool1 : Array CpInfo := pool [(2, .class_ 4), (1, u "java/lang/Object"), (0, u "<init>"), (0, u "()V"), (0, .methodref 8 9), (0, .class_ 10), (0, .nameAndType 11 12), (0, u "com/example/true_witness/truewitness/datatypes/RelationOfPinLaw"), (0, u "signAgrees"), (0, u "(I)Z"), (0, .methodref 14 15), (0, .class_ 16), (0, .nameAndType 17 18), (0, u "com/example/true_witness/truewitness/datatypes/Order$Relation"), (0, u "of"), (0, u "(I)Lcom/example/true_witness/truewitness/datatypes/Order$Relation;"), (0, .fieldref 14 20), (0, .nameAndType 21 22), (0, u "BELOW"), (0, u "Lcom/example/true_witness/truewitness/datatypes/Order$Relation;"), (0, .fieldref 14 24), (0, .nameAndType 25 22), (0, u "EQUAL"), (0, .fieldref 14 27), (0, .nameAndType 28 22), (0, u "ABOVE"), (2, u "law"), (0, u "(II)Z")] 7

def k1m0 : Method := { name := "<init>", desc := "()V", sig := { parameters := [], returnType := none }, accessFlags := 1, code := none }
def k1c1 : Code := { maxStack := 2, maxLocals := 3, code := code, exceptionTable := #[], attributes := #[] }
def k1m1 : Method := { name := "law", desc := "(II)Z", sig := { parameters := [.int, .int], returnType := some .boolean }, accessFlags := 9, code := some k1c1 }
def k1c2 : Code := { maxStack := 2, maxLocals := 5, code := method_3_code, exceptionTable := #[], attributes := #[] }
def k1m2 : Method := { name := "signAgrees", desc := "(I)Z", sig := { parameters := [.int], returnType := some .boolean }, accessFlags := 10, code := some k1c2 }
/-- com/example/true_witness/truewitness/datatypes/RelationOfPinLaw -/
def k1 : Class := { plain "com/example/true_witness/truewitness/datatypes/RelationOfPinLaw" (some 0) with
  accessFlags := 49
  interfaces := #[]
  cf := some (fileOf pool1 8 #[] #[{ accessFlags := 1, nameIndex := 5, descriptorIndex := 6, attributes := #[] }, { accessFlags := 9, nameIndex := 31, descriptorIndex := 32, attributes := #[] }, { accessFlags := 10, nameIndex := 11, descriptorIndex := 12, attributes := #[] }] 49 2 #[] #[])
  fields := #[]
  methods := #[k1m0, k1m1, k1m2]
  instanceTypes := #[]
  staticTypes := #[]
  resolved := Array.replicate 40 none
  statics := none }

def pool2 : Array CpInfo := pool [(1, .class_ 2), (0, u "java/lang/constant/Constable"), (0, .class_ 4), (0, u "java/lang/Object")] 6

/-- java/lang/constant/Constable -/
def k2 : Class := { plain "java/lang/constant/Constable" (some 0) with
  accessFlags := 1537
  interfaces := #[]
  cf := some (fileOf pool2 1 #[] #[] 1537 3 #[] #[])
  fields := #[]
  methods := #[]
  instanceTypes := #[]
  staticTypes := #[]
  resolved := Array.replicate 11 none
  statics := none }

def pool3 : Array CpInfo := pool [(1, .class_ 2), (0, u "java/lang/Comparable"), (0, .class_ 4), (0, u "java/lang/Object")] 7

/-- java/lang/Comparable -/
def k3 : Class := { plain "java/lang/Comparable" (some 0) with
  accessFlags := 1537
  interfaces := #[]
  cf := some (fileOf pool3 1 #[] #[] 1537 3 #[] #[])
  fields := #[]
  methods := #[]
  instanceTypes := #[]
  staticTypes := #[]
  resolved := Array.replicate 12 none
  statics := none }

def pool4 : Array CpInfo := pool [(1, .class_ 2), (0, u "java/io/Serializable"), (0, .class_ 4), (0, u "java/lang/Object")] 2

/-- java/io/Serializable -/
def k4 : Class := { plain "java/io/Serializable" (some 0) with
  accessFlags := 1537
  interfaces := #[]
  cf := some (fileOf pool4 1 #[] #[] 1537 3 #[] #[])
  fields := #[]
  methods := #[]
  instanceTypes := #[]
  staticTypes := #[]
  resolved := Array.replicate 7 none
  statics := none }

def pool5 : Array CpInfo := pool [(2, .class_ 4), (1, u "java/lang/Enum"), (0, u "name"), (0, u "Ljava/lang/String;"), (2, u "ordinal"), (0, u "I"), (1, .class_ 14), (1, u "java/lang/Object"), (4, u "hash"), (86, .class_ 108), (1, u "java/lang/Enum$EnumDesc"), (2, .class_ 112), (0, u "java/lang/constant/Constable"), (0, .class_ 114), (0, u "java/lang/Comparable"), (0, .class_ 116), (0, u "java/io/Serializable")] 87

/-- java/lang/Enum -/
def k5 : Class := { plain "java/lang/Enum" (some 0) with
  accessFlags := 1057
  interfaces := #[2, 3, 4]
  cf := some (fileOf pool5 2 #[.nestMembers #[106]] #[] 1057 12 #[111, 113, 115] #[{ accessFlags := 18, nameIndex := 5, descriptorIndex := 6, attributes := #[] }, { accessFlags := 18, nameIndex := 9, descriptorIndex := 10, attributes := #[] }, { accessFlags := 2, nameIndex := 19, descriptorIndex := 10, attributes := #[] }])
  fields := #[{ name := "name", type := (.object "java/lang/String"), accessFlags := 18, slot := 0, constantValue := 0 }, { name := "ordinal", type := .int, accessFlags := 18, slot := 1, constantValue := 0 }, { name := "hash", type := .int, accessFlags := 2, slot := 2, constantValue := 0 }]
  methods := #[]
  instanceTypes := #[(.object "java/lang/String"), .int, .int]
  staticTypes := #[]
  resolved := Array.replicate 204 none
  statics := none }

def pool6 : Array CpInfo := pool [(1, .class_ 2), (0, u "com/example/true_witness/truewitness/datatypes/Order$Relation"), (0, .fieldref 1 4), (0, .nameAndType 5 6), (0, u "BELOW"), (0, u "Lcom/example/true_witness/truewitness/datatypes/Order$Relation;"), (0, .fieldref 1 8), (0, .nameAndType 9 6), (0, u "EQUAL"), (0, .fieldref 1 11), (0, .nameAndType 12 6), (0, u "ABOVE"), (2, u "INCOMPARABLE"), (2, u "$VALUES"), (0, u "[Lcom/example/true_witness/truewitness/datatypes/Order$Relation;"), (6, .class_ 28), (1, u "java/lang/Enum"), (22, u "of"), (0, u "(I)Lcom/example/true_witness/truewitness/datatypes/Order$Relation;"), (6, .class_ 60), (0, u "com/example/true_witness/truewitness/datatypes/Order")] 2

def k6c0 : Code := { maxStack := 1, maxLocals := 2, code := prog_121_method_4_code, exceptionTable := #[], attributes := #[] }
def k6m0 : Method := { name := "of", desc := "(I)Lcom/example/true_witness/truewitness/datatypes/Order$Relation;", sig := { parameters := [.int], returnType := some (.object "com/example/true_witness/truewitness/datatypes/Order$Relation") }, accessFlags := 8, code := some k6c0 }
/-- com/example/true_witness/truewitness/datatypes/Order$Relation -/
def k6 : Class := { plain "com/example/true_witness/truewitness/datatypes/Order$Relation" (some 5) with
  accessFlags := 16433
  interfaces := #[]
  cf := some (fileOf pool6 1 #[.nestHost 59] #[{ accessFlags := 8, nameIndex := 51, descriptorIndex := 52, attributes := #[] }] 16433 26 #[] #[{ accessFlags := 16409, nameIndex := 5, descriptorIndex := 6, attributes := #[] }, { accessFlags := 16409, nameIndex := 9, descriptorIndex := 6, attributes := #[] }, { accessFlags := 16409, nameIndex := 12, descriptorIndex := 6, attributes := #[] }, { accessFlags := 16409, nameIndex := 15, descriptorIndex := 6, attributes := #[] }, { accessFlags := 4122, nameIndex := 18, descriptorIndex := 19, attributes := #[] }])
  fields := #[{ name := "BELOW", type := (.object "com/example/true_witness/truewitness/datatypes/Order$Relation"), accessFlags := 16409, slot := 0, constantValue := 0 }, { name := "EQUAL", type := (.object "com/example/true_witness/truewitness/datatypes/Order$Relation"), accessFlags := 16409, slot := 1, constantValue := 0 }, { name := "ABOVE", type := (.object "com/example/true_witness/truewitness/datatypes/Order$Relation"), accessFlags := 16409, slot := 2, constantValue := 0 }, { name := "INCOMPARABLE", type := (.object "com/example/true_witness/truewitness/datatypes/Order$Relation"), accessFlags := 16409, slot := 3, constantValue := 0 }, { name := "$VALUES", type := (.array (.object "com/example/true_witness/truewitness/datatypes/Order$Relation")), accessFlags := 4122, slot := 4, constantValue := 0 }]
  methods := #[k6m0]
  instanceTypes := #[(.object "java/lang/String"), .int, .int]
  staticTypes := #[(.object "com/example/true_witness/truewitness/datatypes/Order$Relation"), (.object "com/example/true_witness/truewitness/datatypes/Order$Relation"), (.object "com/example/true_witness/truewitness/datatypes/Order$Relation"), (.object "com/example/true_witness/truewitness/datatypes/Order$Relation"), (.array (.object "com/example/true_witness/truewitness/datatypes/Order$Relation"))]
  resolved := Array.replicate 63 none
  statics := some 0 }

def pool7 : Array CpInfo := pool [(1, u "java/lang/Cloneable"), (0, .class_ 1), (0, u "java/lang/Object"), (0, .class_ 3)] 3

/-- java/lang/Cloneable -/
def k7 : Class := { plain "java/lang/Cloneable" (some 0) with
  accessFlags := 1537
  interfaces := #[]
  cf := some (fileOf pool7 2 #[] #[] 1537 4 #[] #[])
  fields := #[]
  methods := #[]
  instanceTypes := #[]
  staticTypes := #[]
  resolved := Array.replicate 8 none
  statics := none }

/-- the primitive byte -/
def k8 : Class := { plain "byte" none with kind := .primitive 'B', accessFlags := 0x411 }
/-- [B -/
def k9 : Class := { plain "[B" (some 0) with kind := .array 8 .byte, interfaces := #[7, 4], accessFlags := 1041 }

def heap : Heap := #[{ cls := 6, slots := #[.ref 1, .ref 2, .ref 3, .null, .null], vm := .statics 6 },
  { cls := 6, slots := #[.null, .int 0, .int 0], vm := .none },
  { cls := 6, slots := #[.null, .int 1, .int 0], vm := .none },
  { cls := 6, slots := #[.null, .int 2, .int 0], vm := .none }]
def classes : Array Class := #[k0, k1, k2, k3, k4, k5, k6, k7, k8, k9]
def interned : List (Array UInt16 × Addr) := []
def slotsUsed : Nat := 14
def theMethod : MethodId := ⟨1, 1⟩
def args0 : Array Value := #[.int 5, .int 5]
def aboutOver (below : List Frame) : State where
  vm := { classes := classes, interned := interned.toArray }
  heap := heap
  slotsUsed := slotsUsed
  threads := #[{ frames := .invoking theMethod args0 :: below }]
def below0 : List Frame := [.native { method := ⟨0, 0⟩, args := #[] }]
def about1 : State := aboutOver below0
def p0 : Program := .bare "" "" ""
def e0 : Env := launch0.env 0 0 0
theorem w_frames : about1.frames = Frame.invoking theMethod args0 :: below0 := rfl
set_option maxRecDepth 65536 in
theorem w_args : argsFit about1.vm theMethod args0 = true := by decide +kernel
set_option maxRecDepth 65536 in
theorem w_heap : heapFits about1 = true := by decide +kernel
set_option maxRecDepth 65536 in
theorem w_runnable : about1.curStatus? = some .runnable := by decide +kernel
set_option maxRecDepth 65536 in
theorem w_alone : about1.alone = true := by decide +kernel
set_option maxRecDepth 65536 in
theorem w_named : about1.methodNamed? x = some theMethod := by decide +kernel
set_option maxRecDepth 65536 in
theorem w_hears : about1.hears theMethod below0 = true := by decide +kernel
set_option maxRecDepth 65536 in
theorem w_ripe : about1.ripe theMethod args0 below0 = true := by decide +kernel
theorem w_running : about1.status = .running := rfl
set_option maxRecDepth 65536 in
theorem w_room : about1.hasRoom e0.platform room_1 = true :=
  launch0.hasRoom_least _ room_1 (by decide +kernel) (by decide +kernel) (by decide +kernel) (by decide +kernel) (by decide +kernel) (by decide +kernel)
theorem allAtoms_all (ts : List Jvm.Cond) (a : Array Jvm.Value) (st : Jvm.State) : (allAtoms ts).before a st = ts.all (fun c => c.before a st) := by
  induction ts with
  | nil => rfl
  | cons c t ih =>
    show (Jvm.Cond.and c (allAtoms t)).before a st = _
    rw [Jvm.Cond.before_and, ih, List.all_cons]
def words1 : List Jvm.Cond := Jvm.Cond.code x code maxLocals ret :: tables_1
/-- a 'code' word, met by the world's own term for the bytes: nothing is compared byte by byte -/
theorem code_word {y : MethodName} {bytes : ByteArray} {mx : Nat} {rt : Option FieldType} {a : Array Value} {s : State} {m : MethodId} {meth : Method} {c : Code} (h1 : s.methodNamed? y = some m) (h2 : s.vm.method? m = some meth) (h3 : meth.code = some c) (h4 : c.code = bytes)
    (h5 : (c.maxLocals == mx && c.exceptionTable.isEmpty && decide (c.maxStack ≤ mostOperands) && decide (meth.sig.returnType = rt) && !meth.locks && decide (parseMethodDescriptor y.desc = some meth.sig)) = true) : (Jvm.Cond.code y bytes mx rt).before a s = true := by
  simp only [Bool.and_eq_true, beq_iff_eq, Bool.not_eq_true', decide_eq_true_eq] at h5
  obtain ⟨⟨⟨⟨⟨g1, g2⟩, g3⟩, g4⟩, g5⟩, g6⟩ := h5
  simp [Cond.before, Cond.holds, Cond.value, h1, h2, h3, h4, g1, g2, g3, g4, g5, g6]
def isCode : Jvm.Cond → Bool
  | .code _ _ _ _ => true
  | _ => false
theorem all_split {L : List Jvm.Cond} {P : Jvm.Cond → Bool} (h1 : L.all (fun c => isCode c || P c) = true) (h2 : ∀ c ∈ L.filter isCode, P c = true) : L.all P = true := by
  refine List.all_eq_true.mpr fun c hc => ?_
  have h := List.all_eq_true.mp h1 c hc
  rcases Bool.eq_false_or_eq_true (isCode c) with hi | hi
  · exact h2 c (List.mem_filter.mpr ⟨hc, hi⟩)
  · simpa [hi] using h
set_option maxRecDepth 65536 in
theorem w_c0 : (Jvm.Cond.code x code maxLocals ret).before args0 about1 = true := code_word (m := ⟨1, 1⟩) (meth := k1m1) (c := k1c1) (by decide +kernel) rfl rfl rfl (by decide +kernel)
set_option maxRecDepth 65536 in
theorem w_c1 : (Jvm.Cond.code ({ cls := "com/example/true_witness/truewitness/datatypes/RelationOfPinLaw", name := "signAgrees", desc := "(I)Z" } : Jvm.MethodName) method_3_code (5 : Nat) (Option.some Jvm.ClassFile.FieldType.boolean)).before args0 about1 = true := code_word (m := ⟨1, 2⟩) (meth := k1m2) (c := k1c2) (by decide +kernel) rfl rfl rfl (by decide +kernel)
set_option maxRecDepth 65536 in
theorem w_c2 : (Jvm.Cond.code ({ cls := "com/example/true_witness/truewitness/datatypes/Order$Relation", name := "of", desc := "(I)Lcom/example/true_witness/truewitness/datatypes/Order$Relation;" } : Jvm.MethodName) prog_121_method_4_code (2 : Nat) (Option.some (Jvm.ClassFile.FieldType.object "com/example/true_witness/truewitness/datatypes/Order$Relation"))).before args0 about1 = true := code_word (m := ⟨6, 0⟩) (meth := k6m0) (c := k6c0) (by decide +kernel) rfl rfl rfl (by decide +kernel)
def codes1 : List Jvm.Cond := [Jvm.Cond.code x code maxLocals ret, Jvm.Cond.code ({ cls := "com/example/true_witness/truewitness/datatypes/RelationOfPinLaw", name := "signAgrees", desc := "(I)Z" } : Jvm.MethodName) method_3_code (5 : Nat) (Option.some Jvm.ClassFile.FieldType.boolean), Jvm.Cond.code ({ cls := "com/example/true_witness/truewitness/datatypes/Order$Relation", name := "of", desc := "(I)Lcom/example/true_witness/truewitness/datatypes/Order$Relation;" } : Jvm.MethodName) prog_121_method_4_code (2 : Nat) (Option.some (Jvm.ClassFile.FieldType.object "com/example/true_witness/truewitness/datatypes/Order$Relation"))]
set_option maxRecDepth 65536 in
theorem codes_eq : words1.filter isCode = codes1 := rfl
theorem w_codes : ∀ c ∈ words1.filter isCode, c.before args0 about1 = true := by
  rw [codes_eq]
  intro c hc
  simp only [codes1, List.mem_cons, List.not_mem_nil, or_false] at hc
  rcases hc with rfl | rfl | rfl
  · exact w_c0
  · exact w_c1
  · exact w_c2
set_option maxRecDepth 65536 in
theorem w_t1 : words1.all (fun c => isCode c || c.before args0 about1) = true := by decide +kernel
theorem w_tables : (allAtoms (Jvm.Cond.code x code maxLocals ret :: tables_1)).before args0 about1 = true := by
  rw [allAtoms_all]
  show words1.all (fun c => c.before args0 about1) = true
  refine all_split ?_ w_codes
  rw [w_t1]
set_option maxRecDepth 65536 in
theorem w_case : (Jvm.Cond.and given_1 narrow_1).before args0 about1 = true := by decide +kernel
theorem w_applies : (headSpec (Jvm.Cond.code x code maxLocals ret :: tables_1) room_1).applies x e0.platform about1 = true :=
  (Spec.applies_iff w_frames).mpr ⟨w_running, w_runnable, w_alone, w_named, w_hears, w_ripe, w_room, w_tables⟩
theorem atStart : AtStart classFile x code maxLocals ret World_1 tables_1 room_1 Calls_1 rest_1 Pre_1 launch0 p0 e0 about1 theMethod args0 below0 :=
  ⟨lists_1, trivial, launch0.admits_env _ _ _, launch0.least_env, fairChoices_fair.cas, fairChoices_fair.clock, w_frames, w_args, w_heap, w_applies, trivial, trivial, w_case⟩
end start1
theorem witness_1 : WitnessClaimed_1 := ⟨start1.p0, start1.e0, start1.about1, start1.theMethod, start1.args0, start1.below0, start1.atStart⟩
end Jvm.Pilot.@@N@@
