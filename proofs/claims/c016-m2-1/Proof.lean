import JvmDerived
import JvmDerived.Pilot.@@N@@Statement
import JvmDerived.Pilot.@@N@@Code
set_option linter.unusedVariables false
set_option linter.unusedSimpArgs false
@@BLOCK:NumsL.lean.txt@@
namespace Jvm.Pilot.@@N@@
open Jvm Jvm.ClassFile Sem Op Lib Jvm.Free Jvm.Stand Jvm.LawKit Jvm.RoadKit Bundle Jvm.Pilot.@@N@@.Jvm.D
theorem own_ord {args : Array Value} {s : State} {t : Term} {x : Addr} {C n d : String} {k : Int32} (ev : t.eval args s none [] s = some (.ref x)) (h : (Jvm.Cond.eq (.field t C n d) (.int k)).value args s none s [] = some true) : s.fieldOf? x C n d = some (.int k) := by
  cases hf : s.fieldOf? x C n d with
  | none => simp [Cond.value, fld_at ev, hf, Term.int_eval] at h
  | some v => cases v <;> simp [Cond.value, fld_at ev, hf, Term.int_eval] at h ⊢; exact h
def own_W (Z : State) (h : Heap) (wFAILS wHOLDS wUNKNOWN : Addr) : Prop := Sta Z h "com/example/rels_from_records/relsfromrecords/schema/Verdict" "FAILS" "Lcom/example/rels_from_records/relsfromrecords/schema/Verdict;" (.ref wFAILS) ∧ Sta Z h "com/example/rels_from_records/relsfromrecords/schema/Verdict" "HOLDS" "Lcom/example/rels_from_records/relsfromrecords/schema/Verdict;" (.ref wHOLDS) ∧ Sta Z h "com/example/rels_from_records/relsfromrecords/schema/Verdict" "UNKNOWN" "Lcom/example/rels_from_records/relsfromrecords/schema/Verdict;" (.ref wUNKNOWN) ∧ Exa Z h wFAILS "com/example/rels_from_records/relsfromrecords/schema/Verdict" ∧ Exa Z h wHOLDS "com/example/rels_from_records/relsfromrecords/schema/Verdict" ∧ Exa Z h wUNKNOWN "com/example/rels_from_records/relsfromrecords/schema/Verdict" ∧ wFAILS ≠ wHOLDS ∧ wFAILS ≠ wUNKNOWN ∧ wHOLDS ≠ wUNKNOWN
set_option maxRecDepth 65536 in
theorem own_world {args : Array Value} {s : State} (hw : ∀ d ∈ tables_1, d.before args s = true) (hn : narrow_1.value args s none s [] = some true) : ∃ wFAILS wHOLDS wUNKNOWN : Addr, own_W s s.heap wFAILS wHOLDS wUNKNOWN := by
  obtain ⟨n0, m0⟩ := and_e hn
  obtain ⟨n1, m1⟩ := and_e m0
  obtain ⟨n2, m2⟩ := and_e m1
  obtain ⟨n3, m3⟩ := and_e m2
  obtain ⟨n4, m4⟩ := and_e m3
  obtain ⟨wFAILS, ev_FAILS⟩ := exa_v n0
  have S_FAILS := Sta.start ev_FAILS (Or.inr ⟨(hw _ (List.mem_of_getElem? (i := 6) rfl)), (hw _ (List.mem_of_getElem? (i := 7) rfl))⟩)
  have E_FAILS := Exa.start ev_FAILS n0
  have f_FAILS := own_ord ev_FAILS n4
  obtain ⟨wHOLDS, ev_HOLDS⟩ := exa_v n1
  have S_HOLDS := Sta.start ev_HOLDS (Or.inr ⟨(hw _ (List.mem_of_getElem? (i := 6) rfl)), (hw _ (List.mem_of_getElem? (i := 22) rfl))⟩)
  have E_HOLDS := Exa.start ev_HOLDS n1
  have f_HOLDS := own_ord ev_HOLDS n3
  obtain ⟨wUNKNOWN, ev_UNKNOWN⟩ := exa_v n2
  have S_UNKNOWN := Sta.start ev_UNKNOWN (Or.inr ⟨(hw _ (List.mem_of_getElem? (i := 6) rfl)), (hw _ (List.mem_of_getElem? (i := 24) rfl))⟩)
  have E_UNKNOWN := Exa.start ev_UNKNOWN n2
  have f_UNKNOWN := own_ord ev_UNKNOWN m4
  have n_FAILS_HOLDS : wFAILS ≠ wHOLDS := fun e => by rw [e, f_HOLDS] at f_FAILS; exact absurd f_FAILS (by decide)
  have n_FAILS_UNKNOWN : wFAILS ≠ wUNKNOWN := fun e => by rw [e, f_UNKNOWN] at f_FAILS; exact absurd f_FAILS (by decide)
  have n_HOLDS_UNKNOWN : wHOLDS ≠ wUNKNOWN := fun e => by rw [e, f_UNKNOWN] at f_HOLDS; exact absurd f_HOLDS (by decide)
  exact ⟨wFAILS, wHOLDS, wUNKNOWN, S_FAILS, S_HOLDS, S_UNKNOWN, E_FAILS, E_HOLDS, E_UNKNOWN, n_FAILS_HOLDS, n_FAILS_UNKNOWN, n_HOLDS_UNKNOWN⟩
theorem own_m3 (x : Int32) : (x &&& (2147483647 : Int32)) % (3 : Int32) = 0 ∨ (x &&& (2147483647 : Int32)) % (3 : Int32) = 1 ∨ (x &&& (2147483647 : Int32)) % (3 : Int32) = 2 := by
  have e1 : (x &&& (2147483647 : Int32)).toInt = x.toInt % 2 ^ 31 := Jvm.Kit.i32_mask x 2147483647 (k := 31) (by decide) (by decide)
  have e2 : ((x &&& (2147483647 : Int32)) % (3 : Int32)).toInt = (x &&& (2147483647 : Int32)).toInt % (3 : Int32).toInt := Jvm.Kit.i32_rem_nonneg (by omega)
  have e3 : (3 : Int32).toInt = 3 := rfl
  rw [e3] at e2
  have h : ((x &&& (2147483647 : Int32)) % (3 : Int32)).toInt = 0 ∨ ((x &&& (2147483647 : Int32)) % (3 : Int32)).toInt = 1 ∨ ((x &&& (2147483647 : Int32)) % (3 : Int32)).toInt = 2 := by omega
  rcases h with h | h | h
  · exact Or.inl (Int32.toInt_inj.mp h)
  · exact Or.inr (Or.inl (Int32.toInt_inj.mp h))
  · exact Or.inr (Or.inr (Int32.toInt_inj.mp h))
theorem d1_0 : decode method_2_code 0 = .ok (.iload_n 0, 1) := by decide +kernel
theorem d1_1 : decode method_2_code 1 = .ok (.ifCond .ne 7, 3) := by decide +kernel
theorem d1_4 : decode method_2_code 4 = .ok (.getstatic 7, 3) := by decide +kernel
theorem d1_7 : decode method_2_code 7 = .ok (.areturn, 1) := by decide +kernel
theorem d1_8 : decode method_2_code 8 = .ok (.iload_n 0, 1) := by decide +kernel
theorem d1_9 : decode method_2_code 9 = .ok (.iconst 1, 1) := by decide +kernel
theorem d1_10 : decode method_2_code 10 = .ok (.if_icmp .ne 7, 3) := by decide +kernel
theorem d1_13 : decode method_2_code 13 = .ok (.getstatic 13, 3) := by decide +kernel
theorem d1_16 : decode method_2_code 16 = .ok (.areturn, 1) := by decide +kernel
theorem d1_17 : decode method_2_code 17 = .ok (.getstatic 16, 3) := by decide +kernel
theorem d1_20 : decode method_2_code 20 = .ok (.areturn, 1) := by decide +kernel
theorem pn_1 : plainName "com/example/rels_from_records/relsfromrecords/schema/VerdictAndPinLaw" = true := by first | (simp [plainName, overriddenIn]; done) | decide +kernel
theorem ef_1 (m : MethodId) (p0 : Int32) : entryFrame m #[(.int p0)] 1 = mkF m 0 #[.val (.int p0)] [] := by first | (simp [entryFrame, mkF, argsToLocals, Value.category]; done) | rfl
def F1 (p0 : Int32) (wFAILS : Addr) (wHOLDS : Addr) (wUNKNOWN : Addr) : Addr := (if p0 = (0 : Int32) then wFAILS else (if p0 = (1 : Int32) then wUNKNOWN else wHOLDS))
def Q1 (Z : State) (p0 : Int32) (wFAILS : Addr) (wHOLDS : Addr) (wUNKNOWN : Addr) (h0 : Heap) (n0 : Nat) (v : Option Value) (h : Heap) (L : List Loc) : Prop := v = some (.ref (F1 p0 wFAILS wHOLDS wUNKNOWN)) ∧ Fr n0 L ∧ h = h0
set_option maxRecDepth 65536 in
set_option maxHeartbeats 40000000 in
theorem rm1 (l : Launch) (Z : State) (a0 : Array Value) (hw : ∀ d ∈ tables_1, d.before a0 Z = true) (ws : List Jvm.Cond) (p0 : Int32) (wFAILS : Addr) (wHOLDS : Addr) (wUNKNOWN : Addr) (h0 : Heap) (n0 : Nat) (Z0 : n0 ≤ h0.size) (W : own_W Z h0 wFAILS wHOLDS wUNKNOWN) :
    MetFree l (⟨"com/example/rels_from_records/relsfromrecords/schema/VerdictAndPinLaw", "pick", "(I)Lcom/example/rels_from_records/relsfromrecords/schema/Verdict;"⟩ : MethodName) (head1 (Jvm.Cond.code (⟨"com/example/rels_from_records/relsfromrecords/schema/VerdictAndPinLaw", "pick", "(I)Lcom/example/rels_from_records/relsfromrecords/schema/Verdict;"⟩ : MethodName) method_2_code 1 (some (.object "com/example/rels_from_records/relsfromrecords/schema/Verdict")) :: ws) ({ frames := 0, cells := 0, slots := 0, locals := 0 } : Room)) (fun a U => a = #[(.int p0)] ∧ Z.Warmed39 U.vm ∧ U.heap = h0) (fun _ _ _ _ _ => True) (fun _ U o U' => ∃ v L, o = .returned v ∧ Q1 Z p0 wFAILS wHOLDS wUNKNOWN h0 n0 v U'.heap L ∧ FrameEnd U o U' L ({ frames := 0, cells := 0, slots := 0, locals := 0 } : Room).cells ({ frames := 0, cells := 0, slots := 0, locals := 0 } : Room).slots) := by
  refine MetFree.of_bodySF (plainFor_of_name pn_1) hisR ?_
  intro p e s m args below meth c s₁ Bd hml0 hP hK
  obtain ⟨rfl, hZ, hh⟩ := hP
  have hx := Bd.exec
  have hby := Bd.bytes
  have hml : c.maxLocals = 1 := hml0
  have hown : s.vm.findClass "com/example/rels_from_records/relsfromrecords/schema/VerdictAndPinLaw" = some m.cls := findClass_of_methodNamed Bd.named
  have X0 : Stand p l e ({ frames := 0, cells := 0, slots := 0, locals := 0 } : Room) s m #[(.int p0)] below meth c s₁ [] 0 0 := Stand.of_body Bd
  have e0 : s₁.heap = h0 := by rw [← hh, Bd.state]; rfl
  have N0 := Fr.nil n0
  have pre0 : ∀ t, Steps p.tables e below (s₁.setTop (mkF m 0 #[.val (.int p0)] [])) t → Steps p.tables e below (s₁.setTop (entryFrame m #[(.int p0)] 1)) t := fun t k => castTop (ef_1 m p0) k
  have W0 := W
  obtain ⟨S_FAILS, S_HOLDS, S_UNKNOWN, E_FAILS, E_HOLDS, E_UNKNOWN, n_FAILS_HOLDS, n_FAILS_UNKNOWN, n_HOLDS_UNKNOWN⟩ := W0
  by_cases c1 : p0 = (0 : Int32)
  · obtain ⟨T2, X2, e2, st2⟩ := getS2 X0 hx hZ hown (host := "") (Or.inl (hw _ (List.mem_of_getElem? (i := 5) rfl))) Via.refl e0 S_FAILS (g := (mkF m 4 #[.val (.int p0)] [])) rfl (hb hby d1_4)
    obtain ⟨fs, hr, hrun, hended, hW, hsame⟩ := X2.leave (v := some (.ref wFAILS)) (fun h => by rw [Bd.returns] at h; cases h)
    refine ⟨_, _, pre0 _ ?_, hrun, hended, _, _, rfl, ?_, ⟨_, rfl⟩, hW, hsame.mono (by decide) (by decide)⟩
    · show Steps p.tables e below (s₁.setTop (mkF m 0 #[.val (.int p0)] [])) _
      refine XS.iloadN X0.here hx rfl (hb hby d1_0) rfl ?_
      show Steps p.tables e below (s₁.setTop (mkF m 1 #[.val (.int p0)] [(.int p0)])) _
      refine XS.ifNo X0.here hx rfl (hb hby d1_1) rfl ((if0 _ _).trans (teq c1).2) ?_
      show Steps p.tables e below (s₁.setTop (mkF m 4 #[.val (.int p0)] [])) _
      refine st2 _ ?_
      show Steps p.tables e below (T2.setTop (mkF m 7 #[.val (.int p0)] [(.ref wFAILS)])) _
      exact retOut X2 hx Bd.returns rfl (Or.inr (Or.inr (Or.inr (Or.inr ⟨rfl, rfl, rfl⟩)))) (hb hby d1_7) hr
    · show Q1 Z p0 wFAILS wHOLDS wUNKNOWN h0 n0 _ T2.heap _
      rw [e2]
      exact ⟨(congrArg (fun z => some (Value.ref z)) ((if_pos c1).trans rfl).symm), N0, rfl⟩
  · by_cases c4 : p0 = (1 : Int32)
    · obtain ⟨T5, X5, e5, st5⟩ := getS2 X0 hx hZ hown (host := "") (Or.inl (hw _ (List.mem_of_getElem? (i := 23) rfl))) Via.refl e0 S_UNKNOWN (g := (mkF m 13 #[.val (.int p0)] [])) rfl (hb hby d1_13)
      obtain ⟨fs, hr, hrun, hended, hW, hsame⟩ := X5.leave (v := some (.ref wUNKNOWN)) (fun h => by rw [Bd.returns] at h; cases h)
      refine ⟨_, _, pre0 _ ?_, hrun, hended, _, _, rfl, ?_, ⟨_, rfl⟩, hW, hsame.mono (by decide) (by decide)⟩
      · show Steps p.tables e below (s₁.setTop (mkF m 0 #[.val (.int p0)] [])) _
        refine XS.iloadN X0.here hx rfl (hb hby d1_0) rfl ?_
        show Steps p.tables e below (s₁.setTop (mkF m 1 #[.val (.int p0)] [(.int p0)])) _
        refine XS.ifYes X0.here hx rfl (pc0 := 1) (pc' := 8) rfl (hb hby d1_1) rfl ((if0 _ _).trans (feq c1).2) (by decide) (by decide) ?_
        show Steps p.tables e below (s₁.setTop (mkF m 8 #[.val (.int p0)] [])) _
        refine XS.iloadN X0.here hx rfl (hb hby d1_8) rfl ?_
        show Steps p.tables e below (s₁.setTop (mkF m 9 #[.val (.int p0)] [(.int p0)])) _
        refine XS.iconst X0.here hx rfl (hb hby d1_9) ?_
        show Steps p.tables e below (s₁.setTop (mkF m 10 #[.val (.int p0)] [(.int (1 : Int32)), (.int p0)])) _
        refine XS.icmpNo X0.here hx rfl (hb hby d1_10) rfl (teq c4).2 ?_
        show Steps p.tables e below (s₁.setTop (mkF m 13 #[.val (.int p0)] [])) _
        refine st5 _ ?_
        show Steps p.tables e below (T5.setTop (mkF m 16 #[.val (.int p0)] [(.ref wUNKNOWN)])) _
        exact retOut X5 hx Bd.returns rfl (Or.inr (Or.inr (Or.inr (Or.inr ⟨rfl, rfl, rfl⟩)))) (hb hby d1_16) hr
      · show Q1 Z p0 wFAILS wHOLDS wUNKNOWN h0 n0 _ T5.heap _
        rw [e5]
        exact ⟨(congrArg (fun z => some (Value.ref z)) ((if_neg c1).trans ((if_pos c4).trans rfl)).symm), N0, rfl⟩
    · obtain ⟨T7, X7, e7, st7⟩ := getS2 X0 hx hZ hown (host := "") (Or.inl (hw _ (List.mem_of_getElem? (i := 21) rfl))) Via.refl e0 S_HOLDS (g := (mkF m 17 #[.val (.int p0)] [])) rfl (hb hby d1_17)
      obtain ⟨fs, hr, hrun, hended, hW, hsame⟩ := X7.leave (v := some (.ref wHOLDS)) (fun h => by rw [Bd.returns] at h; cases h)
      refine ⟨_, _, pre0 _ ?_, hrun, hended, _, _, rfl, ?_, ⟨_, rfl⟩, hW, hsame.mono (by decide) (by decide)⟩
      · show Steps p.tables e below (s₁.setTop (mkF m 0 #[.val (.int p0)] [])) _
        refine XS.iloadN X0.here hx rfl (hb hby d1_0) rfl ?_
        show Steps p.tables e below (s₁.setTop (mkF m 1 #[.val (.int p0)] [(.int p0)])) _
        refine XS.ifYes X0.here hx rfl (pc0 := 1) (pc' := 8) rfl (hb hby d1_1) rfl ((if0 _ _).trans (feq c1).2) (by decide) (by decide) ?_
        show Steps p.tables e below (s₁.setTop (mkF m 8 #[.val (.int p0)] [])) _
        refine XS.iloadN X0.here hx rfl (hb hby d1_8) rfl ?_
        show Steps p.tables e below (s₁.setTop (mkF m 9 #[.val (.int p0)] [(.int p0)])) _
        refine XS.iconst X0.here hx rfl (hb hby d1_9) ?_
        show Steps p.tables e below (s₁.setTop (mkF m 10 #[.val (.int p0)] [(.int (1 : Int32)), (.int p0)])) _
        refine XS.icmpYes X0.here hx rfl (pc0 := 10) (pc' := 17) rfl (hb hby d1_10) rfl (feq c4).2 (by decide) (by decide) ?_
        show Steps p.tables e below (s₁.setTop (mkF m 17 #[.val (.int p0)] [])) _
        refine st7 _ ?_
        show Steps p.tables e below (T7.setTop (mkF m 20 #[.val (.int p0)] [(.ref wHOLDS)])) _
        exact retOut X7 hx Bd.returns rfl (Or.inr (Or.inr (Or.inr (Or.inr ⟨rfl, rfl, rfl⟩)))) (hb hby d1_20) hr
      · show Q1 Z p0 wFAILS wHOLDS wUNKNOWN h0 n0 _ T7.heap _
        rw [e7]
        exact ⟨(congrArg (fun z => some (Value.ref z)) ((if_neg c1).trans ((if_neg c4).trans rfl)).symm), N0, rfl⟩
theorem d2_0 : decode prog_84_method_5_code 0 = .ok (.aload_n 0, 1) := by decide +kernel
theorem d2_1 : decode prog_84_method_5_code 1 = .ok (.getstatic 7, 3) := by decide +kernel
theorem d2_4 : decode prog_84_method_5_code 4 = .ok (.if_acmp .eq 10, 3) := by decide +kernel
theorem d2_7 : decode prog_84_method_5_code 7 = .ok (.aload_n 1, 1) := by decide +kernel
theorem d2_8 : decode prog_84_method_5_code 8 = .ok (.getstatic 7, 3) := by decide +kernel
theorem d2_11 : decode prog_84_method_5_code 11 = .ok (.if_acmp .ne 7, 3) := by decide +kernel
theorem d2_14 : decode prog_84_method_5_code 14 = .ok (.getstatic 7, 3) := by decide +kernel
theorem d2_17 : decode prog_84_method_5_code 17 = .ok (.areturn, 1) := by decide +kernel
theorem d2_18 : decode prog_84_method_5_code 18 = .ok (.aload_n 0, 1) := by decide +kernel
theorem d2_19 : decode prog_84_method_5_code 19 = .ok (.getstatic 10, 3) := by decide +kernel
theorem d2_22 : decode prog_84_method_5_code 22 = .ok (.if_acmp .eq 10, 3) := by decide +kernel
theorem d2_25 : decode prog_84_method_5_code 25 = .ok (.aload_n 1, 1) := by decide +kernel
theorem d2_26 : decode prog_84_method_5_code 26 = .ok (.getstatic 10, 3) := by decide +kernel
theorem d2_29 : decode prog_84_method_5_code 29 = .ok (.if_acmp .ne 9, 3) := by decide +kernel
theorem d2_32 : decode prog_84_method_5_code 32 = .ok (.getstatic 10, 3) := by decide +kernel
theorem d2_35 : decode prog_84_method_5_code 35 = .ok (.goto 6, 3) := by decide +kernel
theorem d2_38 : decode prog_84_method_5_code 38 = .ok (.getstatic 3, 3) := by decide +kernel
theorem d2_41 : decode prog_84_method_5_code 41 = .ok (.areturn, 1) := by decide +kernel
theorem pn_2 : plainName "com/example/rels_from_records/relsfromrecords/schema/Verdict" = true := by first | (simp [plainName, overriddenIn]; done) | decide +kernel
theorem ef_2 (m : MethodId) (b0 : Addr) (b1 : Addr) : entryFrame m #[(.ref b0), (.ref b1)] 2 = mkF m 0 #[.val (.ref b0), .val (.ref b1)] [] := by first | (simp [entryFrame, mkF, argsToLocals, Value.category]; done) | rfl
def F2 (b0 : Addr) (b1 : Addr) (wFAILS : Addr) (wHOLDS : Addr) (wUNKNOWN : Addr) : Addr := (if b0 = wFAILS then wFAILS else (if b1 = wFAILS then wFAILS else (if b0 = wUNKNOWN then wUNKNOWN else (if b1 = wUNKNOWN then wUNKNOWN else wHOLDS))))
def Q2 (Z : State) (b0 : Addr) (b1 : Addr) (wFAILS : Addr) (wHOLDS : Addr) (wUNKNOWN : Addr) (h0 : Heap) (n0 : Nat) (v : Option Value) (h : Heap) (L : List Loc) : Prop := v = some (.ref (F2 b0 b1 wFAILS wHOLDS wUNKNOWN)) ∧ Fr n0 L ∧ h = h0
set_option maxRecDepth 65536 in
set_option maxHeartbeats 40000000 in
theorem rm2 (l : Launch) (Z : State) (a0 : Array Value) (hw : ∀ d ∈ tables_1, d.before a0 Z = true) (ws : List Jvm.Cond) (b0 : Addr) (b1 : Addr) (wFAILS : Addr) (wHOLDS : Addr) (wUNKNOWN : Addr) (h0 : Heap) (n0 : Nat) (Z0 : n0 ≤ h0.size) (W : own_W Z h0 wFAILS wHOLDS wUNKNOWN) :
    MetFree l (⟨"com/example/rels_from_records/relsfromrecords/schema/Verdict", "and", "(Lcom/example/rels_from_records/relsfromrecords/schema/Verdict;)Lcom/example/rels_from_records/relsfromrecords/schema/Verdict;"⟩ : MethodName) (head1 (Jvm.Cond.code (⟨"com/example/rels_from_records/relsfromrecords/schema/Verdict", "and", "(Lcom/example/rels_from_records/relsfromrecords/schema/Verdict;)Lcom/example/rels_from_records/relsfromrecords/schema/Verdict;"⟩ : MethodName) prog_84_method_5_code 2 (some (.object "com/example/rels_from_records/relsfromrecords/schema/Verdict")) :: ws) ({ frames := 0, cells := 0, slots := 0, locals := 0 } : Room)) (fun a U => a = #[(.ref b0), (.ref b1)] ∧ Z.Warmed39 U.vm ∧ U.heap = h0) (fun _ _ _ _ _ => True) (fun _ U o U' => ∃ v L, o = .returned v ∧ Q2 Z b0 b1 wFAILS wHOLDS wUNKNOWN h0 n0 v U'.heap L ∧ FrameEnd U o U' L ({ frames := 0, cells := 0, slots := 0, locals := 0 } : Room).cells ({ frames := 0, cells := 0, slots := 0, locals := 0 } : Room).slots) := by
  refine MetFree.of_bodySF (plainFor_of_name pn_2) hisR ?_
  intro p e s m args below meth c s₁ Bd hml0 hP hK
  obtain ⟨rfl, hZ, hh⟩ := hP
  have hx := Bd.exec
  have hby := Bd.bytes
  have hml : c.maxLocals = 2 := hml0
  have hown : s.vm.findClass "com/example/rels_from_records/relsfromrecords/schema/Verdict" = some m.cls := findClass_of_methodNamed Bd.named
  have X0 : Stand p l e ({ frames := 0, cells := 0, slots := 0, locals := 0 } : Room) s m #[(.ref b0), (.ref b1)] below meth c s₁ [] 0 0 := Stand.of_body Bd
  have e0 : s₁.heap = h0 := by rw [← hh, Bd.state]; rfl
  have N0 := Fr.nil n0
  have pre0 : ∀ t, Steps p.tables e below (s₁.setTop (mkF m 0 #[.val (.ref b0), .val (.ref b1)] [])) t → Steps p.tables e below (s₁.setTop (entryFrame m #[(.ref b0), (.ref b1)] 2)) t := fun t k => castTop (ef_2 m b0 b1) k
  have W0 := W
  obtain ⟨S_FAILS, S_HOLDS, S_UNKNOWN, E_FAILS, E_HOLDS, E_UNKNOWN, n_FAILS_HOLDS, n_FAILS_UNKNOWN, n_HOLDS_UNKNOWN⟩ := W0
  obtain ⟨T9, X9, e9, st9⟩ := getS2 X0 hx hZ hown (host := "") (Or.inl (hw _ (List.mem_of_getElem? (i := 13) rfl))) Via.refl e0 S_FAILS (g := (mkF m 1 #[.val (.ref b0), .val (.ref b1)] [(.ref b0)])) rfl (hb hby d2_1)
  by_cases c10 : b0 = wFAILS
  · obtain ⟨T11, X11, e11, st11⟩ := getS2 X9 hx hZ hown (host := "") (Or.inl (hw _ (List.mem_of_getElem? (i := 13) rfl))) Via.refl e9 S_FAILS (g := (mkF m 14 #[.val (.ref b0), .val (.ref b1)] [])) rfl (hb hby d2_14)
    obtain ⟨fs, hr, hrun, hended, hW, hsame⟩ := X11.leave (v := some (.ref wFAILS)) (fun h => by rw [Bd.returns] at h; cases h)
    refine ⟨_, _, pre0 _ ?_, hrun, hended, _, _, rfl, ?_, ⟨_, rfl⟩, hW, hsame.mono (by decide) (by decide)⟩
    · show Steps p.tables e below (s₁.setTop (mkF m 0 #[.val (.ref b0), .val (.ref b1)] [])) _
      refine XS.aloadN X0.here hx rfl (hb hby d2_0) rfl rfl ?_
      show Steps p.tables e below (s₁.setTop (mkF m 1 #[.val (.ref b0), .val (.ref b1)] [(.ref b0)])) _
      refine st9 _ ?_
      show Steps p.tables e below (T9.setTop (mkF m 4 #[.val (.ref b0), .val (.ref b1)] [(.ref wFAILS), (.ref b0)])) _
      refine Jvm.RoadKit.acmp (g := (mkF m 4 #[.val (.ref b0), .val (.ref b1)] [(.ref wFAILS), (.ref b0)])) X9 hx rfl rfl rfl (pc0 := 4) (pc' := 14) (same := true) rfl (hb hby d2_4) rfl (decide_eq_true (congrArg Value.ref c10)) (by decide) (by decide) ?_
      show Steps p.tables e below (T9.setTop (mkF m 14 #[.val (.ref b0), .val (.ref b1)] [])) _
      refine st11 _ ?_
      show Steps p.tables e below (T11.setTop (mkF m 17 #[.val (.ref b0), .val (.ref b1)] [(.ref wFAILS)])) _
      exact retOut X11 hx Bd.returns rfl (Or.inr (Or.inr (Or.inr (Or.inr ⟨rfl, rfl, rfl⟩)))) (hb hby d2_17) hr
    · show Q2 Z b0 b1 wFAILS wHOLDS wUNKNOWN h0 n0 _ T11.heap _
      rw [e11]
      exact ⟨(congrArg (fun z => some (Value.ref z)) ((if_pos c10).trans rfl).symm), N0, rfl⟩
  · obtain ⟨T13, X13, e13, st13⟩ := getS2 X9 hx hZ hown (host := "") (Or.inl (hw _ (List.mem_of_getElem? (i := 13) rfl))) Via.refl e9 S_FAILS (g := (mkF m 8 #[.val (.ref b0), .val (.ref b1)] [(.ref b1)])) rfl (hb hby d2_8)
    by_cases c14 : b1 = wFAILS
    · obtain ⟨T15, X15, e15, st15⟩ := getS2 X13 hx hZ hown (host := "") (Or.inl (hw _ (List.mem_of_getElem? (i := 13) rfl))) Via.refl e13 S_FAILS (g := (mkF m 14 #[.val (.ref b0), .val (.ref b1)] [])) rfl (hb hby d2_14)
      obtain ⟨fs, hr, hrun, hended, hW, hsame⟩ := X15.leave (v := some (.ref wFAILS)) (fun h => by rw [Bd.returns] at h; cases h)
      refine ⟨_, _, pre0 _ ?_, hrun, hended, _, _, rfl, ?_, ⟨_, rfl⟩, hW, hsame.mono (by decide) (by decide)⟩
      · show Steps p.tables e below (s₁.setTop (mkF m 0 #[.val (.ref b0), .val (.ref b1)] [])) _
        refine XS.aloadN X0.here hx rfl (hb hby d2_0) rfl rfl ?_
        show Steps p.tables e below (s₁.setTop (mkF m 1 #[.val (.ref b0), .val (.ref b1)] [(.ref b0)])) _
        refine st9 _ ?_
        show Steps p.tables e below (T9.setTop (mkF m 4 #[.val (.ref b0), .val (.ref b1)] [(.ref wFAILS), (.ref b0)])) _
        refine Jvm.RoadKit.acmp (g := (mkF m 4 #[.val (.ref b0), .val (.ref b1)] [(.ref wFAILS), (.ref b0)])) X9 hx rfl rfl rfl (pc0 := 4) (pc' := 7) (same := false) rfl (hb hby d2_4) rfl (decide_eq_false fun q => c10 (Value.ref.inj q)) (by decide) (by decide) ?_
        show Steps p.tables e below (T9.setTop (mkF m 7 #[.val (.ref b0), .val (.ref b1)] [])) _
        refine XS.aloadN X9.here hx rfl (hb hby d2_7) rfl rfl ?_
        show Steps p.tables e below (T9.setTop (mkF m 8 #[.val (.ref b0), .val (.ref b1)] [(.ref b1)])) _
        refine st13 _ ?_
        show Steps p.tables e below (T13.setTop (mkF m 11 #[.val (.ref b0), .val (.ref b1)] [(.ref wFAILS), (.ref b1)])) _
        refine Jvm.RoadKit.acmp (g := (mkF m 11 #[.val (.ref b0), .val (.ref b1)] [(.ref wFAILS), (.ref b1)])) X13 hx rfl rfl rfl (pc0 := 11) (pc' := 14) (same := true) rfl (hb hby d2_11) rfl (decide_eq_true (congrArg Value.ref c14)) (by decide) (by decide) ?_
        show Steps p.tables e below (T13.setTop (mkF m 14 #[.val (.ref b0), .val (.ref b1)] [])) _
        refine st15 _ ?_
        show Steps p.tables e below (T15.setTop (mkF m 17 #[.val (.ref b0), .val (.ref b1)] [(.ref wFAILS)])) _
        exact retOut X15 hx Bd.returns rfl (Or.inr (Or.inr (Or.inr (Or.inr ⟨rfl, rfl, rfl⟩)))) (hb hby d2_17) hr
      · show Q2 Z b0 b1 wFAILS wHOLDS wUNKNOWN h0 n0 _ T15.heap _
        rw [e15]
        exact ⟨(congrArg (fun z => some (Value.ref z)) ((if_neg c10).trans ((if_pos c14).trans rfl)).symm), N0, rfl⟩
    · obtain ⟨T17, X17, e17, st17⟩ := getS2 X13 hx hZ hown (host := "") (Or.inl (hw _ (List.mem_of_getElem? (i := 25) rfl))) Via.refl e13 S_UNKNOWN (g := (mkF m 19 #[.val (.ref b0), .val (.ref b1)] [(.ref b0)])) rfl (hb hby d2_19)
      by_cases c18 : b0 = wUNKNOWN
      · obtain ⟨T19, X19, e19, st19⟩ := getS2 X17 hx hZ hown (host := "") (Or.inl (hw _ (List.mem_of_getElem? (i := 25) rfl))) Via.refl e17 S_UNKNOWN (g := (mkF m 32 #[.val (.ref b0), .val (.ref b1)] [])) rfl (hb hby d2_32)
        obtain ⟨fs, hr, hrun, hended, hW, hsame⟩ := X19.leave (v := some (.ref wUNKNOWN)) (fun h => by rw [Bd.returns] at h; cases h)
        refine ⟨_, _, pre0 _ ?_, hrun, hended, _, _, rfl, ?_, ⟨_, rfl⟩, hW, hsame.mono (by decide) (by decide)⟩
        · show Steps p.tables e below (s₁.setTop (mkF m 0 #[.val (.ref b0), .val (.ref b1)] [])) _
          refine XS.aloadN X0.here hx rfl (hb hby d2_0) rfl rfl ?_
          show Steps p.tables e below (s₁.setTop (mkF m 1 #[.val (.ref b0), .val (.ref b1)] [(.ref b0)])) _
          refine st9 _ ?_
          show Steps p.tables e below (T9.setTop (mkF m 4 #[.val (.ref b0), .val (.ref b1)] [(.ref wFAILS), (.ref b0)])) _
          refine Jvm.RoadKit.acmp (g := (mkF m 4 #[.val (.ref b0), .val (.ref b1)] [(.ref wFAILS), (.ref b0)])) X9 hx rfl rfl rfl (pc0 := 4) (pc' := 7) (same := false) rfl (hb hby d2_4) rfl (decide_eq_false fun q => c10 (Value.ref.inj q)) (by decide) (by decide) ?_
          show Steps p.tables e below (T9.setTop (mkF m 7 #[.val (.ref b0), .val (.ref b1)] [])) _
          refine XS.aloadN X9.here hx rfl (hb hby d2_7) rfl rfl ?_
          show Steps p.tables e below (T9.setTop (mkF m 8 #[.val (.ref b0), .val (.ref b1)] [(.ref b1)])) _
          refine st13 _ ?_
          show Steps p.tables e below (T13.setTop (mkF m 11 #[.val (.ref b0), .val (.ref b1)] [(.ref wFAILS), (.ref b1)])) _
          refine Jvm.RoadKit.acmp (g := (mkF m 11 #[.val (.ref b0), .val (.ref b1)] [(.ref wFAILS), (.ref b1)])) X13 hx rfl rfl rfl (pc0 := 11) (pc' := 18) (same := false) rfl (hb hby d2_11) rfl (decide_eq_false fun q => c14 (Value.ref.inj q)) (by decide) (by decide) ?_
          show Steps p.tables e below (T13.setTop (mkF m 18 #[.val (.ref b0), .val (.ref b1)] [])) _
          refine XS.aloadN X13.here hx rfl (hb hby d2_18) rfl rfl ?_
          show Steps p.tables e below (T13.setTop (mkF m 19 #[.val (.ref b0), .val (.ref b1)] [(.ref b0)])) _
          refine st17 _ ?_
          show Steps p.tables e below (T17.setTop (mkF m 22 #[.val (.ref b0), .val (.ref b1)] [(.ref wUNKNOWN), (.ref b0)])) _
          refine Jvm.RoadKit.acmp (g := (mkF m 22 #[.val (.ref b0), .val (.ref b1)] [(.ref wUNKNOWN), (.ref b0)])) X17 hx rfl rfl rfl (pc0 := 22) (pc' := 32) (same := true) rfl (hb hby d2_22) rfl (decide_eq_true (congrArg Value.ref c18)) (by decide) (by decide) ?_
          show Steps p.tables e below (T17.setTop (mkF m 32 #[.val (.ref b0), .val (.ref b1)] [])) _
          refine st19 _ ?_
          show Steps p.tables e below (T19.setTop (mkF m 35 #[.val (.ref b0), .val (.ref b1)] [(.ref wUNKNOWN)])) _
          refine XS.goto X19.here hx rfl (pc0 := 35) (pc' := 41) rfl (hb hby d2_35) (by decide) (by decide) ?_
          show Steps p.tables e below (T19.setTop (mkF m 41 #[.val (.ref b0), .val (.ref b1)] [(.ref wUNKNOWN)])) _
          exact retOut X19 hx Bd.returns rfl (Or.inr (Or.inr (Or.inr (Or.inr ⟨rfl, rfl, rfl⟩)))) (hb hby d2_41) hr
        · show Q2 Z b0 b1 wFAILS wHOLDS wUNKNOWN h0 n0 _ T19.heap _
          rw [e19]
          exact ⟨(congrArg (fun z => some (Value.ref z)) ((if_neg c10).trans ((if_neg c14).trans ((if_pos c18).trans rfl))).symm), N0, rfl⟩
      · obtain ⟨T21, X21, e21, st21⟩ := getS2 X17 hx hZ hown (host := "") (Or.inl (hw _ (List.mem_of_getElem? (i := 25) rfl))) Via.refl e17 S_UNKNOWN (g := (mkF m 26 #[.val (.ref b0), .val (.ref b1)] [(.ref b1)])) rfl (hb hby d2_26)
        by_cases c22 : b1 = wUNKNOWN
        · obtain ⟨T23, X23, e23, st23⟩ := getS2 X21 hx hZ hown (host := "") (Or.inl (hw _ (List.mem_of_getElem? (i := 25) rfl))) Via.refl e21 S_UNKNOWN (g := (mkF m 32 #[.val (.ref b0), .val (.ref b1)] [])) rfl (hb hby d2_32)
          obtain ⟨fs, hr, hrun, hended, hW, hsame⟩ := X23.leave (v := some (.ref wUNKNOWN)) (fun h => by rw [Bd.returns] at h; cases h)
          refine ⟨_, _, pre0 _ ?_, hrun, hended, _, _, rfl, ?_, ⟨_, rfl⟩, hW, hsame.mono (by decide) (by decide)⟩
          · show Steps p.tables e below (s₁.setTop (mkF m 0 #[.val (.ref b0), .val (.ref b1)] [])) _
            refine XS.aloadN X0.here hx rfl (hb hby d2_0) rfl rfl ?_
            show Steps p.tables e below (s₁.setTop (mkF m 1 #[.val (.ref b0), .val (.ref b1)] [(.ref b0)])) _
            refine st9 _ ?_
            show Steps p.tables e below (T9.setTop (mkF m 4 #[.val (.ref b0), .val (.ref b1)] [(.ref wFAILS), (.ref b0)])) _
            refine Jvm.RoadKit.acmp (g := (mkF m 4 #[.val (.ref b0), .val (.ref b1)] [(.ref wFAILS), (.ref b0)])) X9 hx rfl rfl rfl (pc0 := 4) (pc' := 7) (same := false) rfl (hb hby d2_4) rfl (decide_eq_false fun q => c10 (Value.ref.inj q)) (by decide) (by decide) ?_
            show Steps p.tables e below (T9.setTop (mkF m 7 #[.val (.ref b0), .val (.ref b1)] [])) _
            refine XS.aloadN X9.here hx rfl (hb hby d2_7) rfl rfl ?_
            show Steps p.tables e below (T9.setTop (mkF m 8 #[.val (.ref b0), .val (.ref b1)] [(.ref b1)])) _
            refine st13 _ ?_
            show Steps p.tables e below (T13.setTop (mkF m 11 #[.val (.ref b0), .val (.ref b1)] [(.ref wFAILS), (.ref b1)])) _
            refine Jvm.RoadKit.acmp (g := (mkF m 11 #[.val (.ref b0), .val (.ref b1)] [(.ref wFAILS), (.ref b1)])) X13 hx rfl rfl rfl (pc0 := 11) (pc' := 18) (same := false) rfl (hb hby d2_11) rfl (decide_eq_false fun q => c14 (Value.ref.inj q)) (by decide) (by decide) ?_
            show Steps p.tables e below (T13.setTop (mkF m 18 #[.val (.ref b0), .val (.ref b1)] [])) _
            refine XS.aloadN X13.here hx rfl (hb hby d2_18) rfl rfl ?_
            show Steps p.tables e below (T13.setTop (mkF m 19 #[.val (.ref b0), .val (.ref b1)] [(.ref b0)])) _
            refine st17 _ ?_
            show Steps p.tables e below (T17.setTop (mkF m 22 #[.val (.ref b0), .val (.ref b1)] [(.ref wUNKNOWN), (.ref b0)])) _
            refine Jvm.RoadKit.acmp (g := (mkF m 22 #[.val (.ref b0), .val (.ref b1)] [(.ref wUNKNOWN), (.ref b0)])) X17 hx rfl rfl rfl (pc0 := 22) (pc' := 25) (same := false) rfl (hb hby d2_22) rfl (decide_eq_false fun q => c18 (Value.ref.inj q)) (by decide) (by decide) ?_
            show Steps p.tables e below (T17.setTop (mkF m 25 #[.val (.ref b0), .val (.ref b1)] [])) _
            refine XS.aloadN X17.here hx rfl (hb hby d2_25) rfl rfl ?_
            show Steps p.tables e below (T17.setTop (mkF m 26 #[.val (.ref b0), .val (.ref b1)] [(.ref b1)])) _
            refine st21 _ ?_
            show Steps p.tables e below (T21.setTop (mkF m 29 #[.val (.ref b0), .val (.ref b1)] [(.ref wUNKNOWN), (.ref b1)])) _
            refine Jvm.RoadKit.acmp (g := (mkF m 29 #[.val (.ref b0), .val (.ref b1)] [(.ref wUNKNOWN), (.ref b1)])) X21 hx rfl rfl rfl (pc0 := 29) (pc' := 32) (same := true) rfl (hb hby d2_29) rfl (decide_eq_true (congrArg Value.ref c22)) (by decide) (by decide) ?_
            show Steps p.tables e below (T21.setTop (mkF m 32 #[.val (.ref b0), .val (.ref b1)] [])) _
            refine st23 _ ?_
            show Steps p.tables e below (T23.setTop (mkF m 35 #[.val (.ref b0), .val (.ref b1)] [(.ref wUNKNOWN)])) _
            refine XS.goto X23.here hx rfl (pc0 := 35) (pc' := 41) rfl (hb hby d2_35) (by decide) (by decide) ?_
            show Steps p.tables e below (T23.setTop (mkF m 41 #[.val (.ref b0), .val (.ref b1)] [(.ref wUNKNOWN)])) _
            exact retOut X23 hx Bd.returns rfl (Or.inr (Or.inr (Or.inr (Or.inr ⟨rfl, rfl, rfl⟩)))) (hb hby d2_41) hr
          · show Q2 Z b0 b1 wFAILS wHOLDS wUNKNOWN h0 n0 _ T23.heap _
            rw [e23]
            exact ⟨(congrArg (fun z => some (Value.ref z)) ((if_neg c10).trans ((if_neg c14).trans ((if_neg c18).trans ((if_pos c22).trans rfl)))).symm), N0, rfl⟩
        · obtain ⟨T25, X25, e25, st25⟩ := getS2 X21 hx hZ hown (host := "") (Or.inl (hw _ (List.mem_of_getElem? (i := 26) rfl))) Via.refl e21 S_HOLDS (g := (mkF m 38 #[.val (.ref b0), .val (.ref b1)] [])) rfl (hb hby d2_38)
          obtain ⟨fs, hr, hrun, hended, hW, hsame⟩ := X25.leave (v := some (.ref wHOLDS)) (fun h => by rw [Bd.returns] at h; cases h)
          refine ⟨_, _, pre0 _ ?_, hrun, hended, _, _, rfl, ?_, ⟨_, rfl⟩, hW, hsame.mono (by decide) (by decide)⟩
          · show Steps p.tables e below (s₁.setTop (mkF m 0 #[.val (.ref b0), .val (.ref b1)] [])) _
            refine XS.aloadN X0.here hx rfl (hb hby d2_0) rfl rfl ?_
            show Steps p.tables e below (s₁.setTop (mkF m 1 #[.val (.ref b0), .val (.ref b1)] [(.ref b0)])) _
            refine st9 _ ?_
            show Steps p.tables e below (T9.setTop (mkF m 4 #[.val (.ref b0), .val (.ref b1)] [(.ref wFAILS), (.ref b0)])) _
            refine Jvm.RoadKit.acmp (g := (mkF m 4 #[.val (.ref b0), .val (.ref b1)] [(.ref wFAILS), (.ref b0)])) X9 hx rfl rfl rfl (pc0 := 4) (pc' := 7) (same := false) rfl (hb hby d2_4) rfl (decide_eq_false fun q => c10 (Value.ref.inj q)) (by decide) (by decide) ?_
            show Steps p.tables e below (T9.setTop (mkF m 7 #[.val (.ref b0), .val (.ref b1)] [])) _
            refine XS.aloadN X9.here hx rfl (hb hby d2_7) rfl rfl ?_
            show Steps p.tables e below (T9.setTop (mkF m 8 #[.val (.ref b0), .val (.ref b1)] [(.ref b1)])) _
            refine st13 _ ?_
            show Steps p.tables e below (T13.setTop (mkF m 11 #[.val (.ref b0), .val (.ref b1)] [(.ref wFAILS), (.ref b1)])) _
            refine Jvm.RoadKit.acmp (g := (mkF m 11 #[.val (.ref b0), .val (.ref b1)] [(.ref wFAILS), (.ref b1)])) X13 hx rfl rfl rfl (pc0 := 11) (pc' := 18) (same := false) rfl (hb hby d2_11) rfl (decide_eq_false fun q => c14 (Value.ref.inj q)) (by decide) (by decide) ?_
            show Steps p.tables e below (T13.setTop (mkF m 18 #[.val (.ref b0), .val (.ref b1)] [])) _
            refine XS.aloadN X13.here hx rfl (hb hby d2_18) rfl rfl ?_
            show Steps p.tables e below (T13.setTop (mkF m 19 #[.val (.ref b0), .val (.ref b1)] [(.ref b0)])) _
            refine st17 _ ?_
            show Steps p.tables e below (T17.setTop (mkF m 22 #[.val (.ref b0), .val (.ref b1)] [(.ref wUNKNOWN), (.ref b0)])) _
            refine Jvm.RoadKit.acmp (g := (mkF m 22 #[.val (.ref b0), .val (.ref b1)] [(.ref wUNKNOWN), (.ref b0)])) X17 hx rfl rfl rfl (pc0 := 22) (pc' := 25) (same := false) rfl (hb hby d2_22) rfl (decide_eq_false fun q => c18 (Value.ref.inj q)) (by decide) (by decide) ?_
            show Steps p.tables e below (T17.setTop (mkF m 25 #[.val (.ref b0), .val (.ref b1)] [])) _
            refine XS.aloadN X17.here hx rfl (hb hby d2_25) rfl rfl ?_
            show Steps p.tables e below (T17.setTop (mkF m 26 #[.val (.ref b0), .val (.ref b1)] [(.ref b1)])) _
            refine st21 _ ?_
            show Steps p.tables e below (T21.setTop (mkF m 29 #[.val (.ref b0), .val (.ref b1)] [(.ref wUNKNOWN), (.ref b1)])) _
            refine Jvm.RoadKit.acmp (g := (mkF m 29 #[.val (.ref b0), .val (.ref b1)] [(.ref wUNKNOWN), (.ref b1)])) X21 hx rfl rfl rfl (pc0 := 29) (pc' := 38) (same := false) rfl (hb hby d2_29) rfl (decide_eq_false fun q => c22 (Value.ref.inj q)) (by decide) (by decide) ?_
            show Steps p.tables e below (T21.setTop (mkF m 38 #[.val (.ref b0), .val (.ref b1)] [])) _
            refine st25 _ ?_
            show Steps p.tables e below (T25.setTop (mkF m 41 #[.val (.ref b0), .val (.ref b1)] [(.ref wHOLDS)])) _
            exact retOut X25 hx Bd.returns rfl (Or.inr (Or.inr (Or.inr (Or.inr ⟨rfl, rfl, rfl⟩)))) (hb hby d2_41) hr
          · show Q2 Z b0 b1 wFAILS wHOLDS wUNKNOWN h0 n0 _ T25.heap _
            rw [e25]
            exact ⟨(congrArg (fun z => some (Value.ref z)) ((if_neg c10).trans ((if_neg c14).trans ((if_neg c18).trans ((if_neg c22).trans rfl)))).symm), N0, rfl⟩
theorem d3_0 : decode method_3_code 0 = .ok (.aload_n 0, 1) := by decide +kernel
theorem d3_1 : decode method_3_code 1 = .ok (.getstatic 7, 3) := by decide +kernel
theorem d3_4 : decode method_3_code 4 = .ok (.if_acmp .ne 5, 3) := by decide +kernel
theorem d3_7 : decode method_3_code 7 = .ok (.iconst 0, 1) := by decide +kernel
theorem d3_8 : decode method_3_code 8 = .ok (.ireturn, 1) := by decide +kernel
theorem d3_9 : decode method_3_code 9 = .ok (.aload_n 0, 1) := by decide +kernel
theorem d3_10 : decode method_3_code 10 = .ok (.getstatic 13, 3) := by decide +kernel
theorem d3_13 : decode method_3_code 13 = .ok (.if_acmp .ne 5, 3) := by decide +kernel
theorem d3_16 : decode method_3_code 16 = .ok (.iconst 1, 1) := by decide +kernel
theorem d3_17 : decode method_3_code 17 = .ok (.ireturn, 1) := by decide +kernel
theorem d3_18 : decode method_3_code 18 = .ok (.aload_n 0, 1) := by decide +kernel
theorem d3_19 : decode method_3_code 19 = .ok (.getstatic 16, 3) := by decide +kernel
theorem d3_22 : decode method_3_code 22 = .ok (.if_acmp .ne 5, 3) := by decide +kernel
theorem d3_25 : decode method_3_code 25 = .ok (.iconst 2, 1) := by decide +kernel
theorem d3_26 : decode method_3_code 26 = .ok (.ireturn, 1) := by decide +kernel
theorem d3_27 : decode method_3_code 27 = .ok (.iconst (-1), 1) := by decide +kernel
theorem d3_28 : decode method_3_code 28 = .ok (.ireturn, 1) := by decide +kernel
theorem pn_3 : plainName "com/example/rels_from_records/relsfromrecords/schema/VerdictAndPinLaw" = true := by first | (simp [plainName, overriddenIn]; done) | decide +kernel
theorem ef_3 (m : MethodId) (b0 : Addr) : entryFrame m #[(.ref b0)] 1 = mkF m 0 #[.val (.ref b0)] [] := by first | (simp [entryFrame, mkF, argsToLocals, Value.category]; done) | rfl
def F3 (b0 : Addr) (wFAILS : Addr) (wHOLDS : Addr) (wUNKNOWN : Addr) : Int32 := (if b0 = wFAILS then (0 : Int32) else (if b0 = wUNKNOWN then (1 : Int32) else (if b0 = wHOLDS then (2 : Int32) else (-1 : Int32))))
def Q3 (Z : State) (b0 : Addr) (wFAILS : Addr) (wHOLDS : Addr) (wUNKNOWN : Addr) (h0 : Heap) (n0 : Nat) (v : Option Value) (h : Heap) (L : List Loc) : Prop := v = some (.int (F3 b0 wFAILS wHOLDS wUNKNOWN)) ∧ Fr n0 L ∧ h = h0
set_option maxRecDepth 65536 in
set_option maxHeartbeats 40000000 in
theorem rm3 (l : Launch) (Z : State) (a0 : Array Value) (hw : ∀ d ∈ tables_1, d.before a0 Z = true) (ws : List Jvm.Cond) (b0 : Addr) (wFAILS : Addr) (wHOLDS : Addr) (wUNKNOWN : Addr) (h0 : Heap) (n0 : Nat) (Z0 : n0 ≤ h0.size) (W : own_W Z h0 wFAILS wHOLDS wUNKNOWN) :
    MetFree l (⟨"com/example/rels_from_records/relsfromrecords/schema/VerdictAndPinLaw", "rank", "(Lcom/example/rels_from_records/relsfromrecords/schema/Verdict;)I"⟩ : MethodName) (head1 (Jvm.Cond.code (⟨"com/example/rels_from_records/relsfromrecords/schema/VerdictAndPinLaw", "rank", "(Lcom/example/rels_from_records/relsfromrecords/schema/Verdict;)I"⟩ : MethodName) method_3_code 1 (some .int) :: ws) ({ frames := 0, cells := 0, slots := 0, locals := 0 } : Room)) (fun a U => a = #[(.ref b0)] ∧ Z.Warmed39 U.vm ∧ U.heap = h0) (fun _ _ _ _ _ => True) (fun _ U o U' => ∃ v L, o = .returned v ∧ Q3 Z b0 wFAILS wHOLDS wUNKNOWN h0 n0 v U'.heap L ∧ FrameEnd U o U' L ({ frames := 0, cells := 0, slots := 0, locals := 0 } : Room).cells ({ frames := 0, cells := 0, slots := 0, locals := 0 } : Room).slots) := by
  refine MetFree.of_bodySF (plainFor_of_name pn_3) hisR ?_
  intro p e s m args below meth c s₁ Bd hml0 hP hK
  obtain ⟨rfl, hZ, hh⟩ := hP
  have hx := Bd.exec
  have hby := Bd.bytes
  have hml : c.maxLocals = 1 := hml0
  have hown : s.vm.findClass "com/example/rels_from_records/relsfromrecords/schema/VerdictAndPinLaw" = some m.cls := findClass_of_methodNamed Bd.named
  have X0 : Stand p l e ({ frames := 0, cells := 0, slots := 0, locals := 0 } : Room) s m #[(.ref b0)] below meth c s₁ [] 0 0 := Stand.of_body Bd
  have e0 : s₁.heap = h0 := by rw [← hh, Bd.state]; rfl
  have N0 := Fr.nil n0
  have pre0 : ∀ t, Steps p.tables e below (s₁.setTop (mkF m 0 #[.val (.ref b0)] [])) t → Steps p.tables e below (s₁.setTop (entryFrame m #[(.ref b0)] 1)) t := fun t k => castTop (ef_3 m b0) k
  have W0 := W
  obtain ⟨S_FAILS, S_HOLDS, S_UNKNOWN, E_FAILS, E_HOLDS, E_UNKNOWN, n_FAILS_HOLDS, n_FAILS_UNKNOWN, n_HOLDS_UNKNOWN⟩ := W0
  obtain ⟨T27, X27, e27, st27⟩ := getS2 X0 hx hZ hown (host := "") (Or.inl (hw _ (List.mem_of_getElem? (i := 5) rfl))) Via.refl e0 S_FAILS (g := (mkF m 1 #[.val (.ref b0)] [(.ref b0)])) rfl (hb hby d3_1)
  by_cases c28 : b0 = wFAILS
  · obtain ⟨fs, hr, hrun, hended, hW, hsame⟩ := X27.leave (v := some (.int (0 : Int32))) (fun h => by rw [Bd.returns] at h; cases h)
    refine ⟨_, _, pre0 _ ?_, hrun, hended, _, _, rfl, ?_, ⟨_, rfl⟩, hW, hsame.mono (by decide) (by decide)⟩
    · show Steps p.tables e below (s₁.setTop (mkF m 0 #[.val (.ref b0)] [])) _
      refine XS.aloadN X0.here hx rfl (hb hby d3_0) rfl rfl ?_
      show Steps p.tables e below (s₁.setTop (mkF m 1 #[.val (.ref b0)] [(.ref b0)])) _
      refine st27 _ ?_
      show Steps p.tables e below (T27.setTop (mkF m 4 #[.val (.ref b0)] [(.ref wFAILS), (.ref b0)])) _
      refine Jvm.RoadKit.acmp (g := (mkF m 4 #[.val (.ref b0)] [(.ref wFAILS), (.ref b0)])) X27 hx rfl rfl rfl (pc0 := 4) (pc' := 7) (same := true) rfl (hb hby d3_4) rfl (decide_eq_true (congrArg Value.ref c28)) (by decide) (by decide) ?_
      show Steps p.tables e below (T27.setTop (mkF m 7 #[.val (.ref b0)] [])) _
      refine XS.iconst X27.here hx rfl (hb hby d3_7) ?_
      show Steps p.tables e below (T27.setTop (mkF m 8 #[.val (.ref b0)] [(.int (0 : Int32))])) _
      exact retOut X27 hx Bd.returns rfl (Or.inl ⟨rfl, Or.inl rfl, _, rfl⟩) (hb hby d3_8) hr
    · show Q3 Z b0 wFAILS wHOLDS wUNKNOWN h0 n0 _ T27.heap _
      rw [e27]
      exact ⟨(congrArg (fun z => some (Value.int z)) ((if_pos c28).trans rfl).symm), N0, rfl⟩
  · obtain ⟨T30, X30, e30, st30⟩ := getS2 X27 hx hZ hown (host := "") (Or.inl (hw _ (List.mem_of_getElem? (i := 23) rfl))) Via.refl e27 S_UNKNOWN (g := (mkF m 10 #[.val (.ref b0)] [(.ref b0)])) rfl (hb hby d3_10)
    by_cases c31 : b0 = wUNKNOWN
    · obtain ⟨fs, hr, hrun, hended, hW, hsame⟩ := X30.leave (v := some (.int (1 : Int32))) (fun h => by rw [Bd.returns] at h; cases h)
      refine ⟨_, _, pre0 _ ?_, hrun, hended, _, _, rfl, ?_, ⟨_, rfl⟩, hW, hsame.mono (by decide) (by decide)⟩
      · show Steps p.tables e below (s₁.setTop (mkF m 0 #[.val (.ref b0)] [])) _
        refine XS.aloadN X0.here hx rfl (hb hby d3_0) rfl rfl ?_
        show Steps p.tables e below (s₁.setTop (mkF m 1 #[.val (.ref b0)] [(.ref b0)])) _
        refine st27 _ ?_
        show Steps p.tables e below (T27.setTop (mkF m 4 #[.val (.ref b0)] [(.ref wFAILS), (.ref b0)])) _
        refine Jvm.RoadKit.acmp (g := (mkF m 4 #[.val (.ref b0)] [(.ref wFAILS), (.ref b0)])) X27 hx rfl rfl rfl (pc0 := 4) (pc' := 9) (same := false) rfl (hb hby d3_4) rfl (decide_eq_false fun q => c28 (Value.ref.inj q)) (by decide) (by decide) ?_
        show Steps p.tables e below (T27.setTop (mkF m 9 #[.val (.ref b0)] [])) _
        refine XS.aloadN X27.here hx rfl (hb hby d3_9) rfl rfl ?_
        show Steps p.tables e below (T27.setTop (mkF m 10 #[.val (.ref b0)] [(.ref b0)])) _
        refine st30 _ ?_
        show Steps p.tables e below (T30.setTop (mkF m 13 #[.val (.ref b0)] [(.ref wUNKNOWN), (.ref b0)])) _
        refine Jvm.RoadKit.acmp (g := (mkF m 13 #[.val (.ref b0)] [(.ref wUNKNOWN), (.ref b0)])) X30 hx rfl rfl rfl (pc0 := 13) (pc' := 16) (same := true) rfl (hb hby d3_13) rfl (decide_eq_true (congrArg Value.ref c31)) (by decide) (by decide) ?_
        show Steps p.tables e below (T30.setTop (mkF m 16 #[.val (.ref b0)] [])) _
        refine XS.iconst X30.here hx rfl (hb hby d3_16) ?_
        show Steps p.tables e below (T30.setTop (mkF m 17 #[.val (.ref b0)] [(.int (1 : Int32))])) _
        exact retOut X30 hx Bd.returns rfl (Or.inl ⟨rfl, Or.inl rfl, _, rfl⟩) (hb hby d3_17) hr
      · show Q3 Z b0 wFAILS wHOLDS wUNKNOWN h0 n0 _ T30.heap _
        rw [e30]
        exact ⟨(congrArg (fun z => some (Value.int z)) ((if_neg c28).trans ((if_pos c31).trans rfl)).symm), N0, rfl⟩
    · obtain ⟨T33, X33, e33, st33⟩ := getS2 X30 hx hZ hown (host := "") (Or.inl (hw _ (List.mem_of_getElem? (i := 21) rfl))) Via.refl e30 S_HOLDS (g := (mkF m 19 #[.val (.ref b0)] [(.ref b0)])) rfl (hb hby d3_19)
      by_cases c34 : b0 = wHOLDS
      · obtain ⟨fs, hr, hrun, hended, hW, hsame⟩ := X33.leave (v := some (.int (2 : Int32))) (fun h => by rw [Bd.returns] at h; cases h)
        refine ⟨_, _, pre0 _ ?_, hrun, hended, _, _, rfl, ?_, ⟨_, rfl⟩, hW, hsame.mono (by decide) (by decide)⟩
        · show Steps p.tables e below (s₁.setTop (mkF m 0 #[.val (.ref b0)] [])) _
          refine XS.aloadN X0.here hx rfl (hb hby d3_0) rfl rfl ?_
          show Steps p.tables e below (s₁.setTop (mkF m 1 #[.val (.ref b0)] [(.ref b0)])) _
          refine st27 _ ?_
          show Steps p.tables e below (T27.setTop (mkF m 4 #[.val (.ref b0)] [(.ref wFAILS), (.ref b0)])) _
          refine Jvm.RoadKit.acmp (g := (mkF m 4 #[.val (.ref b0)] [(.ref wFAILS), (.ref b0)])) X27 hx rfl rfl rfl (pc0 := 4) (pc' := 9) (same := false) rfl (hb hby d3_4) rfl (decide_eq_false fun q => c28 (Value.ref.inj q)) (by decide) (by decide) ?_
          show Steps p.tables e below (T27.setTop (mkF m 9 #[.val (.ref b0)] [])) _
          refine XS.aloadN X27.here hx rfl (hb hby d3_9) rfl rfl ?_
          show Steps p.tables e below (T27.setTop (mkF m 10 #[.val (.ref b0)] [(.ref b0)])) _
          refine st30 _ ?_
          show Steps p.tables e below (T30.setTop (mkF m 13 #[.val (.ref b0)] [(.ref wUNKNOWN), (.ref b0)])) _
          refine Jvm.RoadKit.acmp (g := (mkF m 13 #[.val (.ref b0)] [(.ref wUNKNOWN), (.ref b0)])) X30 hx rfl rfl rfl (pc0 := 13) (pc' := 18) (same := false) rfl (hb hby d3_13) rfl (decide_eq_false fun q => c31 (Value.ref.inj q)) (by decide) (by decide) ?_
          show Steps p.tables e below (T30.setTop (mkF m 18 #[.val (.ref b0)] [])) _
          refine XS.aloadN X30.here hx rfl (hb hby d3_18) rfl rfl ?_
          show Steps p.tables e below (T30.setTop (mkF m 19 #[.val (.ref b0)] [(.ref b0)])) _
          refine st33 _ ?_
          show Steps p.tables e below (T33.setTop (mkF m 22 #[.val (.ref b0)] [(.ref wHOLDS), (.ref b0)])) _
          refine Jvm.RoadKit.acmp (g := (mkF m 22 #[.val (.ref b0)] [(.ref wHOLDS), (.ref b0)])) X33 hx rfl rfl rfl (pc0 := 22) (pc' := 25) (same := true) rfl (hb hby d3_22) rfl (decide_eq_true (congrArg Value.ref c34)) (by decide) (by decide) ?_
          show Steps p.tables e below (T33.setTop (mkF m 25 #[.val (.ref b0)] [])) _
          refine XS.iconst X33.here hx rfl (hb hby d3_25) ?_
          show Steps p.tables e below (T33.setTop (mkF m 26 #[.val (.ref b0)] [(.int (2 : Int32))])) _
          exact retOut X33 hx Bd.returns rfl (Or.inl ⟨rfl, Or.inl rfl, _, rfl⟩) (hb hby d3_26) hr
        · show Q3 Z b0 wFAILS wHOLDS wUNKNOWN h0 n0 _ T33.heap _
          rw [e33]
          exact ⟨(congrArg (fun z => some (Value.int z)) ((if_neg c28).trans ((if_neg c31).trans ((if_pos c34).trans rfl))).symm), N0, rfl⟩
      · obtain ⟨fs, hr, hrun, hended, hW, hsame⟩ := X33.leave (v := some (.int (-1 : Int32))) (fun h => by rw [Bd.returns] at h; cases h)
        refine ⟨_, _, pre0 _ ?_, hrun, hended, _, _, rfl, ?_, ⟨_, rfl⟩, hW, hsame.mono (by decide) (by decide)⟩
        · show Steps p.tables e below (s₁.setTop (mkF m 0 #[.val (.ref b0)] [])) _
          refine XS.aloadN X0.here hx rfl (hb hby d3_0) rfl rfl ?_
          show Steps p.tables e below (s₁.setTop (mkF m 1 #[.val (.ref b0)] [(.ref b0)])) _
          refine st27 _ ?_
          show Steps p.tables e below (T27.setTop (mkF m 4 #[.val (.ref b0)] [(.ref wFAILS), (.ref b0)])) _
          refine Jvm.RoadKit.acmp (g := (mkF m 4 #[.val (.ref b0)] [(.ref wFAILS), (.ref b0)])) X27 hx rfl rfl rfl (pc0 := 4) (pc' := 9) (same := false) rfl (hb hby d3_4) rfl (decide_eq_false fun q => c28 (Value.ref.inj q)) (by decide) (by decide) ?_
          show Steps p.tables e below (T27.setTop (mkF m 9 #[.val (.ref b0)] [])) _
          refine XS.aloadN X27.here hx rfl (hb hby d3_9) rfl rfl ?_
          show Steps p.tables e below (T27.setTop (mkF m 10 #[.val (.ref b0)] [(.ref b0)])) _
          refine st30 _ ?_
          show Steps p.tables e below (T30.setTop (mkF m 13 #[.val (.ref b0)] [(.ref wUNKNOWN), (.ref b0)])) _
          refine Jvm.RoadKit.acmp (g := (mkF m 13 #[.val (.ref b0)] [(.ref wUNKNOWN), (.ref b0)])) X30 hx rfl rfl rfl (pc0 := 13) (pc' := 18) (same := false) rfl (hb hby d3_13) rfl (decide_eq_false fun q => c31 (Value.ref.inj q)) (by decide) (by decide) ?_
          show Steps p.tables e below (T30.setTop (mkF m 18 #[.val (.ref b0)] [])) _
          refine XS.aloadN X30.here hx rfl (hb hby d3_18) rfl rfl ?_
          show Steps p.tables e below (T30.setTop (mkF m 19 #[.val (.ref b0)] [(.ref b0)])) _
          refine st33 _ ?_
          show Steps p.tables e below (T33.setTop (mkF m 22 #[.val (.ref b0)] [(.ref wHOLDS), (.ref b0)])) _
          refine Jvm.RoadKit.acmp (g := (mkF m 22 #[.val (.ref b0)] [(.ref wHOLDS), (.ref b0)])) X33 hx rfl rfl rfl (pc0 := 22) (pc' := 27) (same := false) rfl (hb hby d3_22) rfl (decide_eq_false fun q => c34 (Value.ref.inj q)) (by decide) (by decide) ?_
          show Steps p.tables e below (T33.setTop (mkF m 27 #[.val (.ref b0)] [])) _
          refine XS.iconst X33.here hx rfl (hb hby d3_27) ?_
          show Steps p.tables e below (T33.setTop (mkF m 28 #[.val (.ref b0)] [(.int (-1 : Int32))])) _
          exact retOut X33 hx Bd.returns rfl (Or.inl ⟨rfl, Or.inl rfl, _, rfl⟩) (hb hby d3_28) hr
        · show Q3 Z b0 wFAILS wHOLDS wUNKNOWN h0 n0 _ T33.heap _
          rw [e33]
          exact ⟨(congrArg (fun z => some (Value.int z)) ((if_neg c28).trans ((if_neg c31).trans ((if_neg c34).trans rfl))).symm), N0, rfl⟩
theorem d4_0 : decode jdk_29_method_69_code 0 = .ok (.iload_n 0, 1) := by decide +kernel
theorem d4_1 : decode jdk_29_method_69_code 1 = .ok (.iload_n 1, 1) := by decide +kernel
theorem d4_2 : decode jdk_29_method_69_code 2 = .ok (.if_icmp .gt 7, 3) := by decide +kernel
theorem d4_5 : decode jdk_29_method_69_code 5 = .ok (.iload_n 0, 1) := by decide +kernel
theorem d4_6 : decode jdk_29_method_69_code 6 = .ok (.goto 4, 3) := by decide +kernel
theorem d4_9 : decode jdk_29_method_69_code 9 = .ok (.iload_n 1, 1) := by decide +kernel
theorem d4_10 : decode jdk_29_method_69_code 10 = .ok (.ireturn, 1) := by decide +kernel
theorem ef_4 (m : MethodId) (p0 : Int32) (p1 : Int32) : entryFrame m #[(.int p0), (.int p1)] 2 = mkF m 0 #[.val (.int p0), .val (.int p1)] [] := by first | (simp [entryFrame, mkF, argsToLocals, Value.category]; done) | rfl
def F4 (p0 : Int32) (p1 : Int32) (wFAILS : Addr) (wHOLDS : Addr) (wUNKNOWN : Addr) : Int32 := (if p1 < p0 then p1 else p0)
def Q4 (Z : State) (p0 : Int32) (p1 : Int32) (wFAILS : Addr) (wHOLDS : Addr) (wUNKNOWN : Addr) (h0 : Heap) (n0 : Nat) (v : Option Value) (h : Heap) (L : List Loc) : Prop := v = some (.int (F4 p0 p1 wFAILS wHOLDS wUNKNOWN)) ∧ Fr n0 L ∧ h = h0
set_option maxRecDepth 65536 in
set_option maxHeartbeats 40000000 in
theorem rm4 (l : Launch) (Z : State) (a0 : Array Value) (hw : ∀ d ∈ tables_1, d.before a0 Z = true) (ws : List Jvm.Cond) (p0 : Int32) (p1 : Int32) (wFAILS : Addr) (wHOLDS : Addr) (wUNKNOWN : Addr) (h0 : Heap) (n0 : Nat) (Z0 : n0 ≤ h0.size) (W : own_W Z h0 wFAILS wHOLDS wUNKNOWN) :
    MetFree l (⟨"java/lang/Math", "min", "(II)I"⟩ : MethodName) (head1 (Jvm.Cond.code (⟨"java/lang/Math", "min", "(II)I"⟩ : MethodName) jdk_29_method_69_code 2 (some .int) :: ws) ({ frames := 0, cells := 0, slots := 0, locals := 0 } : Room)) (fun a U => a = #[(.int p0), (.int p1)] ∧ Z.Warmed39 U.vm ∧ U.heap = h0) (fun _ _ _ _ _ => True) (fun _ U o U' => ∃ v L, o = .returned v ∧ Q4 Z p0 p1 wFAILS wHOLDS wUNKNOWN h0 n0 v U'.heap L ∧ FrameEnd U o U' L ({ frames := 0, cells := 0, slots := 0, locals := 0 } : Room).cells ({ frames := 0, cells := 0, slots := 0, locals := 0 } : Room).slots) := by
  refine MetFree.of_bodySF (Jvm.Free.JP.mathPlain rfl (by decide +kernel)) hisR ?_
  intro p e s m args below meth c s₁ Bd hml0 hP hK
  obtain ⟨rfl, hZ, hh⟩ := hP
  have hx := Bd.exec
  have hby := Bd.bytes
  have hml : c.maxLocals = 2 := hml0
  have hown : s.vm.findClass "java/lang/Math" = some m.cls := findClass_of_methodNamed Bd.named
  have X0 : Stand p l e ({ frames := 0, cells := 0, slots := 0, locals := 0 } : Room) s m #[(.int p0), (.int p1)] below meth c s₁ [] 0 0 := Stand.of_body Bd
  have e0 : s₁.heap = h0 := by rw [← hh, Bd.state]; rfl
  have N0 := Fr.nil n0
  have pre0 : ∀ t, Steps p.tables e below (s₁.setTop (mkF m 0 #[.val (.int p0), .val (.int p1)] [])) t → Steps p.tables e below (s₁.setTop (entryFrame m #[(.int p0), (.int p1)] 2)) t := fun t k => castTop (ef_4 m p0 p1) k
  have W0 := W
  obtain ⟨S_FAILS, S_HOLDS, S_UNKNOWN, E_FAILS, E_HOLDS, E_UNKNOWN, n_FAILS_HOLDS, n_FAILS_UNKNOWN, n_HOLDS_UNKNOWN⟩ := W0
  by_cases c37 : p1 < p0
  · obtain ⟨fs, hr, hrun, hended, hW, hsame⟩ := X0.leave (v := some (.int p1)) (fun h => by rw [Bd.returns] at h; cases h)
    refine ⟨_, _, pre0 _ ?_, hrun, hended, _, _, rfl, ?_, ⟨_, rfl⟩, hW, hsame.mono (by decide) (by decide)⟩
    · show Steps p.tables e below (s₁.setTop (mkF m 0 #[.val (.int p0), .val (.int p1)] [])) _
      refine XS.iloadN X0.here hx rfl (hb hby d4_0) rfl ?_
      show Steps p.tables e below (s₁.setTop (mkF m 1 #[.val (.int p0), .val (.int p1)] [(.int p0)])) _
      refine XS.iloadN X0.here hx rfl (hb hby d4_1) rfl ?_
      show Steps p.tables e below (s₁.setTop (mkF m 2 #[.val (.int p0), .val (.int p1)] [(.int p1), (.int p0)])) _
      refine XS.icmpYes X0.here hx rfl (pc0 := 2) (pc' := 9) rfl (hb hby d4_2) rfl (tlt c37).2.2.1 (by decide) (by decide) ?_
      show Steps p.tables e below (s₁.setTop (mkF m 9 #[.val (.int p0), .val (.int p1)] [])) _
      refine XS.iloadN X0.here hx rfl (hb hby d4_9) rfl ?_
      show Steps p.tables e below (s₁.setTop (mkF m 10 #[.val (.int p0), .val (.int p1)] [(.int p1)])) _
      exact retOut X0 hx Bd.returns rfl (Or.inl ⟨rfl, Or.inl rfl, _, rfl⟩) (hb hby d4_10) hr
    · show Q4 Z p0 p1 wFAILS wHOLDS wUNKNOWN h0 n0 _ s₁.heap _
      rw [e0]
      exact ⟨(congrArg (fun z => some (Value.int z)) ((if_pos c37).trans rfl).symm), N0, rfl⟩
  · obtain ⟨fs, hr, hrun, hended, hW, hsame⟩ := X0.leave (v := some (.int p0)) (fun h => by rw [Bd.returns] at h; cases h)
    refine ⟨_, _, pre0 _ ?_, hrun, hended, _, _, rfl, ?_, ⟨_, rfl⟩, hW, hsame.mono (by decide) (by decide)⟩
    · show Steps p.tables e below (s₁.setTop (mkF m 0 #[.val (.int p0), .val (.int p1)] [])) _
      refine XS.iloadN X0.here hx rfl (hb hby d4_0) rfl ?_
      show Steps p.tables e below (s₁.setTop (mkF m 1 #[.val (.int p0), .val (.int p1)] [(.int p0)])) _
      refine XS.iloadN X0.here hx rfl (hb hby d4_1) rfl ?_
      show Steps p.tables e below (s₁.setTop (mkF m 2 #[.val (.int p0), .val (.int p1)] [(.int p1), (.int p0)])) _
      refine XS.icmpNo X0.here hx rfl (hb hby d4_2) rfl (flt c37).2.2.1 ?_
      show Steps p.tables e below (s₁.setTop (mkF m 5 #[.val (.int p0), .val (.int p1)] [])) _
      refine XS.iloadN X0.here hx rfl (hb hby d4_5) rfl ?_
      show Steps p.tables e below (s₁.setTop (mkF m 6 #[.val (.int p0), .val (.int p1)] [(.int p0)])) _
      refine XS.goto X0.here hx rfl (pc0 := 6) (pc' := 10) rfl (hb hby d4_6) (by decide) (by decide) ?_
      show Steps p.tables e below (s₁.setTop (mkF m 10 #[.val (.int p0), .val (.int p1)] [(.int p0)])) _
      exact retOut X0 hx Bd.returns rfl (Or.inl ⟨rfl, Or.inl rfl, _, rfl⟩) (hb hby d4_10) hr
    · show Q4 Z p0 p1 wFAILS wHOLDS wUNKNOWN h0 n0 _ s₁.heap _
      rw [e0]
      exact ⟨(congrArg (fun z => some (Value.int z)) ((if_neg c37).trans rfl).symm), N0, rfl⟩
theorem pd_0 : parseMethodDescriptor "(I)Lcom/example/rels_from_records/relsfromrecords/schema/Verdict;" = some ⟨[.int], some (.object "com/example/rels_from_records/relsfromrecords/schema/Verdict")⟩ := by decide +kernel
theorem pd_1 : parseMethodDescriptor "(Lcom/example/rels_from_records/relsfromrecords/schema/Verdict;)Lcom/example/rels_from_records/relsfromrecords/schema/Verdict;" = some ⟨[(.object "com/example/rels_from_records/relsfromrecords/schema/Verdict")], some (.object "com/example/rels_from_records/relsfromrecords/schema/Verdict")⟩ := by decide +kernel
theorem pd_2 : parseMethodDescriptor "(Lcom/example/rels_from_records/relsfromrecords/schema/Verdict;)I" = some ⟨[(.object "com/example/rels_from_records/relsfromrecords/schema/Verdict")], some .int⟩ := by decide +kernel
theorem pd_3 : parseMethodDescriptor "(II)I" = some ⟨[.int, .int], some .int⟩ := by decide +kernel
theorem pn_0 : plainName "com/example/rels_from_records/relsfromrecords/schema/VerdictAndPinLaw" = true := by first | (simp [plainName, overriddenIn]; done) | decide +kernel
theorem ef_0 (m : MethodId) (p0 : Int32) (p1 : Int32) : entryFrame m #[(.int p0), (.int p1)] maxLocals = mkF m 0 #[.val (.int p0), .val (.int p1), .unset, .unset, .unset, .unset, .unset] [] := by first | (simp [entryFrame, mkF, argsToLocals, Value.category, maxLocals]; done) | rfl
def Q0 (Z : State) (p0 : Int32) (p1 : Int32) (wFAILS : Addr) (wHOLDS : Addr) (wUNKNOWN : Addr) (h0 : Heap) (n0 : Nat) (v : Option Value) (h : Heap) (L : List Loc) : Prop := v = some (.int (1 : Int32)) ∧ Fr n0 L ∧ h = h0
theorem own_E {Z : State} {h0 : Heap} {wFAILS wHOLDS wUNKNOWN : Addr} (W : own_W Z h0 wFAILS wHOLDS wUNKNOWN) (k : Int32) : Exa Z h0 (F1 k wFAILS wHOLDS wUNKNOWN) "com/example/rels_from_records/relsfromrecords/schema/Verdict" := by
  obtain ⟨S_FAILS, S_HOLDS, S_UNKNOWN, E_FAILS, E_HOLDS, E_UNKNOWN, n_FAILS_HOLDS, n_FAILS_UNKNOWN, n_HOLDS_UNKNOWN⟩ := W
  unfold F1
  split
  · assumption
  · split <;> assumption
set_option maxRecDepth 65536 in
set_option maxHeartbeats 40000000 in
theorem rm0 (l : Launch) (Z : State) (a0 : Array Value) (hw : ∀ d ∈ tables_1, d.before a0 Z = true) (ws : List Jvm.Cond) (p0 : Int32) (p1 : Int32) (wFAILS : Addr) (wHOLDS : Addr) (wUNKNOWN : Addr) (h0 : Heap) (n0 : Nat) (Z0 : n0 ≤ h0.size) (W : own_W Z h0 wFAILS wHOLDS wUNKNOWN) :
    MetFree l x (head1 (Jvm.Cond.code x code maxLocals ret :: ws) room_1) (fun a U => a = #[(.int p0), (.int p1)] ∧ Z.Warmed39 U.vm ∧ U.heap = h0) (fun _ _ _ _ _ => True) (fun _ U o U' => ∃ v L, o = .returned v ∧ Q0 Z p0 p1 wFAILS wHOLDS wUNKNOWN h0 n0 v U'.heap L ∧ FrameEnd U o U' L room_1.cells room_1.slots) := by
  refine MetFree.of_bodySF (plainFor_of_name pn_0) hisR ?_
  intro p e s m args below meth c s₁ Bd hml0 hP hK
  obtain ⟨rfl, hZ, hh⟩ := hP
  have hx := Bd.exec
  have hby := Bd.bytes
  have hml : c.maxLocals = 7 := hml0
  have hown : s.vm.findClass "com/example/rels_from_records/relsfromrecords/schema/VerdictAndPinLaw" = some m.cls := findClass_of_methodNamed Bd.named
  have X0 : Stand p l e room_1 s m #[(.int p0), (.int p1)] below meth c s₁ [] 0 0 := Stand.of_body Bd
  have e0 : s₁.heap = h0 := by rw [← hh, Bd.state]; rfl
  have N0 := Fr.nil n0
  have pre0 : ∀ t, Steps p.tables e below (s₁.setTop (mkF m 0 #[.val (.int p0), .val (.int p1), .unset, .unset, .unset, .unset, .unset] [])) t → Steps p.tables e below (s₁.setTop (entryFrame m #[(.int p0), (.int p1)] maxLocals)) t := fun t k => castTop (ef_0 m p0 p1) k
  have W0 := W
  obtain ⟨S_FAILS, S_HOLDS, S_UNKNOWN, E_FAILS, E_HOLDS, E_UNKNOWN, n_FAILS_HOLDS, n_FAILS_UNKNOWN, n_HOLDS_UNKNOWN⟩ := W0
  obtain ⟨_, _, ⟨T40, L40, k40, n40⟩, -, X40, ⟨Lc40, hQ40, l40, y40, z40⟩, st40⟩ := Jvm.LawKit.callS X0 hx (y := (⟨"com/example/rels_from_records/relsfromrecords/schema/VerdictAndPinLaw", "pick", "(I)Lcom/example/rels_from_records/relsfromrecords/schema/Verdict;"⟩ : MethodName)) hown (mvT hZ (hw _ (List.mem_of_getElem? (i := 1) rfl))) (mvT hZ (hw _ (List.mem_of_getElem? (i := 2) rfl))) (mvT hZ (hw _ (List.mem_of_getElem? (i := 3) rfl))) (mvT hZ (hw _ (List.mem_of_getElem? (i := 4) rfl))) (by decide) (backOf (W := 0) (rm1 l Z a0 hw [] ((p0 &&& (2147483647 : Int32)) % (3 : Int32)) wFAILS wHOLDS wUNKNOWN h0 n0 Z0 W) hZ (hw _ (List.mem_of_getElem? (i := 4) rfl)) (hw _ (List.mem_of_getElem? (i := 3) rfl)) (by decide) (by decide)) (g := (mkF m 15 #[.val (.int p0), .val (.int p1), .val (.int ((p0 &&& (2147483647 : Int32)) % (3 : Int32))), .val (.int ((p1 &&& (2147483647 : Int32)) % (3 : Int32))), .unset, .unset, .unset] [(.int ((p0 &&& (2147483647 : Int32)) % (3 : Int32)))])) rfl (by rw [hml]; rfl) (argsL := [(.int ((p0 &&& (2147483647 : Int32)) % (3 : Int32)))]) (rest := []) (lenOf pd_0 rfl) rfl (by show 2 * 0 + _ ≤ _; exact Nat.le_of_eq rfl) (hb hby at_15) (fun _ _ => ⟨rfl, e0, (by decide : 0 + 0 ≤ _), (by decide : 0 + 0 ≤ _)⟩)
  dsimp only [Pt.U, Pt.locs, Pt.cells, Pt.slots] at X40 l40 y40 z40 st40 hQ40
  subst l40 y40 z40
  obtain ⟨rfl, N40q, e40⟩ := hQ40
  have N40 := Fr.app N0 N40q
  obtain ⟨_, _, ⟨T41, L41, k41, n41⟩, -, X41, ⟨Lc41, hQ41, l41, y41, z41⟩, st41⟩ := Jvm.LawKit.callS X40 hx (y := (⟨"com/example/rels_from_records/relsfromrecords/schema/VerdictAndPinLaw", "pick", "(I)Lcom/example/rels_from_records/relsfromrecords/schema/Verdict;"⟩ : MethodName)) hown (mvT hZ (hw _ (List.mem_of_getElem? (i := 1) rfl))) (mvT hZ (hw _ (List.mem_of_getElem? (i := 2) rfl))) (mvT hZ (hw _ (List.mem_of_getElem? (i := 3) rfl))) (mvT hZ (hw _ (List.mem_of_getElem? (i := 4) rfl))) (by decide) (backOf (W := 0) (rm1 l Z a0 hw [] ((p1 &&& (2147483647 : Int32)) % (3 : Int32)) wFAILS wHOLDS wUNKNOWN h0 n0 Z0 W) hZ (hw _ (List.mem_of_getElem? (i := 4) rfl)) (hw _ (List.mem_of_getElem? (i := 3) rfl)) (by decide) (by decide)) (g := (mkF m 21 #[.val (.int p0), .val (.int p1), .val (.int ((p0 &&& (2147483647 : Int32)) % (3 : Int32))), .val (.int ((p1 &&& (2147483647 : Int32)) % (3 : Int32))), .val (.ref (F1 ((p0 &&& (2147483647 : Int32)) % (3 : Int32)) wFAILS wHOLDS wUNKNOWN)), .unset, .unset] [(.int ((p1 &&& (2147483647 : Int32)) % (3 : Int32)))])) rfl (by rw [hml]; rfl) (argsL := [(.int ((p1 &&& (2147483647 : Int32)) % (3 : Int32)))]) (rest := []) (lenOf pd_0 rfl) rfl (by show 2 * 0 + _ ≤ _; exact Nat.le_of_eq rfl) (hb hby at_21) (fun _ _ => ⟨rfl, e40, (by decide : 0 + 0 ≤ _), (by decide : 0 + 0 ≤ _)⟩)
  dsimp only [Pt.U, Pt.locs, Pt.cells, Pt.slots] at X41 l41 y41 z41 st41 hQ41
  subst l41 y41 z41
  obtain ⟨rfl, N41q, e41⟩ := hQ41
  have N41 := Fr.app N40 N41q
  obtain ⟨cq42, kq42, q42a, q42b, q42c⟩ := isOf hZ e41 (own_E W ((p0 &&& (2147483647 : Int32)) % (3 : Int32)))
  obtain ⟨_, _, ⟨T42, L42, k42, n42⟩, -, X42, ⟨Lc42, hQ42, l42, y42, z42⟩, st42⟩ := X41.virtualBack hx (y := (⟨"com/example/rels_from_records/relsfromrecords/schema/Verdict", "and", "(Lcom/example/rels_from_records/relsfromrecords/schema/Verdict;)Lcom/example/rels_from_records/relsfromrecords/schema/Verdict;"⟩ : MethodName)) (z := (⟨"com/example/rels_from_records/relsfromrecords/schema/Verdict", "and", "(Lcom/example/rels_from_records/relsfromrecords/schema/Verdict;)Lcom/example/rels_from_records/relsfromrecords/schema/Verdict;"⟩ : MethodName)) hown (mvT hZ (hw _ (List.mem_of_getElem? (i := 8) rfl))) (mvT hZ (hw _ (List.mem_of_getElem? (i := 9) rfl))) (notFace_of_selects (args := #[]) (mvT hZ (hw _ (List.mem_of_getElem? (i := 11) rfl)))) (mvT hZ (hw _ (List.mem_of_getElem? (i := 11) rfl))) (mvT hZ (hw _ (List.mem_of_getElem? (i := 10) rfl))) (by decide) (backOf (W := 0) (rm2 l Z a0 hw [] (F1 ((p0 &&& (2147483647 : Int32)) % (3 : Int32)) wFAILS wHOLDS wUNKNOWN) (F1 ((p1 &&& (2147483647 : Int32)) % (3 : Int32)) wFAILS wHOLDS wUNKNOWN) wFAILS wHOLDS wUNKNOWN h0 n0 Z0 W) hZ (hw _ (List.mem_of_getElem? (i := 12) rfl)) (hw _ (List.mem_of_getElem? (i := 6) rfl)) (by decide) (by decide)) q42a q42c (g := (mkF m 30 #[.val (.int p0), .val (.int p1), .val (.int ((p0 &&& (2147483647 : Int32)) % (3 : Int32))), .val (.int ((p1 &&& (2147483647 : Int32)) % (3 : Int32))), .val (.ref (F1 ((p0 &&& (2147483647 : Int32)) % (3 : Int32)) wFAILS wHOLDS wUNKNOWN)), .val (.ref (F1 ((p1 &&& (2147483647 : Int32)) % (3 : Int32)) wFAILS wHOLDS wUNKNOWN)), .unset] [(.ref (F1 ((p1 &&& (2147483647 : Int32)) % (3 : Int32)) wFAILS wHOLDS wUNKNOWN)), (.ref (F1 ((p0 &&& (2147483647 : Int32)) % (3 : Int32)) wFAILS wHOLDS wUNKNOWN))])) rfl (by rw [hml]; rfl) (Steps.refl _) (argsL := [(.ref (F1 ((p1 &&& (2147483647 : Int32)) % (3 : Int32)) wFAILS wHOLDS wUNKNOWN))]) (rest := []) (lenOf pd_1 rfl) rfl (by show 2 * 0 + _ ≤ _; exact Nat.le_of_eq rfl) (hb hby at_30) (fun _ _ => ⟨rfl, e41, (by decide : 0 + 0 ≤ _), (by decide : 0 + 0 ≤ _)⟩)
  dsimp only [Pt.U, Pt.locs, Pt.cells, Pt.slots] at X42 l42 y42 z42 st42 hQ42
  subst l42 y42 z42
  obtain ⟨rfl, N42q, e42⟩ := hQ42
  have N42 := Fr.app N41 N42q
  obtain ⟨_, _, ⟨T43, L43, k43, n43⟩, -, X43, ⟨Lc43, hQ43, l43, y43, z43⟩, st43⟩ := Jvm.LawKit.callS X42 hx (y := (⟨"com/example/rels_from_records/relsfromrecords/schema/VerdictAndPinLaw", "rank", "(Lcom/example/rels_from_records/relsfromrecords/schema/Verdict;)I"⟩ : MethodName)) hown (mvT hZ (hw _ (List.mem_of_getElem? (i := 14) rfl))) (mvT hZ (hw _ (List.mem_of_getElem? (i := 15) rfl))) (mvT hZ (hw _ (List.mem_of_getElem? (i := 3) rfl))) (mvT hZ (hw _ (List.mem_of_getElem? (i := 16) rfl))) (by decide) (backOf (W := 0) (rm3 l Z a0 hw [] (F2 (F1 ((p0 &&& (2147483647 : Int32)) % (3 : Int32)) wFAILS wHOLDS wUNKNOWN) (F1 ((p1 &&& (2147483647 : Int32)) % (3 : Int32)) wFAILS wHOLDS wUNKNOWN) wFAILS wHOLDS wUNKNOWN) wFAILS wHOLDS wUNKNOWN h0 n0 Z0 W) hZ (hw _ (List.mem_of_getElem? (i := 16) rfl)) (hw _ (List.mem_of_getElem? (i := 3) rfl)) (by decide) (by decide)) (g := (mkF m 37 #[.val (.int p0), .val (.int p1), .val (.int ((p0 &&& (2147483647 : Int32)) % (3 : Int32))), .val (.int ((p1 &&& (2147483647 : Int32)) % (3 : Int32))), .val (.ref (F1 ((p0 &&& (2147483647 : Int32)) % (3 : Int32)) wFAILS wHOLDS wUNKNOWN)), .val (.ref (F1 ((p1 &&& (2147483647 : Int32)) % (3 : Int32)) wFAILS wHOLDS wUNKNOWN)), .val (.ref (F2 (F1 ((p0 &&& (2147483647 : Int32)) % (3 : Int32)) wFAILS wHOLDS wUNKNOWN) (F1 ((p1 &&& (2147483647 : Int32)) % (3 : Int32)) wFAILS wHOLDS wUNKNOWN) wFAILS wHOLDS wUNKNOWN))] [(.ref (F2 (F1 ((p0 &&& (2147483647 : Int32)) % (3 : Int32)) wFAILS wHOLDS wUNKNOWN) (F1 ((p1 &&& (2147483647 : Int32)) % (3 : Int32)) wFAILS wHOLDS wUNKNOWN) wFAILS wHOLDS wUNKNOWN))])) rfl (by rw [hml]; rfl) (argsL := [(.ref (F2 (F1 ((p0 &&& (2147483647 : Int32)) % (3 : Int32)) wFAILS wHOLDS wUNKNOWN) (F1 ((p1 &&& (2147483647 : Int32)) % (3 : Int32)) wFAILS wHOLDS wUNKNOWN) wFAILS wHOLDS wUNKNOWN))]) (rest := []) (lenOf pd_2 rfl) rfl (by show 2 * 0 + _ ≤ _; exact Nat.le_of_eq rfl) (hb hby at_37) (fun _ _ => ⟨rfl, e42, (by decide : 0 + 0 ≤ _), (by decide : 0 + 0 ≤ _)⟩)
  dsimp only [Pt.U, Pt.locs, Pt.cells, Pt.slots] at X43 l43 y43 z43 st43 hQ43
  subst l43 y43 z43
  obtain ⟨rfl, N43q, e43⟩ := hQ43
  have N43 := Fr.app N42 N43q
  obtain ⟨_, _, ⟨T44, L44, k44, n44⟩, -, X44, ⟨Lc44, hQ44, l44, y44, z44⟩, st44⟩ := Jvm.LawKit.callS X43 hx (y := (⟨"java/lang/Math", "min", "(II)I"⟩ : MethodName)) hown (mvT hZ (hw _ (List.mem_of_getElem? (i := 17) rfl))) (mvT hZ (hw _ (List.mem_of_getElem? (i := 18) rfl))) (mvT hZ (hw _ (List.mem_of_getElem? (i := 19) rfl))) (mvT hZ (hw _ (List.mem_of_getElem? (i := 20) rfl))) (by decide) (backOf (W := 1) (rm4 l Z a0 hw [] ((p0 &&& (2147483647 : Int32)) % (3 : Int32)) ((p1 &&& (2147483647 : Int32)) % (3 : Int32)) wFAILS wHOLDS wUNKNOWN h0 n0 Z0 W) hZ (hw _ (List.mem_of_getElem? (i := 20) rfl)) (hw _ (List.mem_of_getElem? (i := 19) rfl)) (by decide) (by decide)) (g := (mkF m 42 #[.val (.int p0), .val (.int p1), .val (.int ((p0 &&& (2147483647 : Int32)) % (3 : Int32))), .val (.int ((p1 &&& (2147483647 : Int32)) % (3 : Int32))), .val (.ref (F1 ((p0 &&& (2147483647 : Int32)) % (3 : Int32)) wFAILS wHOLDS wUNKNOWN)), .val (.ref (F1 ((p1 &&& (2147483647 : Int32)) % (3 : Int32)) wFAILS wHOLDS wUNKNOWN)), .val (.ref (F2 (F1 ((p0 &&& (2147483647 : Int32)) % (3 : Int32)) wFAILS wHOLDS wUNKNOWN) (F1 ((p1 &&& (2147483647 : Int32)) % (3 : Int32)) wFAILS wHOLDS wUNKNOWN) wFAILS wHOLDS wUNKNOWN))] [(.int ((p1 &&& (2147483647 : Int32)) % (3 : Int32))), (.int ((p0 &&& (2147483647 : Int32)) % (3 : Int32))), (.int (F3 (F2 (F1 ((p0 &&& (2147483647 : Int32)) % (3 : Int32)) wFAILS wHOLDS wUNKNOWN) (F1 ((p1 &&& (2147483647 : Int32)) % (3 : Int32)) wFAILS wHOLDS wUNKNOWN) wFAILS wHOLDS wUNKNOWN) wFAILS wHOLDS wUNKNOWN))])) rfl (by rw [hml]; rfl) (argsL := [(.int ((p0 &&& (2147483647 : Int32)) % (3 : Int32))), (.int ((p1 &&& (2147483647 : Int32)) % (3 : Int32)))]) (rest := [(.int (F3 (F2 (F1 ((p0 &&& (2147483647 : Int32)) % (3 : Int32)) wFAILS wHOLDS wUNKNOWN) (F1 ((p1 &&& (2147483647 : Int32)) % (3 : Int32)) wFAILS wHOLDS wUNKNOWN) wFAILS wHOLDS wUNKNOWN) wFAILS wHOLDS wUNKNOWN))]) (lenOf pd_3 rfl) rfl (by show 2 * 0 + _ ≤ _; exact Nat.le_of_eq rfl) (hb hby at_42) (fun _ _ => ⟨rfl, e43, (by decide : 0 + 0 ≤ _), (by decide : 0 + 0 ≤ _)⟩)
  dsimp only [Pt.U, Pt.locs, Pt.cells, Pt.slots] at X44 l44 y44 z44 st44 hQ44
  subst l44 y44 z44
  obtain ⟨rfl, N44q, e44⟩ := hQ44
  have N44 := Fr.app N43 N44q
  obtain ⟨fs, hr, hrun, hended, hW, hsame⟩ := X44.leave (v := some (.int (1 : Int32))) (fun h => by rw [Bd.returns] at h; cases h)
  refine ⟨_, _, pre0 _ ?_, hrun, hended, _, _, rfl, ?_, ⟨_, rfl⟩, hW, hsame.mono (by decide) (by decide)⟩
  · show Steps p.tables e below (s₁.setTop (mkF m 0 #[.val (.int p0), .val (.int p1), .unset, .unset, .unset, .unset, .unset] [])) _
    refine XS.iloadN X0.here hx rfl (hb hby at_0) rfl ?_
    show Steps p.tables e below (s₁.setTop (mkF m 1 #[.val (.int p0), .val (.int p1), .unset, .unset, .unset, .unset, .unset] [(.int p0)])) _
    refine X0.ldcInt hx hown (mvT hZ (hw _ (List.mem_of_getElem? (i := 0) rfl))) (g := (mkF m 1 #[.val (.int p0), .val (.int p1), .unset, .unset, .unset, .unset, .unset] [(.int p0)])) rfl (hb hby at_1) _ ?_
    show Steps p.tables e below (s₁.setTop (mkF m 3 #[.val (.int p0), .val (.int p1), .unset, .unset, .unset, .unset, .unset] [(.int (2147483647 : Int32)), (.int p0)])) _
    refine XS.iand X0.here hx rfl (hb hby at_3) rfl ?_
    show Steps p.tables e below (s₁.setTop (mkF m 4 #[.val (.int p0), .val (.int p1), .unset, .unset, .unset, .unset, .unset] [(.int (p0 &&& (2147483647 : Int32)))])) _
    refine XS.iconst X0.here hx rfl (hb hby at_4) ?_
    show Steps p.tables e below (s₁.setTop (mkF m 5 #[.val (.int p0), .val (.int p1), .unset, .unset, .unset, .unset, .unset] [(.int (3 : Int32)), (.int (p0 &&& (2147483647 : Int32)))])) _
    refine iremM (g := (mkF m 5 #[.val (.int p0), .val (.int p1), .unset, .unset, .unset, .unset, .unset] [(.int (3 : Int32)), (.int (p0 &&& (2147483647 : Int32)))])) X0 hx rfl (hb hby at_5) rfl (by decide) ?_
    show Steps p.tables e below (s₁.setTop (mkF m 6 #[.val (.int p0), .val (.int p1), .unset, .unset, .unset, .unset, .unset] [(.int ((p0 &&& (2147483647 : Int32)) % (3 : Int32)))])) _
    refine XS.istoreN X0.here hx rfl (hb hby at_6) rfl (l' := #[.val (.int p0), .val (.int p1), .val (.int ((p0 &&& (2147483647 : Int32)) % (3 : Int32))), .unset, .unset, .unset, .unset]) rfl ?_
    show Steps p.tables e below (s₁.setTop (mkF m 7 #[.val (.int p0), .val (.int p1), .val (.int ((p0 &&& (2147483647 : Int32)) % (3 : Int32))), .unset, .unset, .unset, .unset] [])) _
    refine XS.iloadN X0.here hx rfl (hb hby at_7) rfl ?_
    show Steps p.tables e below (s₁.setTop (mkF m 8 #[.val (.int p0), .val (.int p1), .val (.int ((p0 &&& (2147483647 : Int32)) % (3 : Int32))), .unset, .unset, .unset, .unset] [(.int p1)])) _
    refine X0.ldcInt hx hown (mvT hZ (hw _ (List.mem_of_getElem? (i := 0) rfl))) (g := (mkF m 8 #[.val (.int p0), .val (.int p1), .val (.int ((p0 &&& (2147483647 : Int32)) % (3 : Int32))), .unset, .unset, .unset, .unset] [(.int p1)])) rfl (hb hby at_8) _ ?_
    show Steps p.tables e below (s₁.setTop (mkF m 10 #[.val (.int p0), .val (.int p1), .val (.int ((p0 &&& (2147483647 : Int32)) % (3 : Int32))), .unset, .unset, .unset, .unset] [(.int (2147483647 : Int32)), (.int p1)])) _
    refine XS.iand X0.here hx rfl (hb hby at_10) rfl ?_
    show Steps p.tables e below (s₁.setTop (mkF m 11 #[.val (.int p0), .val (.int p1), .val (.int ((p0 &&& (2147483647 : Int32)) % (3 : Int32))), .unset, .unset, .unset, .unset] [(.int (p1 &&& (2147483647 : Int32)))])) _
    refine XS.iconst X0.here hx rfl (hb hby at_11) ?_
    show Steps p.tables e below (s₁.setTop (mkF m 12 #[.val (.int p0), .val (.int p1), .val (.int ((p0 &&& (2147483647 : Int32)) % (3 : Int32))), .unset, .unset, .unset, .unset] [(.int (3 : Int32)), (.int (p1 &&& (2147483647 : Int32)))])) _
    refine iremM (g := (mkF m 12 #[.val (.int p0), .val (.int p1), .val (.int ((p0 &&& (2147483647 : Int32)) % (3 : Int32))), .unset, .unset, .unset, .unset] [(.int (3 : Int32)), (.int (p1 &&& (2147483647 : Int32)))])) X0 hx rfl (hb hby at_12) rfl (by decide) ?_
    show Steps p.tables e below (s₁.setTop (mkF m 13 #[.val (.int p0), .val (.int p1), .val (.int ((p0 &&& (2147483647 : Int32)) % (3 : Int32))), .unset, .unset, .unset, .unset] [(.int ((p1 &&& (2147483647 : Int32)) % (3 : Int32)))])) _
    refine XS.istoreN X0.here hx rfl (hb hby at_13) rfl (l' := #[.val (.int p0), .val (.int p1), .val (.int ((p0 &&& (2147483647 : Int32)) % (3 : Int32))), .val (.int ((p1 &&& (2147483647 : Int32)) % (3 : Int32))), .unset, .unset, .unset]) rfl ?_
    show Steps p.tables e below (s₁.setTop (mkF m 14 #[.val (.int p0), .val (.int p1), .val (.int ((p0 &&& (2147483647 : Int32)) % (3 : Int32))), .val (.int ((p1 &&& (2147483647 : Int32)) % (3 : Int32))), .unset, .unset, .unset] [])) _
    refine XS.iloadN X0.here hx rfl (hb hby at_14) rfl ?_
    show Steps p.tables e below (s₁.setTop (mkF m 15 #[.val (.int p0), .val (.int p1), .val (.int ((p0 &&& (2147483647 : Int32)) % (3 : Int32))), .val (.int ((p1 &&& (2147483647 : Int32)) % (3 : Int32))), .unset, .unset, .unset] [(.int ((p0 &&& (2147483647 : Int32)) % (3 : Int32)))])) _
    refine st40 _ ?_
    show Steps p.tables e below (T40.setTop (mkF m 18 #[.val (.int p0), .val (.int p1), .val (.int ((p0 &&& (2147483647 : Int32)) % (3 : Int32))), .val (.int ((p1 &&& (2147483647 : Int32)) % (3 : Int32))), .unset, .unset, .unset] [(.ref (F1 ((p0 &&& (2147483647 : Int32)) % (3 : Int32)) wFAILS wHOLDS wUNKNOWN))])) _
    refine XS.astore X40.here hx rfl (hb hby at_18) rfl rfl (l' := #[.val (.int p0), .val (.int p1), .val (.int ((p0 &&& (2147483647 : Int32)) % (3 : Int32))), .val (.int ((p1 &&& (2147483647 : Int32)) % (3 : Int32))), .val (.ref (F1 ((p0 &&& (2147483647 : Int32)) % (3 : Int32)) wFAILS wHOLDS wUNKNOWN)), .unset, .unset]) rfl ?_
    show Steps p.tables e below (T40.setTop (mkF m 20 #[.val (.int p0), .val (.int p1), .val (.int ((p0 &&& (2147483647 : Int32)) % (3 : Int32))), .val (.int ((p1 &&& (2147483647 : Int32)) % (3 : Int32))), .val (.ref (F1 ((p0 &&& (2147483647 : Int32)) % (3 : Int32)) wFAILS wHOLDS wUNKNOWN)), .unset, .unset] [])) _
    refine XS.iloadN X40.here hx rfl (hb hby at_20) rfl ?_
    show Steps p.tables e below (T40.setTop (mkF m 21 #[.val (.int p0), .val (.int p1), .val (.int ((p0 &&& (2147483647 : Int32)) % (3 : Int32))), .val (.int ((p1 &&& (2147483647 : Int32)) % (3 : Int32))), .val (.ref (F1 ((p0 &&& (2147483647 : Int32)) % (3 : Int32)) wFAILS wHOLDS wUNKNOWN)), .unset, .unset] [(.int ((p1 &&& (2147483647 : Int32)) % (3 : Int32)))])) _
    refine st41 _ ?_
    show Steps p.tables e below (T41.setTop (mkF m 24 #[.val (.int p0), .val (.int p1), .val (.int ((p0 &&& (2147483647 : Int32)) % (3 : Int32))), .val (.int ((p1 &&& (2147483647 : Int32)) % (3 : Int32))), .val (.ref (F1 ((p0 &&& (2147483647 : Int32)) % (3 : Int32)) wFAILS wHOLDS wUNKNOWN)), .unset, .unset] [(.ref (F1 ((p1 &&& (2147483647 : Int32)) % (3 : Int32)) wFAILS wHOLDS wUNKNOWN))])) _
    refine XS.astore X41.here hx rfl (hb hby at_24) rfl rfl (l' := #[.val (.int p0), .val (.int p1), .val (.int ((p0 &&& (2147483647 : Int32)) % (3 : Int32))), .val (.int ((p1 &&& (2147483647 : Int32)) % (3 : Int32))), .val (.ref (F1 ((p0 &&& (2147483647 : Int32)) % (3 : Int32)) wFAILS wHOLDS wUNKNOWN)), .val (.ref (F1 ((p1 &&& (2147483647 : Int32)) % (3 : Int32)) wFAILS wHOLDS wUNKNOWN)), .unset]) rfl ?_
    show Steps p.tables e below (T41.setTop (mkF m 26 #[.val (.int p0), .val (.int p1), .val (.int ((p0 &&& (2147483647 : Int32)) % (3 : Int32))), .val (.int ((p1 &&& (2147483647 : Int32)) % (3 : Int32))), .val (.ref (F1 ((p0 &&& (2147483647 : Int32)) % (3 : Int32)) wFAILS wHOLDS wUNKNOWN)), .val (.ref (F1 ((p1 &&& (2147483647 : Int32)) % (3 : Int32)) wFAILS wHOLDS wUNKNOWN)), .unset] [])) _
    refine XS.aload X41.here hx rfl (hb hby at_26) rfl rfl ?_
    show Steps p.tables e below (T41.setTop (mkF m 28 #[.val (.int p0), .val (.int p1), .val (.int ((p0 &&& (2147483647 : Int32)) % (3 : Int32))), .val (.int ((p1 &&& (2147483647 : Int32)) % (3 : Int32))), .val (.ref (F1 ((p0 &&& (2147483647 : Int32)) % (3 : Int32)) wFAILS wHOLDS wUNKNOWN)), .val (.ref (F1 ((p1 &&& (2147483647 : Int32)) % (3 : Int32)) wFAILS wHOLDS wUNKNOWN)), .unset] [(.ref (F1 ((p0 &&& (2147483647 : Int32)) % (3 : Int32)) wFAILS wHOLDS wUNKNOWN))])) _
    refine XS.aload X41.here hx rfl (hb hby at_28) rfl rfl ?_
    show Steps p.tables e below (T41.setTop (mkF m 30 #[.val (.int p0), .val (.int p1), .val (.int ((p0 &&& (2147483647 : Int32)) % (3 : Int32))), .val (.int ((p1 &&& (2147483647 : Int32)) % (3 : Int32))), .val (.ref (F1 ((p0 &&& (2147483647 : Int32)) % (3 : Int32)) wFAILS wHOLDS wUNKNOWN)), .val (.ref (F1 ((p1 &&& (2147483647 : Int32)) % (3 : Int32)) wFAILS wHOLDS wUNKNOWN)), .unset] [(.ref (F1 ((p1 &&& (2147483647 : Int32)) % (3 : Int32)) wFAILS wHOLDS wUNKNOWN)), (.ref (F1 ((p0 &&& (2147483647 : Int32)) % (3 : Int32)) wFAILS wHOLDS wUNKNOWN))])) _
    refine st42.trans ?_
    show Steps p.tables e below (T42.setTop (mkF m 33 #[.val (.int p0), .val (.int p1), .val (.int ((p0 &&& (2147483647 : Int32)) % (3 : Int32))), .val (.int ((p1 &&& (2147483647 : Int32)) % (3 : Int32))), .val (.ref (F1 ((p0 &&& (2147483647 : Int32)) % (3 : Int32)) wFAILS wHOLDS wUNKNOWN)), .val (.ref (F1 ((p1 &&& (2147483647 : Int32)) % (3 : Int32)) wFAILS wHOLDS wUNKNOWN)), .unset] [(.ref (F2 (F1 ((p0 &&& (2147483647 : Int32)) % (3 : Int32)) wFAILS wHOLDS wUNKNOWN) (F1 ((p1 &&& (2147483647 : Int32)) % (3 : Int32)) wFAILS wHOLDS wUNKNOWN) wFAILS wHOLDS wUNKNOWN))])) _
    refine XS.astore X42.here hx rfl (hb hby at_33) rfl rfl (l' := #[.val (.int p0), .val (.int p1), .val (.int ((p0 &&& (2147483647 : Int32)) % (3 : Int32))), .val (.int ((p1 &&& (2147483647 : Int32)) % (3 : Int32))), .val (.ref (F1 ((p0 &&& (2147483647 : Int32)) % (3 : Int32)) wFAILS wHOLDS wUNKNOWN)), .val (.ref (F1 ((p1 &&& (2147483647 : Int32)) % (3 : Int32)) wFAILS wHOLDS wUNKNOWN)), .val (.ref (F2 (F1 ((p0 &&& (2147483647 : Int32)) % (3 : Int32)) wFAILS wHOLDS wUNKNOWN) (F1 ((p1 &&& (2147483647 : Int32)) % (3 : Int32)) wFAILS wHOLDS wUNKNOWN) wFAILS wHOLDS wUNKNOWN))]) rfl ?_
    show Steps p.tables e below (T42.setTop (mkF m 35 #[.val (.int p0), .val (.int p1), .val (.int ((p0 &&& (2147483647 : Int32)) % (3 : Int32))), .val (.int ((p1 &&& (2147483647 : Int32)) % (3 : Int32))), .val (.ref (F1 ((p0 &&& (2147483647 : Int32)) % (3 : Int32)) wFAILS wHOLDS wUNKNOWN)), .val (.ref (F1 ((p1 &&& (2147483647 : Int32)) % (3 : Int32)) wFAILS wHOLDS wUNKNOWN)), .val (.ref (F2 (F1 ((p0 &&& (2147483647 : Int32)) % (3 : Int32)) wFAILS wHOLDS wUNKNOWN) (F1 ((p1 &&& (2147483647 : Int32)) % (3 : Int32)) wFAILS wHOLDS wUNKNOWN) wFAILS wHOLDS wUNKNOWN))] [])) _
    refine XS.aload X42.here hx rfl (hb hby at_35) rfl rfl ?_
    show Steps p.tables e below (T42.setTop (mkF m 37 #[.val (.int p0), .val (.int p1), .val (.int ((p0 &&& (2147483647 : Int32)) % (3 : Int32))), .val (.int ((p1 &&& (2147483647 : Int32)) % (3 : Int32))), .val (.ref (F1 ((p0 &&& (2147483647 : Int32)) % (3 : Int32)) wFAILS wHOLDS wUNKNOWN)), .val (.ref (F1 ((p1 &&& (2147483647 : Int32)) % (3 : Int32)) wFAILS wHOLDS wUNKNOWN)), .val (.ref (F2 (F1 ((p0 &&& (2147483647 : Int32)) % (3 : Int32)) wFAILS wHOLDS wUNKNOWN) (F1 ((p1 &&& (2147483647 : Int32)) % (3 : Int32)) wFAILS wHOLDS wUNKNOWN) wFAILS wHOLDS wUNKNOWN))] [(.ref (F2 (F1 ((p0 &&& (2147483647 : Int32)) % (3 : Int32)) wFAILS wHOLDS wUNKNOWN) (F1 ((p1 &&& (2147483647 : Int32)) % (3 : Int32)) wFAILS wHOLDS wUNKNOWN) wFAILS wHOLDS wUNKNOWN))])) _
    refine st43 _ ?_
    show Steps p.tables e below (T43.setTop (mkF m 40 #[.val (.int p0), .val (.int p1), .val (.int ((p0 &&& (2147483647 : Int32)) % (3 : Int32))), .val (.int ((p1 &&& (2147483647 : Int32)) % (3 : Int32))), .val (.ref (F1 ((p0 &&& (2147483647 : Int32)) % (3 : Int32)) wFAILS wHOLDS wUNKNOWN)), .val (.ref (F1 ((p1 &&& (2147483647 : Int32)) % (3 : Int32)) wFAILS wHOLDS wUNKNOWN)), .val (.ref (F2 (F1 ((p0 &&& (2147483647 : Int32)) % (3 : Int32)) wFAILS wHOLDS wUNKNOWN) (F1 ((p1 &&& (2147483647 : Int32)) % (3 : Int32)) wFAILS wHOLDS wUNKNOWN) wFAILS wHOLDS wUNKNOWN))] [(.int (F3 (F2 (F1 ((p0 &&& (2147483647 : Int32)) % (3 : Int32)) wFAILS wHOLDS wUNKNOWN) (F1 ((p1 &&& (2147483647 : Int32)) % (3 : Int32)) wFAILS wHOLDS wUNKNOWN) wFAILS wHOLDS wUNKNOWN) wFAILS wHOLDS wUNKNOWN))])) _
    refine XS.iloadN X43.here hx rfl (hb hby at_40) rfl ?_
    show Steps p.tables e below (T43.setTop (mkF m 41 #[.val (.int p0), .val (.int p1), .val (.int ((p0 &&& (2147483647 : Int32)) % (3 : Int32))), .val (.int ((p1 &&& (2147483647 : Int32)) % (3 : Int32))), .val (.ref (F1 ((p0 &&& (2147483647 : Int32)) % (3 : Int32)) wFAILS wHOLDS wUNKNOWN)), .val (.ref (F1 ((p1 &&& (2147483647 : Int32)) % (3 : Int32)) wFAILS wHOLDS wUNKNOWN)), .val (.ref (F2 (F1 ((p0 &&& (2147483647 : Int32)) % (3 : Int32)) wFAILS wHOLDS wUNKNOWN) (F1 ((p1 &&& (2147483647 : Int32)) % (3 : Int32)) wFAILS wHOLDS wUNKNOWN) wFAILS wHOLDS wUNKNOWN))] [(.int ((p0 &&& (2147483647 : Int32)) % (3 : Int32))), (.int (F3 (F2 (F1 ((p0 &&& (2147483647 : Int32)) % (3 : Int32)) wFAILS wHOLDS wUNKNOWN) (F1 ((p1 &&& (2147483647 : Int32)) % (3 : Int32)) wFAILS wHOLDS wUNKNOWN) wFAILS wHOLDS wUNKNOWN) wFAILS wHOLDS wUNKNOWN))])) _
    refine XS.iloadN X43.here hx rfl (hb hby at_41) rfl ?_
    show Steps p.tables e below (T43.setTop (mkF m 42 #[.val (.int p0), .val (.int p1), .val (.int ((p0 &&& (2147483647 : Int32)) % (3 : Int32))), .val (.int ((p1 &&& (2147483647 : Int32)) % (3 : Int32))), .val (.ref (F1 ((p0 &&& (2147483647 : Int32)) % (3 : Int32)) wFAILS wHOLDS wUNKNOWN)), .val (.ref (F1 ((p1 &&& (2147483647 : Int32)) % (3 : Int32)) wFAILS wHOLDS wUNKNOWN)), .val (.ref (F2 (F1 ((p0 &&& (2147483647 : Int32)) % (3 : Int32)) wFAILS wHOLDS wUNKNOWN) (F1 ((p1 &&& (2147483647 : Int32)) % (3 : Int32)) wFAILS wHOLDS wUNKNOWN) wFAILS wHOLDS wUNKNOWN))] [(.int ((p1 &&& (2147483647 : Int32)) % (3 : Int32))), (.int ((p0 &&& (2147483647 : Int32)) % (3 : Int32))), (.int (F3 (F2 (F1 ((p0 &&& (2147483647 : Int32)) % (3 : Int32)) wFAILS wHOLDS wUNKNOWN) (F1 ((p1 &&& (2147483647 : Int32)) % (3 : Int32)) wFAILS wHOLDS wUNKNOWN) wFAILS wHOLDS wUNKNOWN) wFAILS wHOLDS wUNKNOWN))])) _
    refine st44 _ ?_
    show Steps p.tables e below (T44.setTop (mkF m 45 #[.val (.int p0), .val (.int p1), .val (.int ((p0 &&& (2147483647 : Int32)) % (3 : Int32))), .val (.int ((p1 &&& (2147483647 : Int32)) % (3 : Int32))), .val (.ref (F1 ((p0 &&& (2147483647 : Int32)) % (3 : Int32)) wFAILS wHOLDS wUNKNOWN)), .val (.ref (F1 ((p1 &&& (2147483647 : Int32)) % (3 : Int32)) wFAILS wHOLDS wUNKNOWN)), .val (.ref (F2 (F1 ((p0 &&& (2147483647 : Int32)) % (3 : Int32)) wFAILS wHOLDS wUNKNOWN) (F1 ((p1 &&& (2147483647 : Int32)) % (3 : Int32)) wFAILS wHOLDS wUNKNOWN) wFAILS wHOLDS wUNKNOWN))] [(.int (F4 ((p0 &&& (2147483647 : Int32)) % (3 : Int32)) ((p1 &&& (2147483647 : Int32)) % (3 : Int32)) wFAILS wHOLDS wUNKNOWN)), (.int (F3 (F2 (F1 ((p0 &&& (2147483647 : Int32)) % (3 : Int32)) wFAILS wHOLDS wUNKNOWN) (F1 ((p1 &&& (2147483647 : Int32)) % (3 : Int32)) wFAILS wHOLDS wUNKNOWN) wFAILS wHOLDS wUNKNOWN) wFAILS wHOLDS wUNKNOWN))])) _
    refine XS.icmpNo X44.here hx rfl (hb hby at_45) rfl (teq ((by rcases own_m3 p0 with h | h | h <;> rcases own_m3 p1 with h' | h' | h' <;> rw [h, h'] <;> simp +decide [F1, F2, F3, F4, n_FAILS_HOLDS, n_FAILS_HOLDS.symm, n_FAILS_UNKNOWN, n_FAILS_UNKNOWN.symm, n_HOLDS_UNKNOWN, n_HOLDS_UNKNOWN.symm]) : (F3 (F2 (F1 ((p0 &&& (2147483647 : Int32)) % (3 : Int32)) wFAILS wHOLDS wUNKNOWN) (F1 ((p1 &&& (2147483647 : Int32)) % (3 : Int32)) wFAILS wHOLDS wUNKNOWN) wFAILS wHOLDS wUNKNOWN) wFAILS wHOLDS wUNKNOWN) = (F4 ((p0 &&& (2147483647 : Int32)) % (3 : Int32)) ((p1 &&& (2147483647 : Int32)) % (3 : Int32)) wFAILS wHOLDS wUNKNOWN))).2 ?_
    show Steps p.tables e below (T44.setTop (mkF m 48 #[.val (.int p0), .val (.int p1), .val (.int ((p0 &&& (2147483647 : Int32)) % (3 : Int32))), .val (.int ((p1 &&& (2147483647 : Int32)) % (3 : Int32))), .val (.ref (F1 ((p0 &&& (2147483647 : Int32)) % (3 : Int32)) wFAILS wHOLDS wUNKNOWN)), .val (.ref (F1 ((p1 &&& (2147483647 : Int32)) % (3 : Int32)) wFAILS wHOLDS wUNKNOWN)), .val (.ref (F2 (F1 ((p0 &&& (2147483647 : Int32)) % (3 : Int32)) wFAILS wHOLDS wUNKNOWN) (F1 ((p1 &&& (2147483647 : Int32)) % (3 : Int32)) wFAILS wHOLDS wUNKNOWN) wFAILS wHOLDS wUNKNOWN))] [])) _
    refine XS.iconst X44.here hx rfl (hb hby at_48) ?_
    show Steps p.tables e below (T44.setTop (mkF m 49 #[.val (.int p0), .val (.int p1), .val (.int ((p0 &&& (2147483647 : Int32)) % (3 : Int32))), .val (.int ((p1 &&& (2147483647 : Int32)) % (3 : Int32))), .val (.ref (F1 ((p0 &&& (2147483647 : Int32)) % (3 : Int32)) wFAILS wHOLDS wUNKNOWN)), .val (.ref (F1 ((p1 &&& (2147483647 : Int32)) % (3 : Int32)) wFAILS wHOLDS wUNKNOWN)), .val (.ref (F2 (F1 ((p0 &&& (2147483647 : Int32)) % (3 : Int32)) wFAILS wHOLDS wUNKNOWN) (F1 ((p1 &&& (2147483647 : Int32)) % (3 : Int32)) wFAILS wHOLDS wUNKNOWN) wFAILS wHOLDS wUNKNOWN))] [(.int (1 : Int32))])) _
    refine XS.goto X44.here hx rfl (pc0 := 49) (pc' := 53) rfl (hb hby at_49) (by decide) (by decide) ?_
    show Steps p.tables e below (T44.setTop (mkF m 53 #[.val (.int p0), .val (.int p1), .val (.int ((p0 &&& (2147483647 : Int32)) % (3 : Int32))), .val (.int ((p1 &&& (2147483647 : Int32)) % (3 : Int32))), .val (.ref (F1 ((p0 &&& (2147483647 : Int32)) % (3 : Int32)) wFAILS wHOLDS wUNKNOWN)), .val (.ref (F1 ((p1 &&& (2147483647 : Int32)) % (3 : Int32)) wFAILS wHOLDS wUNKNOWN)), .val (.ref (F2 (F1 ((p0 &&& (2147483647 : Int32)) % (3 : Int32)) wFAILS wHOLDS wUNKNOWN) (F1 ((p1 &&& (2147483647 : Int32)) % (3 : Int32)) wFAILS wHOLDS wUNKNOWN) wFAILS wHOLDS wUNKNOWN))] [(.int (1 : Int32))])) _
    exact retN X44 hx (t := .boolean) Bd.returns (by simp) (hb hby at_53) hr
  · show Q0 Z p0 p1 wFAILS wHOLDS wUNKNOWN h0 n0 _ T44.heap _
    rw [e44]
    exact ⟨rfl, N44, rfl⟩
set_option maxRecDepth 65536 in
set_option maxHeartbeats 40000000 in
theorem comes_1 {Post : Tables → Env → Array Value → State → Outcome → State → Prop} (hpost : ∀ tb e args s v u, (limb_1_1.after args s (.returned v) u = true ∧ limb_1_2.after args s (.returned v) u = true ∧ True) → FrameEnd s (.returned v) u (Jvm.fieldLocs frame_1_writes args s ++ Jvm.arrayLocs frame_1_arrays args s ++ Jvm.staticLocs frame_1_statics s) 0 0 → Post tb e args s (.returned v) u) :
    ArmFor flags0 classFile x code maxLocals ret World_1 tables_1 room_1 Calls_1 rest_1 Pre_1 Post := by
  intro l hfl _ _ p e ha hc hk s m args below hf hA hF happ hP
  obtain ⟨hcalls, hrest, hpre⟩ := hP
  obtain ⟨-, -, -, hnamed, -, -, -, hat⟩ := (Spec.applies_iff hf).mp happ
  obtain ⟨hg, hn⟩ := and_e (Cond.before_iff.mp (show (Jvm.Cond.and given_1 narrow_1).before args s = true from hpre))
  obtain ⟨g0, r0⟩ := and_e hg
  obtain ⟨g1, r1⟩ := and_e r0
  obtain ⟨w0, w1, rfl⟩ : ∃ w0 w1 : Value, args = #[w0, w1] := by
    have hs : args.size = 2 := by simpa [Cond.value, given_1] using g0
    obtain ⟨L⟩ := args
    match L, hs with
    | [w0, w1], _ => exact ⟨w0, w1, rfl⟩
  have hw := fun d (hd : d ∈ tables_1) => atoms_spec (ws := Jvm.Cond.code x code maxLocals ret :: tables_1) hat d (List.mem_cons_of_mem _ hd)
  obtain ⟨i0, ei0⟩ := is_v g1
  obtain rfl : w0 = (.int i0) := Option.some.inj ei0
  obtain ⟨i1, ei1⟩ := is_v r1
  obtain rfl : w1 = (.int i1) := Option.some.inj ei1
  obtain ⟨wFAILS, wHOLDS, wUNKNOWN, W⟩ := own_world hw hn
  obtain ⟨n, o, h1, h2, h3, _, L, rfl, ⟨rfl, N, -⟩, hq⟩ := rm0 l s _ hw tables_1 i0 i1 wFAILS wHOLDS wUNKNOWN s.heap s.heap.size (Nat.le_refl _) W p e ha hc hk s m _ below hf ((Spec.applies_iff_loose hf).mp happ).1 ⟨rfl, State.Warmed39.refl s, rfl⟩ trivial
  refine ⟨n, _, h1, h2, h3, hpost _ _ _ _ _ _ ⟨Cond.after_iff.mpr rfl, Cond.after_iff.mpr (eq_i res_at (Term.int_eval (1)) rfl), trivial⟩ ⟨hq.1, hq.2.1, (hq.2.2.sift fun y hy => Or.inr (N y hy)).mono (by decide) (by decide)⟩⟩
theorem main_1_1 : Claimed_1_1 := comes_1 fun _ _ _ _ _ _ h hF => ⟨h.1, hF⟩
theorem main_1_2 : Claimed_1_2 := comes_1 fun _ _ _ _ _ _ h hF => ⟨h.2.1, hF⟩
end Jvm.Pilot.@@N@@
namespace Jvm.Pilot.@@N@@
open Jvm Jvm.ClassFile Sem Op Lib Jvm.Free Jvm.Stand Jvm.Pilot.@@N@@.Jvm.D
/-! MADE BY PROGRAM (witnessworld.py) out of the Statement's table words and the real class files: 11 classes; the members and pool entries that the words name. The judged class is class 1, her method 3. -/
namespace start1
open Jvm.ClassFile
def u (s : String) : CpInfo := .utf8 (stringToUtf16 s)
/-- a pool by its gaps: so many unusable entries, then the entry; so many at the end -/
def gap : Nat → List CpInfo → List CpInfo
  | 0, r => r
  | n + 1, r => .unusable :: gap n r
def poolList (es : List (Nat × CpInfo)) (last : Nat) : List CpInfo := es.foldr (fun e r => gap e.1 (e.2 :: r)) (gap last [])
def pool (es : List (Nat × CpInfo)) (last : Nat) : Array CpInfo := ⟨poolList es last⟩
def fileOf (pool : Array CpInfo) (this : Nat) (attrs : Array Attribute := #[]) (ms : Array MethodInfo := #[]) (fl : Nat := 33) (sup : Nat := 0) (ifs : Array Nat := #[]) (fds : Array FieldInfo := #[]) : ClassFile where
  minorVersion := 0
  majorVersion := 65
  constantPool := pool
  accessFlags := fl
  thisClass := this
  superClass := sup
  interfaces := ifs
  fields := fds
  methods := ms
  attributes := attrs
def plain (name : String) (sup : Option ClassId) : Class where
  name := name
  kind := .ordinary
  loader := none
  accessFlags := 33
  super := sup
  interfaces := #[]
  cf := none
  fields := #[]
  methods := #[]
  instanceTypes := #[]
  staticTypes := #[]
  resolved := #[]
  callSites := []
  init := .initialized
  statics := none
  mirror := none

def pool0 : Array CpInfo := pool [(5, u "<init>"), (0, u "()V"), (1, .class_ 10), (1, u "java/lang/Object")] 113

def k0m0 : Method := { name := "<init>", desc := "()V", sig := { parameters := [], returnType := none }, accessFlags := 1, code := none }
/-- java/lang/Object -/
def k0 : Class := { plain "java/lang/Object" none with
  accessFlags := 33
  interfaces := #[]
  cf := some (fileOf pool0 8 #[] #[{ accessFlags := 1, nameIndex := 5, descriptorIndex := 6, attributes := #[] }] 33 0 #[] #[])
  fields := #[]
  methods := #[k0m0]
  instanceTypes := #[]
  staticTypes := #[]
  resolved := Array.replicate 124 none
  statics := none }

def pool1 : Array CpInfo := pool [(2, .class_ 4), (1, u "java/lang/Object"), (0, u "<init>"), (0, u "()V"), (0, .fieldref 8 9), (0, .class_ 10), (0, .nameAndType 11 12), (0, u "com/example/rels_from_records/relsfromrecords/schema/Verdict"), (0, u "FAILS"), (0, u "Lcom/example/rels_from_records/relsfromrecords/schema/Verdict;"), (0, .fieldref 8 14), (0, .nameAndType 15 12), (0, u "UNKNOWN"), (0, .fieldref 8 17), (0, .nameAndType 18 12), (0, u "HOLDS"), (0, .integer 2147483647), (0, .methodref 21 22), (0, .class_ 23), (0, .nameAndType 24 25), (0, u "com/example/rels_from_records/relsfromrecords/schema/VerdictAndPinLaw"), (0, u "pick"), (0, u "(I)Lcom/example/rels_from_records/relsfromrecords/schema/Verdict;"), (0, .methodref 8 27), (0, .nameAndType 28 29), (0, u "and"), (0, u "(Lcom/example/rels_from_records/relsfromrecords/schema/Verdict;)Lcom/example/rels_from_records/relsfromrecords/schema/Verdict;"), (0, .methodref 21 31), (0, .nameAndType 32 33), (0, u "rank"), (0, u "(Lcom/example/rels_from_records/relsfromrecords/schema/Verdict;)I"), (0, .methodref 35 36), (0, .class_ 37), (0, .nameAndType 38 39), (0, u "java/lang/Math"), (0, u "min"), (0, u "(II)I"), (3, u "law"), (0, u "(II)Z")] 2

def k1m0 : Method := { name := "<init>", desc := "()V", sig := { parameters := [], returnType := none }, accessFlags := 2, code := none }
def k1c1 : Code := { maxStack := 2, maxLocals := 1, code := method_2_code, exceptionTable := #[], attributes := #[] }
def k1m1 : Method := { name := "pick", desc := "(I)Lcom/example/rels_from_records/relsfromrecords/schema/Verdict;", sig := { parameters := [.int], returnType := some (.object "com/example/rels_from_records/relsfromrecords/schema/Verdict") }, accessFlags := 10, code := some k1c1 }
def k1c2 : Code := { maxStack := 2, maxLocals := 1, code := method_3_code, exceptionTable := #[], attributes := #[] }
def k1m2 : Method := { name := "rank", desc := "(Lcom/example/rels_from_records/relsfromrecords/schema/Verdict;)I", sig := { parameters := [(.object "com/example/rels_from_records/relsfromrecords/schema/Verdict")], returnType := some .int }, accessFlags := 10, code := some k1c2 }
def k1c3 : Code := { maxStack := 3, maxLocals := 7, code := code, exceptionTable := #[], attributes := #[] }
def k1m3 : Method := { name := "law", desc := "(II)Z", sig := { parameters := [.int, .int], returnType := some .boolean }, accessFlags := 9, code := some k1c3 }
/-- com/example/rels_from_records/relsfromrecords/schema/VerdictAndPinLaw -/
def k1 : Class := { plain "com/example/rels_from_records/relsfromrecords/schema/VerdictAndPinLaw" (some 0) with
  accessFlags := 49
  interfaces := #[]
  cf := some (fileOf pool1 21 #[] #[{ accessFlags := 2, nameIndex := 5, descriptorIndex := 6, attributes := #[] }, { accessFlags := 10, nameIndex := 24, descriptorIndex := 25, attributes := #[] }, { accessFlags := 10, nameIndex := 32, descriptorIndex := 33, attributes := #[] }, { accessFlags := 9, nameIndex := 43, descriptorIndex := 44, attributes := #[] }] 49 2 #[] #[])
  fields := #[]
  methods := #[k1m0, k1m1, k1m2, k1m3]
  instanceTypes := #[]
  staticTypes := #[]
  resolved := Array.replicate 47 none
  statics := none }

def pool2 : Array CpInfo := pool [(1, .class_ 2), (0, u "java/lang/constant/Constable"), (0, .class_ 4), (0, u "java/lang/Object")] 6

/-- java/lang/constant/Constable -/
def k2 : Class := { plain "java/lang/constant/Constable" (some 0) with
  accessFlags := 1537
  interfaces := #[]
  cf := some (fileOf pool2 1 #[] #[] 1537 3 #[] #[])
  fields := #[]
  methods := #[]
  instanceTypes := #[]
  staticTypes := #[]
  resolved := Array.replicate 11 none
  statics := none }

def pool3 : Array CpInfo := pool [(1, .class_ 2), (0, u "java/lang/Comparable"), (0, .class_ 4), (0, u "java/lang/Object")] 7

/-- java/lang/Comparable -/
def k3 : Class := { plain "java/lang/Comparable" (some 0) with
  accessFlags := 1537
  interfaces := #[]
  cf := some (fileOf pool3 1 #[] #[] 1537 3 #[] #[])
  fields := #[]
  methods := #[]
  instanceTypes := #[]
  staticTypes := #[]
  resolved := Array.replicate 12 none
  statics := none }

def pool4 : Array CpInfo := pool [(1, .class_ 2), (0, u "java/io/Serializable"), (0, .class_ 4), (0, u "java/lang/Object")] 2

/-- java/io/Serializable -/
def k4 : Class := { plain "java/io/Serializable" (some 0) with
  accessFlags := 1537
  interfaces := #[]
  cf := some (fileOf pool4 1 #[] #[] 1537 3 #[] #[])
  fields := #[]
  methods := #[]
  instanceTypes := #[]
  staticTypes := #[]
  resolved := Array.replicate 7 none
  statics := none }

def pool5 : Array CpInfo := pool [(2, .class_ 4), (1, u "java/lang/Enum"), (0, u "name"), (0, u "Ljava/lang/String;"), (2, u "ordinal"), (0, u "I"), (1, .class_ 14), (1, u "java/lang/Object"), (4, u "hash"), (86, .class_ 108), (1, u "java/lang/Enum$EnumDesc"), (2, .class_ 112), (0, u "java/lang/constant/Constable"), (0, .class_ 114), (0, u "java/lang/Comparable"), (0, .class_ 116), (0, u "java/io/Serializable")] 87

/-- java/lang/Enum -/
def k5 : Class := { plain "java/lang/Enum" (some 0) with
  accessFlags := 1057
  interfaces := #[2, 3, 4]
  cf := some (fileOf pool5 2 #[.nestMembers #[106]] #[] 1057 12 #[111, 113, 115] #[{ accessFlags := 18, nameIndex := 5, descriptorIndex := 6, attributes := #[] }, { accessFlags := 18, nameIndex := 9, descriptorIndex := 10, attributes := #[] }, { accessFlags := 2, nameIndex := 19, descriptorIndex := 10, attributes := #[] }])
  fields := #[{ name := "name", type := (.object "java/lang/String"), accessFlags := 18, slot := 0, constantValue := 0 }, { name := "ordinal", type := .int, accessFlags := 18, slot := 1, constantValue := 0 }, { name := "hash", type := .int, accessFlags := 2, slot := 2, constantValue := 0 }]
  methods := #[]
  instanceTypes := #[(.object "java/lang/String"), .int, .int]
  staticTypes := #[]
  resolved := Array.replicate 204 none
  statics := none }

def pool6 : Array CpInfo := pool [(1, .class_ 2), (0, u "com/example/rels_from_records/relsfromrecords/schema/Verdict"), (0, .fieldref 1 4), (0, .nameAndType 5 6), (0, u "HOLDS"), (0, u "Lcom/example/rels_from_records/relsfromrecords/schema/Verdict;"), (0, .fieldref 1 8), (0, .nameAndType 9 6), (0, u "FAILS"), (0, .fieldref 1 11), (0, .nameAndType 12 6), (0, u "UNKNOWN"), (2, u "$VALUES"), (0, u "[Lcom/example/rels_from_records/relsfromrecords/schema/Verdict;"), (6, .class_ 25), (1, u "java/lang/Enum"), (26, u "and"), (0, u "(Lcom/example/rels_from_records/relsfromrecords/schema/Verdict;)Lcom/example/rels_from_records/relsfromrecords/schema/Verdict;")] 7

def k6c0 : Code := { maxStack := 2, maxLocals := 2, code := prog_84_method_5_code, exceptionTable := #[], attributes := #[] }
def k6m0 : Method := { name := "and", desc := "(Lcom/example/rels_from_records/relsfromrecords/schema/Verdict;)Lcom/example/rels_from_records/relsfromrecords/schema/Verdict;", sig := { parameters := [(.object "com/example/rels_from_records/relsfromrecords/schema/Verdict")], returnType := some (.object "com/example/rels_from_records/relsfromrecords/schema/Verdict") }, accessFlags := 1, code := some k6c0 }
/-- com/example/rels_from_records/relsfromrecords/schema/Verdict -/
def k6 : Class := { plain "com/example/rels_from_records/relsfromrecords/schema/Verdict" (some 5) with
  accessFlags := 16433
  interfaces := #[]
  cf := some (fileOf pool6 1 #[] #[{ accessFlags := 1, nameIndex := 52, descriptorIndex := 53, attributes := #[] }] 16433 23 #[] #[{ accessFlags := 16409, nameIndex := 5, descriptorIndex := 6, attributes := #[] }, { accessFlags := 16409, nameIndex := 9, descriptorIndex := 6, attributes := #[] }, { accessFlags := 16409, nameIndex := 12, descriptorIndex := 6, attributes := #[] }, { accessFlags := 4122, nameIndex := 15, descriptorIndex := 16, attributes := #[] }])
  fields := #[{ name := "HOLDS", type := (.object "com/example/rels_from_records/relsfromrecords/schema/Verdict"), accessFlags := 16409, slot := 0, constantValue := 0 }, { name := "FAILS", type := (.object "com/example/rels_from_records/relsfromrecords/schema/Verdict"), accessFlags := 16409, slot := 1, constantValue := 0 }, { name := "UNKNOWN", type := (.object "com/example/rels_from_records/relsfromrecords/schema/Verdict"), accessFlags := 16409, slot := 2, constantValue := 0 }, { name := "$VALUES", type := (.array (.object "com/example/rels_from_records/relsfromrecords/schema/Verdict")), accessFlags := 4122, slot := 3, constantValue := 0 }]
  methods := #[k6m0]
  instanceTypes := #[(.object "java/lang/String"), .int, .int]
  staticTypes := #[(.object "com/example/rels_from_records/relsfromrecords/schema/Verdict"), (.object "com/example/rels_from_records/relsfromrecords/schema/Verdict"), (.object "com/example/rels_from_records/relsfromrecords/schema/Verdict"), (.array (.object "com/example/rels_from_records/relsfromrecords/schema/Verdict"))]
  resolved := Array.replicate 61 none
  statics := some 0 }

def pool7 : Array CpInfo := pool [(1, .class_ 2), (0, u "java/lang/Math"), (1, .class_ 6), (1, u "java/lang/Object"), (0, u "<init>"), (0, u "()V"), (89, .class_ 100), (1, u "java/lang/Math$RandomNumberGeneratorHolder"), (71, u "negativeZeroFloatBits"), (0, u "J"), (2, u "negativeZeroDoubleBits"), (24, u "min"), (43, u "$assertionsDisabled"), (0, u "Z"), (88, u "(II)I"), (2, u "twoToTheDoubleScaleDown"), (0, u "D"), (4, u "twoToTheDoubleScaleUp"), (9, u "E"), (3, u "PI"), (2, u "TAU"), (2, u "DEGREES_TO_RADIANS"), (0, u "RADIANS_TO_DEGREES")] 94

def k7m0 : Method := { name := "<init>", desc := "()V", sig := { parameters := [], returnType := none }, accessFlags := 2, code := none }
def k7c1 : Code := { maxStack := 2, maxLocals := 2, code := jdk_29_method_69_code, exceptionTable := #[], attributes := #[] }
def k7m1 : Method := { name := "min", desc := "(II)I", sig := { parameters := [.int, .int], returnType := some .int }, accessFlags := 9, code := some k7c1 }
/-- java/lang/Math -/
def k7 : Class := { plain "java/lang/Math" (some 0) with
  accessFlags := 49
  interfaces := #[]
  cf := some (fileOf pool7 1 #[.nestMembers #[98]] #[{ accessFlags := 2, nameIndex := 7, descriptorIndex := 8, attributes := #[] }, { accessFlags := 9, nameIndex := 201, descriptorIndex := 335, attributes := #[] }] 49 4 #[] #[{ accessFlags := 25, nameIndex := 354, descriptorIndex := 339, attributes := #[] }, { accessFlags := 25, nameIndex := 358, descriptorIndex := 339, attributes := #[] }, { accessFlags := 25, nameIndex := 361, descriptorIndex := 339, attributes := #[] }, { accessFlags := 26, nameIndex := 364, descriptorIndex := 339, attributes := #[] }, { accessFlags := 26, nameIndex := 365, descriptorIndex := 339, attributes := #[] }, { accessFlags := 26, nameIndex := 172, descriptorIndex := 173, attributes := #[] }, { accessFlags := 26, nameIndex := 176, descriptorIndex := 173, attributes := #[] }, { accessFlags := 8, nameIndex := 344, descriptorIndex := 339, attributes := #[] }, { accessFlags := 8, nameIndex := 338, descriptorIndex := 339, attributes := #[] }, { accessFlags := 4120, nameIndex := 245, descriptorIndex := 246, attributes := #[] }])
  fields := #[{ name := "E", type := .double, accessFlags := 25, slot := 0, constantValue := 0 }, { name := "PI", type := .double, accessFlags := 25, slot := 1, constantValue := 0 }, { name := "TAU", type := .double, accessFlags := 25, slot := 2, constantValue := 0 }, { name := "DEGREES_TO_RADIANS", type := .double, accessFlags := 26, slot := 3, constantValue := 0 }, { name := "RADIANS_TO_DEGREES", type := .double, accessFlags := 26, slot := 4, constantValue := 0 }, { name := "negativeZeroFloatBits", type := .long, accessFlags := 26, slot := 5, constantValue := 0 }, { name := "negativeZeroDoubleBits", type := .long, accessFlags := 26, slot := 6, constantValue := 0 }, { name := "twoToTheDoubleScaleUp", type := .double, accessFlags := 8, slot := 7, constantValue := 0 }, { name := "twoToTheDoubleScaleDown", type := .double, accessFlags := 8, slot := 8, constantValue := 0 }, { name := "$assertionsDisabled", type := .boolean, accessFlags := 4120, slot := 9, constantValue := 0 }]
  methods := #[k7m0, k7m1]
  instanceTypes := #[]
  staticTypes := #[.double, .double, .double, .double, .double, .long, .long, .double, .double, .boolean]
  resolved := Array.replicate 460 none
  statics := none }

def pool8 : Array CpInfo := pool [(1, u "java/lang/Cloneable"), (0, .class_ 1), (0, u "java/lang/Object"), (0, .class_ 3)] 3

/-- java/lang/Cloneable -/
def k8 : Class := { plain "java/lang/Cloneable" (some 0) with
  accessFlags := 1537
  interfaces := #[]
  cf := some (fileOf pool8 2 #[] #[] 1537 4 #[] #[])
  fields := #[]
  methods := #[]
  instanceTypes := #[]
  staticTypes := #[]
  resolved := Array.replicate 8 none
  statics := none }

/-- the primitive byte -/
def k9 : Class := { plain "byte" none with kind := .primitive 'B', accessFlags := 0x411 }
/-- [B -/
def k10 : Class := { plain "[B" (some 0) with kind := .array 9 .byte, interfaces := #[8, 4], accessFlags := 1041 }

def heap : Heap := #[{ cls := 6, slots := #[.ref 1, .ref 2, .ref 3, .null], vm := .statics 6 },
  { cls := 6, slots := #[.null, .int 0, .int 0], vm := .none },
  { cls := 6, slots := #[.null, .int 1, .int 0], vm := .none },
  { cls := 6, slots := #[.null, .int 2, .int 0], vm := .none }]
def classes : Array Class := #[k0, k1, k2, k3, k4, k5, k6, k7, k8, k9, k10]
def interned : List (Array UInt16 × Addr) := []
def slotsUsed : Nat := 13
def theMethod : MethodId := ⟨1, 3⟩
def args0 : Array Value := #[.int 5, .int 5]
def aboutOver (below : List Frame) : State where
  vm := { classes := classes, interned := interned.toArray }
  heap := heap
  slotsUsed := slotsUsed
  threads := #[{ frames := .invoking theMethod args0 :: below }]
def below0 : List Frame := [.native { method := ⟨0, 0⟩, args := #[] }]
def about1 : State := aboutOver below0
def p0 : Program := .bare "" "" ""
def e0 : Env := launch0.env 0 0 0
theorem w_frames : about1.frames = Frame.invoking theMethod args0 :: below0 := rfl
set_option maxRecDepth 65536 in
theorem w_args : argsFit about1.vm theMethod args0 = true := by decide +kernel
set_option maxRecDepth 65536 in
theorem w_heap : heapFits about1 = true := by decide +kernel
set_option maxRecDepth 65536 in
theorem w_runnable : about1.curStatus? = some .runnable := by decide +kernel
set_option maxRecDepth 65536 in
theorem w_alone : about1.alone = true := by decide +kernel
set_option maxRecDepth 65536 in
theorem w_named : about1.methodNamed? x = some theMethod := by decide +kernel
set_option maxRecDepth 65536 in
theorem w_hears : about1.hears theMethod below0 = true := by decide +kernel
set_option maxRecDepth 65536 in
theorem w_ripe : about1.ripe theMethod args0 below0 = true := by decide +kernel
theorem w_running : about1.status = .running := rfl
set_option maxRecDepth 65536 in
theorem w_room : about1.hasRoom e0.platform room_1 = true :=
  launch0.hasRoom_least _ room_1 (by decide +kernel) (by decide +kernel) (by decide +kernel) (by decide +kernel) (by decide +kernel) (by decide +kernel)
theorem allAtoms_all (ts : List Jvm.Cond) (a : Array Jvm.Value) (st : Jvm.State) : (allAtoms ts).before a st = ts.all (fun c => c.before a st) := by
  induction ts with
  | nil => rfl
  | cons c t ih =>
    show (Jvm.Cond.and c (allAtoms t)).before a st = _
    rw [Jvm.Cond.before_and, ih, List.all_cons]
def words1 : List Jvm.Cond := Jvm.Cond.code x code maxLocals ret :: tables_1
/-- a 'code' word, met by the world's own term for the bytes: nothing is compared byte by byte -/
theorem code_word {y : MethodName} {bytes : ByteArray} {mx : Nat} {rt : Option FieldType} {a : Array Value} {s : State} {m : MethodId} {meth : Method} {c : Code} (h1 : s.methodNamed? y = some m) (h2 : s.vm.method? m = some meth) (h3 : meth.code = some c) (h4 : c.code = bytes)
    (h5 : (c.maxLocals == mx && c.exceptionTable.isEmpty && decide (c.maxStack ≤ mostOperands) && decide (meth.sig.returnType = rt) && !meth.locks && decide (parseMethodDescriptor y.desc = some meth.sig)) = true) : (Jvm.Cond.code y bytes mx rt).before a s = true := by
  simp only [Bool.and_eq_true, beq_iff_eq, Bool.not_eq_true', decide_eq_true_eq] at h5
  obtain ⟨⟨⟨⟨⟨g1, g2⟩, g3⟩, g4⟩, g5⟩, g6⟩ := h5
  simp [Cond.before, Cond.holds, Cond.value, h1, h2, h3, h4, g1, g2, g3, g4, g5, g6]
def isCode : Jvm.Cond → Bool
  | .code _ _ _ _ => true
  | _ => false
theorem all_split {L : List Jvm.Cond} {P : Jvm.Cond → Bool} (h1 : L.all (fun c => isCode c || P c) = true) (h2 : ∀ c ∈ L.filter isCode, P c = true) : L.all P = true := by
  refine List.all_eq_true.mpr fun c hc => ?_
  have h := List.all_eq_true.mp h1 c hc
  rcases Bool.eq_false_or_eq_true (isCode c) with hi | hi
  · exact h2 c (List.mem_filter.mpr ⟨hc, hi⟩)
  · simpa [hi] using h
set_option maxRecDepth 65536 in
theorem w_c0 : (Jvm.Cond.code x code maxLocals ret).before args0 about1 = true := code_word (m := ⟨1, 3⟩) (meth := k1m3) (c := k1c3) (by decide +kernel) rfl rfl rfl (by decide +kernel)
set_option maxRecDepth 65536 in
theorem w_c1 : (Jvm.Cond.code ({ cls := "com/example/rels_from_records/relsfromrecords/schema/VerdictAndPinLaw", name := "pick", desc := "(I)Lcom/example/rels_from_records/relsfromrecords/schema/Verdict;" } : Jvm.MethodName) method_2_code (1 : Nat) (Option.some (Jvm.ClassFile.FieldType.object "com/example/rels_from_records/relsfromrecords/schema/Verdict"))).before args0 about1 = true := code_word (m := ⟨1, 1⟩) (meth := k1m1) (c := k1c1) (by decide +kernel) rfl rfl rfl (by decide +kernel)
set_option maxRecDepth 65536 in
theorem w_c2 : (Jvm.Cond.code ({ cls := "com/example/rels_from_records/relsfromrecords/schema/Verdict", name := "and", desc := "(Lcom/example/rels_from_records/relsfromrecords/schema/Verdict;)Lcom/example/rels_from_records/relsfromrecords/schema/Verdict;" } : Jvm.MethodName) prog_84_method_5_code (2 : Nat) (Option.some (Jvm.ClassFile.FieldType.object "com/example/rels_from_records/relsfromrecords/schema/Verdict"))).before args0 about1 = true := code_word (m := ⟨6, 0⟩) (meth := k6m0) (c := k6c0) (by decide +kernel) rfl rfl rfl (by decide +kernel)
set_option maxRecDepth 65536 in
theorem w_c3 : (Jvm.Cond.code ({ cls := "com/example/rels_from_records/relsfromrecords/schema/VerdictAndPinLaw", name := "rank", desc := "(Lcom/example/rels_from_records/relsfromrecords/schema/Verdict;)I" } : Jvm.MethodName) method_3_code (1 : Nat) (Option.some Jvm.ClassFile.FieldType.int)).before args0 about1 = true := code_word (m := ⟨1, 2⟩) (meth := k1m2) (c := k1c2) (by decide +kernel) rfl rfl rfl (by decide +kernel)
set_option maxRecDepth 65536 in
theorem w_c4 : (Jvm.Cond.code ({ cls := "java/lang/Math", name := "min", desc := "(II)I" } : Jvm.MethodName) jdk_29_method_69_code (2 : Nat) (Option.some Jvm.ClassFile.FieldType.int)).before args0 about1 = true := code_word (m := ⟨7, 1⟩) (meth := k7m1) (c := k7c1) (by decide +kernel) rfl rfl rfl (by decide +kernel)
def codes1 : List Jvm.Cond := [Jvm.Cond.code x code maxLocals ret, Jvm.Cond.code ({ cls := "com/example/rels_from_records/relsfromrecords/schema/VerdictAndPinLaw", name := "pick", desc := "(I)Lcom/example/rels_from_records/relsfromrecords/schema/Verdict;" } : Jvm.MethodName) method_2_code (1 : Nat) (Option.some (Jvm.ClassFile.FieldType.object "com/example/rels_from_records/relsfromrecords/schema/Verdict")), Jvm.Cond.code ({ cls := "com/example/rels_from_records/relsfromrecords/schema/Verdict", name := "and", desc := "(Lcom/example/rels_from_records/relsfromrecords/schema/Verdict;)Lcom/example/rels_from_records/relsfromrecords/schema/Verdict;" } : Jvm.MethodName) prog_84_method_5_code (2 : Nat) (Option.some (Jvm.ClassFile.FieldType.object "com/example/rels_from_records/relsfromrecords/schema/Verdict")), Jvm.Cond.code ({ cls := "com/example/rels_from_records/relsfromrecords/schema/VerdictAndPinLaw", name := "rank", desc := "(Lcom/example/rels_from_records/relsfromrecords/schema/Verdict;)I" } : Jvm.MethodName) method_3_code (1 : Nat) (Option.some Jvm.ClassFile.FieldType.int), Jvm.Cond.code ({ cls := "java/lang/Math", name := "min", desc := "(II)I" } : Jvm.MethodName) jdk_29_method_69_code (2 : Nat) (Option.some Jvm.ClassFile.FieldType.int)]
set_option maxRecDepth 65536 in
theorem codes_eq : words1.filter isCode = codes1 := rfl
theorem w_codes : ∀ c ∈ words1.filter isCode, c.before args0 about1 = true := by
  rw [codes_eq]
  intro c hc
  simp only [codes1, List.mem_cons, List.not_mem_nil, or_false] at hc
  rcases hc with rfl | rfl | rfl | rfl | rfl
  · exact w_c0
  · exact w_c1
  · exact w_c2
  · exact w_c3
  · exact w_c4
set_option maxRecDepth 65536 in
theorem w_t1 : (words1.take 24).all (fun c => isCode c || c.before args0 about1) = true := by decide +kernel
set_option maxRecDepth 65536 in
theorem w_t2 : (words1.drop 24).all (fun c => isCode c || c.before args0 about1) = true := by decide +kernel
theorem w_tables : (allAtoms (Jvm.Cond.code x code maxLocals ret :: tables_1)).before args0 about1 = true := by
  rw [allAtoms_all]
  show words1.all (fun c => c.before args0 about1) = true
  refine all_split ?_ w_codes
  rw [← List.take_append_drop 24 words1, List.all_append, w_t1, w_t2]
  rfl
set_option maxRecDepth 65536 in
theorem w_case : (Jvm.Cond.and given_1 narrow_1).before args0 about1 = true := by decide +kernel
theorem w_applies : (headSpec (Jvm.Cond.code x code maxLocals ret :: tables_1) room_1).applies x e0.platform about1 = true :=
  (Spec.applies_iff w_frames).mpr ⟨w_running, w_runnable, w_alone, w_named, w_hears, w_ripe, w_room, w_tables⟩
theorem atStart : AtStart classFile x code maxLocals ret World_1 tables_1 room_1 Calls_1 rest_1 Pre_1 launch0 p0 e0 about1 theMethod args0 below0 :=
  ⟨lists_1, trivial, launch0.admits_env _ _ _, launch0.least_env, fairChoices_fair.cas, fairChoices_fair.clock, w_frames, w_args, w_heap, w_applies, trivial, trivial, w_case⟩
end start1
theorem witness_1 : WitnessClaimed_1 := ⟨start1.p0, start1.e0, start1.about1, start1.theMethod, start1.args0, start1.below0, start1.atStart⟩
end Jvm.Pilot.@@N@@
