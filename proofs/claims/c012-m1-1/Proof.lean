import JvmDerived
import JvmDerived.Pilot.@@N@@Statement
import JvmDerived.Pilot.@@N@@Code
set_option linter.unusedVariables false
set_option linter.unusedSimpArgs false
@@BLOCK:NumsL.lean.txt@@
namespace Jvm.Pilot.@@N@@
open Jvm Jvm.ClassFile Sem Op Lib Jvm.Free Jvm.Stand Jvm.LawKit Jvm.RoadKit Bundle Jvm.Pilot.@@N@@.Jvm.D
theorem own_mon (x : Int32) : 1 ≤ (((x &&& (2147483647 : Int32)) % (12 : Int32)) + (1 : Int32)).toInt ∧ (((x &&& (2147483647 : Int32)) % (12 : Int32)) + (1 : Int32)).toInt ≤ 12 := by
  have e1 : (x &&& (2147483647 : Int32)).toInt = x.toInt % 2 ^ 31 := Jvm.Kit.i32_mask x 2147483647 (k := 31) (by decide) (by decide)
  have e2 : ((x &&& (2147483647 : Int32)) % (12 : Int32)).toInt = (x &&& (2147483647 : Int32)).toInt % (12 : Int32).toInt := Jvm.Kit.i32_rem_nonneg (by omega)
  have e3 : (12 : Int32).toInt = 12 := rfl
  have e4 : (1 : Int32).toInt = 1 := rfl
  rw [e3] at e2
  have e5 : (((x &&& (2147483647 : Int32)) % (12 : Int32)) + (1 : Int32)).toInt = ((x &&& (2147483647 : Int32)) % (12 : Int32)).toInt + (1 : Int32).toInt := Jvm.Kit.i32_add (by omega) (by omega)
  omega
theorem own_twelve {P : Int32 → Prop} (a1 : P 1) (a2 : P 2) (a3 : P 3) (a4 : P 4) (a5 : P 5) (a6 : P 6) (a7 : P 7) (a8 : P 8) (a9 : P 9) (a10 : P 10) (a11 : P 11) (a12 : P 12) {t : Int32} (h1 : 1 ≤ t.toInt) (h2 : t.toInt ≤ 12) : P t := by
  have h : t.toInt = 1 ∨ t.toInt = 2 ∨ t.toInt = 3 ∨ t.toInt = 4 ∨ t.toInt = 5 ∨ t.toInt = 6 ∨ t.toInt = 7 ∨ t.toInt = 8 ∨ t.toInt = 9 ∨ t.toInt = 10 ∨ t.toInt = 11 ∨ t.toInt = 12 := by omega
  rcases h with h | h | h | h | h | h | h | h | h | h | h | h
  · have e : t = 1 := Int32.toInt_inj.mp (h.trans rfl)
    rw [e]; exact a1
  · have e : t = 2 := Int32.toInt_inj.mp (h.trans rfl)
    rw [e]; exact a2
  · have e : t = 3 := Int32.toInt_inj.mp (h.trans rfl)
    rw [e]; exact a3
  · have e : t = 4 := Int32.toInt_inj.mp (h.trans rfl)
    rw [e]; exact a4
  · have e : t = 5 := Int32.toInt_inj.mp (h.trans rfl)
    rw [e]; exact a5
  · have e : t = 6 := Int32.toInt_inj.mp (h.trans rfl)
    rw [e]; exact a6
  · have e : t = 7 := Int32.toInt_inj.mp (h.trans rfl)
    rw [e]; exact a7
  · have e : t = 8 := Int32.toInt_inj.mp (h.trans rfl)
    rw [e]; exact a8
  · have e : t = 9 := Int32.toInt_inj.mp (h.trans rfl)
    rw [e]; exact a9
  · have e : t = 10 := Int32.toInt_inj.mp (h.trans rfl)
    rw [e]; exact a10
  · have e : t = 11 := Int32.toInt_inj.mp (h.trans rfl)
    rw [e]; exact a11
  · have e : t = 12 := Int32.toInt_inj.mp (h.trans rfl)
    rw [e]; exact a12
theorem own_nz (x : Int32) : ¬ ((((x &&& (2147483647 : Int32)) % (12 : Int32)) + (1 : Int32)) = (0 : Int32)) := own_twelve (P := fun t => ¬ (t = (0 : Int32))) (by decide) (by decide) (by decide) (by decide) (by decide) (by decide) (by decide) (by decide) (by decide) (by decide) (by decide) (by decide) (own_mon x).1 (own_mon x).2
theorem d1_0 : decode prog_106_method_3_code 0 = .ok (.iload_n 0, 1) := by decide +kernel
theorem d1_1 : decode prog_106_method_3_code 1 = .ok (.iconst 2, 1) := by decide +kernel
theorem d1_2 : decode prog_106_method_3_code 2 = .ok (.if_icmp .ne 18, 3) := by decide +kernel
theorem d1_5 : decode prog_106_method_3_code 5 = .ok (.iload_n 1, 1) := by decide +kernel
theorem d1_6 : decode prog_106_method_3_code 6 = .ok (.ifCond .eq 8, 3) := by decide +kernel
theorem d1_9 : decode prog_106_method_3_code 9 = .ok (.bipush 29, 2) := by decide +kernel
theorem d1_11 : decode prog_106_method_3_code 11 = .ok (.goto 5, 3) := by decide +kernel
theorem d1_14 : decode prog_106_method_3_code 14 = .ok (.bipush 28, 2) := by decide +kernel
theorem d1_16 : decode prog_106_method_3_code 16 = .ok (.istore_n 2, 1) := by decide +kernel
theorem d1_17 : decode prog_106_method_3_code 17 = .ok (.goto 35, 3) := by decide +kernel
theorem d1_20 : decode prog_106_method_3_code 20 = .ok (.iload_n 0, 1) := by decide +kernel
theorem d1_21 : decode prog_106_method_3_code 21 = .ok (.iconst 4, 1) := by decide +kernel
theorem d1_22 : decode prog_106_method_3_code 22 = .ok (.if_icmp .eq 21, 3) := by decide +kernel
theorem d1_25 : decode prog_106_method_3_code 25 = .ok (.iload_n 0, 1) := by decide +kernel
theorem d1_26 : decode prog_106_method_3_code 26 = .ok (.bipush 6, 2) := by decide +kernel
theorem d1_28 : decode prog_106_method_3_code 28 = .ok (.if_icmp .eq 15, 3) := by decide +kernel
theorem d1_31 : decode prog_106_method_3_code 31 = .ok (.iload_n 0, 1) := by decide +kernel
theorem d1_32 : decode prog_106_method_3_code 32 = .ok (.bipush 9, 2) := by decide +kernel
theorem d1_34 : decode prog_106_method_3_code 34 = .ok (.if_icmp .eq 9, 3) := by decide +kernel
theorem d1_37 : decode prog_106_method_3_code 37 = .ok (.iload_n 0, 1) := by decide +kernel
theorem d1_38 : decode prog_106_method_3_code 38 = .ok (.bipush 11, 2) := by decide +kernel
theorem d1_40 : decode prog_106_method_3_code 40 = .ok (.if_icmp .ne 9, 3) := by decide +kernel
theorem d1_43 : decode prog_106_method_3_code 43 = .ok (.bipush 30, 2) := by decide +kernel
theorem d1_45 : decode prog_106_method_3_code 45 = .ok (.istore_n 2, 1) := by decide +kernel
theorem d1_46 : decode prog_106_method_3_code 46 = .ok (.goto 6, 3) := by decide +kernel
theorem d1_49 : decode prog_106_method_3_code 49 = .ok (.bipush 31, 2) := by decide +kernel
theorem d1_51 : decode prog_106_method_3_code 51 = .ok (.istore_n 2, 1) := by decide +kernel
theorem d1_52 : decode prog_106_method_3_code 52 = .ok (.iload_n 2, 1) := by decide +kernel
theorem d1_53 : decode prog_106_method_3_code 53 = .ok (.ireturn, 1) := by decide +kernel
theorem pn_1 : plainName "com/example/true_witness/truewitness/datatypes/GregorianDays" = true := by first | (simp [plainName, overriddenIn]; done) | decide +kernel
theorem ef_1 (m : MethodId) (p0 : Int32) (p1 : Int32) : entryFrame m #[(.int p0), (.int p1)] 3 = mkF m 0 #[.val (.int p0), .val (.int p1), .unset] [] := by first | (simp [entryFrame, mkF, argsToLocals, Value.category]; done) | rfl
def F1 (p0 : Int32) (p1 : Int32) : Int32 := (if p0 = (2 : Int32) then (if p1 = (0 : Int32) then (28 : Int32) else (29 : Int32)) else (if p0 = (4 : Int32) then (30 : Int32) else (if p0 = (6 : Int32) then (30 : Int32) else (if p0 = (9 : Int32) then (30 : Int32) else (if p0 = (11 : Int32) then (30 : Int32) else (31 : Int32))))))
def Q1 (Z : State) (p0 : Int32) (p1 : Int32) (h0 : Heap) (n0 : Nat) (v : Option Value) (h : Heap) (L : List Loc) : Prop := v = some (.int (F1 p0 p1)) ∧ Fr n0 L ∧ h = h0
set_option maxRecDepth 65536 in
set_option maxHeartbeats 40000000 in
theorem rm1 (l : Launch) (Z : State) (a0 : Array Value) (hw : ∀ d ∈ tables_1, d.before a0 Z = true) (ws : List Jvm.Cond) (p0 : Int32) (p1 : Int32) (h0 : Heap) (n0 : Nat) (Z0 : n0 ≤ h0.size)  :
    MetFree l (⟨"com/example/true_witness/truewitness/datatypes/GregorianDays", "inMonth", "(IZ)I"⟩ : MethodName) (head1 (Jvm.Cond.code (⟨"com/example/true_witness/truewitness/datatypes/GregorianDays", "inMonth", "(IZ)I"⟩ : MethodName) prog_106_method_3_code 3 (some .int) :: ws) ({ frames := 0, cells := 0, slots := 0, locals := 0 } : Room)) (fun a U => a = #[(.int p0), (.int p1)] ∧ Z.Warmed39 U.vm ∧ U.heap = h0) (fun _ _ _ _ _ => True) (fun _ U o U' => ∃ v L, o = .returned v ∧ Q1 Z p0 p1 h0 n0 v U'.heap L ∧ FrameEnd U o U' L ({ frames := 0, cells := 0, slots := 0, locals := 0 } : Room).cells ({ frames := 0, cells := 0, slots := 0, locals := 0 } : Room).slots) := by
  refine MetFree.of_bodySF (plainFor_of_name pn_1) hisR ?_
  intro p e s m args below meth c s₁ Bd hml0 hP hK
  obtain ⟨rfl, hZ, hh⟩ := hP
  have hx := Bd.exec
  have hby := Bd.bytes
  have hml : c.maxLocals = 3 := hml0
  have hown : s.vm.findClass "com/example/true_witness/truewitness/datatypes/GregorianDays" = some m.cls := findClass_of_methodNamed Bd.named
  have X0 : Stand p l e ({ frames := 0, cells := 0, slots := 0, locals := 0 } : Room) s m #[(.int p0), (.int p1)] below meth c s₁ [] 0 0 := Stand.of_body Bd
  have e0 : s₁.heap = h0 := by rw [← hh, Bd.state]; rfl
  have N0 := Fr.nil n0
  have pre0 : ∀ t, Steps p.tables e below (s₁.setTop (mkF m 0 #[.val (.int p0), .val (.int p1), .unset] [])) t → Steps p.tables e below (s₁.setTop (entryFrame m #[(.int p0), (.int p1)] 3)) t := fun t k => castTop (ef_1 m p0 p1) k
  by_cases c1 : p0 = (2 : Int32)
  · by_cases c2 : p1 = (0 : Int32)
    · obtain ⟨fs, hr, hrun, hended, hW, hsame⟩ := X0.leave (v := some (.int (28 : Int32))) (fun h => by rw [Bd.returns] at h; cases h)
      refine ⟨_, _, pre0 _ ?_, hrun, hended, _, _, rfl, ?_, ⟨_, rfl⟩, hW, hsame.mono (by decide) (by decide)⟩
      · show Steps p.tables e below (s₁.setTop (mkF m 0 #[.val (.int p0), .val (.int p1), .unset] [])) _
        refine XS.iloadN X0.here hx rfl (hb hby d1_0) rfl ?_
        show Steps p.tables e below (s₁.setTop (mkF m 1 #[.val (.int p0), .val (.int p1), .unset] [(.int p0)])) _
        refine XS.iconst X0.here hx rfl (hb hby d1_1) ?_
        show Steps p.tables e below (s₁.setTop (mkF m 2 #[.val (.int p0), .val (.int p1), .unset] [(.int (2 : Int32)), (.int p0)])) _
        refine XS.icmpNo X0.here hx rfl (hb hby d1_2) rfl (teq c1).2 ?_
        show Steps p.tables e below (s₁.setTop (mkF m 5 #[.val (.int p0), .val (.int p1), .unset] [])) _
        refine XS.iloadN X0.here hx rfl (hb hby d1_5) rfl ?_
        show Steps p.tables e below (s₁.setTop (mkF m 6 #[.val (.int p0), .val (.int p1), .unset] [(.int p1)])) _
        refine XS.ifYes X0.here hx rfl (pc0 := 6) (pc' := 14) rfl (hb hby d1_6) rfl ((if0 _ _).trans (teq c2).1) (by decide) (by decide) ?_
        show Steps p.tables e below (s₁.setTop (mkF m 14 #[.val (.int p0), .val (.int p1), .unset] [])) _
        refine XS.bipush X0.here hx rfl (hb hby d1_14) ?_
        show Steps p.tables e below (s₁.setTop (mkF m 16 #[.val (.int p0), .val (.int p1), .unset] [(.int (28 : Int32))])) _
        refine XS.istoreN X0.here hx rfl (hb hby d1_16) rfl (l' := #[.val (.int p0), .val (.int p1), .val (.int (28 : Int32))]) rfl ?_
        show Steps p.tables e below (s₁.setTop (mkF m 17 #[.val (.int p0), .val (.int p1), .val (.int (28 : Int32))] [])) _
        refine XS.goto X0.here hx rfl (pc0 := 17) (pc' := 52) rfl (hb hby d1_17) (by decide) (by decide) ?_
        show Steps p.tables e below (s₁.setTop (mkF m 52 #[.val (.int p0), .val (.int p1), .val (.int (28 : Int32))] [])) _
        refine XS.iloadN X0.here hx rfl (hb hby d1_52) rfl ?_
        show Steps p.tables e below (s₁.setTop (mkF m 53 #[.val (.int p0), .val (.int p1), .val (.int (28 : Int32))] [(.int (28 : Int32))])) _
        exact retOut X0 hx Bd.returns rfl (Or.inl ⟨rfl, Or.inl rfl, _, rfl⟩) (hb hby d1_53) hr
      · show Q1 Z p0 p1 h0 n0 _ s₁.heap _
        rw [e0]
        exact ⟨(congrArg (fun z => some (Value.int z)) ((if_pos c1).trans ((if_pos c2).trans rfl)).symm), N0, rfl⟩
    · obtain ⟨fs, hr, hrun, hended, hW, hsame⟩ := X0.leave (v := some (.int (29 : Int32))) (fun h => by rw [Bd.returns] at h; cases h)
      refine ⟨_, _, pre0 _ ?_, hrun, hended, _, _, rfl, ?_, ⟨_, rfl⟩, hW, hsame.mono (by decide) (by decide)⟩
      · show Steps p.tables e below (s₁.setTop (mkF m 0 #[.val (.int p0), .val (.int p1), .unset] [])) _
        refine XS.iloadN X0.here hx rfl (hb hby d1_0) rfl ?_
        show Steps p.tables e below (s₁.setTop (mkF m 1 #[.val (.int p0), .val (.int p1), .unset] [(.int p0)])) _
        refine XS.iconst X0.here hx rfl (hb hby d1_1) ?_
        show Steps p.tables e below (s₁.setTop (mkF m 2 #[.val (.int p0), .val (.int p1), .unset] [(.int (2 : Int32)), (.int p0)])) _
        refine XS.icmpNo X0.here hx rfl (hb hby d1_2) rfl (teq c1).2 ?_
        show Steps p.tables e below (s₁.setTop (mkF m 5 #[.val (.int p0), .val (.int p1), .unset] [])) _
        refine XS.iloadN X0.here hx rfl (hb hby d1_5) rfl ?_
        show Steps p.tables e below (s₁.setTop (mkF m 6 #[.val (.int p0), .val (.int p1), .unset] [(.int p1)])) _
        refine XS.ifNo X0.here hx rfl (hb hby d1_6) rfl ((if0 _ _).trans (feq c2).1) ?_
        show Steps p.tables e below (s₁.setTop (mkF m 9 #[.val (.int p0), .val (.int p1), .unset] [])) _
        refine XS.bipush X0.here hx rfl (hb hby d1_9) ?_
        show Steps p.tables e below (s₁.setTop (mkF m 11 #[.val (.int p0), .val (.int p1), .unset] [(.int (29 : Int32))])) _
        refine XS.goto X0.here hx rfl (pc0 := 11) (pc' := 16) rfl (hb hby d1_11) (by decide) (by decide) ?_
        show Steps p.tables e below (s₁.setTop (mkF m 16 #[.val (.int p0), .val (.int p1), .unset] [(.int (29 : Int32))])) _
        refine XS.istoreN X0.here hx rfl (hb hby d1_16) rfl (l' := #[.val (.int p0), .val (.int p1), .val (.int (29 : Int32))]) rfl ?_
        show Steps p.tables e below (s₁.setTop (mkF m 17 #[.val (.int p0), .val (.int p1), .val (.int (29 : Int32))] [])) _
        refine XS.goto X0.here hx rfl (pc0 := 17) (pc' := 52) rfl (hb hby d1_17) (by decide) (by decide) ?_
        show Steps p.tables e below (s₁.setTop (mkF m 52 #[.val (.int p0), .val (.int p1), .val (.int (29 : Int32))] [])) _
        refine XS.iloadN X0.here hx rfl (hb hby d1_52) rfl ?_
        show Steps p.tables e below (s₁.setTop (mkF m 53 #[.val (.int p0), .val (.int p1), .val (.int (29 : Int32))] [(.int (29 : Int32))])) _
        exact retOut X0 hx Bd.returns rfl (Or.inl ⟨rfl, Or.inl rfl, _, rfl⟩) (hb hby d1_53) hr
      · show Q1 Z p0 p1 h0 n0 _ s₁.heap _
        rw [e0]
        exact ⟨(congrArg (fun z => some (Value.int z)) ((if_pos c1).trans ((if_neg c2).trans rfl)).symm), N0, rfl⟩
  · by_cases c5 : p0 = (4 : Int32)
    · obtain ⟨fs, hr, hrun, hended, hW, hsame⟩ := X0.leave (v := some (.int (30 : Int32))) (fun h => by rw [Bd.returns] at h; cases h)
      refine ⟨_, _, pre0 _ ?_, hrun, hended, _, _, rfl, ?_, ⟨_, rfl⟩, hW, hsame.mono (by decide) (by decide)⟩
      · show Steps p.tables e below (s₁.setTop (mkF m 0 #[.val (.int p0), .val (.int p1), .unset] [])) _
        refine XS.iloadN X0.here hx rfl (hb hby d1_0) rfl ?_
        show Steps p.tables e below (s₁.setTop (mkF m 1 #[.val (.int p0), .val (.int p1), .unset] [(.int p0)])) _
        refine XS.iconst X0.here hx rfl (hb hby d1_1) ?_
        show Steps p.tables e below (s₁.setTop (mkF m 2 #[.val (.int p0), .val (.int p1), .unset] [(.int (2 : Int32)), (.int p0)])) _
        refine XS.icmpYes X0.here hx rfl (pc0 := 2) (pc' := 20) rfl (hb hby d1_2) rfl (feq c1).2 (by decide) (by decide) ?_
        show Steps p.tables e below (s₁.setTop (mkF m 20 #[.val (.int p0), .val (.int p1), .unset] [])) _
        refine XS.iloadN X0.here hx rfl (hb hby d1_20) rfl ?_
        show Steps p.tables e below (s₁.setTop (mkF m 21 #[.val (.int p0), .val (.int p1), .unset] [(.int p0)])) _
        refine XS.iconst X0.here hx rfl (hb hby d1_21) ?_
        show Steps p.tables e below (s₁.setTop (mkF m 22 #[.val (.int p0), .val (.int p1), .unset] [(.int (4 : Int32)), (.int p0)])) _
        refine XS.icmpYes X0.here hx rfl (pc0 := 22) (pc' := 43) rfl (hb hby d1_22) rfl (teq c5).1 (by decide) (by decide) ?_
        show Steps p.tables e below (s₁.setTop (mkF m 43 #[.val (.int p0), .val (.int p1), .unset] [])) _
        refine XS.bipush X0.here hx rfl (hb hby d1_43) ?_
        show Steps p.tables e below (s₁.setTop (mkF m 45 #[.val (.int p0), .val (.int p1), .unset] [(.int (30 : Int32))])) _
        refine XS.istoreN X0.here hx rfl (hb hby d1_45) rfl (l' := #[.val (.int p0), .val (.int p1), .val (.int (30 : Int32))]) rfl ?_
        show Steps p.tables e below (s₁.setTop (mkF m 46 #[.val (.int p0), .val (.int p1), .val (.int (30 : Int32))] [])) _
        refine XS.goto X0.here hx rfl (pc0 := 46) (pc' := 52) rfl (hb hby d1_46) (by decide) (by decide) ?_
        show Steps p.tables e below (s₁.setTop (mkF m 52 #[.val (.int p0), .val (.int p1), .val (.int (30 : Int32))] [])) _
        refine XS.iloadN X0.here hx rfl (hb hby d1_52) rfl ?_
        show Steps p.tables e below (s₁.setTop (mkF m 53 #[.val (.int p0), .val (.int p1), .val (.int (30 : Int32))] [(.int (30 : Int32))])) _
        exact retOut X0 hx Bd.returns rfl (Or.inl ⟨rfl, Or.inl rfl, _, rfl⟩) (hb hby d1_53) hr
      · show Q1 Z p0 p1 h0 n0 _ s₁.heap _
        rw [e0]
        exact ⟨(congrArg (fun z => some (Value.int z)) ((if_neg c1).trans ((if_pos c5).trans rfl)).symm), N0, rfl⟩
    · by_cases c7 : p0 = (6 : Int32)
      · obtain ⟨fs, hr, hrun, hended, hW, hsame⟩ := X0.leave (v := some (.int (30 : Int32))) (fun h => by rw [Bd.returns] at h; cases h)
        refine ⟨_, _, pre0 _ ?_, hrun, hended, _, _, rfl, ?_, ⟨_, rfl⟩, hW, hsame.mono (by decide) (by decide)⟩
        · show Steps p.tables e below (s₁.setTop (mkF m 0 #[.val (.int p0), .val (.int p1), .unset] [])) _
          refine XS.iloadN X0.here hx rfl (hb hby d1_0) rfl ?_
          show Steps p.tables e below (s₁.setTop (mkF m 1 #[.val (.int p0), .val (.int p1), .unset] [(.int p0)])) _
          refine XS.iconst X0.here hx rfl (hb hby d1_1) ?_
          show Steps p.tables e below (s₁.setTop (mkF m 2 #[.val (.int p0), .val (.int p1), .unset] [(.int (2 : Int32)), (.int p0)])) _
          refine XS.icmpYes X0.here hx rfl (pc0 := 2) (pc' := 20) rfl (hb hby d1_2) rfl (feq c1).2 (by decide) (by decide) ?_
          show Steps p.tables e below (s₁.setTop (mkF m 20 #[.val (.int p0), .val (.int p1), .unset] [])) _
          refine XS.iloadN X0.here hx rfl (hb hby d1_20) rfl ?_
          show Steps p.tables e below (s₁.setTop (mkF m 21 #[.val (.int p0), .val (.int p1), .unset] [(.int p0)])) _
          refine XS.iconst X0.here hx rfl (hb hby d1_21) ?_
          show Steps p.tables e below (s₁.setTop (mkF m 22 #[.val (.int p0), .val (.int p1), .unset] [(.int (4 : Int32)), (.int p0)])) _
          refine XS.icmpNo X0.here hx rfl (hb hby d1_22) rfl (feq c5).1 ?_
          show Steps p.tables e below (s₁.setTop (mkF m 25 #[.val (.int p0), .val (.int p1), .unset] [])) _
          refine XS.iloadN X0.here hx rfl (hb hby d1_25) rfl ?_
          show Steps p.tables e below (s₁.setTop (mkF m 26 #[.val (.int p0), .val (.int p1), .unset] [(.int p0)])) _
          refine XS.bipush X0.here hx rfl (hb hby d1_26) ?_
          show Steps p.tables e below (s₁.setTop (mkF m 28 #[.val (.int p0), .val (.int p1), .unset] [(.int (6 : Int32)), (.int p0)])) _
          refine XS.icmpYes X0.here hx rfl (pc0 := 28) (pc' := 43) rfl (hb hby d1_28) rfl (teq c7).1 (by decide) (by decide) ?_
          show Steps p.tables e below (s₁.setTop (mkF m 43 #[.val (.int p0), .val (.int p1), .unset] [])) _
          refine XS.bipush X0.here hx rfl (hb hby d1_43) ?_
          show Steps p.tables e below (s₁.setTop (mkF m 45 #[.val (.int p0), .val (.int p1), .unset] [(.int (30 : Int32))])) _
          refine XS.istoreN X0.here hx rfl (hb hby d1_45) rfl (l' := #[.val (.int p0), .val (.int p1), .val (.int (30 : Int32))]) rfl ?_
          show Steps p.tables e below (s₁.setTop (mkF m 46 #[.val (.int p0), .val (.int p1), .val (.int (30 : Int32))] [])) _
          refine XS.goto X0.here hx rfl (pc0 := 46) (pc' := 52) rfl (hb hby d1_46) (by decide) (by decide) ?_
          show Steps p.tables e below (s₁.setTop (mkF m 52 #[.val (.int p0), .val (.int p1), .val (.int (30 : Int32))] [])) _
          refine XS.iloadN X0.here hx rfl (hb hby d1_52) rfl ?_
          show Steps p.tables e below (s₁.setTop (mkF m 53 #[.val (.int p0), .val (.int p1), .val (.int (30 : Int32))] [(.int (30 : Int32))])) _
          exact retOut X0 hx Bd.returns rfl (Or.inl ⟨rfl, Or.inl rfl, _, rfl⟩) (hb hby d1_53) hr
        · show Q1 Z p0 p1 h0 n0 _ s₁.heap _
          rw [e0]
          exact ⟨(congrArg (fun z => some (Value.int z)) ((if_neg c1).trans ((if_neg c5).trans ((if_pos c7).trans rfl))).symm), N0, rfl⟩
      · by_cases c9 : p0 = (9 : Int32)
        · obtain ⟨fs, hr, hrun, hended, hW, hsame⟩ := X0.leave (v := some (.int (30 : Int32))) (fun h => by rw [Bd.returns] at h; cases h)
          refine ⟨_, _, pre0 _ ?_, hrun, hended, _, _, rfl, ?_, ⟨_, rfl⟩, hW, hsame.mono (by decide) (by decide)⟩
          · show Steps p.tables e below (s₁.setTop (mkF m 0 #[.val (.int p0), .val (.int p1), .unset] [])) _
            refine XS.iloadN X0.here hx rfl (hb hby d1_0) rfl ?_
            show Steps p.tables e below (s₁.setTop (mkF m 1 #[.val (.int p0), .val (.int p1), .unset] [(.int p0)])) _
            refine XS.iconst X0.here hx rfl (hb hby d1_1) ?_
            show Steps p.tables e below (s₁.setTop (mkF m 2 #[.val (.int p0), .val (.int p1), .unset] [(.int (2 : Int32)), (.int p0)])) _
            refine XS.icmpYes X0.here hx rfl (pc0 := 2) (pc' := 20) rfl (hb hby d1_2) rfl (feq c1).2 (by decide) (by decide) ?_
            show Steps p.tables e below (s₁.setTop (mkF m 20 #[.val (.int p0), .val (.int p1), .unset] [])) _
            refine XS.iloadN X0.here hx rfl (hb hby d1_20) rfl ?_
            show Steps p.tables e below (s₁.setTop (mkF m 21 #[.val (.int p0), .val (.int p1), .unset] [(.int p0)])) _
            refine XS.iconst X0.here hx rfl (hb hby d1_21) ?_
            show Steps p.tables e below (s₁.setTop (mkF m 22 #[.val (.int p0), .val (.int p1), .unset] [(.int (4 : Int32)), (.int p0)])) _
            refine XS.icmpNo X0.here hx rfl (hb hby d1_22) rfl (feq c5).1 ?_
            show Steps p.tables e below (s₁.setTop (mkF m 25 #[.val (.int p0), .val (.int p1), .unset] [])) _
            refine XS.iloadN X0.here hx rfl (hb hby d1_25) rfl ?_
            show Steps p.tables e below (s₁.setTop (mkF m 26 #[.val (.int p0), .val (.int p1), .unset] [(.int p0)])) _
            refine XS.bipush X0.here hx rfl (hb hby d1_26) ?_
            show Steps p.tables e below (s₁.setTop (mkF m 28 #[.val (.int p0), .val (.int p1), .unset] [(.int (6 : Int32)), (.int p0)])) _
            refine XS.icmpNo X0.here hx rfl (hb hby d1_28) rfl (feq c7).1 ?_
            show Steps p.tables e below (s₁.setTop (mkF m 31 #[.val (.int p0), .val (.int p1), .unset] [])) _
            refine XS.iloadN X0.here hx rfl (hb hby d1_31) rfl ?_
            show Steps p.tables e below (s₁.setTop (mkF m 32 #[.val (.int p0), .val (.int p1), .unset] [(.int p0)])) _
            refine XS.bipush X0.here hx rfl (hb hby d1_32) ?_
            show Steps p.tables e below (s₁.setTop (mkF m 34 #[.val (.int p0), .val (.int p1), .unset] [(.int (9 : Int32)), (.int p0)])) _
            refine XS.icmpYes X0.here hx rfl (pc0 := 34) (pc' := 43) rfl (hb hby d1_34) rfl (teq c9).1 (by decide) (by decide) ?_
            show Steps p.tables e below (s₁.setTop (mkF m 43 #[.val (.int p0), .val (.int p1), .unset] [])) _
            refine XS.bipush X0.here hx rfl (hb hby d1_43) ?_
            show Steps p.tables e below (s₁.setTop (mkF m 45 #[.val (.int p0), .val (.int p1), .unset] [(.int (30 : Int32))])) _
            refine XS.istoreN X0.here hx rfl (hb hby d1_45) rfl (l' := #[.val (.int p0), .val (.int p1), .val (.int (30 : Int32))]) rfl ?_
            show Steps p.tables e below (s₁.setTop (mkF m 46 #[.val (.int p0), .val (.int p1), .val (.int (30 : Int32))] [])) _
            refine XS.goto X0.here hx rfl (pc0 := 46) (pc' := 52) rfl (hb hby d1_46) (by decide) (by decide) ?_
            show Steps p.tables e below (s₁.setTop (mkF m 52 #[.val (.int p0), .val (.int p1), .val (.int (30 : Int32))] [])) _
            refine XS.iloadN X0.here hx rfl (hb hby d1_52) rfl ?_
            show Steps p.tables e below (s₁.setTop (mkF m 53 #[.val (.int p0), .val (.int p1), .val (.int (30 : Int32))] [(.int (30 : Int32))])) _
            exact retOut X0 hx Bd.returns rfl (Or.inl ⟨rfl, Or.inl rfl, _, rfl⟩) (hb hby d1_53) hr
          · show Q1 Z p0 p1 h0 n0 _ s₁.heap _
            rw [e0]
            exact ⟨(congrArg (fun z => some (Value.int z)) ((if_neg c1).trans ((if_neg c5).trans ((if_neg c7).trans ((if_pos c9).trans rfl)))).symm), N0, rfl⟩
        · by_cases c11 : p0 = (11 : Int32)
          · obtain ⟨fs, hr, hrun, hended, hW, hsame⟩ := X0.leave (v := some (.int (30 : Int32))) (fun h => by rw [Bd.returns] at h; cases h)
            refine ⟨_, _, pre0 _ ?_, hrun, hended, _, _, rfl, ?_, ⟨_, rfl⟩, hW, hsame.mono (by decide) (by decide)⟩
            · show Steps p.tables e below (s₁.setTop (mkF m 0 #[.val (.int p0), .val (.int p1), .unset] [])) _
              refine XS.iloadN X0.here hx rfl (hb hby d1_0) rfl ?_
              show Steps p.tables e below (s₁.setTop (mkF m 1 #[.val (.int p0), .val (.int p1), .unset] [(.int p0)])) _
              refine XS.iconst X0.here hx rfl (hb hby d1_1) ?_
              show Steps p.tables e below (s₁.setTop (mkF m 2 #[.val (.int p0), .val (.int p1), .unset] [(.int (2 : Int32)), (.int p0)])) _
              refine XS.icmpYes X0.here hx rfl (pc0 := 2) (pc' := 20) rfl (hb hby d1_2) rfl (feq c1).2 (by decide) (by decide) ?_
              show Steps p.tables e below (s₁.setTop (mkF m 20 #[.val (.int p0), .val (.int p1), .unset] [])) _
              refine XS.iloadN X0.here hx rfl (hb hby d1_20) rfl ?_
              show Steps p.tables e below (s₁.setTop (mkF m 21 #[.val (.int p0), .val (.int p1), .unset] [(.int p0)])) _
              refine XS.iconst X0.here hx rfl (hb hby d1_21) ?_
              show Steps p.tables e below (s₁.setTop (mkF m 22 #[.val (.int p0), .val (.int p1), .unset] [(.int (4 : Int32)), (.int p0)])) _
              refine XS.icmpNo X0.here hx rfl (hb hby d1_22) rfl (feq c5).1 ?_
              show Steps p.tables e below (s₁.setTop (mkF m 25 #[.val (.int p0), .val (.int p1), .unset] [])) _
              refine XS.iloadN X0.here hx rfl (hb hby d1_25) rfl ?_
              show Steps p.tables e below (s₁.setTop (mkF m 26 #[.val (.int p0), .val (.int p1), .unset] [(.int p0)])) _
              refine XS.bipush X0.here hx rfl (hb hby d1_26) ?_
              show Steps p.tables e below (s₁.setTop (mkF m 28 #[.val (.int p0), .val (.int p1), .unset] [(.int (6 : Int32)), (.int p0)])) _
              refine XS.icmpNo X0.here hx rfl (hb hby d1_28) rfl (feq c7).1 ?_
              show Steps p.tables e below (s₁.setTop (mkF m 31 #[.val (.int p0), .val (.int p1), .unset] [])) _
              refine XS.iloadN X0.here hx rfl (hb hby d1_31) rfl ?_
              show Steps p.tables e below (s₁.setTop (mkF m 32 #[.val (.int p0), .val (.int p1), .unset] [(.int p0)])) _
              refine XS.bipush X0.here hx rfl (hb hby d1_32) ?_
              show Steps p.tables e below (s₁.setTop (mkF m 34 #[.val (.int p0), .val (.int p1), .unset] [(.int (9 : Int32)), (.int p0)])) _
              refine XS.icmpNo X0.here hx rfl (hb hby d1_34) rfl (feq c9).1 ?_
              show Steps p.tables e below (s₁.setTop (mkF m 37 #[.val (.int p0), .val (.int p1), .unset] [])) _
              refine XS.iloadN X0.here hx rfl (hb hby d1_37) rfl ?_
              show Steps p.tables e below (s₁.setTop (mkF m 38 #[.val (.int p0), .val (.int p1), .unset] [(.int p0)])) _
              refine XS.bipush X0.here hx rfl (hb hby d1_38) ?_
              show Steps p.tables e below (s₁.setTop (mkF m 40 #[.val (.int p0), .val (.int p1), .unset] [(.int (11 : Int32)), (.int p0)])) _
              refine XS.icmpNo X0.here hx rfl (hb hby d1_40) rfl (teq c11).2 ?_
              show Steps p.tables e below (s₁.setTop (mkF m 43 #[.val (.int p0), .val (.int p1), .unset] [])) _
              refine XS.bipush X0.here hx rfl (hb hby d1_43) ?_
              show Steps p.tables e below (s₁.setTop (mkF m 45 #[.val (.int p0), .val (.int p1), .unset] [(.int (30 : Int32))])) _
              refine XS.istoreN X0.here hx rfl (hb hby d1_45) rfl (l' := #[.val (.int p0), .val (.int p1), .val (.int (30 : Int32))]) rfl ?_
              show Steps p.tables e below (s₁.setTop (mkF m 46 #[.val (.int p0), .val (.int p1), .val (.int (30 : Int32))] [])) _
              refine XS.goto X0.here hx rfl (pc0 := 46) (pc' := 52) rfl (hb hby d1_46) (by decide) (by decide) ?_
              show Steps p.tables e below (s₁.setTop (mkF m 52 #[.val (.int p0), .val (.int p1), .val (.int (30 : Int32))] [])) _
              refine XS.iloadN X0.here hx rfl (hb hby d1_52) rfl ?_
              show Steps p.tables e below (s₁.setTop (mkF m 53 #[.val (.int p0), .val (.int p1), .val (.int (30 : Int32))] [(.int (30 : Int32))])) _
              exact retOut X0 hx Bd.returns rfl (Or.inl ⟨rfl, Or.inl rfl, _, rfl⟩) (hb hby d1_53) hr
            · show Q1 Z p0 p1 h0 n0 _ s₁.heap _
              rw [e0]
              exact ⟨(congrArg (fun z => some (Value.int z)) ((if_neg c1).trans ((if_neg c5).trans ((if_neg c7).trans ((if_neg c9).trans ((if_pos c11).trans rfl))))).symm), N0, rfl⟩
          · obtain ⟨fs, hr, hrun, hended, hW, hsame⟩ := X0.leave (v := some (.int (31 : Int32))) (fun h => by rw [Bd.returns] at h; cases h)
            refine ⟨_, _, pre0 _ ?_, hrun, hended, _, _, rfl, ?_, ⟨_, rfl⟩, hW, hsame.mono (by decide) (by decide)⟩
            · show Steps p.tables e below (s₁.setTop (mkF m 0 #[.val (.int p0), .val (.int p1), .unset] [])) _
              refine XS.iloadN X0.here hx rfl (hb hby d1_0) rfl ?_
              show Steps p.tables e below (s₁.setTop (mkF m 1 #[.val (.int p0), .val (.int p1), .unset] [(.int p0)])) _
              refine XS.iconst X0.here hx rfl (hb hby d1_1) ?_
              show Steps p.tables e below (s₁.setTop (mkF m 2 #[.val (.int p0), .val (.int p1), .unset] [(.int (2 : Int32)), (.int p0)])) _
              refine XS.icmpYes X0.here hx rfl (pc0 := 2) (pc' := 20) rfl (hb hby d1_2) rfl (feq c1).2 (by decide) (by decide) ?_
              show Steps p.tables e below (s₁.setTop (mkF m 20 #[.val (.int p0), .val (.int p1), .unset] [])) _
              refine XS.iloadN X0.here hx rfl (hb hby d1_20) rfl ?_
              show Steps p.tables e below (s₁.setTop (mkF m 21 #[.val (.int p0), .val (.int p1), .unset] [(.int p0)])) _
              refine XS.iconst X0.here hx rfl (hb hby d1_21) ?_
              show Steps p.tables e below (s₁.setTop (mkF m 22 #[.val (.int p0), .val (.int p1), .unset] [(.int (4 : Int32)), (.int p0)])) _
              refine XS.icmpNo X0.here hx rfl (hb hby d1_22) rfl (feq c5).1 ?_
              show Steps p.tables e below (s₁.setTop (mkF m 25 #[.val (.int p0), .val (.int p1), .unset] [])) _
              refine XS.iloadN X0.here hx rfl (hb hby d1_25) rfl ?_
              show Steps p.tables e below (s₁.setTop (mkF m 26 #[.val (.int p0), .val (.int p1), .unset] [(.int p0)])) _
              refine XS.bipush X0.here hx rfl (hb hby d1_26) ?_
              show Steps p.tables e below (s₁.setTop (mkF m 28 #[.val (.int p0), .val (.int p1), .unset] [(.int (6 : Int32)), (.int p0)])) _
              refine XS.icmpNo X0.here hx rfl (hb hby d1_28) rfl (feq c7).1 ?_
              show Steps p.tables e below (s₁.setTop (mkF m 31 #[.val (.int p0), .val (.int p1), .unset] [])) _
              refine XS.iloadN X0.here hx rfl (hb hby d1_31) rfl ?_
              show Steps p.tables e below (s₁.setTop (mkF m 32 #[.val (.int p0), .val (.int p1), .unset] [(.int p0)])) _
              refine XS.bipush X0.here hx rfl (hb hby d1_32) ?_
              show Steps p.tables e below (s₁.setTop (mkF m 34 #[.val (.int p0), .val (.int p1), .unset] [(.int (9 : Int32)), (.int p0)])) _
              refine XS.icmpNo X0.here hx rfl (hb hby d1_34) rfl (feq c9).1 ?_
              show Steps p.tables e below (s₁.setTop (mkF m 37 #[.val (.int p0), .val (.int p1), .unset] [])) _
              refine XS.iloadN X0.here hx rfl (hb hby d1_37) rfl ?_
              show Steps p.tables e below (s₁.setTop (mkF m 38 #[.val (.int p0), .val (.int p1), .unset] [(.int p0)])) _
              refine XS.bipush X0.here hx rfl (hb hby d1_38) ?_
              show Steps p.tables e below (s₁.setTop (mkF m 40 #[.val (.int p0), .val (.int p1), .unset] [(.int (11 : Int32)), (.int p0)])) _
              refine XS.icmpYes X0.here hx rfl (pc0 := 40) (pc' := 49) rfl (hb hby d1_40) rfl (feq c11).2 (by decide) (by decide) ?_
              show Steps p.tables e below (s₁.setTop (mkF m 49 #[.val (.int p0), .val (.int p1), .unset] [])) _
              refine XS.bipush X0.here hx rfl (hb hby d1_49) ?_
              show Steps p.tables e below (s₁.setTop (mkF m 51 #[.val (.int p0), .val (.int p1), .unset] [(.int (31 : Int32))])) _
              refine XS.istoreN X0.here hx rfl (hb hby d1_51) rfl (l' := #[.val (.int p0), .val (.int p1), .val (.int (31 : Int32))]) rfl ?_
              show Steps p.tables e below (s₁.setTop (mkF m 52 #[.val (.int p0), .val (.int p1), .val (.int (31 : Int32))] [])) _
              refine XS.iloadN X0.here hx rfl (hb hby d1_52) rfl ?_
              show Steps p.tables e below (s₁.setTop (mkF m 53 #[.val (.int p0), .val (.int p1), .val (.int (31 : Int32))] [(.int (31 : Int32))])) _
              exact retOut X0 hx Bd.returns rfl (Or.inl ⟨rfl, Or.inl rfl, _, rfl⟩) (hb hby d1_53) hr
            · show Q1 Z p0 p1 h0 n0 _ s₁.heap _
              rw [e0]
              exact ⟨(congrArg (fun z => some (Value.int z)) ((if_neg c1).trans ((if_neg c5).trans ((if_neg c7).trans ((if_neg c9).trans ((if_neg c11).trans rfl))))).symm), N0, rfl⟩
theorem d2_0 : decode method_2_code 0 = .ok (.bipush 28, 2) := by decide +kernel
theorem d2_2 : decode method_2_code 2 = .ok (.iload_n 0, 1) := by decide +kernel
theorem d2_3 : decode method_2_code 3 = .ok (.iload_n 0, 1) := by decide +kernel
theorem d2_4 : decode method_2_code 4 = .ok (.bipush 8, 2) := by decide +kernel
theorem d2_6 : decode method_2_code 6 = .ok (.idiv, 1) := by decide +kernel
theorem d2_7 : decode method_2_code 7 = .ok (.iadd, 1) := by decide +kernel
theorem d2_8 : decode method_2_code 8 = .ok (.iconst 2, 1) := by decide +kernel
theorem d2_9 : decode method_2_code 9 = .ok (.irem, 1) := by decide +kernel
theorem d2_10 : decode method_2_code 10 = .ok (.iadd, 1) := by decide +kernel
theorem d2_11 : decode method_2_code 11 = .ok (.iconst 2, 1) := by decide +kernel
theorem d2_12 : decode method_2_code 12 = .ok (.iload_n 0, 1) := by decide +kernel
theorem d2_13 : decode method_2_code 13 = .ok (.irem, 1) := by decide +kernel
theorem d2_14 : decode method_2_code 14 = .ok (.iadd, 1) := by decide +kernel
theorem d2_15 : decode method_2_code 15 = .ok (.iconst 2, 1) := by decide +kernel
theorem d2_16 : decode method_2_code 16 = .ok (.iconst 1, 1) := by decide +kernel
theorem d2_17 : decode method_2_code 17 = .ok (.iload_n 0, 1) := by decide +kernel
theorem d2_18 : decode method_2_code 18 = .ok (.idiv, 1) := by decide +kernel
theorem d2_19 : decode method_2_code 19 = .ok (.imul, 1) := by decide +kernel
theorem d2_20 : decode method_2_code 20 = .ok (.iadd, 1) := by decide +kernel
theorem d2_21 : decode method_2_code 21 = .ok (.istore_n 2, 1) := by decide +kernel
theorem d2_22 : decode method_2_code 22 = .ok (.iload_n 1, 1) := by decide +kernel
theorem d2_23 : decode method_2_code 23 = .ok (.ifCond .eq 12, 3) := by decide +kernel
theorem d2_26 : decode method_2_code 26 = .ok (.iload_n 0, 1) := by decide +kernel
theorem d2_27 : decode method_2_code 27 = .ok (.iconst 2, 1) := by decide +kernel
theorem d2_28 : decode method_2_code 28 = .ok (.if_icmp .ne 7, 3) := by decide +kernel
theorem d2_31 : decode method_2_code 31 = .ok (.iload_n 2, 1) := by decide +kernel
theorem d2_32 : decode method_2_code 32 = .ok (.iconst 1, 1) := by decide +kernel
theorem d2_33 : decode method_2_code 33 = .ok (.iadd, 1) := by decide +kernel
theorem d2_34 : decode method_2_code 34 = .ok (.istore_n 2, 1) := by decide +kernel
theorem d2_35 : decode method_2_code 35 = .ok (.iload_n 2, 1) := by decide +kernel
theorem d2_36 : decode method_2_code 36 = .ok (.ireturn, 1) := by decide +kernel
theorem pn_2 : plainName "com/example/true_witness/truewitness/datatypes/GregorianDaysInMonthPinLaw" = true := by first | (simp [plainName, overriddenIn]; done) | decide +kernel
theorem ef_2 (m : MethodId) (p0 : Int32) (p1 : Int32) : entryFrame m #[(.int p0), (.int p1)] 3 = mkF m 0 #[.val (.int p0), .val (.int p1), .unset] [] := by first | (simp [entryFrame, mkF, argsToLocals, Value.category]; done) | rfl
def F2 (p0 : Int32) (p1 : Int32) : Int32 := (if p1 = (0 : Int32) then ((((28 : Int32) + ((p0 + (p0 / (8 : Int32))) % (2 : Int32))) + ((2 : Int32) % p0)) + ((2 : Int32) * ((1 : Int32) / p0))) else (if p0 = (2 : Int32) then (((((28 : Int32) + ((p0 + (p0 / (8 : Int32))) % (2 : Int32))) + ((2 : Int32) % p0)) + ((2 : Int32) * ((1 : Int32) / p0))) + (1 : Int32)) else ((((28 : Int32) + ((p0 + (p0 / (8 : Int32))) % (2 : Int32))) + ((2 : Int32) % p0)) + ((2 : Int32) * ((1 : Int32) / p0)))))
def Q2 (Z : State) (p0 : Int32) (p1 : Int32) (h0 : Heap) (n0 : Nat) (v : Option Value) (h : Heap) (L : List Loc) : Prop := v = some (.int (F2 p0 p1)) ∧ Fr n0 L ∧ h = h0
set_option maxRecDepth 65536 in
set_option maxHeartbeats 40000000 in
theorem rm2 (l : Launch) (Z : State) (a0 : Array Value) (hw : ∀ d ∈ tables_1, d.before a0 Z = true) (ws : List Jvm.Cond) (p0 : Int32) (p1 : Int32) (h0 : Heap) (n0 : Nat) (Z0 : n0 ≤ h0.size) (hp0 : ¬ (p0 = (0 : Int32))) :
    MetFree l (⟨"com/example/true_witness/truewitness/datatypes/GregorianDaysInMonthPinLaw", "reference", "(IZ)I"⟩ : MethodName) (head1 (Jvm.Cond.code (⟨"com/example/true_witness/truewitness/datatypes/GregorianDaysInMonthPinLaw", "reference", "(IZ)I"⟩ : MethodName) method_2_code 3 (some .int) :: ws) ({ frames := 0, cells := 0, slots := 0, locals := 0 } : Room)) (fun a U => a = #[(.int p0), (.int p1)] ∧ Z.Warmed39 U.vm ∧ U.heap = h0) (fun _ _ _ _ _ => True) (fun _ U o U' => ∃ v L, o = .returned v ∧ Q2 Z p0 p1 h0 n0 v U'.heap L ∧ FrameEnd U o U' L ({ frames := 0, cells := 0, slots := 0, locals := 0 } : Room).cells ({ frames := 0, cells := 0, slots := 0, locals := 0 } : Room).slots) := by
  refine MetFree.of_bodySF (plainFor_of_name pn_2) hisR ?_
  intro p e s m args below meth c s₁ Bd hml0 hP hK
  obtain ⟨rfl, hZ, hh⟩ := hP
  have hx := Bd.exec
  have hby := Bd.bytes
  have hml : c.maxLocals = 3 := hml0
  have hown : s.vm.findClass "com/example/true_witness/truewitness/datatypes/GregorianDaysInMonthPinLaw" = some m.cls := findClass_of_methodNamed Bd.named
  have X0 : Stand p l e ({ frames := 0, cells := 0, slots := 0, locals := 0 } : Room) s m #[(.int p0), (.int p1)] below meth c s₁ [] 0 0 := Stand.of_body Bd
  have e0 : s₁.heap = h0 := by rw [← hh, Bd.state]; rfl
  have N0 := Fr.nil n0
  have pre0 : ∀ t, Steps p.tables e below (s₁.setTop (mkF m 0 #[.val (.int p0), .val (.int p1), .unset] [])) t → Steps p.tables e below (s₁.setTop (entryFrame m #[(.int p0), (.int p1)] 3)) t := fun t k => castTop (ef_2 m p0 p1) k
  by_cases c14 : p1 = (0 : Int32)
  · obtain ⟨fs, hr, hrun, hended, hW, hsame⟩ := X0.leave (v := some (.int ((((28 : Int32) + ((p0 + (p0 / (8 : Int32))) % (2 : Int32))) + ((2 : Int32) % p0)) + ((2 : Int32) * ((1 : Int32) / p0))))) (fun h => by rw [Bd.returns] at h; cases h)
    refine ⟨_, _, pre0 _ ?_, hrun, hended, _, _, rfl, ?_, ⟨_, rfl⟩, hW, hsame.mono (by decide) (by decide)⟩
    · show Steps p.tables e below (s₁.setTop (mkF m 0 #[.val (.int p0), .val (.int p1), .unset] [])) _
      refine XS.bipush X0.here hx rfl (hb hby d2_0) ?_
      show Steps p.tables e below (s₁.setTop (mkF m 2 #[.val (.int p0), .val (.int p1), .unset] [(.int (28 : Int32))])) _
      refine XS.iloadN X0.here hx rfl (hb hby d2_2) rfl ?_
      show Steps p.tables e below (s₁.setTop (mkF m 3 #[.val (.int p0), .val (.int p1), .unset] [(.int p0), (.int (28 : Int32))])) _
      refine XS.iloadN X0.here hx rfl (hb hby d2_3) rfl ?_
      show Steps p.tables e below (s₁.setTop (mkF m 4 #[.val (.int p0), .val (.int p1), .unset] [(.int p0), (.int p0), (.int (28 : Int32))])) _
      refine XS.bipush X0.here hx rfl (hb hby d2_4) ?_
      show Steps p.tables e below (s₁.setTop (mkF m 6 #[.val (.int p0), .val (.int p1), .unset] [(.int (8 : Int32)), (.int p0), (.int p0), (.int (28 : Int32))])) _
      refine XS.idiv X0.here hx rfl (hb hby d2_6) rfl (by decide) ?_
      show Steps p.tables e below (s₁.setTop (mkF m 7 #[.val (.int p0), .val (.int p1), .unset] [(.int (p0 / (8 : Int32))), (.int p0), (.int (28 : Int32))])) _
      refine XS.iadd X0.here hx rfl (hb hby d2_7) rfl ?_
      show Steps p.tables e below (s₁.setTop (mkF m 8 #[.val (.int p0), .val (.int p1), .unset] [(.int (p0 + (p0 / (8 : Int32)))), (.int (28 : Int32))])) _
      refine XS.iconst X0.here hx rfl (hb hby d2_8) ?_
      show Steps p.tables e below (s₁.setTop (mkF m 9 #[.val (.int p0), .val (.int p1), .unset] [(.int (2 : Int32)), (.int (p0 + (p0 / (8 : Int32)))), (.int (28 : Int32))])) _
      refine iremM (g := (mkF m 9 #[.val (.int p0), .val (.int p1), .unset] [(.int (2 : Int32)), (.int (p0 + (p0 / (8 : Int32)))), (.int (28 : Int32))])) X0 hx rfl (hb hby d2_9) rfl (by decide) ?_
      show Steps p.tables e below (s₁.setTop (mkF m 10 #[.val (.int p0), .val (.int p1), .unset] [(.int ((p0 + (p0 / (8 : Int32))) % (2 : Int32))), (.int (28 : Int32))])) _
      refine XS.iadd X0.here hx rfl (hb hby d2_10) rfl ?_
      show Steps p.tables e below (s₁.setTop (mkF m 11 #[.val (.int p0), .val (.int p1), .unset] [(.int ((28 : Int32) + ((p0 + (p0 / (8 : Int32))) % (2 : Int32))))])) _
      refine XS.iconst X0.here hx rfl (hb hby d2_11) ?_
      show Steps p.tables e below (s₁.setTop (mkF m 12 #[.val (.int p0), .val (.int p1), .unset] [(.int (2 : Int32)), (.int ((28 : Int32) + ((p0 + (p0 / (8 : Int32))) % (2 : Int32))))])) _
      refine XS.iloadN X0.here hx rfl (hb hby d2_12) rfl ?_
      show Steps p.tables e below (s₁.setTop (mkF m 13 #[.val (.int p0), .val (.int p1), .unset] [(.int p0), (.int (2 : Int32)), (.int ((28 : Int32) + ((p0 + (p0 / (8 : Int32))) % (2 : Int32))))])) _
      refine iremM (g := (mkF m 13 #[.val (.int p0), .val (.int p1), .unset] [(.int p0), (.int (2 : Int32)), (.int ((28 : Int32) + ((p0 + (p0 / (8 : Int32))) % (2 : Int32))))])) X0 hx rfl (hb hby d2_13) rfl hp0 ?_
      show Steps p.tables e below (s₁.setTop (mkF m 14 #[.val (.int p0), .val (.int p1), .unset] [(.int ((2 : Int32) % p0)), (.int ((28 : Int32) + ((p0 + (p0 / (8 : Int32))) % (2 : Int32))))])) _
      refine XS.iadd X0.here hx rfl (hb hby d2_14) rfl ?_
      show Steps p.tables e below (s₁.setTop (mkF m 15 #[.val (.int p0), .val (.int p1), .unset] [(.int (((28 : Int32) + ((p0 + (p0 / (8 : Int32))) % (2 : Int32))) + ((2 : Int32) % p0)))])) _
      refine XS.iconst X0.here hx rfl (hb hby d2_15) ?_
      show Steps p.tables e below (s₁.setTop (mkF m 16 #[.val (.int p0), .val (.int p1), .unset] [(.int (2 : Int32)), (.int (((28 : Int32) + ((p0 + (p0 / (8 : Int32))) % (2 : Int32))) + ((2 : Int32) % p0)))])) _
      refine XS.iconst X0.here hx rfl (hb hby d2_16) ?_
      show Steps p.tables e below (s₁.setTop (mkF m 17 #[.val (.int p0), .val (.int p1), .unset] [(.int (1 : Int32)), (.int (2 : Int32)), (.int (((28 : Int32) + ((p0 + (p0 / (8 : Int32))) % (2 : Int32))) + ((2 : Int32) % p0)))])) _
      refine XS.iloadN X0.here hx rfl (hb hby d2_17) rfl ?_
      show Steps p.tables e below (s₁.setTop (mkF m 18 #[.val (.int p0), .val (.int p1), .unset] [(.int p0), (.int (1 : Int32)), (.int (2 : Int32)), (.int (((28 : Int32) + ((p0 + (p0 / (8 : Int32))) % (2 : Int32))) + ((2 : Int32) % p0)))])) _
      refine XS.idiv X0.here hx rfl (hb hby d2_18) rfl hp0 ?_
      show Steps p.tables e below (s₁.setTop (mkF m 19 #[.val (.int p0), .val (.int p1), .unset] [(.int ((1 : Int32) / p0)), (.int (2 : Int32)), (.int (((28 : Int32) + ((p0 + (p0 / (8 : Int32))) % (2 : Int32))) + ((2 : Int32) % p0)))])) _
      refine XS.imul X0.here hx rfl (hb hby d2_19) rfl ?_
      show Steps p.tables e below (s₁.setTop (mkF m 20 #[.val (.int p0), .val (.int p1), .unset] [(.int ((2 : Int32) * ((1 : Int32) / p0))), (.int (((28 : Int32) + ((p0 + (p0 / (8 : Int32))) % (2 : Int32))) + ((2 : Int32) % p0)))])) _
      refine XS.iadd X0.here hx rfl (hb hby d2_20) rfl ?_
      show Steps p.tables e below (s₁.setTop (mkF m 21 #[.val (.int p0), .val (.int p1), .unset] [(.int ((((28 : Int32) + ((p0 + (p0 / (8 : Int32))) % (2 : Int32))) + ((2 : Int32) % p0)) + ((2 : Int32) * ((1 : Int32) / p0))))])) _
      refine XS.istoreN X0.here hx rfl (hb hby d2_21) rfl (l' := #[.val (.int p0), .val (.int p1), .val (.int ((((28 : Int32) + ((p0 + (p0 / (8 : Int32))) % (2 : Int32))) + ((2 : Int32) % p0)) + ((2 : Int32) * ((1 : Int32) / p0))))]) rfl ?_
      show Steps p.tables e below (s₁.setTop (mkF m 22 #[.val (.int p0), .val (.int p1), .val (.int ((((28 : Int32) + ((p0 + (p0 / (8 : Int32))) % (2 : Int32))) + ((2 : Int32) % p0)) + ((2 : Int32) * ((1 : Int32) / p0))))] [])) _
      refine XS.iloadN X0.here hx rfl (hb hby d2_22) rfl ?_
      show Steps p.tables e below (s₁.setTop (mkF m 23 #[.val (.int p0), .val (.int p1), .val (.int ((((28 : Int32) + ((p0 + (p0 / (8 : Int32))) % (2 : Int32))) + ((2 : Int32) % p0)) + ((2 : Int32) * ((1 : Int32) / p0))))] [(.int p1)])) _
      refine XS.ifYes X0.here hx rfl (pc0 := 23) (pc' := 35) rfl (hb hby d2_23) rfl ((if0 _ _).trans (teq c14).1) (by decide) (by decide) ?_
      show Steps p.tables e below (s₁.setTop (mkF m 35 #[.val (.int p0), .val (.int p1), .val (.int ((((28 : Int32) + ((p0 + (p0 / (8 : Int32))) % (2 : Int32))) + ((2 : Int32) % p0)) + ((2 : Int32) * ((1 : Int32) / p0))))] [])) _
      refine XS.iloadN X0.here hx rfl (hb hby d2_35) rfl ?_
      show Steps p.tables e below (s₁.setTop (mkF m 36 #[.val (.int p0), .val (.int p1), .val (.int ((((28 : Int32) + ((p0 + (p0 / (8 : Int32))) % (2 : Int32))) + ((2 : Int32) % p0)) + ((2 : Int32) * ((1 : Int32) / p0))))] [(.int ((((28 : Int32) + ((p0 + (p0 / (8 : Int32))) % (2 : Int32))) + ((2 : Int32) % p0)) + ((2 : Int32) * ((1 : Int32) / p0))))])) _
      exact retOut X0 hx Bd.returns rfl (Or.inl ⟨rfl, Or.inl rfl, _, rfl⟩) (hb hby d2_36) hr
    · show Q2 Z p0 p1 h0 n0 _ s₁.heap _
      rw [e0]
      exact ⟨(congrArg (fun z => some (Value.int z)) ((if_pos c14).trans rfl).symm), N0, rfl⟩
  · by_cases c16 : p0 = (2 : Int32)
    · obtain ⟨fs, hr, hrun, hended, hW, hsame⟩ := X0.leave (v := some (.int (((((28 : Int32) + ((p0 + (p0 / (8 : Int32))) % (2 : Int32))) + ((2 : Int32) % p0)) + ((2 : Int32) * ((1 : Int32) / p0))) + (1 : Int32)))) (fun h => by rw [Bd.returns] at h; cases h)
      refine ⟨_, _, pre0 _ ?_, hrun, hended, _, _, rfl, ?_, ⟨_, rfl⟩, hW, hsame.mono (by decide) (by decide)⟩
      · show Steps p.tables e below (s₁.setTop (mkF m 0 #[.val (.int p0), .val (.int p1), .unset] [])) _
        refine XS.bipush X0.here hx rfl (hb hby d2_0) ?_
        show Steps p.tables e below (s₁.setTop (mkF m 2 #[.val (.int p0), .val (.int p1), .unset] [(.int (28 : Int32))])) _
        refine XS.iloadN X0.here hx rfl (hb hby d2_2) rfl ?_
        show Steps p.tables e below (s₁.setTop (mkF m 3 #[.val (.int p0), .val (.int p1), .unset] [(.int p0), (.int (28 : Int32))])) _
        refine XS.iloadN X0.here hx rfl (hb hby d2_3) rfl ?_
        show Steps p.tables e below (s₁.setTop (mkF m 4 #[.val (.int p0), .val (.int p1), .unset] [(.int p0), (.int p0), (.int (28 : Int32))])) _
        refine XS.bipush X0.here hx rfl (hb hby d2_4) ?_
        show Steps p.tables e below (s₁.setTop (mkF m 6 #[.val (.int p0), .val (.int p1), .unset] [(.int (8 : Int32)), (.int p0), (.int p0), (.int (28 : Int32))])) _
        refine XS.idiv X0.here hx rfl (hb hby d2_6) rfl (by decide) ?_
        show Steps p.tables e below (s₁.setTop (mkF m 7 #[.val (.int p0), .val (.int p1), .unset] [(.int (p0 / (8 : Int32))), (.int p0), (.int (28 : Int32))])) _
        refine XS.iadd X0.here hx rfl (hb hby d2_7) rfl ?_
        show Steps p.tables e below (s₁.setTop (mkF m 8 #[.val (.int p0), .val (.int p1), .unset] [(.int (p0 + (p0 / (8 : Int32)))), (.int (28 : Int32))])) _
        refine XS.iconst X0.here hx rfl (hb hby d2_8) ?_
        show Steps p.tables e below (s₁.setTop (mkF m 9 #[.val (.int p0), .val (.int p1), .unset] [(.int (2 : Int32)), (.int (p0 + (p0 / (8 : Int32)))), (.int (28 : Int32))])) _
        refine iremM (g := (mkF m 9 #[.val (.int p0), .val (.int p1), .unset] [(.int (2 : Int32)), (.int (p0 + (p0 / (8 : Int32)))), (.int (28 : Int32))])) X0 hx rfl (hb hby d2_9) rfl (by decide) ?_
        show Steps p.tables e below (s₁.setTop (mkF m 10 #[.val (.int p0), .val (.int p1), .unset] [(.int ((p0 + (p0 / (8 : Int32))) % (2 : Int32))), (.int (28 : Int32))])) _
        refine XS.iadd X0.here hx rfl (hb hby d2_10) rfl ?_
        show Steps p.tables e below (s₁.setTop (mkF m 11 #[.val (.int p0), .val (.int p1), .unset] [(.int ((28 : Int32) + ((p0 + (p0 / (8 : Int32))) % (2 : Int32))))])) _
        refine XS.iconst X0.here hx rfl (hb hby d2_11) ?_
        show Steps p.tables e below (s₁.setTop (mkF m 12 #[.val (.int p0), .val (.int p1), .unset] [(.int (2 : Int32)), (.int ((28 : Int32) + ((p0 + (p0 / (8 : Int32))) % (2 : Int32))))])) _
        refine XS.iloadN X0.here hx rfl (hb hby d2_12) rfl ?_
        show Steps p.tables e below (s₁.setTop (mkF m 13 #[.val (.int p0), .val (.int p1), .unset] [(.int p0), (.int (2 : Int32)), (.int ((28 : Int32) + ((p0 + (p0 / (8 : Int32))) % (2 : Int32))))])) _
        refine iremM (g := (mkF m 13 #[.val (.int p0), .val (.int p1), .unset] [(.int p0), (.int (2 : Int32)), (.int ((28 : Int32) + ((p0 + (p0 / (8 : Int32))) % (2 : Int32))))])) X0 hx rfl (hb hby d2_13) rfl hp0 ?_
        show Steps p.tables e below (s₁.setTop (mkF m 14 #[.val (.int p0), .val (.int p1), .unset] [(.int ((2 : Int32) % p0)), (.int ((28 : Int32) + ((p0 + (p0 / (8 : Int32))) % (2 : Int32))))])) _
        refine XS.iadd X0.here hx rfl (hb hby d2_14) rfl ?_
        show Steps p.tables e below (s₁.setTop (mkF m 15 #[.val (.int p0), .val (.int p1), .unset] [(.int (((28 : Int32) + ((p0 + (p0 / (8 : Int32))) % (2 : Int32))) + ((2 : Int32) % p0)))])) _
        refine XS.iconst X0.here hx rfl (hb hby d2_15) ?_
        show Steps p.tables e below (s₁.setTop (mkF m 16 #[.val (.int p0), .val (.int p1), .unset] [(.int (2 : Int32)), (.int (((28 : Int32) + ((p0 + (p0 / (8 : Int32))) % (2 : Int32))) + ((2 : Int32) % p0)))])) _
        refine XS.iconst X0.here hx rfl (hb hby d2_16) ?_
        show Steps p.tables e below (s₁.setTop (mkF m 17 #[.val (.int p0), .val (.int p1), .unset] [(.int (1 : Int32)), (.int (2 : Int32)), (.int (((28 : Int32) + ((p0 + (p0 / (8 : Int32))) % (2 : Int32))) + ((2 : Int32) % p0)))])) _
        refine XS.iloadN X0.here hx rfl (hb hby d2_17) rfl ?_
        show Steps p.tables e below (s₁.setTop (mkF m 18 #[.val (.int p0), .val (.int p1), .unset] [(.int p0), (.int (1 : Int32)), (.int (2 : Int32)), (.int (((28 : Int32) + ((p0 + (p0 / (8 : Int32))) % (2 : Int32))) + ((2 : Int32) % p0)))])) _
        refine XS.idiv X0.here hx rfl (hb hby d2_18) rfl hp0 ?_
        show Steps p.tables e below (s₁.setTop (mkF m 19 #[.val (.int p0), .val (.int p1), .unset] [(.int ((1 : Int32) / p0)), (.int (2 : Int32)), (.int (((28 : Int32) + ((p0 + (p0 / (8 : Int32))) % (2 : Int32))) + ((2 : Int32) % p0)))])) _
        refine XS.imul X0.here hx rfl (hb hby d2_19) rfl ?_
        show Steps p.tables e below (s₁.setTop (mkF m 20 #[.val (.int p0), .val (.int p1), .unset] [(.int ((2 : Int32) * ((1 : Int32) / p0))), (.int (((28 : Int32) + ((p0 + (p0 / (8 : Int32))) % (2 : Int32))) + ((2 : Int32) % p0)))])) _
        refine XS.iadd X0.here hx rfl (hb hby d2_20) rfl ?_
        show Steps p.tables e below (s₁.setTop (mkF m 21 #[.val (.int p0), .val (.int p1), .unset] [(.int ((((28 : Int32) + ((p0 + (p0 / (8 : Int32))) % (2 : Int32))) + ((2 : Int32) % p0)) + ((2 : Int32) * ((1 : Int32) / p0))))])) _
        refine XS.istoreN X0.here hx rfl (hb hby d2_21) rfl (l' := #[.val (.int p0), .val (.int p1), .val (.int ((((28 : Int32) + ((p0 + (p0 / (8 : Int32))) % (2 : Int32))) + ((2 : Int32) % p0)) + ((2 : Int32) * ((1 : Int32) / p0))))]) rfl ?_
        show Steps p.tables e below (s₁.setTop (mkF m 22 #[.val (.int p0), .val (.int p1), .val (.int ((((28 : Int32) + ((p0 + (p0 / (8 : Int32))) % (2 : Int32))) + ((2 : Int32) % p0)) + ((2 : Int32) * ((1 : Int32) / p0))))] [])) _
        refine XS.iloadN X0.here hx rfl (hb hby d2_22) rfl ?_
        show Steps p.tables e below (s₁.setTop (mkF m 23 #[.val (.int p0), .val (.int p1), .val (.int ((((28 : Int32) + ((p0 + (p0 / (8 : Int32))) % (2 : Int32))) + ((2 : Int32) % p0)) + ((2 : Int32) * ((1 : Int32) / p0))))] [(.int p1)])) _
        refine XS.ifNo X0.here hx rfl (hb hby d2_23) rfl ((if0 _ _).trans (feq c14).1) ?_
        show Steps p.tables e below (s₁.setTop (mkF m 26 #[.val (.int p0), .val (.int p1), .val (.int ((((28 : Int32) + ((p0 + (p0 / (8 : Int32))) % (2 : Int32))) + ((2 : Int32) % p0)) + ((2 : Int32) * ((1 : Int32) / p0))))] [])) _
        refine XS.iloadN X0.here hx rfl (hb hby d2_26) rfl ?_
        show Steps p.tables e below (s₁.setTop (mkF m 27 #[.val (.int p0), .val (.int p1), .val (.int ((((28 : Int32) + ((p0 + (p0 / (8 : Int32))) % (2 : Int32))) + ((2 : Int32) % p0)) + ((2 : Int32) * ((1 : Int32) / p0))))] [(.int p0)])) _
        refine XS.iconst X0.here hx rfl (hb hby d2_27) ?_
        show Steps p.tables e below (s₁.setTop (mkF m 28 #[.val (.int p0), .val (.int p1), .val (.int ((((28 : Int32) + ((p0 + (p0 / (8 : Int32))) % (2 : Int32))) + ((2 : Int32) % p0)) + ((2 : Int32) * ((1 : Int32) / p0))))] [(.int (2 : Int32)), (.int p0)])) _
        refine XS.icmpNo X0.here hx rfl (hb hby d2_28) rfl (teq c16).2 ?_
        show Steps p.tables e below (s₁.setTop (mkF m 31 #[.val (.int p0), .val (.int p1), .val (.int ((((28 : Int32) + ((p0 + (p0 / (8 : Int32))) % (2 : Int32))) + ((2 : Int32) % p0)) + ((2 : Int32) * ((1 : Int32) / p0))))] [])) _
        refine XS.iloadN X0.here hx rfl (hb hby d2_31) rfl ?_
        show Steps p.tables e below (s₁.setTop (mkF m 32 #[.val (.int p0), .val (.int p1), .val (.int ((((28 : Int32) + ((p0 + (p0 / (8 : Int32))) % (2 : Int32))) + ((2 : Int32) % p0)) + ((2 : Int32) * ((1 : Int32) / p0))))] [(.int ((((28 : Int32) + ((p0 + (p0 / (8 : Int32))) % (2 : Int32))) + ((2 : Int32) % p0)) + ((2 : Int32) * ((1 : Int32) / p0))))])) _
        refine XS.iconst X0.here hx rfl (hb hby d2_32) ?_
        show Steps p.tables e below (s₁.setTop (mkF m 33 #[.val (.int p0), .val (.int p1), .val (.int ((((28 : Int32) + ((p0 + (p0 / (8 : Int32))) % (2 : Int32))) + ((2 : Int32) % p0)) + ((2 : Int32) * ((1 : Int32) / p0))))] [(.int (1 : Int32)), (.int ((((28 : Int32) + ((p0 + (p0 / (8 : Int32))) % (2 : Int32))) + ((2 : Int32) % p0)) + ((2 : Int32) * ((1 : Int32) / p0))))])) _
        refine XS.iadd X0.here hx rfl (hb hby d2_33) rfl ?_
        show Steps p.tables e below (s₁.setTop (mkF m 34 #[.val (.int p0), .val (.int p1), .val (.int ((((28 : Int32) + ((p0 + (p0 / (8 : Int32))) % (2 : Int32))) + ((2 : Int32) % p0)) + ((2 : Int32) * ((1 : Int32) / p0))))] [(.int (((((28 : Int32) + ((p0 + (p0 / (8 : Int32))) % (2 : Int32))) + ((2 : Int32) % p0)) + ((2 : Int32) * ((1 : Int32) / p0))) + (1 : Int32)))])) _
        refine XS.istoreN X0.here hx rfl (hb hby d2_34) rfl (l' := #[.val (.int p0), .val (.int p1), .val (.int (((((28 : Int32) + ((p0 + (p0 / (8 : Int32))) % (2 : Int32))) + ((2 : Int32) % p0)) + ((2 : Int32) * ((1 : Int32) / p0))) + (1 : Int32)))]) rfl ?_
        show Steps p.tables e below (s₁.setTop (mkF m 35 #[.val (.int p0), .val (.int p1), .val (.int (((((28 : Int32) + ((p0 + (p0 / (8 : Int32))) % (2 : Int32))) + ((2 : Int32) % p0)) + ((2 : Int32) * ((1 : Int32) / p0))) + (1 : Int32)))] [])) _
        refine XS.iloadN X0.here hx rfl (hb hby d2_35) rfl ?_
        show Steps p.tables e below (s₁.setTop (mkF m 36 #[.val (.int p0), .val (.int p1), .val (.int (((((28 : Int32) + ((p0 + (p0 / (8 : Int32))) % (2 : Int32))) + ((2 : Int32) % p0)) + ((2 : Int32) * ((1 : Int32) / p0))) + (1 : Int32)))] [(.int (((((28 : Int32) + ((p0 + (p0 / (8 : Int32))) % (2 : Int32))) + ((2 : Int32) % p0)) + ((2 : Int32) * ((1 : Int32) / p0))) + (1 : Int32)))])) _
        exact retOut X0 hx Bd.returns rfl (Or.inl ⟨rfl, Or.inl rfl, _, rfl⟩) (hb hby d2_36) hr
      · show Q2 Z p0 p1 h0 n0 _ s₁.heap _
        rw [e0]
        exact ⟨(congrArg (fun z => some (Value.int z)) ((if_neg c14).trans ((if_pos c16).trans rfl)).symm), N0, rfl⟩
    · obtain ⟨fs, hr, hrun, hended, hW, hsame⟩ := X0.leave (v := some (.int ((((28 : Int32) + ((p0 + (p0 / (8 : Int32))) % (2 : Int32))) + ((2 : Int32) % p0)) + ((2 : Int32) * ((1 : Int32) / p0))))) (fun h => by rw [Bd.returns] at h; cases h)
      refine ⟨_, _, pre0 _ ?_, hrun, hended, _, _, rfl, ?_, ⟨_, rfl⟩, hW, hsame.mono (by decide) (by decide)⟩
      · show Steps p.tables e below (s₁.setTop (mkF m 0 #[.val (.int p0), .val (.int p1), .unset] [])) _
        refine XS.bipush X0.here hx rfl (hb hby d2_0) ?_
        show Steps p.tables e below (s₁.setTop (mkF m 2 #[.val (.int p0), .val (.int p1), .unset] [(.int (28 : Int32))])) _
        refine XS.iloadN X0.here hx rfl (hb hby d2_2) rfl ?_
        show Steps p.tables e below (s₁.setTop (mkF m 3 #[.val (.int p0), .val (.int p1), .unset] [(.int p0), (.int (28 : Int32))])) _
        refine XS.iloadN X0.here hx rfl (hb hby d2_3) rfl ?_
        show Steps p.tables e below (s₁.setTop (mkF m 4 #[.val (.int p0), .val (.int p1), .unset] [(.int p0), (.int p0), (.int (28 : Int32))])) _
        refine XS.bipush X0.here hx rfl (hb hby d2_4) ?_
        show Steps p.tables e below (s₁.setTop (mkF m 6 #[.val (.int p0), .val (.int p1), .unset] [(.int (8 : Int32)), (.int p0), (.int p0), (.int (28 : Int32))])) _
        refine XS.idiv X0.here hx rfl (hb hby d2_6) rfl (by decide) ?_
        show Steps p.tables e below (s₁.setTop (mkF m 7 #[.val (.int p0), .val (.int p1), .unset] [(.int (p0 / (8 : Int32))), (.int p0), (.int (28 : Int32))])) _
        refine XS.iadd X0.here hx rfl (hb hby d2_7) rfl ?_
        show Steps p.tables e below (s₁.setTop (mkF m 8 #[.val (.int p0), .val (.int p1), .unset] [(.int (p0 + (p0 / (8 : Int32)))), (.int (28 : Int32))])) _
        refine XS.iconst X0.here hx rfl (hb hby d2_8) ?_
        show Steps p.tables e below (s₁.setTop (mkF m 9 #[.val (.int p0), .val (.int p1), .unset] [(.int (2 : Int32)), (.int (p0 + (p0 / (8 : Int32)))), (.int (28 : Int32))])) _
        refine iremM (g := (mkF m 9 #[.val (.int p0), .val (.int p1), .unset] [(.int (2 : Int32)), (.int (p0 + (p0 / (8 : Int32)))), (.int (28 : Int32))])) X0 hx rfl (hb hby d2_9) rfl (by decide) ?_
        show Steps p.tables e below (s₁.setTop (mkF m 10 #[.val (.int p0), .val (.int p1), .unset] [(.int ((p0 + (p0 / (8 : Int32))) % (2 : Int32))), (.int (28 : Int32))])) _
        refine XS.iadd X0.here hx rfl (hb hby d2_10) rfl ?_
        show Steps p.tables e below (s₁.setTop (mkF m 11 #[.val (.int p0), .val (.int p1), .unset] [(.int ((28 : Int32) + ((p0 + (p0 / (8 : Int32))) % (2 : Int32))))])) _
        refine XS.iconst X0.here hx rfl (hb hby d2_11) ?_
        show Steps p.tables e below (s₁.setTop (mkF m 12 #[.val (.int p0), .val (.int p1), .unset] [(.int (2 : Int32)), (.int ((28 : Int32) + ((p0 + (p0 / (8 : Int32))) % (2 : Int32))))])) _
        refine XS.iloadN X0.here hx rfl (hb hby d2_12) rfl ?_
        show Steps p.tables e below (s₁.setTop (mkF m 13 #[.val (.int p0), .val (.int p1), .unset] [(.int p0), (.int (2 : Int32)), (.int ((28 : Int32) + ((p0 + (p0 / (8 : Int32))) % (2 : Int32))))])) _
        refine iremM (g := (mkF m 13 #[.val (.int p0), .val (.int p1), .unset] [(.int p0), (.int (2 : Int32)), (.int ((28 : Int32) + ((p0 + (p0 / (8 : Int32))) % (2 : Int32))))])) X0 hx rfl (hb hby d2_13) rfl hp0 ?_
        show Steps p.tables e below (s₁.setTop (mkF m 14 #[.val (.int p0), .val (.int p1), .unset] [(.int ((2 : Int32) % p0)), (.int ((28 : Int32) + ((p0 + (p0 / (8 : Int32))) % (2 : Int32))))])) _
        refine XS.iadd X0.here hx rfl (hb hby d2_14) rfl ?_
        show Steps p.tables e below (s₁.setTop (mkF m 15 #[.val (.int p0), .val (.int p1), .unset] [(.int (((28 : Int32) + ((p0 + (p0 / (8 : Int32))) % (2 : Int32))) + ((2 : Int32) % p0)))])) _
        refine XS.iconst X0.here hx rfl (hb hby d2_15) ?_
        show Steps p.tables e below (s₁.setTop (mkF m 16 #[.val (.int p0), .val (.int p1), .unset] [(.int (2 : Int32)), (.int (((28 : Int32) + ((p0 + (p0 / (8 : Int32))) % (2 : Int32))) + ((2 : Int32) % p0)))])) _
        refine XS.iconst X0.here hx rfl (hb hby d2_16) ?_
        show Steps p.tables e below (s₁.setTop (mkF m 17 #[.val (.int p0), .val (.int p1), .unset] [(.int (1 : Int32)), (.int (2 : Int32)), (.int (((28 : Int32) + ((p0 + (p0 / (8 : Int32))) % (2 : Int32))) + ((2 : Int32) % p0)))])) _
        refine XS.iloadN X0.here hx rfl (hb hby d2_17) rfl ?_
        show Steps p.tables e below (s₁.setTop (mkF m 18 #[.val (.int p0), .val (.int p1), .unset] [(.int p0), (.int (1 : Int32)), (.int (2 : Int32)), (.int (((28 : Int32) + ((p0 + (p0 / (8 : Int32))) % (2 : Int32))) + ((2 : Int32) % p0)))])) _
        refine XS.idiv X0.here hx rfl (hb hby d2_18) rfl hp0 ?_
        show Steps p.tables e below (s₁.setTop (mkF m 19 #[.val (.int p0), .val (.int p1), .unset] [(.int ((1 : Int32) / p0)), (.int (2 : Int32)), (.int (((28 : Int32) + ((p0 + (p0 / (8 : Int32))) % (2 : Int32))) + ((2 : Int32) % p0)))])) _
        refine XS.imul X0.here hx rfl (hb hby d2_19) rfl ?_
        show Steps p.tables e below (s₁.setTop (mkF m 20 #[.val (.int p0), .val (.int p1), .unset] [(.int ((2 : Int32) * ((1 : Int32) / p0))), (.int (((28 : Int32) + ((p0 + (p0 / (8 : Int32))) % (2 : Int32))) + ((2 : Int32) % p0)))])) _
        refine XS.iadd X0.here hx rfl (hb hby d2_20) rfl ?_
        show Steps p.tables e below (s₁.setTop (mkF m 21 #[.val (.int p0), .val (.int p1), .unset] [(.int ((((28 : Int32) + ((p0 + (p0 / (8 : Int32))) % (2 : Int32))) + ((2 : Int32) % p0)) + ((2 : Int32) * ((1 : Int32) / p0))))])) _
        refine XS.istoreN X0.here hx rfl (hb hby d2_21) rfl (l' := #[.val (.int p0), .val (.int p1), .val (.int ((((28 : Int32) + ((p0 + (p0 / (8 : Int32))) % (2 : Int32))) + ((2 : Int32) % p0)) + ((2 : Int32) * ((1 : Int32) / p0))))]) rfl ?_
        show Steps p.tables e below (s₁.setTop (mkF m 22 #[.val (.int p0), .val (.int p1), .val (.int ((((28 : Int32) + ((p0 + (p0 / (8 : Int32))) % (2 : Int32))) + ((2 : Int32) % p0)) + ((2 : Int32) * ((1 : Int32) / p0))))] [])) _
        refine XS.iloadN X0.here hx rfl (hb hby d2_22) rfl ?_
        show Steps p.tables e below (s₁.setTop (mkF m 23 #[.val (.int p0), .val (.int p1), .val (.int ((((28 : Int32) + ((p0 + (p0 / (8 : Int32))) % (2 : Int32))) + ((2 : Int32) % p0)) + ((2 : Int32) * ((1 : Int32) / p0))))] [(.int p1)])) _
        refine XS.ifNo X0.here hx rfl (hb hby d2_23) rfl ((if0 _ _).trans (feq c14).1) ?_
        show Steps p.tables e below (s₁.setTop (mkF m 26 #[.val (.int p0), .val (.int p1), .val (.int ((((28 : Int32) + ((p0 + (p0 / (8 : Int32))) % (2 : Int32))) + ((2 : Int32) % p0)) + ((2 : Int32) * ((1 : Int32) / p0))))] [])) _
        refine XS.iloadN X0.here hx rfl (hb hby d2_26) rfl ?_
        show Steps p.tables e below (s₁.setTop (mkF m 27 #[.val (.int p0), .val (.int p1), .val (.int ((((28 : Int32) + ((p0 + (p0 / (8 : Int32))) % (2 : Int32))) + ((2 : Int32) % p0)) + ((2 : Int32) * ((1 : Int32) / p0))))] [(.int p0)])) _
        refine XS.iconst X0.here hx rfl (hb hby d2_27) ?_
        show Steps p.tables e below (s₁.setTop (mkF m 28 #[.val (.int p0), .val (.int p1), .val (.int ((((28 : Int32) + ((p0 + (p0 / (8 : Int32))) % (2 : Int32))) + ((2 : Int32) % p0)) + ((2 : Int32) * ((1 : Int32) / p0))))] [(.int (2 : Int32)), (.int p0)])) _
        refine XS.icmpYes X0.here hx rfl (pc0 := 28) (pc' := 35) rfl (hb hby d2_28) rfl (feq c16).2 (by decide) (by decide) ?_
        show Steps p.tables e below (s₁.setTop (mkF m 35 #[.val (.int p0), .val (.int p1), .val (.int ((((28 : Int32) + ((p0 + (p0 / (8 : Int32))) % (2 : Int32))) + ((2 : Int32) % p0)) + ((2 : Int32) * ((1 : Int32) / p0))))] [])) _
        refine XS.iloadN X0.here hx rfl (hb hby d2_35) rfl ?_
        show Steps p.tables e below (s₁.setTop (mkF m 36 #[.val (.int p0), .val (.int p1), .val (.int ((((28 : Int32) + ((p0 + (p0 / (8 : Int32))) % (2 : Int32))) + ((2 : Int32) % p0)) + ((2 : Int32) * ((1 : Int32) / p0))))] [(.int ((((28 : Int32) + ((p0 + (p0 / (8 : Int32))) % (2 : Int32))) + ((2 : Int32) % p0)) + ((2 : Int32) * ((1 : Int32) / p0))))])) _
        exact retOut X0 hx Bd.returns rfl (Or.inl ⟨rfl, Or.inl rfl, _, rfl⟩) (hb hby d2_36) hr
      · show Q2 Z p0 p1 h0 n0 _ s₁.heap _
        rw [e0]
        exact ⟨(congrArg (fun z => some (Value.int z)) ((if_neg c14).trans ((if_neg c16).trans rfl)).symm), N0, rfl⟩
theorem pd_0 : parseMethodDescriptor "(IZ)I" = some ⟨[.int, .boolean], some .int⟩ := by decide +kernel
theorem pn_0 : plainName "com/example/true_witness/truewitness/datatypes/GregorianDaysInMonthPinLaw" = true := by first | (simp [plainName, overriddenIn]; done) | decide +kernel
theorem ef_0 (m : MethodId) (p0 : Int32) (p1 : Int32) : entryFrame m #[(.int p0), (.int p1)] maxLocals = mkF m 0 #[.val (.int p0), .val (.int p1), .unset, .unset, .unset] [] := by first | (simp [entryFrame, mkF, argsToLocals, Value.category, maxLocals]; done) | rfl
def Q0 (Z : State) (p0 : Int32) (p1 : Int32) (h0 : Heap) (n0 : Nat) (v : Option Value) (h : Heap) (L : List Loc) : Prop := v = some (.int (1 : Int32)) ∧ Fr n0 L ∧ h = h0
theorem own_fin0 (x : Int32) : F1 (((x &&& (2147483647 : Int32)) % (12 : Int32)) + (1 : Int32)) (0 : Int32) = F2 (((x &&& (2147483647 : Int32)) % (12 : Int32)) + (1 : Int32)) (0 : Int32) := own_twelve (P := fun t => F1 t (0 : Int32) = F2 t (0 : Int32)) (by decide +kernel) (by decide +kernel) (by decide +kernel) (by decide +kernel) (by decide +kernel) (by decide +kernel) (by decide +kernel) (by decide +kernel) (by decide +kernel) (by decide +kernel) (by decide +kernel) (by decide +kernel) (own_mon x).1 (own_mon x).2
theorem own_fin1 (x : Int32) : F1 (((x &&& (2147483647 : Int32)) % (12 : Int32)) + (1 : Int32)) (1 : Int32) = F2 (((x &&& (2147483647 : Int32)) % (12 : Int32)) + (1 : Int32)) (1 : Int32) := own_twelve (P := fun t => F1 t (1 : Int32) = F2 t (1 : Int32)) (by decide +kernel) (by decide +kernel) (by decide +kernel) (by decide +kernel) (by decide +kernel) (by decide +kernel) (by decide +kernel) (by decide +kernel) (by decide +kernel) (by decide +kernel) (by decide +kernel) (by decide +kernel) (own_mon x).1 (own_mon x).2
set_option maxRecDepth 65536 in
set_option maxHeartbeats 40000000 in
theorem rm0 (l : Launch) (Z : State) (a0 : Array Value) (hw : ∀ d ∈ tables_1, d.before a0 Z = true) (ws : List Jvm.Cond) (p0 : Int32) (p1 : Int32) (h0 : Heap) (n0 : Nat) (Z0 : n0 ≤ h0.size)  :
    MetFree l x (head1 (Jvm.Cond.code x code maxLocals ret :: ws) room_1) (fun a U => a = #[(.int p0), (.int p1)] ∧ Z.Warmed39 U.vm ∧ U.heap = h0) (fun _ _ _ _ _ => True) (fun _ U o U' => ∃ v L, o = .returned v ∧ Q0 Z p0 p1 h0 n0 v U'.heap L ∧ FrameEnd U o U' L room_1.cells room_1.slots) := by
  refine MetFree.of_bodySF (plainFor_of_name pn_0) hisR ?_
  intro p e s m args below meth c s₁ Bd hml0 hP hK
  obtain ⟨rfl, hZ, hh⟩ := hP
  have hx := Bd.exec
  have hby := Bd.bytes
  have hml : c.maxLocals = 5 := hml0
  have hown : s.vm.findClass "com/example/true_witness/truewitness/datatypes/GregorianDaysInMonthPinLaw" = some m.cls := findClass_of_methodNamed Bd.named
  have X0 : Stand p l e room_1 s m #[(.int p0), (.int p1)] below meth c s₁ [] 0 0 := Stand.of_body Bd
  have e0 : s₁.heap = h0 := by rw [← hh, Bd.state]; rfl
  have N0 := Fr.nil n0
  have pre0 : ∀ t, Steps p.tables e below (s₁.setTop (mkF m 0 #[.val (.int p0), .val (.int p1), .unset, .unset, .unset] [])) t → Steps p.tables e below (s₁.setTop (entryFrame m #[(.int p0), (.int p1)] maxLocals)) t := fun t k => castTop (ef_0 m p0 p1) k
  by_cases c19 : (p1 &&& (1 : Int32)) = (0 : Int32)
  · obtain ⟨_, _, ⟨T20, L20, k20, n20⟩, -, X20, ⟨Lc20, hQ20, l20, y20, z20⟩, st20⟩ := Jvm.LawKit.callS X0 hx (y := (⟨"com/example/true_witness/truewitness/datatypes/GregorianDays", "inMonth", "(IZ)I"⟩ : MethodName)) hown (mvT hZ (hw _ (List.mem_of_getElem? (i := 1) rfl))) (mvT hZ (hw _ (List.mem_of_getElem? (i := 2) rfl))) (mvT hZ (hw _ (List.mem_of_getElem? (i := 3) rfl))) (mvT hZ (hw _ (List.mem_of_getElem? (i := 4) rfl))) (by decide) (backOf (W := 0) (rm1 l Z a0 hw [] (((p0 &&& (2147483647 : Int32)) % (12 : Int32)) + (1 : Int32)) (0 : Int32) h0 n0 Z0 ) hZ (hw _ (List.mem_of_getElem? (i := 4) rfl)) (hw _ (List.mem_of_getElem? (i := 3) rfl)) (by decide) (by decide)) (g := (mkF m 24 #[.val (.int p0), .val (.int p1), .val (.int (((p0 &&& (2147483647 : Int32)) % (12 : Int32)) + (1 : Int32))), .val (.int (0 : Int32)), .unset] [(.int (0 : Int32)), (.int (((p0 &&& (2147483647 : Int32)) % (12 : Int32)) + (1 : Int32)))])) rfl (by rw [hml]; rfl) (argsL := [(.int (((p0 &&& (2147483647 : Int32)) % (12 : Int32)) + (1 : Int32))), (.int (0 : Int32))]) (rest := []) (lenOf pd_0 rfl) rfl (by show 2 * 0 + _ ≤ _; exact Nat.le_of_eq rfl) (hb hby at_24) (fun _ _ => ⟨rfl, e0, (by decide : 0 + 0 ≤ _), (by decide : 0 + 0 ≤ _)⟩)
    dsimp only [Pt.U, Pt.locs, Pt.cells, Pt.slots] at X20 l20 y20 z20 st20 hQ20
    subst l20 y20 z20
    obtain ⟨rfl, N20q, e20⟩ := hQ20
    have N20 := Fr.app N0 N20q
    obtain ⟨_, _, ⟨T21, L21, k21, n21⟩, -, X21, ⟨Lc21, hQ21, l21, y21, z21⟩, st21⟩ := Jvm.LawKit.callS X20 hx (y := (⟨"com/example/true_witness/truewitness/datatypes/GregorianDaysInMonthPinLaw", "reference", "(IZ)I"⟩ : MethodName)) hown (mvT hZ (hw _ (List.mem_of_getElem? (i := 5) rfl))) (mvT hZ (hw _ (List.mem_of_getElem? (i := 6) rfl))) (mvT hZ (hw _ (List.mem_of_getElem? (i := 7) rfl))) (mvT hZ (hw _ (List.mem_of_getElem? (i := 8) rfl))) (by decide) (backOf (W := 1) (rm2 l Z a0 hw [] (((p0 &&& (2147483647 : Int32)) % (12 : Int32)) + (1 : Int32)) (0 : Int32) h0 n0 Z0 (own_nz p0)) hZ (hw _ (List.mem_of_getElem? (i := 8) rfl)) (hw _ (List.mem_of_getElem? (i := 7) rfl)) (by decide) (by decide)) (g := (mkF m 33 #[.val (.int p0), .val (.int p1), .val (.int (((p0 &&& (2147483647 : Int32)) % (12 : Int32)) + (1 : Int32))), .val (.int (0 : Int32)), .val (.int (F1 (((p0 &&& (2147483647 : Int32)) % (12 : Int32)) + (1 : Int32)) (0 : Int32)))] [(.int (0 : Int32)), (.int (((p0 &&& (2147483647 : Int32)) % (12 : Int32)) + (1 : Int32))), (.int (F1 (((p0 &&& (2147483647 : Int32)) % (12 : Int32)) + (1 : Int32)) (0 : Int32)))])) rfl (by rw [hml]; rfl) (argsL := [(.int (((p0 &&& (2147483647 : Int32)) % (12 : Int32)) + (1 : Int32))), (.int (0 : Int32))]) (rest := [(.int (F1 (((p0 &&& (2147483647 : Int32)) % (12 : Int32)) + (1 : Int32)) (0 : Int32)))]) (lenOf pd_0 rfl) rfl (by show 2 * 0 + _ ≤ _; exact Nat.le_of_eq rfl) (hb hby at_33) (fun _ _ => ⟨rfl, e20, (by decide : 0 + 0 ≤ _), (by decide : 0 + 0 ≤ _)⟩)
    dsimp only [Pt.U, Pt.locs, Pt.cells, Pt.slots] at X21 l21 y21 z21 st21 hQ21
    subst l21 y21 z21
    obtain ⟨rfl, N21q, e21⟩ := hQ21
    have N21 := Fr.app N20 N21q
    obtain ⟨fs, hr, hrun, hended, hW, hsame⟩ := X21.leave (v := some (.int (1 : Int32))) (fun h => by rw [Bd.returns] at h; cases h)
    refine ⟨_, _, pre0 _ ?_, hrun, hended, _, _, rfl, ?_, ⟨_, rfl⟩, hW, hsame.mono (by decide) (by decide)⟩
    · show Steps p.tables e below (s₁.setTop (mkF m 0 #[.val (.int p0), .val (.int p1), .unset, .unset, .unset] [])) _
      refine XS.iloadN X0.here hx rfl (hb hby at_0) rfl ?_
      show Steps p.tables e below (s₁.setTop (mkF m 1 #[.val (.int p0), .val (.int p1), .unset, .unset, .unset] [(.int p0)])) _
      refine X0.ldcInt hx hown (mvT hZ (hw _ (List.mem_of_getElem? (i := 0) rfl))) (g := (mkF m 1 #[.val (.int p0), .val (.int p1), .unset, .unset, .unset] [(.int p0)])) rfl (hb hby at_1) _ ?_
      show Steps p.tables e below (s₁.setTop (mkF m 3 #[.val (.int p0), .val (.int p1), .unset, .unset, .unset] [(.int (2147483647 : Int32)), (.int p0)])) _
      refine XS.iand X0.here hx rfl (hb hby at_3) rfl ?_
      show Steps p.tables e below (s₁.setTop (mkF m 4 #[.val (.int p0), .val (.int p1), .unset, .unset, .unset] [(.int (p0 &&& (2147483647 : Int32)))])) _
      refine XS.bipush X0.here hx rfl (hb hby at_4) ?_
      show Steps p.tables e below (s₁.setTop (mkF m 6 #[.val (.int p0), .val (.int p1), .unset, .unset, .unset] [(.int (12 : Int32)), (.int (p0 &&& (2147483647 : Int32)))])) _
      refine iremM (g := (mkF m 6 #[.val (.int p0), .val (.int p1), .unset, .unset, .unset] [(.int (12 : Int32)), (.int (p0 &&& (2147483647 : Int32)))])) X0 hx rfl (hb hby at_6) rfl (by decide) ?_
      show Steps p.tables e below (s₁.setTop (mkF m 7 #[.val (.int p0), .val (.int p1), .unset, .unset, .unset] [(.int ((p0 &&& (2147483647 : Int32)) % (12 : Int32)))])) _
      refine XS.iconst X0.here hx rfl (hb hby at_7) ?_
      show Steps p.tables e below (s₁.setTop (mkF m 8 #[.val (.int p0), .val (.int p1), .unset, .unset, .unset] [(.int (1 : Int32)), (.int ((p0 &&& (2147483647 : Int32)) % (12 : Int32)))])) _
      refine XS.iadd X0.here hx rfl (hb hby at_8) rfl ?_
      show Steps p.tables e below (s₁.setTop (mkF m 9 #[.val (.int p0), .val (.int p1), .unset, .unset, .unset] [(.int (((p0 &&& (2147483647 : Int32)) % (12 : Int32)) + (1 : Int32)))])) _
      refine XS.istoreN X0.here hx rfl (hb hby at_9) rfl (l' := #[.val (.int p0), .val (.int p1), .val (.int (((p0 &&& (2147483647 : Int32)) % (12 : Int32)) + (1 : Int32))), .unset, .unset]) rfl ?_
      show Steps p.tables e below (s₁.setTop (mkF m 10 #[.val (.int p0), .val (.int p1), .val (.int (((p0 &&& (2147483647 : Int32)) % (12 : Int32)) + (1 : Int32))), .unset, .unset] [])) _
      refine XS.iloadN X0.here hx rfl (hb hby at_10) rfl ?_
      show Steps p.tables e below (s₁.setTop (mkF m 11 #[.val (.int p0), .val (.int p1), .val (.int (((p0 &&& (2147483647 : Int32)) % (12 : Int32)) + (1 : Int32))), .unset, .unset] [(.int p1)])) _
      refine XS.iconst X0.here hx rfl (hb hby at_11) ?_
      show Steps p.tables e below (s₁.setTop (mkF m 12 #[.val (.int p0), .val (.int p1), .val (.int (((p0 &&& (2147483647 : Int32)) % (12 : Int32)) + (1 : Int32))), .unset, .unset] [(.int (1 : Int32)), (.int p1)])) _
      refine XS.iand X0.here hx rfl (hb hby at_12) rfl ?_
      show Steps p.tables e below (s₁.setTop (mkF m 13 #[.val (.int p0), .val (.int p1), .val (.int (((p0 &&& (2147483647 : Int32)) % (12 : Int32)) + (1 : Int32))), .unset, .unset] [(.int (p1 &&& (1 : Int32)))])) _
      refine XS.ifYes X0.here hx rfl (pc0 := 13) (pc' := 20) rfl (hb hby at_13) rfl ((if0 _ _).trans (teq c19).1) (by decide) (by decide) ?_
      show Steps p.tables e below (s₁.setTop (mkF m 20 #[.val (.int p0), .val (.int p1), .val (.int (((p0 &&& (2147483647 : Int32)) % (12 : Int32)) + (1 : Int32))), .unset, .unset] [])) _
      refine XS.iconst X0.here hx rfl (hb hby at_20) ?_
      show Steps p.tables e below (s₁.setTop (mkF m 21 #[.val (.int p0), .val (.int p1), .val (.int (((p0 &&& (2147483647 : Int32)) % (12 : Int32)) + (1 : Int32))), .unset, .unset] [(.int (0 : Int32))])) _
      refine XS.istoreN X0.here hx rfl (hb hby at_21) rfl (l' := #[.val (.int p0), .val (.int p1), .val (.int (((p0 &&& (2147483647 : Int32)) % (12 : Int32)) + (1 : Int32))), .val (.int (0 : Int32)), .unset]) rfl ?_
      show Steps p.tables e below (s₁.setTop (mkF m 22 #[.val (.int p0), .val (.int p1), .val (.int (((p0 &&& (2147483647 : Int32)) % (12 : Int32)) + (1 : Int32))), .val (.int (0 : Int32)), .unset] [])) _
      refine XS.iloadN X0.here hx rfl (hb hby at_22) rfl ?_
      show Steps p.tables e below (s₁.setTop (mkF m 23 #[.val (.int p0), .val (.int p1), .val (.int (((p0 &&& (2147483647 : Int32)) % (12 : Int32)) + (1 : Int32))), .val (.int (0 : Int32)), .unset] [(.int (((p0 &&& (2147483647 : Int32)) % (12 : Int32)) + (1 : Int32)))])) _
      refine XS.iloadN X0.here hx rfl (hb hby at_23) rfl ?_
      show Steps p.tables e below (s₁.setTop (mkF m 24 #[.val (.int p0), .val (.int p1), .val (.int (((p0 &&& (2147483647 : Int32)) % (12 : Int32)) + (1 : Int32))), .val (.int (0 : Int32)), .unset] [(.int (0 : Int32)), (.int (((p0 &&& (2147483647 : Int32)) % (12 : Int32)) + (1 : Int32)))])) _
      refine st20 _ ?_
      show Steps p.tables e below (T20.setTop (mkF m 27 #[.val (.int p0), .val (.int p1), .val (.int (((p0 &&& (2147483647 : Int32)) % (12 : Int32)) + (1 : Int32))), .val (.int (0 : Int32)), .unset] [(.int (F1 (((p0 &&& (2147483647 : Int32)) % (12 : Int32)) + (1 : Int32)) (0 : Int32)))])) _
      refine XS.istore X20.here hx rfl (hb hby at_27) rfl (l' := #[.val (.int p0), .val (.int p1), .val (.int (((p0 &&& (2147483647 : Int32)) % (12 : Int32)) + (1 : Int32))), .val (.int (0 : Int32)), .val (.int (F1 (((p0 &&& (2147483647 : Int32)) % (12 : Int32)) + (1 : Int32)) (0 : Int32)))]) rfl ?_
      show Steps p.tables e below (T20.setTop (mkF m 29 #[.val (.int p0), .val (.int p1), .val (.int (((p0 &&& (2147483647 : Int32)) % (12 : Int32)) + (1 : Int32))), .val (.int (0 : Int32)), .val (.int (F1 (((p0 &&& (2147483647 : Int32)) % (12 : Int32)) + (1 : Int32)) (0 : Int32)))] [])) _
      refine XS.iload X20.here hx rfl (hb hby at_29) rfl ?_
      show Steps p.tables e below (T20.setTop (mkF m 31 #[.val (.int p0), .val (.int p1), .val (.int (((p0 &&& (2147483647 : Int32)) % (12 : Int32)) + (1 : Int32))), .val (.int (0 : Int32)), .val (.int (F1 (((p0 &&& (2147483647 : Int32)) % (12 : Int32)) + (1 : Int32)) (0 : Int32)))] [(.int (F1 (((p0 &&& (2147483647 : Int32)) % (12 : Int32)) + (1 : Int32)) (0 : Int32)))])) _
      refine XS.iloadN X20.here hx rfl (hb hby at_31) rfl ?_
      show Steps p.tables e below (T20.setTop (mkF m 32 #[.val (.int p0), .val (.int p1), .val (.int (((p0 &&& (2147483647 : Int32)) % (12 : Int32)) + (1 : Int32))), .val (.int (0 : Int32)), .val (.int (F1 (((p0 &&& (2147483647 : Int32)) % (12 : Int32)) + (1 : Int32)) (0 : Int32)))] [(.int (((p0 &&& (2147483647 : Int32)) % (12 : Int32)) + (1 : Int32))), (.int (F1 (((p0 &&& (2147483647 : Int32)) % (12 : Int32)) + (1 : Int32)) (0 : Int32)))])) _
      refine XS.iloadN X20.here hx rfl (hb hby at_32) rfl ?_
      show Steps p.tables e below (T20.setTop (mkF m 33 #[.val (.int p0), .val (.int p1), .val (.int (((p0 &&& (2147483647 : Int32)) % (12 : Int32)) + (1 : Int32))), .val (.int (0 : Int32)), .val (.int (F1 (((p0 &&& (2147483647 : Int32)) % (12 : Int32)) + (1 : Int32)) (0 : Int32)))] [(.int (0 : Int32)), (.int (((p0 &&& (2147483647 : Int32)) % (12 : Int32)) + (1 : Int32))), (.int (F1 (((p0 &&& (2147483647 : Int32)) % (12 : Int32)) + (1 : Int32)) (0 : Int32)))])) _
      refine st21 _ ?_
      show Steps p.tables e below (T21.setTop (mkF m 36 #[.val (.int p0), .val (.int p1), .val (.int (((p0 &&& (2147483647 : Int32)) % (12 : Int32)) + (1 : Int32))), .val (.int (0 : Int32)), .val (.int (F1 (((p0 &&& (2147483647 : Int32)) % (12 : Int32)) + (1 : Int32)) (0 : Int32)))] [(.int (F2 (((p0 &&& (2147483647 : Int32)) % (12 : Int32)) + (1 : Int32)) (0 : Int32))), (.int (F1 (((p0 &&& (2147483647 : Int32)) % (12 : Int32)) + (1 : Int32)) (0 : Int32)))])) _
      refine XS.icmpNo X21.here hx rfl (hb hby at_36) rfl (teq (own_fin0 p0 : (F1 (((p0 &&& (2147483647 : Int32)) % (12 : Int32)) + (1 : Int32)) (0 : Int32)) = (F2 (((p0 &&& (2147483647 : Int32)) % (12 : Int32)) + (1 : Int32)) (0 : Int32)))).2 ?_
      show Steps p.tables e below (T21.setTop (mkF m 39 #[.val (.int p0), .val (.int p1), .val (.int (((p0 &&& (2147483647 : Int32)) % (12 : Int32)) + (1 : Int32))), .val (.int (0 : Int32)), .val (.int (F1 (((p0 &&& (2147483647 : Int32)) % (12 : Int32)) + (1 : Int32)) (0 : Int32)))] [])) _
      refine XS.iconst X21.here hx rfl (hb hby at_39) ?_
      show Steps p.tables e below (T21.setTop (mkF m 40 #[.val (.int p0), .val (.int p1), .val (.int (((p0 &&& (2147483647 : Int32)) % (12 : Int32)) + (1 : Int32))), .val (.int (0 : Int32)), .val (.int (F1 (((p0 &&& (2147483647 : Int32)) % (12 : Int32)) + (1 : Int32)) (0 : Int32)))] [(.int (1 : Int32))])) _
      refine XS.goto X21.here hx rfl (pc0 := 40) (pc' := 44) rfl (hb hby at_40) (by decide) (by decide) ?_
      show Steps p.tables e below (T21.setTop (mkF m 44 #[.val (.int p0), .val (.int p1), .val (.int (((p0 &&& (2147483647 : Int32)) % (12 : Int32)) + (1 : Int32))), .val (.int (0 : Int32)), .val (.int (F1 (((p0 &&& (2147483647 : Int32)) % (12 : Int32)) + (1 : Int32)) (0 : Int32)))] [(.int (1 : Int32))])) _
      exact retN X21 hx (t := .boolean) Bd.returns (by simp) (hb hby at_44) hr
    · show Q0 Z p0 p1 h0 n0 _ T21.heap _
      rw [e21]
      exact ⟨rfl, N21, rfl⟩
  · obtain ⟨_, _, ⟨T23, L23, k23, n23⟩, -, X23, ⟨Lc23, hQ23, l23, y23, z23⟩, st23⟩ := Jvm.LawKit.callS X0 hx (y := (⟨"com/example/true_witness/truewitness/datatypes/GregorianDays", "inMonth", "(IZ)I"⟩ : MethodName)) hown (mvT hZ (hw _ (List.mem_of_getElem? (i := 1) rfl))) (mvT hZ (hw _ (List.mem_of_getElem? (i := 2) rfl))) (mvT hZ (hw _ (List.mem_of_getElem? (i := 3) rfl))) (mvT hZ (hw _ (List.mem_of_getElem? (i := 4) rfl))) (by decide) (backOf (W := 0) (rm1 l Z a0 hw [] (((p0 &&& (2147483647 : Int32)) % (12 : Int32)) + (1 : Int32)) (1 : Int32) h0 n0 Z0 ) hZ (hw _ (List.mem_of_getElem? (i := 4) rfl)) (hw _ (List.mem_of_getElem? (i := 3) rfl)) (by decide) (by decide)) (g := (mkF m 24 #[.val (.int p0), .val (.int p1), .val (.int (((p0 &&& (2147483647 : Int32)) % (12 : Int32)) + (1 : Int32))), .val (.int (1 : Int32)), .unset] [(.int (1 : Int32)), (.int (((p0 &&& (2147483647 : Int32)) % (12 : Int32)) + (1 : Int32)))])) rfl (by rw [hml]; rfl) (argsL := [(.int (((p0 &&& (2147483647 : Int32)) % (12 : Int32)) + (1 : Int32))), (.int (1 : Int32))]) (rest := []) (lenOf pd_0 rfl) rfl (by show 2 * 0 + _ ≤ _; exact Nat.le_of_eq rfl) (hb hby at_24) (fun _ _ => ⟨rfl, e0, (by decide : 0 + 0 ≤ _), (by decide : 0 + 0 ≤ _)⟩)
    dsimp only [Pt.U, Pt.locs, Pt.cells, Pt.slots] at X23 l23 y23 z23 st23 hQ23
    subst l23 y23 z23
    obtain ⟨rfl, N23q, e23⟩ := hQ23
    have N23 := Fr.app N0 N23q
    obtain ⟨_, _, ⟨T24, L24, k24, n24⟩, -, X24, ⟨Lc24, hQ24, l24, y24, z24⟩, st24⟩ := Jvm.LawKit.callS X23 hx (y := (⟨"com/example/true_witness/truewitness/datatypes/GregorianDaysInMonthPinLaw", "reference", "(IZ)I"⟩ : MethodName)) hown (mvT hZ (hw _ (List.mem_of_getElem? (i := 5) rfl))) (mvT hZ (hw _ (List.mem_of_getElem? (i := 6) rfl))) (mvT hZ (hw _ (List.mem_of_getElem? (i := 7) rfl))) (mvT hZ (hw _ (List.mem_of_getElem? (i := 8) rfl))) (by decide) (backOf (W := 1) (rm2 l Z a0 hw [] (((p0 &&& (2147483647 : Int32)) % (12 : Int32)) + (1 : Int32)) (1 : Int32) h0 n0 Z0 (own_nz p0)) hZ (hw _ (List.mem_of_getElem? (i := 8) rfl)) (hw _ (List.mem_of_getElem? (i := 7) rfl)) (by decide) (by decide)) (g := (mkF m 33 #[.val (.int p0), .val (.int p1), .val (.int (((p0 &&& (2147483647 : Int32)) % (12 : Int32)) + (1 : Int32))), .val (.int (1 : Int32)), .val (.int (F1 (((p0 &&& (2147483647 : Int32)) % (12 : Int32)) + (1 : Int32)) (1 : Int32)))] [(.int (1 : Int32)), (.int (((p0 &&& (2147483647 : Int32)) % (12 : Int32)) + (1 : Int32))), (.int (F1 (((p0 &&& (2147483647 : Int32)) % (12 : Int32)) + (1 : Int32)) (1 : Int32)))])) rfl (by rw [hml]; rfl) (argsL := [(.int (((p0 &&& (2147483647 : Int32)) % (12 : Int32)) + (1 : Int32))), (.int (1 : Int32))]) (rest := [(.int (F1 (((p0 &&& (2147483647 : Int32)) % (12 : Int32)) + (1 : Int32)) (1 : Int32)))]) (lenOf pd_0 rfl) rfl (by show 2 * 0 + _ ≤ _; exact Nat.le_of_eq rfl) (hb hby at_33) (fun _ _ => ⟨rfl, e23, (by decide : 0 + 0 ≤ _), (by decide : 0 + 0 ≤ _)⟩)
    dsimp only [Pt.U, Pt.locs, Pt.cells, Pt.slots] at X24 l24 y24 z24 st24 hQ24
    subst l24 y24 z24
    obtain ⟨rfl, N24q, e24⟩ := hQ24
    have N24 := Fr.app N23 N24q
    obtain ⟨fs, hr, hrun, hended, hW, hsame⟩ := X24.leave (v := some (.int (1 : Int32))) (fun h => by rw [Bd.returns] at h; cases h)
    refine ⟨_, _, pre0 _ ?_, hrun, hended, _, _, rfl, ?_, ⟨_, rfl⟩, hW, hsame.mono (by decide) (by decide)⟩
    · show Steps p.tables e below (s₁.setTop (mkF m 0 #[.val (.int p0), .val (.int p1), .unset, .unset, .unset] [])) _
      refine XS.iloadN X0.here hx rfl (hb hby at_0) rfl ?_
      show Steps p.tables e below (s₁.setTop (mkF m 1 #[.val (.int p0), .val (.int p1), .unset, .unset, .unset] [(.int p0)])) _
      refine X0.ldcInt hx hown (mvT hZ (hw _ (List.mem_of_getElem? (i := 0) rfl))) (g := (mkF m 1 #[.val (.int p0), .val (.int p1), .unset, .unset, .unset] [(.int p0)])) rfl (hb hby at_1) _ ?_
      show Steps p.tables e below (s₁.setTop (mkF m 3 #[.val (.int p0), .val (.int p1), .unset, .unset, .unset] [(.int (2147483647 : Int32)), (.int p0)])) _
      refine XS.iand X0.here hx rfl (hb hby at_3) rfl ?_
      show Steps p.tables e below (s₁.setTop (mkF m 4 #[.val (.int p0), .val (.int p1), .unset, .unset, .unset] [(.int (p0 &&& (2147483647 : Int32)))])) _
      refine XS.bipush X0.here hx rfl (hb hby at_4) ?_
      show Steps p.tables e below (s₁.setTop (mkF m 6 #[.val (.int p0), .val (.int p1), .unset, .unset, .unset] [(.int (12 : Int32)), (.int (p0 &&& (2147483647 : Int32)))])) _
      refine iremM (g := (mkF m 6 #[.val (.int p0), .val (.int p1), .unset, .unset, .unset] [(.int (12 : Int32)), (.int (p0 &&& (2147483647 : Int32)))])) X0 hx rfl (hb hby at_6) rfl (by decide) ?_
      show Steps p.tables e below (s₁.setTop (mkF m 7 #[.val (.int p0), .val (.int p1), .unset, .unset, .unset] [(.int ((p0 &&& (2147483647 : Int32)) % (12 : Int32)))])) _
      refine XS.iconst X0.here hx rfl (hb hby at_7) ?_
      show Steps p.tables e below (s₁.setTop (mkF m 8 #[.val (.int p0), .val (.int p1), .unset, .unset, .unset] [(.int (1 : Int32)), (.int ((p0 &&& (2147483647 : Int32)) % (12 : Int32)))])) _
      refine XS.iadd X0.here hx rfl (hb hby at_8) rfl ?_
      show Steps p.tables e below (s₁.setTop (mkF m 9 #[.val (.int p0), .val (.int p1), .unset, .unset, .unset] [(.int (((p0 &&& (2147483647 : Int32)) % (12 : Int32)) + (1 : Int32)))])) _
      refine XS.istoreN X0.here hx rfl (hb hby at_9) rfl (l' := #[.val (.int p0), .val (.int p1), .val (.int (((p0 &&& (2147483647 : Int32)) % (12 : Int32)) + (1 : Int32))), .unset, .unset]) rfl ?_
      show Steps p.tables e below (s₁.setTop (mkF m 10 #[.val (.int p0), .val (.int p1), .val (.int (((p0 &&& (2147483647 : Int32)) % (12 : Int32)) + (1 : Int32))), .unset, .unset] [])) _
      refine XS.iloadN X0.here hx rfl (hb hby at_10) rfl ?_
      show Steps p.tables e below (s₁.setTop (mkF m 11 #[.val (.int p0), .val (.int p1), .val (.int (((p0 &&& (2147483647 : Int32)) % (12 : Int32)) + (1 : Int32))), .unset, .unset] [(.int p1)])) _
      refine XS.iconst X0.here hx rfl (hb hby at_11) ?_
      show Steps p.tables e below (s₁.setTop (mkF m 12 #[.val (.int p0), .val (.int p1), .val (.int (((p0 &&& (2147483647 : Int32)) % (12 : Int32)) + (1 : Int32))), .unset, .unset] [(.int (1 : Int32)), (.int p1)])) _
      refine XS.iand X0.here hx rfl (hb hby at_12) rfl ?_
      show Steps p.tables e below (s₁.setTop (mkF m 13 #[.val (.int p0), .val (.int p1), .val (.int (((p0 &&& (2147483647 : Int32)) % (12 : Int32)) + (1 : Int32))), .unset, .unset] [(.int (p1 &&& (1 : Int32)))])) _
      refine XS.ifNo X0.here hx rfl (hb hby at_13) rfl ((if0 _ _).trans (feq c19).1) ?_
      show Steps p.tables e below (s₁.setTop (mkF m 16 #[.val (.int p0), .val (.int p1), .val (.int (((p0 &&& (2147483647 : Int32)) % (12 : Int32)) + (1 : Int32))), .unset, .unset] [])) _
      refine XS.iconst X0.here hx rfl (hb hby at_16) ?_
      show Steps p.tables e below (s₁.setTop (mkF m 17 #[.val (.int p0), .val (.int p1), .val (.int (((p0 &&& (2147483647 : Int32)) % (12 : Int32)) + (1 : Int32))), .unset, .unset] [(.int (1 : Int32))])) _
      refine XS.goto X0.here hx rfl (pc0 := 17) (pc' := 21) rfl (hb hby at_17) (by decide) (by decide) ?_
      show Steps p.tables e below (s₁.setTop (mkF m 21 #[.val (.int p0), .val (.int p1), .val (.int (((p0 &&& (2147483647 : Int32)) % (12 : Int32)) + (1 : Int32))), .unset, .unset] [(.int (1 : Int32))])) _
      refine XS.istoreN X0.here hx rfl (hb hby at_21) rfl (l' := #[.val (.int p0), .val (.int p1), .val (.int (((p0 &&& (2147483647 : Int32)) % (12 : Int32)) + (1 : Int32))), .val (.int (1 : Int32)), .unset]) rfl ?_
      show Steps p.tables e below (s₁.setTop (mkF m 22 #[.val (.int p0), .val (.int p1), .val (.int (((p0 &&& (2147483647 : Int32)) % (12 : Int32)) + (1 : Int32))), .val (.int (1 : Int32)), .unset] [])) _
      refine XS.iloadN X0.here hx rfl (hb hby at_22) rfl ?_
      show Steps p.tables e below (s₁.setTop (mkF m 23 #[.val (.int p0), .val (.int p1), .val (.int (((p0 &&& (2147483647 : Int32)) % (12 : Int32)) + (1 : Int32))), .val (.int (1 : Int32)), .unset] [(.int (((p0 &&& (2147483647 : Int32)) % (12 : Int32)) + (1 : Int32)))])) _
      refine XS.iloadN X0.here hx rfl (hb hby at_23) rfl ?_
      show Steps p.tables e below (s₁.setTop (mkF m 24 #[.val (.int p0), .val (.int p1), .val (.int (((p0 &&& (2147483647 : Int32)) % (12 : Int32)) + (1 : Int32))), .val (.int (1 : Int32)), .unset] [(.int (1 : Int32)), (.int (((p0 &&& (2147483647 : Int32)) % (12 : Int32)) + (1 : Int32)))])) _
      refine st23 _ ?_
      show Steps p.tables e below (T23.setTop (mkF m 27 #[.val (.int p0), .val (.int p1), .val (.int (((p0 &&& (2147483647 : Int32)) % (12 : Int32)) + (1 : Int32))), .val (.int (1 : Int32)), .unset] [(.int (F1 (((p0 &&& (2147483647 : Int32)) % (12 : Int32)) + (1 : Int32)) (1 : Int32)))])) _
      refine XS.istore X23.here hx rfl (hb hby at_27) rfl (l' := #[.val (.int p0), .val (.int p1), .val (.int (((p0 &&& (2147483647 : Int32)) % (12 : Int32)) + (1 : Int32))), .val (.int (1 : Int32)), .val (.int (F1 (((p0 &&& (2147483647 : Int32)) % (12 : Int32)) + (1 : Int32)) (1 : Int32)))]) rfl ?_
      show Steps p.tables e below (T23.setTop (mkF m 29 #[.val (.int p0), .val (.int p1), .val (.int (((p0 &&& (2147483647 : Int32)) % (12 : Int32)) + (1 : Int32))), .val (.int (1 : Int32)), .val (.int (F1 (((p0 &&& (2147483647 : Int32)) % (12 : Int32)) + (1 : Int32)) (1 : Int32)))] [])) _
      refine XS.iload X23.here hx rfl (hb hby at_29) rfl ?_
      show Steps p.tables e below (T23.setTop (mkF m 31 #[.val (.int p0), .val (.int p1), .val (.int (((p0 &&& (2147483647 : Int32)) % (12 : Int32)) + (1 : Int32))), .val (.int (1 : Int32)), .val (.int (F1 (((p0 &&& (2147483647 : Int32)) % (12 : Int32)) + (1 : Int32)) (1 : Int32)))] [(.int (F1 (((p0 &&& (2147483647 : Int32)) % (12 : Int32)) + (1 : Int32)) (1 : Int32)))])) _
      refine XS.iloadN X23.here hx rfl (hb hby at_31) rfl ?_
      show Steps p.tables e below (T23.setTop (mkF m 32 #[.val (.int p0), .val (.int p1), .val (.int (((p0 &&& (2147483647 : Int32)) % (12 : Int32)) + (1 : Int32))), .val (.int (1 : Int32)), .val (.int (F1 (((p0 &&& (2147483647 : Int32)) % (12 : Int32)) + (1 : Int32)) (1 : Int32)))] [(.int (((p0 &&& (2147483647 : Int32)) % (12 : Int32)) + (1 : Int32))), (.int (F1 (((p0 &&& (2147483647 : Int32)) % (12 : Int32)) + (1 : Int32)) (1 : Int32)))])) _
      refine XS.iloadN X23.here hx rfl (hb hby at_32) rfl ?_
      show Steps p.tables e below (T23.setTop (mkF m 33 #[.val (.int p0), .val (.int p1), .val (.int (((p0 &&& (2147483647 : Int32)) % (12 : Int32)) + (1 : Int32))), .val (.int (1 : Int32)), .val (.int (F1 (((p0 &&& (2147483647 : Int32)) % (12 : Int32)) + (1 : Int32)) (1 : Int32)))] [(.int (1 : Int32)), (.int (((p0 &&& (2147483647 : Int32)) % (12 : Int32)) + (1 : Int32))), (.int (F1 (((p0 &&& (2147483647 : Int32)) % (12 : Int32)) + (1 : Int32)) (1 : Int32)))])) _
      refine st24 _ ?_
      show Steps p.tables e below (T24.setTop (mkF m 36 #[.val (.int p0), .val (.int p1), .val (.int (((p0 &&& (2147483647 : Int32)) % (12 : Int32)) + (1 : Int32))), .val (.int (1 : Int32)), .val (.int (F1 (((p0 &&& (2147483647 : Int32)) % (12 : Int32)) + (1 : Int32)) (1 : Int32)))] [(.int (F2 (((p0 &&& (2147483647 : Int32)) % (12 : Int32)) + (1 : Int32)) (1 : Int32))), (.int (F1 (((p0 &&& (2147483647 : Int32)) % (12 : Int32)) + (1 : Int32)) (1 : Int32)))])) _
      refine XS.icmpNo X24.here hx rfl (hb hby at_36) rfl (teq (own_fin1 p0 : (F1 (((p0 &&& (2147483647 : Int32)) % (12 : Int32)) + (1 : Int32)) (1 : Int32)) = (F2 (((p0 &&& (2147483647 : Int32)) % (12 : Int32)) + (1 : Int32)) (1 : Int32)))).2 ?_
      show Steps p.tables e below (T24.setTop (mkF m 39 #[.val (.int p0), .val (.int p1), .val (.int (((p0 &&& (2147483647 : Int32)) % (12 : Int32)) + (1 : Int32))), .val (.int (1 : Int32)), .val (.int (F1 (((p0 &&& (2147483647 : Int32)) % (12 : Int32)) + (1 : Int32)) (1 : Int32)))] [])) _
      refine XS.iconst X24.here hx rfl (hb hby at_39) ?_
      show Steps p.tables e below (T24.setTop (mkF m 40 #[.val (.int p0), .val (.int p1), .val (.int (((p0 &&& (2147483647 : Int32)) % (12 : Int32)) + (1 : Int32))), .val (.int (1 : Int32)), .val (.int (F1 (((p0 &&& (2147483647 : Int32)) % (12 : Int32)) + (1 : Int32)) (1 : Int32)))] [(.int (1 : Int32))])) _
      refine XS.goto X24.here hx rfl (pc0 := 40) (pc' := 44) rfl (hb hby at_40) (by decide) (by decide) ?_
      show Steps p.tables e below (T24.setTop (mkF m 44 #[.val (.int p0), .val (.int p1), .val (.int (((p0 &&& (2147483647 : Int32)) % (12 : Int32)) + (1 : Int32))), .val (.int (1 : Int32)), .val (.int (F1 (((p0 &&& (2147483647 : Int32)) % (12 : Int32)) + (1 : Int32)) (1 : Int32)))] [(.int (1 : Int32))])) _
      exact retN X24 hx (t := .boolean) Bd.returns (by simp) (hb hby at_44) hr
    · show Q0 Z p0 p1 h0 n0 _ T24.heap _
      rw [e24]
      exact ⟨rfl, N24, rfl⟩
set_option maxRecDepth 65536 in
set_option maxHeartbeats 40000000 in
theorem comes_1 {Post : Tables → Env → Array Value → State → Outcome → State → Prop} (hpost : ∀ tb e args s v u, (limb_1_1.after args s (.returned v) u = true ∧ limb_1_2.after args s (.returned v) u = true ∧ True) → FrameEnd s (.returned v) u (Jvm.fieldLocs frame_1_writes args s ++ Jvm.arrayLocs frame_1_arrays args s ++ Jvm.staticLocs frame_1_statics s) 0 0 → Post tb e args s (.returned v) u) :
    ArmFor flags0 classFile x code maxLocals ret World_1 tables_1 room_1 Calls_1 rest_1 Pre_1 Post := by
  intro l hfl _ _ p e ha hc hk s m args below hf hA hF happ hP
  obtain ⟨hcalls, hrest, hpre⟩ := hP
  obtain ⟨-, -, -, hnamed, -, -, -, hat⟩ := (Spec.applies_iff hf).mp happ
  obtain ⟨hg, hn⟩ := and_e (Cond.before_iff.mp (show (Jvm.Cond.and given_1 narrow_1).before args s = true from hpre))
  obtain ⟨g0, r0⟩ := and_e hg
  obtain ⟨g1, r1⟩ := and_e r0
  obtain ⟨w0, w1, rfl⟩ : ∃ w0 w1 : Value, args = #[w0, w1] := by
    have hs : args.size = 2 := by simpa [Cond.value, given_1] using g0
    obtain ⟨L⟩ := args
    match L, hs with
    | [w0, w1], _ => exact ⟨w0, w1, rfl⟩
  have hw := fun d (hd : d ∈ tables_1) => atoms_spec (ws := Jvm.Cond.code x code maxLocals ret :: tables_1) hat d (List.mem_cons_of_mem _ hd)
  obtain ⟨i0, ei0⟩ := is_v g1
  obtain rfl : w0 = (.int i0) := Option.some.inj ei0
  obtain ⟨i1, ei1⟩ := is_v r1
  obtain rfl : w1 = (.int i1) := Option.some.inj ei1
  obtain ⟨n, o, h1, h2, h3, _, L, rfl, ⟨rfl, N, -⟩, hq⟩ := rm0 l s _ hw tables_1 i0 i1 s.heap s.heap.size (Nat.le_refl _)  p e ha hc hk s m _ below hf ((Spec.applies_iff_loose hf).mp happ).1 ⟨rfl, State.Warmed39.refl s, rfl⟩ trivial
  refine ⟨n, _, h1, h2, h3, hpost _ _ _ _ _ _ ⟨Cond.after_iff.mpr rfl, Cond.after_iff.mpr (eq_i res_at (Term.int_eval (1)) rfl), trivial⟩ ⟨hq.1, hq.2.1, (hq.2.2.sift fun y hy => Or.inr (N y hy)).mono (by decide) (by decide)⟩⟩
theorem main_1_1 : Claimed_1_1 := comes_1 fun _ _ _ _ _ _ h hF => ⟨h.1, hF⟩
theorem main_1_2 : Claimed_1_2 := comes_1 fun _ _ _ _ _ _ h hF => ⟨h.2.1, hF⟩
end Jvm.Pilot.@@N@@
namespace Jvm.Pilot.@@N@@
open Jvm Jvm.ClassFile Sem Op Lib Jvm.Free Jvm.Stand Jvm.Pilot.@@N@@.Jvm.D
/-! MADE BY PROGRAM (witnessworld.py) out of the Statement's table words and the real class files: 7 classes; the members and pool entries that the words name. The judged class is class 1, her method 2. -/
namespace start1
open Jvm.ClassFile
def u (s : String) : CpInfo := .utf8 (stringToUtf16 s)
/-- a pool by its gaps: so many unusable entries, then the entry; so many at the end -/
def gap : Nat → List CpInfo → List CpInfo
  | 0, r => r
  | n + 1, r => .unusable :: gap n r
def poolList (es : List (Nat × CpInfo)) (last : Nat) : List CpInfo := es.foldr (fun e r => gap e.1 (e.2 :: r)) (gap last [])
def pool (es : List (Nat × CpInfo)) (last : Nat) : Array CpInfo := ⟨poolList es last⟩
def fileOf (pool : Array CpInfo) (this : Nat) (attrs : Array Attribute := #[]) (ms : Array MethodInfo := #[]) (fl : Nat := 33) (sup : Nat := 0) (ifs : Array Nat := #[]) (fds : Array FieldInfo := #[]) : ClassFile where
  minorVersion := 0
  majorVersion := 65
  constantPool := pool
  accessFlags := fl
  thisClass := this
  superClass := sup
  interfaces := ifs
  fields := fds
  methods := ms
  attributes := attrs
def plain (name : String) (sup : Option ClassId) : Class where
  name := name
  kind := .ordinary
  loader := none
  accessFlags := 33
  super := sup
  interfaces := #[]
  cf := none
  fields := #[]
  methods := #[]
  instanceTypes := #[]
  staticTypes := #[]
  resolved := #[]
  callSites := []
  init := .initialized
  statics := none
  mirror := none

def pool0 : Array CpInfo := pool [(5, u "<init>"), (0, u "()V"), (1, .class_ 10), (1, u "java/lang/Object")] 113

def k0m0 : Method := { name := "<init>", desc := "()V", sig := { parameters := [], returnType := none }, accessFlags := 1, code := none }
/-- java/lang/Object -/
def k0 : Class := { plain "java/lang/Object" none with
  accessFlags := 33
  interfaces := #[]
  cf := some (fileOf pool0 8 #[] #[{ accessFlags := 1, nameIndex := 5, descriptorIndex := 6, attributes := #[] }] 33 0 #[] #[])
  fields := #[]
  methods := #[k0m0]
  instanceTypes := #[]
  staticTypes := #[]
  resolved := Array.replicate 124 none
  statics := none }

def pool1 : Array CpInfo := pool [(2, .class_ 4), (1, u "java/lang/Object"), (0, u "<init>"), (0, u "()V"), (0, .integer 2147483647), (0, .methodref 9 10), (0, .class_ 11), (0, .nameAndType 12 13), (0, u "com/example/true_witness/truewitness/datatypes/GregorianDays"), (0, u "inMonth"), (0, u "(IZ)I"), (0, .methodref 15 16), (0, .class_ 17), (0, .nameAndType 18 13), (0, u "com/example/true_witness/truewitness/datatypes/GregorianDaysInMonthPinLaw"), (0, u "reference"), (3, u "law"), (0, u "(II)Z")] 2

def k1m0 : Method := { name := "<init>", desc := "()V", sig := { parameters := [], returnType := none }, accessFlags := 2, code := none }
def k1c1 : Code := { maxStack := 4, maxLocals := 3, code := method_2_code, exceptionTable := #[], attributes := #[] }
def k1m1 : Method := { name := "reference", desc := "(IZ)I", sig := { parameters := [.int, .boolean], returnType := some .int }, accessFlags := 10, code := some k1c1 }
def k1c2 : Code := { maxStack := 3, maxLocals := 5, code := code, exceptionTable := #[], attributes := #[] }
def k1m2 : Method := { name := "law", desc := "(II)Z", sig := { parameters := [.int, .int], returnType := some .boolean }, accessFlags := 9, code := some k1c2 }
/-- com/example/true_witness/truewitness/datatypes/GregorianDaysInMonthPinLaw -/
def k1 : Class := { plain "com/example/true_witness/truewitness/datatypes/GregorianDaysInMonthPinLaw" (some 0) with
  accessFlags := 49
  interfaces := #[]
  cf := some (fileOf pool1 15 #[] #[{ accessFlags := 2, nameIndex := 5, descriptorIndex := 6, attributes := #[] }, { accessFlags := 10, nameIndex := 18, descriptorIndex := 13, attributes := #[] }, { accessFlags := 9, nameIndex := 22, descriptorIndex := 23, attributes := #[] }] 49 2 #[] #[])
  fields := #[]
  methods := #[k1m0, k1m1, k1m2]
  instanceTypes := #[]
  staticTypes := #[]
  resolved := Array.replicate 26 none
  statics := none }

def pool2 : Array CpInfo := pool [(2, .class_ 4), (1, u "java/lang/Object"), (0, u "<init>"), (0, u "()V"), (1, .class_ 10), (1, u "com/example/true_witness/truewitness/datatypes/GregorianDays"), (0, u "BIG_CYCLE"), (0, u "Ljava/math/BigInteger;"), (38, u "inMonth"), (0, u "(IZ)I"), (6, .class_ 60), (0, u "com/example/true_witness/truewitness/datatypes/GregorianDays$Dates"), (0, .class_ 62), (0, u "com/example/true_witness/truewitness/datatypes/GregorianDays$Year"), (6, .class_ 70), (0, u "com/example/true_witness/truewitness/datatypes/GregorianDays$MonthDay"), (5, u "CYCLE"), (0, u "I"), (14, .class_ 93), (0, u "com/example/true_witness/truewitness/datatypes/GregorianDays$Past"), (0, .class_ 95), (0, u "com/example/true_witness/truewitness/datatypes/GregorianDays$Reading")] 6

def k2m0 : Method := { name := "<init>", desc := "()V", sig := { parameters := [], returnType := none }, accessFlags := 2, code := none }
def k2c1 : Code := { maxStack := 2, maxLocals := 3, code := prog_106_method_3_code, exceptionTable := #[], attributes := #[] }
def k2m1 : Method := { name := "inMonth", desc := "(IZ)I", sig := { parameters := [.int, .boolean], returnType := some .int }, accessFlags := 8, code := some k2c1 }
/-- com/example/true_witness/truewitness/datatypes/GregorianDays -/
def k2 : Class := { plain "com/example/true_witness/truewitness/datatypes/GregorianDays" (some 0) with
  accessFlags := 48
  interfaces := #[]
  cf := some (fileOf pool2 8 #[.nestMembers #[59, 92, 69, 61, 94]] #[{ accessFlags := 2, nameIndex := 5, descriptorIndex := 6, attributes := #[] }, { accessFlags := 8, nameIndex := 51, descriptorIndex := 52, attributes := #[] }] 48 2 #[] #[{ accessFlags := 26, nameIndex := 76, descriptorIndex := 77, attributes := #[] }, { accessFlags := 26, nameIndex := 11, descriptorIndex := 12, attributes := #[] }])
  fields := #[{ name := "CYCLE", type := .int, accessFlags := 26, slot := 0, constantValue := 0 }, { name := "BIG_CYCLE", type := (.object "java/math/BigInteger"), accessFlags := 26, slot := 1, constantValue := 0 }]
  methods := #[k2m0, k2m1]
  instanceTypes := #[]
  staticTypes := #[.int, (.object "java/math/BigInteger")]
  resolved := Array.replicate 102 none
  statics := none }

def pool3 : Array CpInfo := pool [(1, u "java/lang/Cloneable"), (0, .class_ 1), (0, u "java/lang/Object"), (0, .class_ 3)] 3

/-- java/lang/Cloneable -/
def k3 : Class := { plain "java/lang/Cloneable" (some 0) with
  accessFlags := 1537
  interfaces := #[]
  cf := some (fileOf pool3 2 #[] #[] 1537 4 #[] #[])
  fields := #[]
  methods := #[]
  instanceTypes := #[]
  staticTypes := #[]
  resolved := Array.replicate 8 none
  statics := none }

def pool4 : Array CpInfo := pool [(1, u "java/io/Serializable"), (0, .class_ 1), (0, u "java/lang/Object"), (0, .class_ 3)] 3

/-- java/io/Serializable -/
def k4 : Class := { plain "java/io/Serializable" (some 0) with
  accessFlags := 1537
  interfaces := #[]
  cf := some (fileOf pool4 2 #[] #[] 1537 4 #[] #[])
  fields := #[]
  methods := #[]
  instanceTypes := #[]
  staticTypes := #[]
  resolved := Array.replicate 8 none
  statics := none }

/-- the primitive byte -/
def k5 : Class := { plain "byte" none with kind := .primitive 'B', accessFlags := 0x411 }
/-- [B -/
def k6 : Class := { plain "[B" (some 0) with kind := .array 5 .byte, interfaces := #[3, 4], accessFlags := 1041 }

def heap : Heap := #[]
def classes : Array Class := #[k0, k1, k2, k3, k4, k5, k6]
def interned : List (Array UInt16 × Addr) := []
def slotsUsed : Nat := 0
def theMethod : MethodId := ⟨1, 2⟩
def args0 : Array Value := #[.int 5, .int 5]
def aboutOver (below : List Frame) : State where
  vm := { classes := classes, interned := interned.toArray }
  heap := heap
  slotsUsed := slotsUsed
  threads := #[{ frames := .invoking theMethod args0 :: below }]
def below0 : List Frame := [.native { method := ⟨0, 0⟩, args := #[] }]
def about1 : State := aboutOver below0
def p0 : Program := .bare "" "" ""
def e0 : Env := launch0.env 0 0 0
theorem w_frames : about1.frames = Frame.invoking theMethod args0 :: below0 := rfl
set_option maxRecDepth 65536 in
theorem w_args : argsFit about1.vm theMethod args0 = true := by decide +kernel
set_option maxRecDepth 65536 in
theorem w_heap : heapFits about1 = true := by decide +kernel
set_option maxRecDepth 65536 in
theorem w_runnable : about1.curStatus? = some .runnable := by decide +kernel
set_option maxRecDepth 65536 in
theorem w_alone : about1.alone = true := by decide +kernel
set_option maxRecDepth 65536 in
theorem w_named : about1.methodNamed? x = some theMethod := by decide +kernel
set_option maxRecDepth 65536 in
theorem w_hears : about1.hears theMethod below0 = true := by decide +kernel
set_option maxRecDepth 65536 in
theorem w_ripe : about1.ripe theMethod args0 below0 = true := by decide +kernel
theorem w_running : about1.status = .running := rfl
set_option maxRecDepth 65536 in
theorem w_room : about1.hasRoom e0.platform room_1 = true :=
  launch0.hasRoom_least _ room_1 (by decide +kernel) (by decide +kernel) (by decide +kernel) (by decide +kernel) (by decide +kernel) (by decide +kernel)
theorem allAtoms_all (ts : List Jvm.Cond) (a : Array Jvm.Value) (st : Jvm.State) : (allAtoms ts).before a st = ts.all (fun c => c.before a st) := by
  induction ts with
  | nil => rfl
  | cons c t ih =>
    show (Jvm.Cond.and c (allAtoms t)).before a st = _
    rw [Jvm.Cond.before_and, ih, List.all_cons]
def words1 : List Jvm.Cond := Jvm.Cond.code x code maxLocals ret :: tables_1
/-- a 'code' word, met by the world's own term for the bytes: nothing is compared byte by byte -/
theorem code_word {y : MethodName} {bytes : ByteArray} {mx : Nat} {rt : Option FieldType} {a : Array Value} {s : State} {m : MethodId} {meth : Method} {c : Code} (h1 : s.methodNamed? y = some m) (h2 : s.vm.method? m = some meth) (h3 : meth.code = some c) (h4 : c.code = bytes)
    (h5 : (c.maxLocals == mx && c.exceptionTable.isEmpty && decide (c.maxStack ≤ mostOperands) && decide (meth.sig.returnType = rt) && !meth.locks && decide (parseMethodDescriptor y.desc = some meth.sig)) = true) : (Jvm.Cond.code y bytes mx rt).before a s = true := by
  simp only [Bool.and_eq_true, beq_iff_eq, Bool.not_eq_true', decide_eq_true_eq] at h5
  obtain ⟨⟨⟨⟨⟨g1, g2⟩, g3⟩, g4⟩, g5⟩, g6⟩ := h5
  simp [Cond.before, Cond.holds, Cond.value, h1, h2, h3, h4, g1, g2, g3, g4, g5, g6]
def isCode : Jvm.Cond → Bool
  | .code _ _ _ _ => true
  | _ => false
theorem all_split {L : List Jvm.Cond} {P : Jvm.Cond → Bool} (h1 : L.all (fun c => isCode c || P c) = true) (h2 : ∀ c ∈ L.filter isCode, P c = true) : L.all P = true := by
  refine List.all_eq_true.mpr fun c hc => ?_
  have h := List.all_eq_true.mp h1 c hc
  rcases Bool.eq_false_or_eq_true (isCode c) with hi | hi
  · exact h2 c (List.mem_filter.mpr ⟨hc, hi⟩)
  · simpa [hi] using h
set_option maxRecDepth 65536 in
theorem w_c0 : (Jvm.Cond.code x code maxLocals ret).before args0 about1 = true := code_word (m := ⟨1, 2⟩) (meth := k1m2) (c := k1c2) (by decide +kernel) rfl rfl rfl (by decide +kernel)
set_option maxRecDepth 65536 in
theorem w_c1 : (Jvm.Cond.code ({ cls := "com/example/true_witness/truewitness/datatypes/GregorianDays", name := "inMonth", desc := "(IZ)I" } : Jvm.MethodName) prog_106_method_3_code (3 : Nat) (Option.some Jvm.ClassFile.FieldType.int)).before args0 about1 = true := code_word (m := ⟨2, 1⟩) (meth := k2m1) (c := k2c1) (by decide +kernel) rfl rfl rfl (by decide +kernel)
set_option maxRecDepth 65536 in
theorem w_c2 : (Jvm.Cond.code ({ cls := "com/example/true_witness/truewitness/datatypes/GregorianDaysInMonthPinLaw", name := "reference", desc := "(IZ)I" } : Jvm.MethodName) method_2_code (3 : Nat) (Option.some Jvm.ClassFile.FieldType.int)).before args0 about1 = true := code_word (m := ⟨1, 1⟩) (meth := k1m1) (c := k1c1) (by decide +kernel) rfl rfl rfl (by decide +kernel)
def codes1 : List Jvm.Cond := [Jvm.Cond.code x code maxLocals ret, Jvm.Cond.code ({ cls := "com/example/true_witness/truewitness/datatypes/GregorianDays", name := "inMonth", desc := "(IZ)I" } : Jvm.MethodName) prog_106_method_3_code (3 : Nat) (Option.some Jvm.ClassFile.FieldType.int), Jvm.Cond.code ({ cls := "com/example/true_witness/truewitness/datatypes/GregorianDaysInMonthPinLaw", name := "reference", desc := "(IZ)I" } : Jvm.MethodName) method_2_code (3 : Nat) (Option.some Jvm.ClassFile.FieldType.int)]
set_option maxRecDepth 65536 in
theorem codes_eq : words1.filter isCode = codes1 := rfl
theorem w_codes : ∀ c ∈ words1.filter isCode, c.before args0 about1 = true := by
  rw [codes_eq]
  intro c hc
  simp only [codes1, List.mem_cons, List.not_mem_nil, or_false] at hc
  rcases hc with rfl | rfl | rfl
  · exact w_c0
  · exact w_c1
  · exact w_c2
set_option maxRecDepth 65536 in
theorem w_t1 : words1.all (fun c => isCode c || c.before args0 about1) = true := by decide +kernel
theorem w_tables : (allAtoms (Jvm.Cond.code x code maxLocals ret :: tables_1)).before args0 about1 = true := by
  rw [allAtoms_all]
  show words1.all (fun c => c.before args0 about1) = true
  refine all_split ?_ w_codes
  rw [w_t1]
set_option maxRecDepth 65536 in
theorem w_case : (Jvm.Cond.and given_1 narrow_1).before args0 about1 = true := by decide +kernel
theorem w_applies : (headSpec (Jvm.Cond.code x code maxLocals ret :: tables_1) room_1).applies x e0.platform about1 = true :=
  (Spec.applies_iff w_frames).mpr ⟨w_running, w_runnable, w_alone, w_named, w_hears, w_ripe, w_room, w_tables⟩
theorem atStart : AtStart classFile x code maxLocals ret World_1 tables_1 room_1 Calls_1 rest_1 Pre_1 launch0 p0 e0 about1 theMethod args0 below0 :=
  ⟨lists_1, trivial, launch0.admits_env _ _ _, launch0.least_env, fairChoices_fair.cas, fairChoices_fair.clock, w_frames, w_args, w_heap, w_applies, trivial, trivial, w_case⟩
end start1
theorem witness_1 : WitnessClaimed_1 := ⟨start1.p0, start1.e0, start1.about1, start1.theMethod, start1.args0, start1.below0, start1.atStart⟩
end Jvm.Pilot.@@N@@
