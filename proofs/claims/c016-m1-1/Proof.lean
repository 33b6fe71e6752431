import JvmDerived
import JvmDerived.Pilot.@@N@@Statement
import JvmDerived.Pilot.@@N@@Code
set_option linter.unusedVariables false
set_option linter.unusedSimpArgs false
@@BLOCK:NumsL.lean.txt@@
namespace Jvm.Pilot.@@N@@
open Jvm Jvm.ClassFile Sem Op Lib Jvm.Free Jvm.Stand Jvm.LawKit Jvm.RoadKit Bundle Jvm.Pilot.@@N@@.Jvm.D
theorem own_some {c : Cell} {vs : List Value} {d : Value} {i : Nat} (H : Has c vs d) (G : ∀ i, i < c.slots.size → fits .int (vs.getD i d) = true) (hi : i < c.slots.size) : ∃ z, c.slots[i]? = some (.int z) := by
  have h := H i hi
  have g := G i hi
  cases hv : vs.getD i d <;> rw [hv] at g h <;> first | exact ⟨_, h⟩ | (simp [fits] at g)
theorem own_at16 (x : Int32) : ¬ ((x &&& (2147483647 : Int32)) % (16 : Int32)) < 0 ∧ ((x &&& (2147483647 : Int32)) % (16 : Int32)) < 16 := by
  have e1 : (x &&& (2147483647 : Int32)).toInt = x.toInt % 2 ^ 31 := Jvm.Kit.i32_mask x 2147483647 (k := 31) (by decide) (by decide)
  have e2 : ((x &&& (2147483647 : Int32)) % (16 : Int32)).toInt = (x &&& (2147483647 : Int32)).toInt % (16 : Int32).toInt := Jvm.Kit.i32_rem_nonneg (by omega)
  have e3 : (16 : Int32).toInt = 16 := rfl
  have e4 : (0 : Int32).toInt = 0 := rfl
  rw [e3] at e2
  rw [Int32.lt_iff_toInt_lt, Int32.lt_iff_toInt_lt, e3, e4]
  omega
def own_P (n : Int) : Prop := (160 ≤ n ∧ n ≤ 55295) ∨ (63744 ≤ n ∧ n ≤ 64975) ∨ (65008 ≤ n ∧ n ≤ 65519) ∨ (65536 ≤ n ∧ n ≤ 131069) ∨ (131072 ≤ n ∧ n ≤ 196605) ∨ (196608 ≤ n ∧ n ≤ 262141) ∨ (262144 ≤ n ∧ n ≤ 327677) ∨ (327680 ≤ n ∧ n ≤ 393213) ∨ (393216 ≤ n ∧ n ≤ 458749) ∨ (458752 ≤ n ∧ n ≤ 524285) ∨ (524288 ≤ n ∧ n ≤ 589821) ∨ (589824 ≤ n ∧ n ≤ 655357) ∨ (655360 ≤ n ∧ n ≤ 720893) ∨ (720896 ≤ n ∧ n ≤ 786429) ∨ (786432 ≤ n ∧ n ≤ 851965) ∨ (851968 ≤ n ∧ n ≤ 917501) ∨ (921600 ≤ n ∧ n ≤ 983037)
theorem own_plane {n : Int} (h1 : 65536 ≤ n) (h2 : n < 983040) (h3 : n % 65536 ≤ 65533) (h4 : ¬ (917504 ≤ n ∧ n < 921600)) : own_P n := by
  have hk : n / 65536 = 1 ∨ n / 65536 = 2 ∨ n / 65536 = 3 ∨ n / 65536 = 4 ∨ n / 65536 = 5 ∨ n / 65536 = 6 ∨ n / 65536 = 7 ∨ n / 65536 = 8 ∨ n / 65536 = 9 ∨ n / 65536 = 10 ∨ n / 65536 = 11 ∨ n / 65536 = 12 ∨ n / 65536 = 13 ∨ n / 65536 = 14 := by omega
  rcases hk with h | h | h | h | h | h | h | h | h | h | h | h | h | h
  · exact Or.inr (Or.inr (Or.inr (Or.inl ⟨by omega, by omega⟩)))
  · exact Or.inr (Or.inr (Or.inr (Or.inr (Or.inl ⟨by omega, by omega⟩))))
  · exact Or.inr (Or.inr (Or.inr (Or.inr (Or.inr (Or.inl ⟨by omega, by omega⟩)))))
  · exact Or.inr (Or.inr (Or.inr (Or.inr (Or.inr (Or.inr (Or.inl ⟨by omega, by omega⟩))))))
  · exact Or.inr (Or.inr (Or.inr (Or.inr (Or.inr (Or.inr (Or.inr (Or.inl ⟨by omega, by omega⟩)))))))
  · exact Or.inr (Or.inr (Or.inr (Or.inr (Or.inr (Or.inr (Or.inr (Or.inr (Or.inl ⟨by omega, by omega⟩))))))))
  · exact Or.inr (Or.inr (Or.inr (Or.inr (Or.inr (Or.inr (Or.inr (Or.inr (Or.inr (Or.inl ⟨by omega, by omega⟩)))))))))
  · exact Or.inr (Or.inr (Or.inr (Or.inr (Or.inr (Or.inr (Or.inr (Or.inr (Or.inr (Or.inr (Or.inl ⟨by omega, by omega⟩))))))))))
  · exact Or.inr (Or.inr (Or.inr (Or.inr (Or.inr (Or.inr (Or.inr (Or.inr (Or.inr (Or.inr (Or.inr (Or.inl ⟨by omega, by omega⟩)))))))))))
  · exact Or.inr (Or.inr (Or.inr (Or.inr (Or.inr (Or.inr (Or.inr (Or.inr (Or.inr (Or.inr (Or.inr (Or.inr (Or.inl ⟨by omega, by omega⟩))))))))))))
  · exact Or.inr (Or.inr (Or.inr (Or.inr (Or.inr (Or.inr (Or.inr (Or.inr (Or.inr (Or.inr (Or.inr (Or.inr (Or.inr (Or.inl ⟨by omega, by omega⟩)))))))))))))
  · exact Or.inr (Or.inr (Or.inr (Or.inr (Or.inr (Or.inr (Or.inr (Or.inr (Or.inr (Or.inr (Or.inr (Or.inr (Or.inr (Or.inr (Or.inl ⟨by omega, by omega⟩))))))))))))))
  · exact Or.inr (Or.inr (Or.inr (Or.inr (Or.inr (Or.inr (Or.inr (Or.inr (Or.inr (Or.inr (Or.inr (Or.inr (Or.inr (Or.inr (Or.inr (Or.inl ⟨by omega, by omega⟩)))))))))))))))
  · exact Or.inr (Or.inr (Or.inr (Or.inr (Or.inr (Or.inr (Or.inr (Or.inr (Or.inr (Or.inr (Or.inr (Or.inr (Or.inr (Or.inr (Or.inr (Or.inr (⟨by omega, by omega⟩))))))))))))))))
theorem own_step {A B : Prop} {k x : Int32} (h : (k = 0) ↔ ¬ A) (r : (B ∧ x = 1) ∨ (¬ B ∧ x = 0)) : ((A ∨ B) ∧ (if k = 0 then x else 1) = 1) ∨ (¬ (A ∨ B) ∧ (if k = 0 then x else 1) = 0) := by
  by_cases hA : A
  · exact Or.inl ⟨Or.inl hA, if_neg fun e => h.mp e hA⟩
  · rw [if_pos (h.mpr hA)]
    rcases r with ⟨b, e⟩ | ⟨b, e⟩
    · exact Or.inl ⟨Or.inr b, e⟩
    · exact Or.inr ⟨fun q => q.elim hA b, e⟩
theorem own_last {A : Prop} {k : Int32} (h : (k = 0) ↔ ¬ A) : (A ∧ (if k = 0 then (0 : Int32) else 1) = 1) ∨ (¬ A ∧ (if k = 0 then (0 : Int32) else 1) = 0) := by
  by_cases hA : A
  · exact Or.inl ⟨hA, if_neg fun e => h.mp e hA⟩
  · exact Or.inr ⟨hA, if_pos (h.mpr hA)⟩
theorem d1_0 : decode prog_93_method_9_code 0 = .ok (.iload_n 0, 1) := by decide +kernel
theorem d1_1 : decode prog_93_method_9_code 1 = .ok (.ldc 146, 2) := by decide +kernel
theorem d1_3 : decode prog_93_method_9_code 3 = .ok (.if_icmp .lt 46, 3) := by decide +kernel
theorem d1_6 : decode prog_93_method_9_code 6 = .ok (.iload_n 0, 1) := by decide +kernel
theorem d1_7 : decode prog_93_method_9_code 7 = .ok (.ldc 147, 2) := by decide +kernel
theorem d1_9 : decode prog_93_method_9_code 9 = .ok (.if_icmp .lt 13, 3) := by decide +kernel
theorem d1_12 : decode prog_93_method_9_code 12 = .ok (.iload_n 0, 1) := by decide +kernel
theorem d1_13 : decode prog_93_method_9_code 13 = .ok (.ldc 148, 2) := by decide +kernel
theorem d1_15 : decode prog_93_method_9_code 15 = .ok (.if_icmp .ge 7, 3) := by decide +kernel
theorem d1_18 : decode prog_93_method_9_code 18 = .ok (.iconst 1, 1) := by decide +kernel
theorem d1_19 : decode prog_93_method_9_code 19 = .ok (.goto 4, 3) := by decide +kernel
theorem d1_22 : decode prog_93_method_9_code 22 = .ok (.iconst 0, 1) := by decide +kernel
theorem d1_23 : decode prog_93_method_9_code 23 = .ok (.istore_n 1, 1) := by decide +kernel
theorem d1_24 : decode prog_93_method_9_code 24 = .ok (.iload_n 0, 1) := by decide +kernel
theorem d1_25 : decode prog_93_method_9_code 25 = .ok (.ldc 149, 2) := by decide +kernel
theorem d1_27 : decode prog_93_method_9_code 27 = .ok (.if_icmp .ge 20, 3) := by decide +kernel
theorem d1_30 : decode prog_93_method_9_code 30 = .ok (.iload_n 0, 1) := by decide +kernel
theorem d1_31 : decode prog_93_method_9_code 31 = .ok (.ldc 150, 2) := by decide +kernel
theorem d1_33 : decode prog_93_method_9_code 33 = .ok (.iand, 1) := by decide +kernel
theorem d1_34 : decode prog_93_method_9_code 34 = .ok (.ldc 151, 2) := by decide +kernel
theorem d1_36 : decode prog_93_method_9_code 36 = .ok (.if_icmp .gt 11, 3) := by decide +kernel
theorem d1_39 : decode prog_93_method_9_code 39 = .ok (.iload_n 1, 1) := by decide +kernel
theorem d1_40 : decode prog_93_method_9_code 40 = .ok (.ifCond .ne 7, 3) := by decide +kernel
theorem d1_43 : decode prog_93_method_9_code 43 = .ok (.iconst 1, 1) := by decide +kernel
theorem d1_44 : decode prog_93_method_9_code 44 = .ok (.goto 4, 3) := by decide +kernel
theorem d1_47 : decode prog_93_method_9_code 47 = .ok (.iconst 0, 1) := by decide +kernel
theorem d1_48 : decode prog_93_method_9_code 48 = .ok (.ireturn, 1) := by decide +kernel
theorem d1_49 : decode prog_93_method_9_code 49 = .ok (.iload_n 0, 1) := by decide +kernel
theorem d1_50 : decode prog_93_method_9_code 50 = .ok (.sipush 160, 3) := by decide +kernel
theorem d1_53 : decode prog_93_method_9_code 53 = .ok (.if_icmp .lt 9, 3) := by decide +kernel
theorem d1_56 : decode prog_93_method_9_code 56 = .ok (.iload_n 0, 1) := by decide +kernel
theorem d1_57 : decode prog_93_method_9_code 57 = .ok (.ldc 152, 2) := by decide +kernel
theorem d1_59 : decode prog_93_method_9_code 59 = .ok (.if_icmp .le 27, 3) := by decide +kernel
theorem d1_62 : decode prog_93_method_9_code 62 = .ok (.iload_n 0, 1) := by decide +kernel
theorem d1_63 : decode prog_93_method_9_code 63 = .ok (.ldc 153, 2) := by decide +kernel
theorem d1_65 : decode prog_93_method_9_code 65 = .ok (.if_icmp .lt 9, 3) := by decide +kernel
theorem d1_68 : decode prog_93_method_9_code 68 = .ok (.iload_n 0, 1) := by decide +kernel
theorem d1_69 : decode prog_93_method_9_code 69 = .ok (.ldc 154, 2) := by decide +kernel
theorem d1_71 : decode prog_93_method_9_code 71 = .ok (.if_icmp .le 15, 3) := by decide +kernel
theorem d1_74 : decode prog_93_method_9_code 74 = .ok (.iload_n 0, 1) := by decide +kernel
theorem d1_75 : decode prog_93_method_9_code 75 = .ok (.ldc 155, 2) := by decide +kernel
theorem d1_77 : decode prog_93_method_9_code 77 = .ok (.if_icmp .lt 13, 3) := by decide +kernel
theorem d1_80 : decode prog_93_method_9_code 80 = .ok (.iload_n 0, 1) := by decide +kernel
theorem d1_81 : decode prog_93_method_9_code 81 = .ok (.ldc 156, 2) := by decide +kernel
theorem d1_83 : decode prog_93_method_9_code 83 = .ok (.if_icmp .gt 7, 3) := by decide +kernel
theorem d1_86 : decode prog_93_method_9_code 86 = .ok (.iconst 1, 1) := by decide +kernel
theorem d1_87 : decode prog_93_method_9_code 87 = .ok (.goto 4, 3) := by decide +kernel
theorem d1_90 : decode prog_93_method_9_code 90 = .ok (.iconst 0, 1) := by decide +kernel
theorem d1_91 : decode prog_93_method_9_code 91 = .ok (.ireturn, 1) := by decide +kernel
theorem pn_1 : plainName "com/example/rels_from_records/relsfromrecords/uri/PercentEncoding" = true := by first | (simp [plainName, overriddenIn]; done) | decide +kernel
theorem ef_1 (m : MethodId) (p0 : Int32) : entryFrame m #[(.int p0)] 2 = mkF m 0 #[.val (.int p0), .unset] [] := by first | (simp [entryFrame, mkF, argsToLocals, Value.category]; done) | rfl
def F1 (p0 : Int32) : Int32 := (if p0 < (65536 : Int32) then (if p0 < (160 : Int32) then (if p0 < (63744 : Int32) then (if p0 < (65008 : Int32) then (0 : Int32) else (if (65519 : Int32) < p0 then (0 : Int32) else (1 : Int32))) else (if (64975 : Int32) < p0 then (if p0 < (65008 : Int32) then (0 : Int32) else (if (65519 : Int32) < p0 then (0 : Int32) else (1 : Int32))) else (1 : Int32))) else (if (55295 : Int32) < p0 then (if p0 < (63744 : Int32) then (if p0 < (65008 : Int32) then (0 : Int32) else (if (65519 : Int32) < p0 then (0 : Int32) else (1 : Int32))) else (if (64975 : Int32) < p0 then (if p0 < (65008 : Int32) then (0 : Int32) else (if (65519 : Int32) < p0 then (0 : Int32) else (1 : Int32))) else (1 : Int32))) else (1 : Int32))) else (if p0 < (917504 : Int32) then (if p0 < (983040 : Int32) then (if (65533 : Int32) < (p0 &&& (65535 : Int32)) then (0 : Int32) else (1 : Int32)) else (0 : Int32)) else (if p0 < (921600 : Int32) then (0 : Int32) else (if p0 < (983040 : Int32) then (if (65533 : Int32) < (p0 &&& (65535 : Int32)) then (0 : Int32) else (1 : Int32)) else (0 : Int32)))))
def Q1 (Z : State) (p0 : Int32) (h0 : Heap) (n0 : Nat) (v : Option Value) (h : Heap) (L : List Loc) : Prop := v = some (.int (F1 p0)) ∧ Fr n0 L ∧ h = h0
set_option maxRecDepth 65536 in
set_option maxHeartbeats 40000000 in
theorem rm1 (l : Launch) (Z : State) (a0 : Array Value) (hw : ∀ d ∈ tables_1, d.before a0 Z = true) (ws : List Jvm.Cond) (p0 : Int32) (h0 : Heap) (n0 : Nat) (Z0 : n0 ≤ h0.size)  :
    MetFree l (⟨"com/example/rels_from_records/relsfromrecords/uri/PercentEncoding", "isUcschar", "(I)Z"⟩ : MethodName) (head1 (Jvm.Cond.code (⟨"com/example/rels_from_records/relsfromrecords/uri/PercentEncoding", "isUcschar", "(I)Z"⟩ : MethodName) prog_93_method_9_code 2 (some .boolean) :: ws) ({ frames := 0, cells := 0, slots := 0, locals := 0 } : Room)) (fun a U => a = #[(.int p0)] ∧ Z.Warmed39 U.vm ∧ U.heap = h0) (fun _ _ _ _ _ => True) (fun _ U o U' => ∃ v L, o = .returned v ∧ Q1 Z p0 h0 n0 v U'.heap L ∧ FrameEnd U o U' L ({ frames := 0, cells := 0, slots := 0, locals := 0 } : Room).cells ({ frames := 0, cells := 0, slots := 0, locals := 0 } : Room).slots) := by
  refine MetFree.of_bodySF (plainFor_of_name pn_1) hisR ?_
  intro p e s m args below meth c s₁ Bd hml0 hP hK
  obtain ⟨rfl, hZ, hh⟩ := hP
  have hx := Bd.exec
  have hby := Bd.bytes
  have hml : c.maxLocals = 2 := hml0
  have hown : s.vm.findClass "com/example/rels_from_records/relsfromrecords/uri/PercentEncoding" = some m.cls := findClass_of_methodNamed Bd.named
  have X0 : Stand p l e ({ frames := 0, cells := 0, slots := 0, locals := 0 } : Room) s m #[(.int p0)] below meth c s₁ [] 0 0 := Stand.of_body Bd
  have e0 : s₁.heap = h0 := by rw [← hh, Bd.state]; rfl
  have N0 := Fr.nil n0
  have pre0 : ∀ t, Steps p.tables e below (s₁.setTop (mkF m 0 #[.val (.int p0), .unset] [])) t → Steps p.tables e below (s₁.setTop (entryFrame m #[(.int p0)] 2)) t := fun t k => castTop (ef_1 m p0) k
  by_cases c1 : p0 < (65536 : Int32)
  · by_cases c2 : p0 < (160 : Int32)
    · by_cases c3 : p0 < (63744 : Int32)
      · by_cases c4 : p0 < (65008 : Int32)
        · obtain ⟨fs, hr, hrun, hended, hW, hsame⟩ := X0.leave (v := some (.int (0 : Int32))) (fun h => by rw [Bd.returns] at h; cases h)
          refine ⟨_, _, pre0 _ ?_, hrun, hended, _, _, rfl, ?_, ⟨_, rfl⟩, hW, hsame.mono (by decide) (by decide)⟩
          · show Steps p.tables e below (s₁.setTop (mkF m 0 #[.val (.int p0), .unset] [])) _
            refine XS.iloadN X0.here hx rfl (hb hby d1_0) rfl ?_
            show Steps p.tables e below (s₁.setTop (mkF m 1 #[.val (.int p0), .unset] [(.int p0)])) _
            refine X0.ldcInt hx hown (mvT hZ (hw _ (List.mem_of_getElem? (i := 21) rfl))) (g := (mkF m 1 #[.val (.int p0), .unset] [(.int p0)])) rfl (hb hby d1_1) _ ?_
            show Steps p.tables e below (s₁.setTop (mkF m 3 #[.val (.int p0), .unset] [(.int (65536 : Int32)), (.int p0)])) _
            refine XS.icmpYes X0.here hx rfl (pc0 := 3) (pc' := 49) rfl (hb hby d1_3) rfl (tlt c1).1 (by decide) (by decide) ?_
            show Steps p.tables e below (s₁.setTop (mkF m 49 #[.val (.int p0), .unset] [])) _
            refine XS.iloadN X0.here hx rfl (hb hby d1_49) rfl ?_
            show Steps p.tables e below (s₁.setTop (mkF m 50 #[.val (.int p0), .unset] [(.int p0)])) _
            refine XS.sipush X0.here hx rfl (hb hby d1_50) ?_
            show Steps p.tables e below (s₁.setTop (mkF m 53 #[.val (.int p0), .unset] [(.int (160 : Int32)), (.int p0)])) _
            refine XS.icmpYes X0.here hx rfl (pc0 := 53) (pc' := 62) rfl (hb hby d1_53) rfl (tlt c2).1 (by decide) (by decide) ?_
            show Steps p.tables e below (s₁.setTop (mkF m 62 #[.val (.int p0), .unset] [])) _
            refine XS.iloadN X0.here hx rfl (hb hby d1_62) rfl ?_
            show Steps p.tables e below (s₁.setTop (mkF m 63 #[.val (.int p0), .unset] [(.int p0)])) _
            refine X0.ldcInt hx hown (mvT hZ (hw _ (List.mem_of_getElem? (i := 58) rfl))) (g := (mkF m 63 #[.val (.int p0), .unset] [(.int p0)])) rfl (hb hby d1_63) _ ?_
            show Steps p.tables e below (s₁.setTop (mkF m 65 #[.val (.int p0), .unset] [(.int (63744 : Int32)), (.int p0)])) _
            refine XS.icmpYes X0.here hx rfl (pc0 := 65) (pc' := 74) rfl (hb hby d1_65) rfl (tlt c3).1 (by decide) (by decide) ?_
            show Steps p.tables e below (s₁.setTop (mkF m 74 #[.val (.int p0), .unset] [])) _
            refine XS.iloadN X0.here hx rfl (hb hby d1_74) rfl ?_
            show Steps p.tables e below (s₁.setTop (mkF m 75 #[.val (.int p0), .unset] [(.int p0)])) _
            refine X0.ldcInt hx hown (mvT hZ (hw _ (List.mem_of_getElem? (i := 61) rfl))) (g := (mkF m 75 #[.val (.int p0), .unset] [(.int p0)])) rfl (hb hby d1_75) _ ?_
            show Steps p.tables e below (s₁.setTop (mkF m 77 #[.val (.int p0), .unset] [(.int (65008 : Int32)), (.int p0)])) _
            refine XS.icmpYes X0.here hx rfl (pc0 := 77) (pc' := 90) rfl (hb hby d1_77) rfl (tlt c4).1 (by decide) (by decide) ?_
            show Steps p.tables e below (s₁.setTop (mkF m 90 #[.val (.int p0), .unset] [])) _
            refine XS.iconst X0.here hx rfl (hb hby d1_90) ?_
            show Steps p.tables e below (s₁.setTop (mkF m 91 #[.val (.int p0), .unset] [(.int (0 : Int32))])) _
            exact retN X0 hx (t := .boolean) Bd.returns (by simp) (hb hby d1_91) hr
          · show Q1 Z p0 h0 n0 _ s₁.heap _
            rw [e0]
            exact ⟨(congrArg (fun z => some (Value.int z)) ((if_pos c1).trans ((if_pos c2).trans ((if_pos c3).trans ((if_pos c4).trans rfl)))).symm), N0, rfl⟩
        · by_cases c6 : (65519 : Int32) < p0
          · obtain ⟨fs, hr, hrun, hended, hW, hsame⟩ := X0.leave (v := some (.int (0 : Int32))) (fun h => by rw [Bd.returns] at h; cases h)
            refine ⟨_, _, pre0 _ ?_, hrun, hended, _, _, rfl, ?_, ⟨_, rfl⟩, hW, hsame.mono (by decide) (by decide)⟩
            · show Steps p.tables e below (s₁.setTop (mkF m 0 #[.val (.int p0), .unset] [])) _
              refine XS.iloadN X0.here hx rfl (hb hby d1_0) rfl ?_
              show Steps p.tables e below (s₁.setTop (mkF m 1 #[.val (.int p0), .unset] [(.int p0)])) _
              refine X0.ldcInt hx hown (mvT hZ (hw _ (List.mem_of_getElem? (i := 21) rfl))) (g := (mkF m 1 #[.val (.int p0), .unset] [(.int p0)])) rfl (hb hby d1_1) _ ?_
              show Steps p.tables e below (s₁.setTop (mkF m 3 #[.val (.int p0), .unset] [(.int (65536 : Int32)), (.int p0)])) _
              refine XS.icmpYes X0.here hx rfl (pc0 := 3) (pc' := 49) rfl (hb hby d1_3) rfl (tlt c1).1 (by decide) (by decide) ?_
              show Steps p.tables e below (s₁.setTop (mkF m 49 #[.val (.int p0), .unset] [])) _
              refine XS.iloadN X0.here hx rfl (hb hby d1_49) rfl ?_
              show Steps p.tables e below (s₁.setTop (mkF m 50 #[.val (.int p0), .unset] [(.int p0)])) _
              refine XS.sipush X0.here hx rfl (hb hby d1_50) ?_
              show Steps p.tables e below (s₁.setTop (mkF m 53 #[.val (.int p0), .unset] [(.int (160 : Int32)), (.int p0)])) _
              refine XS.icmpYes X0.here hx rfl (pc0 := 53) (pc' := 62) rfl (hb hby d1_53) rfl (tlt c2).1 (by decide) (by decide) ?_
              show Steps p.tables e below (s₁.setTop (mkF m 62 #[.val (.int p0), .unset] [])) _
              refine XS.iloadN X0.here hx rfl (hb hby d1_62) rfl ?_
              show Steps p.tables e below (s₁.setTop (mkF m 63 #[.val (.int p0), .unset] [(.int p0)])) _
              refine X0.ldcInt hx hown (mvT hZ (hw _ (List.mem_of_getElem? (i := 58) rfl))) (g := (mkF m 63 #[.val (.int p0), .unset] [(.int p0)])) rfl (hb hby d1_63) _ ?_
              show Steps p.tables e below (s₁.setTop (mkF m 65 #[.val (.int p0), .unset] [(.int (63744 : Int32)), (.int p0)])) _
              refine XS.icmpYes X0.here hx rfl (pc0 := 65) (pc' := 74) rfl (hb hby d1_65) rfl (tlt c3).1 (by decide) (by decide) ?_
              show Steps p.tables e below (s₁.setTop (mkF m 74 #[.val (.int p0), .unset] [])) _
              refine XS.iloadN X0.here hx rfl (hb hby d1_74) rfl ?_
              show Steps p.tables e below (s₁.setTop (mkF m 75 #[.val (.int p0), .unset] [(.int p0)])) _
              refine X0.ldcInt hx hown (mvT hZ (hw _ (List.mem_of_getElem? (i := 61) rfl))) (g := (mkF m 75 #[.val (.int p0), .unset] [(.int p0)])) rfl (hb hby d1_75) _ ?_
              show Steps p.tables e below (s₁.setTop (mkF m 77 #[.val (.int p0), .unset] [(.int (65008 : Int32)), (.int p0)])) _
              refine XS.icmpNo X0.here hx rfl (hb hby d1_77) rfl (flt c4).1 ?_
              show Steps p.tables e below (s₁.setTop (mkF m 80 #[.val (.int p0), .unset] [])) _
              refine XS.iloadN X0.here hx rfl (hb hby d1_80) rfl ?_
              show Steps p.tables e below (s₁.setTop (mkF m 81 #[.val (.int p0), .unset] [(.int p0)])) _
              refine X0.ldcInt hx hown (mvT hZ (hw _ (List.mem_of_getElem? (i := 63) rfl))) (g := (mkF m 81 #[.val (.int p0), .unset] [(.int p0)])) rfl (hb hby d1_81) _ ?_
              show Steps p.tables e below (s₁.setTop (mkF m 83 #[.val (.int p0), .unset] [(.int (65519 : Int32)), (.int p0)])) _
              refine XS.icmpYes X0.here hx rfl (pc0 := 83) (pc' := 90) rfl (hb hby d1_83) rfl (tlt c6).2.2.1 (by decide) (by decide) ?_
              show Steps p.tables e below (s₁.setTop (mkF m 90 #[.val (.int p0), .unset] [])) _
              refine XS.iconst X0.here hx rfl (hb hby d1_90) ?_
              show Steps p.tables e below (s₁.setTop (mkF m 91 #[.val (.int p0), .unset] [(.int (0 : Int32))])) _
              exact retN X0 hx (t := .boolean) Bd.returns (by simp) (hb hby d1_91) hr
            · show Q1 Z p0 h0 n0 _ s₁.heap _
              rw [e0]
              exact ⟨(congrArg (fun z => some (Value.int z)) ((if_pos c1).trans ((if_pos c2).trans ((if_pos c3).trans ((if_neg c4).trans ((if_pos c6).trans rfl))))).symm), N0, rfl⟩
          · obtain ⟨fs, hr, hrun, hended, hW, hsame⟩ := X0.leave (v := some (.int (1 : Int32))) (fun h => by rw [Bd.returns] at h; cases h)
            refine ⟨_, _, pre0 _ ?_, hrun, hended, _, _, rfl, ?_, ⟨_, rfl⟩, hW, hsame.mono (by decide) (by decide)⟩
            · show Steps p.tables e below (s₁.setTop (mkF m 0 #[.val (.int p0), .unset] [])) _
              refine XS.iloadN X0.here hx rfl (hb hby d1_0) rfl ?_
              show Steps p.tables e below (s₁.setTop (mkF m 1 #[.val (.int p0), .unset] [(.int p0)])) _
              refine X0.ldcInt hx hown (mvT hZ (hw _ (List.mem_of_getElem? (i := 21) rfl))) (g := (mkF m 1 #[.val (.int p0), .unset] [(.int p0)])) rfl (hb hby d1_1) _ ?_
              show Steps p.tables e below (s₁.setTop (mkF m 3 #[.val (.int p0), .unset] [(.int (65536 : Int32)), (.int p0)])) _
              refine XS.icmpYes X0.here hx rfl (pc0 := 3) (pc' := 49) rfl (hb hby d1_3) rfl (tlt c1).1 (by decide) (by decide) ?_
              show Steps p.tables e below (s₁.setTop (mkF m 49 #[.val (.int p0), .unset] [])) _
              refine XS.iloadN X0.here hx rfl (hb hby d1_49) rfl ?_
              show Steps p.tables e below (s₁.setTop (mkF m 50 #[.val (.int p0), .unset] [(.int p0)])) _
              refine XS.sipush X0.here hx rfl (hb hby d1_50) ?_
              show Steps p.tables e below (s₁.setTop (mkF m 53 #[.val (.int p0), .unset] [(.int (160 : Int32)), (.int p0)])) _
              refine XS.icmpYes X0.here hx rfl (pc0 := 53) (pc' := 62) rfl (hb hby d1_53) rfl (tlt c2).1 (by decide) (by decide) ?_
              show Steps p.tables e below (s₁.setTop (mkF m 62 #[.val (.int p0), .unset] [])) _
              refine XS.iloadN X0.here hx rfl (hb hby d1_62) rfl ?_
              show Steps p.tables e below (s₁.setTop (mkF m 63 #[.val (.int p0), .unset] [(.int p0)])) _
              refine X0.ldcInt hx hown (mvT hZ (hw _ (List.mem_of_getElem? (i := 58) rfl))) (g := (mkF m 63 #[.val (.int p0), .unset] [(.int p0)])) rfl (hb hby d1_63) _ ?_
              show Steps p.tables e below (s₁.setTop (mkF m 65 #[.val (.int p0), .unset] [(.int (63744 : Int32)), (.int p0)])) _
              refine XS.icmpYes X0.here hx rfl (pc0 := 65) (pc' := 74) rfl (hb hby d1_65) rfl (tlt c3).1 (by decide) (by decide) ?_
              show Steps p.tables e below (s₁.setTop (mkF m 74 #[.val (.int p0), .unset] [])) _
              refine XS.iloadN X0.here hx rfl (hb hby d1_74) rfl ?_
              show Steps p.tables e below (s₁.setTop (mkF m 75 #[.val (.int p0), .unset] [(.int p0)])) _
              refine X0.ldcInt hx hown (mvT hZ (hw _ (List.mem_of_getElem? (i := 61) rfl))) (g := (mkF m 75 #[.val (.int p0), .unset] [(.int p0)])) rfl (hb hby d1_75) _ ?_
              show Steps p.tables e below (s₁.setTop (mkF m 77 #[.val (.int p0), .unset] [(.int (65008 : Int32)), (.int p0)])) _
              refine XS.icmpNo X0.here hx rfl (hb hby d1_77) rfl (flt c4).1 ?_
              show Steps p.tables e below (s₁.setTop (mkF m 80 #[.val (.int p0), .unset] [])) _
              refine XS.iloadN X0.here hx rfl (hb hby d1_80) rfl ?_
              show Steps p.tables e below (s₁.setTop (mkF m 81 #[.val (.int p0), .unset] [(.int p0)])) _
              refine X0.ldcInt hx hown (mvT hZ (hw _ (List.mem_of_getElem? (i := 63) rfl))) (g := (mkF m 81 #[.val (.int p0), .unset] [(.int p0)])) rfl (hb hby d1_81) _ ?_
              show Steps p.tables e below (s₁.setTop (mkF m 83 #[.val (.int p0), .unset] [(.int (65519 : Int32)), (.int p0)])) _
              refine XS.icmpNo X0.here hx rfl (hb hby d1_83) rfl (flt c6).2.2.1 ?_
              show Steps p.tables e below (s₁.setTop (mkF m 86 #[.val (.int p0), .unset] [])) _
              refine XS.iconst X0.here hx rfl (hb hby d1_86) ?_
              show Steps p.tables e below (s₁.setTop (mkF m 87 #[.val (.int p0), .unset] [(.int (1 : Int32))])) _
              refine XS.goto X0.here hx rfl (pc0 := 87) (pc' := 91) rfl (hb hby d1_87) (by decide) (by decide) ?_
              show Steps p.tables e below (s₁.setTop (mkF m 91 #[.val (.int p0), .unset] [(.int (1 : Int32))])) _
              exact retN X0 hx (t := .boolean) Bd.returns (by simp) (hb hby d1_91) hr
            · show Q1 Z p0 h0 n0 _ s₁.heap _
              rw [e0]
              exact ⟨(congrArg (fun z => some (Value.int z)) ((if_pos c1).trans ((if_pos c2).trans ((if_pos c3).trans ((if_neg c4).trans ((if_neg c6).trans rfl))))).symm), N0, rfl⟩
      · by_cases c9 : (64975 : Int32) < p0
        · by_cases c10 : p0 < (65008 : Int32)
          · obtain ⟨fs, hr, hrun, hended, hW, hsame⟩ := X0.leave (v := some (.int (0 : Int32))) (fun h => by rw [Bd.returns] at h; cases h)
            refine ⟨_, _, pre0 _ ?_, hrun, hended, _, _, rfl, ?_, ⟨_, rfl⟩, hW, hsame.mono (by decide) (by decide)⟩
            · show Steps p.tables e below (s₁.setTop (mkF m 0 #[.val (.int p0), .unset] [])) _
              refine XS.iloadN X0.here hx rfl (hb hby d1_0) rfl ?_
              show Steps p.tables e below (s₁.setTop (mkF m 1 #[.val (.int p0), .unset] [(.int p0)])) _
              refine X0.ldcInt hx hown (mvT hZ (hw _ (List.mem_of_getElem? (i := 21) rfl))) (g := (mkF m 1 #[.val (.int p0), .unset] [(.int p0)])) rfl (hb hby d1_1) _ ?_
              show Steps p.tables e below (s₁.setTop (mkF m 3 #[.val (.int p0), .unset] [(.int (65536 : Int32)), (.int p0)])) _
              refine XS.icmpYes X0.here hx rfl (pc0 := 3) (pc' := 49) rfl (hb hby d1_3) rfl (tlt c1).1 (by decide) (by decide) ?_
              show Steps p.tables e below (s₁.setTop (mkF m 49 #[.val (.int p0), .unset] [])) _
              refine XS.iloadN X0.here hx rfl (hb hby d1_49) rfl ?_
              show Steps p.tables e below (s₁.setTop (mkF m 50 #[.val (.int p0), .unset] [(.int p0)])) _
              refine XS.sipush X0.here hx rfl (hb hby d1_50) ?_
              show Steps p.tables e below (s₁.setTop (mkF m 53 #[.val (.int p0), .unset] [(.int (160 : Int32)), (.int p0)])) _
              refine XS.icmpYes X0.here hx rfl (pc0 := 53) (pc' := 62) rfl (hb hby d1_53) rfl (tlt c2).1 (by decide) (by decide) ?_
              show Steps p.tables e below (s₁.setTop (mkF m 62 #[.val (.int p0), .unset] [])) _
              refine XS.iloadN X0.here hx rfl (hb hby d1_62) rfl ?_
              show Steps p.tables e below (s₁.setTop (mkF m 63 #[.val (.int p0), .unset] [(.int p0)])) _
              refine X0.ldcInt hx hown (mvT hZ (hw _ (List.mem_of_getElem? (i := 58) rfl))) (g := (mkF m 63 #[.val (.int p0), .unset] [(.int p0)])) rfl (hb hby d1_63) _ ?_
              show Steps p.tables e below (s₁.setTop (mkF m 65 #[.val (.int p0), .unset] [(.int (63744 : Int32)), (.int p0)])) _
              refine XS.icmpNo X0.here hx rfl (hb hby d1_65) rfl (flt c3).1 ?_
              show Steps p.tables e below (s₁.setTop (mkF m 68 #[.val (.int p0), .unset] [])) _
              refine XS.iloadN X0.here hx rfl (hb hby d1_68) rfl ?_
              show Steps p.tables e below (s₁.setTop (mkF m 69 #[.val (.int p0), .unset] [(.int p0)])) _
              refine X0.ldcInt hx hown (mvT hZ (hw _ (List.mem_of_getElem? (i := 59) rfl))) (g := (mkF m 69 #[.val (.int p0), .unset] [(.int p0)])) rfl (hb hby d1_69) _ ?_
              show Steps p.tables e below (s₁.setTop (mkF m 71 #[.val (.int p0), .unset] [(.int (64975 : Int32)), (.int p0)])) _
              refine XS.icmpNo X0.here hx rfl (hb hby d1_71) rfl (tlt c9).2.2.2 ?_
              show Steps p.tables e below (s₁.setTop (mkF m 74 #[.val (.int p0), .unset] [])) _
              refine XS.iloadN X0.here hx rfl (hb hby d1_74) rfl ?_
              show Steps p.tables e below (s₁.setTop (mkF m 75 #[.val (.int p0), .unset] [(.int p0)])) _
              refine X0.ldcInt hx hown (mvT hZ (hw _ (List.mem_of_getElem? (i := 61) rfl))) (g := (mkF m 75 #[.val (.int p0), .unset] [(.int p0)])) rfl (hb hby d1_75) _ ?_
              show Steps p.tables e below (s₁.setTop (mkF m 77 #[.val (.int p0), .unset] [(.int (65008 : Int32)), (.int p0)])) _
              refine XS.icmpYes X0.here hx rfl (pc0 := 77) (pc' := 90) rfl (hb hby d1_77) rfl (tlt c10).1 (by decide) (by decide) ?_
              show Steps p.tables e below (s₁.setTop (mkF m 90 #[.val (.int p0), .unset] [])) _
              refine XS.iconst X0.here hx rfl (hb hby d1_90) ?_
              show Steps p.tables e below (s₁.setTop (mkF m 91 #[.val (.int p0), .unset] [(.int (0 : Int32))])) _
              exact retN X0 hx (t := .boolean) Bd.returns (by simp) (hb hby d1_91) hr
            · show Q1 Z p0 h0 n0 _ s₁.heap _
              rw [e0]
              exact ⟨(congrArg (fun z => some (Value.int z)) ((if_pos c1).trans ((if_pos c2).trans ((if_neg c3).trans ((if_pos c9).trans ((if_pos c10).trans rfl))))).symm), N0, rfl⟩
          · by_cases c12 : (65519 : Int32) < p0
            · obtain ⟨fs, hr, hrun, hended, hW, hsame⟩ := X0.leave (v := some (.int (0 : Int32))) (fun h => by rw [Bd.returns] at h; cases h)
              refine ⟨_, _, pre0 _ ?_, hrun, hended, _, _, rfl, ?_, ⟨_, rfl⟩, hW, hsame.mono (by decide) (by decide)⟩
              · show Steps p.tables e below (s₁.setTop (mkF m 0 #[.val (.int p0), .unset] [])) _
                refine XS.iloadN X0.here hx rfl (hb hby d1_0) rfl ?_
                show Steps p.tables e below (s₁.setTop (mkF m 1 #[.val (.int p0), .unset] [(.int p0)])) _
                refine X0.ldcInt hx hown (mvT hZ (hw _ (List.mem_of_getElem? (i := 21) rfl))) (g := (mkF m 1 #[.val (.int p0), .unset] [(.int p0)])) rfl (hb hby d1_1) _ ?_
                show Steps p.tables e below (s₁.setTop (mkF m 3 #[.val (.int p0), .unset] [(.int (65536 : Int32)), (.int p0)])) _
                refine XS.icmpYes X0.here hx rfl (pc0 := 3) (pc' := 49) rfl (hb hby d1_3) rfl (tlt c1).1 (by decide) (by decide) ?_
                show Steps p.tables e below (s₁.setTop (mkF m 49 #[.val (.int p0), .unset] [])) _
                refine XS.iloadN X0.here hx rfl (hb hby d1_49) rfl ?_
                show Steps p.tables e below (s₁.setTop (mkF m 50 #[.val (.int p0), .unset] [(.int p0)])) _
                refine XS.sipush X0.here hx rfl (hb hby d1_50) ?_
                show Steps p.tables e below (s₁.setTop (mkF m 53 #[.val (.int p0), .unset] [(.int (160 : Int32)), (.int p0)])) _
                refine XS.icmpYes X0.here hx rfl (pc0 := 53) (pc' := 62) rfl (hb hby d1_53) rfl (tlt c2).1 (by decide) (by decide) ?_
                show Steps p.tables e below (s₁.setTop (mkF m 62 #[.val (.int p0), .unset] [])) _
                refine XS.iloadN X0.here hx rfl (hb hby d1_62) rfl ?_
                show Steps p.tables e below (s₁.setTop (mkF m 63 #[.val (.int p0), .unset] [(.int p0)])) _
                refine X0.ldcInt hx hown (mvT hZ (hw _ (List.mem_of_getElem? (i := 58) rfl))) (g := (mkF m 63 #[.val (.int p0), .unset] [(.int p0)])) rfl (hb hby d1_63) _ ?_
                show Steps p.tables e below (s₁.setTop (mkF m 65 #[.val (.int p0), .unset] [(.int (63744 : Int32)), (.int p0)])) _
                refine XS.icmpNo X0.here hx rfl (hb hby d1_65) rfl (flt c3).1 ?_
                show Steps p.tables e below (s₁.setTop (mkF m 68 #[.val (.int p0), .unset] [])) _
                refine XS.iloadN X0.here hx rfl (hb hby d1_68) rfl ?_
                show Steps p.tables e below (s₁.setTop (mkF m 69 #[.val (.int p0), .unset] [(.int p0)])) _
                refine X0.ldcInt hx hown (mvT hZ (hw _ (List.mem_of_getElem? (i := 59) rfl))) (g := (mkF m 69 #[.val (.int p0), .unset] [(.int p0)])) rfl (hb hby d1_69) _ ?_
                show Steps p.tables e below (s₁.setTop (mkF m 71 #[.val (.int p0), .unset] [(.int (64975 : Int32)), (.int p0)])) _
                refine XS.icmpNo X0.here hx rfl (hb hby d1_71) rfl (tlt c9).2.2.2 ?_
                show Steps p.tables e below (s₁.setTop (mkF m 74 #[.val (.int p0), .unset] [])) _
                refine XS.iloadN X0.here hx rfl (hb hby d1_74) rfl ?_
                show Steps p.tables e below (s₁.setTop (mkF m 75 #[.val (.int p0), .unset] [(.int p0)])) _
                refine X0.ldcInt hx hown (mvT hZ (hw _ (List.mem_of_getElem? (i := 61) rfl))) (g := (mkF m 75 #[.val (.int p0), .unset] [(.int p0)])) rfl (hb hby d1_75) _ ?_
                show Steps p.tables e below (s₁.setTop (mkF m 77 #[.val (.int p0), .unset] [(.int (65008 : Int32)), (.int p0)])) _
                refine XS.icmpNo X0.here hx rfl (hb hby d1_77) rfl (flt c10).1 ?_
                show Steps p.tables e below (s₁.setTop (mkF m 80 #[.val (.int p0), .unset] [])) _
                refine XS.iloadN X0.here hx rfl (hb hby d1_80) rfl ?_
                show Steps p.tables e below (s₁.setTop (mkF m 81 #[.val (.int p0), .unset] [(.int p0)])) _
                refine X0.ldcInt hx hown (mvT hZ (hw _ (List.mem_of_getElem? (i := 63) rfl))) (g := (mkF m 81 #[.val (.int p0), .unset] [(.int p0)])) rfl (hb hby d1_81) _ ?_
                show Steps p.tables e below (s₁.setTop (mkF m 83 #[.val (.int p0), .unset] [(.int (65519 : Int32)), (.int p0)])) _
                refine XS.icmpYes X0.here hx rfl (pc0 := 83) (pc' := 90) rfl (hb hby d1_83) rfl (tlt c12).2.2.1 (by decide) (by decide) ?_
                show Steps p.tables e below (s₁.setTop (mkF m 90 #[.val (.int p0), .unset] [])) _
                refine XS.iconst X0.here hx rfl (hb hby d1_90) ?_
                show Steps p.tables e below (s₁.setTop (mkF m 91 #[.val (.int p0), .unset] [(.int (0 : Int32))])) _
                exact retN X0 hx (t := .boolean) Bd.returns (by simp) (hb hby d1_91) hr
              · show Q1 Z p0 h0 n0 _ s₁.heap _
                rw [e0]
                exact ⟨(congrArg (fun z => some (Value.int z)) ((if_pos c1).trans ((if_pos c2).trans ((if_neg c3).trans ((if_pos c9).trans ((if_neg c10).trans ((if_pos c12).trans rfl)))))).symm), N0, rfl⟩
            · obtain ⟨fs, hr, hrun, hended, hW, hsame⟩ := X0.leave (v := some (.int (1 : Int32))) (fun h => by rw [Bd.returns] at h; cases h)
              refine ⟨_, _, pre0 _ ?_, hrun, hended, _, _, rfl, ?_, ⟨_, rfl⟩, hW, hsame.mono (by decide) (by decide)⟩
              · show Steps p.tables e below (s₁.setTop (mkF m 0 #[.val (.int p0), .unset] [])) _
                refine XS.iloadN X0.here hx rfl (hb hby d1_0) rfl ?_
                show Steps p.tables e below (s₁.setTop (mkF m 1 #[.val (.int p0), .unset] [(.int p0)])) _
                refine X0.ldcInt hx hown (mvT hZ (hw _ (List.mem_of_getElem? (i := 21) rfl))) (g := (mkF m 1 #[.val (.int p0), .unset] [(.int p0)])) rfl (hb hby d1_1) _ ?_
                show Steps p.tables e below (s₁.setTop (mkF m 3 #[.val (.int p0), .unset] [(.int (65536 : Int32)), (.int p0)])) _
                refine XS.icmpYes X0.here hx rfl (pc0 := 3) (pc' := 49) rfl (hb hby d1_3) rfl (tlt c1).1 (by decide) (by decide) ?_
                show Steps p.tables e below (s₁.setTop (mkF m 49 #[.val (.int p0), .unset] [])) _
                refine XS.iloadN X0.here hx rfl (hb hby d1_49) rfl ?_
                show Steps p.tables e below (s₁.setTop (mkF m 50 #[.val (.int p0), .unset] [(.int p0)])) _
                refine XS.sipush X0.here hx rfl (hb hby d1_50) ?_
                show Steps p.tables e below (s₁.setTop (mkF m 53 #[.val (.int p0), .unset] [(.int (160 : Int32)), (.int p0)])) _
                refine XS.icmpYes X0.here hx rfl (pc0 := 53) (pc' := 62) rfl (hb hby d1_53) rfl (tlt c2).1 (by decide) (by decide) ?_
                show Steps p.tables e below (s₁.setTop (mkF m 62 #[.val (.int p0), .unset] [])) _
                refine XS.iloadN X0.here hx rfl (hb hby d1_62) rfl ?_
                show Steps p.tables e below (s₁.setTop (mkF m 63 #[.val (.int p0), .unset] [(.int p0)])) _
                refine X0.ldcInt hx hown (mvT hZ (hw _ (List.mem_of_getElem? (i := 58) rfl))) (g := (mkF m 63 #[.val (.int p0), .unset] [(.int p0)])) rfl (hb hby d1_63) _ ?_
                show Steps p.tables e below (s₁.setTop (mkF m 65 #[.val (.int p0), .unset] [(.int (63744 : Int32)), (.int p0)])) _
                refine XS.icmpNo X0.here hx rfl (hb hby d1_65) rfl (flt c3).1 ?_
                show Steps p.tables e below (s₁.setTop (mkF m 68 #[.val (.int p0), .unset] [])) _
                refine XS.iloadN X0.here hx rfl (hb hby d1_68) rfl ?_
                show Steps p.tables e below (s₁.setTop (mkF m 69 #[.val (.int p0), .unset] [(.int p0)])) _
                refine X0.ldcInt hx hown (mvT hZ (hw _ (List.mem_of_getElem? (i := 59) rfl))) (g := (mkF m 69 #[.val (.int p0), .unset] [(.int p0)])) rfl (hb hby d1_69) _ ?_
                show Steps p.tables e below (s₁.setTop (mkF m 71 #[.val (.int p0), .unset] [(.int (64975 : Int32)), (.int p0)])) _
                refine XS.icmpNo X0.here hx rfl (hb hby d1_71) rfl (tlt c9).2.2.2 ?_
                show Steps p.tables e below (s₁.setTop (mkF m 74 #[.val (.int p0), .unset] [])) _
                refine XS.iloadN X0.here hx rfl (hb hby d1_74) rfl ?_
                show Steps p.tables e below (s₁.setTop (mkF m 75 #[.val (.int p0), .unset] [(.int p0)])) _
                refine X0.ldcInt hx hown (mvT hZ (hw _ (List.mem_of_getElem? (i := 61) rfl))) (g := (mkF m 75 #[.val (.int p0), .unset] [(.int p0)])) rfl (hb hby d1_75) _ ?_
                show Steps p.tables e below (s₁.setTop (mkF m 77 #[.val (.int p0), .unset] [(.int (65008 : Int32)), (.int p0)])) _
                refine XS.icmpNo X0.here hx rfl (hb hby d1_77) rfl (flt c10).1 ?_
                show Steps p.tables e below (s₁.setTop (mkF m 80 #[.val (.int p0), .unset] [])) _
                refine XS.iloadN X0.here hx rfl (hb hby d1_80) rfl ?_
                show Steps p.tables e below (s₁.setTop (mkF m 81 #[.val (.int p0), .unset] [(.int p0)])) _
                refine X0.ldcInt hx hown (mvT hZ (hw _ (List.mem_of_getElem? (i := 63) rfl))) (g := (mkF m 81 #[.val (.int p0), .unset] [(.int p0)])) rfl (hb hby d1_81) _ ?_
                show Steps p.tables e below (s₁.setTop (mkF m 83 #[.val (.int p0), .unset] [(.int (65519 : Int32)), (.int p0)])) _
                refine XS.icmpNo X0.here hx rfl (hb hby d1_83) rfl (flt c12).2.2.1 ?_
                show Steps p.tables e below (s₁.setTop (mkF m 86 #[.val (.int p0), .unset] [])) _
                refine XS.iconst X0.here hx rfl (hb hby d1_86) ?_
                show Steps p.tables e below (s₁.setTop (mkF m 87 #[.val (.int p0), .unset] [(.int (1 : Int32))])) _
                refine XS.goto X0.here hx rfl (pc0 := 87) (pc' := 91) rfl (hb hby d1_87) (by decide) (by decide) ?_
                show Steps p.tables e below (s₁.setTop (mkF m 91 #[.val (.int p0), .unset] [(.int (1 : Int32))])) _
                exact retN X0 hx (t := .boolean) Bd.returns (by simp) (hb hby d1_91) hr
              · show Q1 Z p0 h0 n0 _ s₁.heap _
                rw [e0]
                exact ⟨(congrArg (fun z => some (Value.int z)) ((if_pos c1).trans ((if_pos c2).trans ((if_neg c3).trans ((if_pos c9).trans ((if_neg c10).trans ((if_neg c12).trans rfl)))))).symm), N0, rfl⟩
        · obtain ⟨fs, hr, hrun, hended, hW, hsame⟩ := X0.leave (v := some (.int (1 : Int32))) (fun h => by rw [Bd.returns] at h; cases h)
          refine ⟨_, _, pre0 _ ?_, hrun, hended, _, _, rfl, ?_, ⟨_, rfl⟩, hW, hsame.mono (by decide) (by decide)⟩
          · show Steps p.tables e below (s₁.setTop (mkF m 0 #[.val (.int p0), .unset] [])) _
            refine XS.iloadN X0.here hx rfl (hb hby d1_0) rfl ?_
            show Steps p.tables e below (s₁.setTop (mkF m 1 #[.val (.int p0), .unset] [(.int p0)])) _
            refine X0.ldcInt hx hown (mvT hZ (hw _ (List.mem_of_getElem? (i := 21) rfl))) (g := (mkF m 1 #[.val (.int p0), .unset] [(.int p0)])) rfl (hb hby d1_1) _ ?_
            show Steps p.tables e below (s₁.setTop (mkF m 3 #[.val (.int p0), .unset] [(.int (65536 : Int32)), (.int p0)])) _
            refine XS.icmpYes X0.here hx rfl (pc0 := 3) (pc' := 49) rfl (hb hby d1_3) rfl (tlt c1).1 (by decide) (by decide) ?_
            show Steps p.tables e below (s₁.setTop (mkF m 49 #[.val (.int p0), .unset] [])) _
            refine XS.iloadN X0.here hx rfl (hb hby d1_49) rfl ?_
            show Steps p.tables e below (s₁.setTop (mkF m 50 #[.val (.int p0), .unset] [(.int p0)])) _
            refine XS.sipush X0.here hx rfl (hb hby d1_50) ?_
            show Steps p.tables e below (s₁.setTop (mkF m 53 #[.val (.int p0), .unset] [(.int (160 : Int32)), (.int p0)])) _
            refine XS.icmpYes X0.here hx rfl (pc0 := 53) (pc' := 62) rfl (hb hby d1_53) rfl (tlt c2).1 (by decide) (by decide) ?_
            show Steps p.tables e below (s₁.setTop (mkF m 62 #[.val (.int p0), .unset] [])) _
            refine XS.iloadN X0.here hx rfl (hb hby d1_62) rfl ?_
            show Steps p.tables e below (s₁.setTop (mkF m 63 #[.val (.int p0), .unset] [(.int p0)])) _
            refine X0.ldcInt hx hown (mvT hZ (hw _ (List.mem_of_getElem? (i := 58) rfl))) (g := (mkF m 63 #[.val (.int p0), .unset] [(.int p0)])) rfl (hb hby d1_63) _ ?_
            show Steps p.tables e below (s₁.setTop (mkF m 65 #[.val (.int p0), .unset] [(.int (63744 : Int32)), (.int p0)])) _
            refine XS.icmpNo X0.here hx rfl (hb hby d1_65) rfl (flt c3).1 ?_
            show Steps p.tables e below (s₁.setTop (mkF m 68 #[.val (.int p0), .unset] [])) _
            refine XS.iloadN X0.here hx rfl (hb hby d1_68) rfl ?_
            show Steps p.tables e below (s₁.setTop (mkF m 69 #[.val (.int p0), .unset] [(.int p0)])) _
            refine X0.ldcInt hx hown (mvT hZ (hw _ (List.mem_of_getElem? (i := 59) rfl))) (g := (mkF m 69 #[.val (.int p0), .unset] [(.int p0)])) rfl (hb hby d1_69) _ ?_
            show Steps p.tables e below (s₁.setTop (mkF m 71 #[.val (.int p0), .unset] [(.int (64975 : Int32)), (.int p0)])) _
            refine XS.icmpYes X0.here hx rfl (pc0 := 71) (pc' := 86) rfl (hb hby d1_71) rfl (flt c9).2.2.2 (by decide) (by decide) ?_
            show Steps p.tables e below (s₁.setTop (mkF m 86 #[.val (.int p0), .unset] [])) _
            refine XS.iconst X0.here hx rfl (hb hby d1_86) ?_
            show Steps p.tables e below (s₁.setTop (mkF m 87 #[.val (.int p0), .unset] [(.int (1 : Int32))])) _
            refine XS.goto X0.here hx rfl (pc0 := 87) (pc' := 91) rfl (hb hby d1_87) (by decide) (by decide) ?_
            show Steps p.tables e below (s₁.setTop (mkF m 91 #[.val (.int p0), .unset] [(.int (1 : Int32))])) _
            exact retN X0 hx (t := .boolean) Bd.returns (by simp) (hb hby d1_91) hr
          · show Q1 Z p0 h0 n0 _ s₁.heap _
            rw [e0]
            exact ⟨(congrArg (fun z => some (Value.int z)) ((if_pos c1).trans ((if_pos c2).trans ((if_neg c3).trans ((if_neg c9).trans rfl)))).symm), N0, rfl⟩
    · by_cases c16 : (55295 : Int32) < p0
      · by_cases c17 : p0 < (63744 : Int32)
        · by_cases c18 : p0 < (65008 : Int32)
          · obtain ⟨fs, hr, hrun, hended, hW, hsame⟩ := X0.leave (v := some (.int (0 : Int32))) (fun h => by rw [Bd.returns] at h; cases h)
            refine ⟨_, _, pre0 _ ?_, hrun, hended, _, _, rfl, ?_, ⟨_, rfl⟩, hW, hsame.mono (by decide) (by decide)⟩
            · show Steps p.tables e below (s₁.setTop (mkF m 0 #[.val (.int p0), .unset] [])) _
              refine XS.iloadN X0.here hx rfl (hb hby d1_0) rfl ?_
              show Steps p.tables e below (s₁.setTop (mkF m 1 #[.val (.int p0), .unset] [(.int p0)])) _
              refine X0.ldcInt hx hown (mvT hZ (hw _ (List.mem_of_getElem? (i := 21) rfl))) (g := (mkF m 1 #[.val (.int p0), .unset] [(.int p0)])) rfl (hb hby d1_1) _ ?_
              show Steps p.tables e below (s₁.setTop (mkF m 3 #[.val (.int p0), .unset] [(.int (65536 : Int32)), (.int p0)])) _
              refine XS.icmpYes X0.here hx rfl (pc0 := 3) (pc' := 49) rfl (hb hby d1_3) rfl (tlt c1).1 (by decide) (by decide) ?_
              show Steps p.tables e below (s₁.setTop (mkF m 49 #[.val (.int p0), .unset] [])) _
              refine XS.iloadN X0.here hx rfl (hb hby d1_49) rfl ?_
              show Steps p.tables e below (s₁.setTop (mkF m 50 #[.val (.int p0), .unset] [(.int p0)])) _
              refine XS.sipush X0.here hx rfl (hb hby d1_50) ?_
              show Steps p.tables e below (s₁.setTop (mkF m 53 #[.val (.int p0), .unset] [(.int (160 : Int32)), (.int p0)])) _
              refine XS.icmpNo X0.here hx rfl (hb hby d1_53) rfl (flt c2).1 ?_
              show Steps p.tables e below (s₁.setTop (mkF m 56 #[.val (.int p0), .unset] [])) _
              refine XS.iloadN X0.here hx rfl (hb hby d1_56) rfl ?_
              show Steps p.tables e below (s₁.setTop (mkF m 57 #[.val (.int p0), .unset] [(.int p0)])) _
              refine X0.ldcInt hx hown (mvT hZ (hw _ (List.mem_of_getElem? (i := 22) rfl))) (g := (mkF m 57 #[.val (.int p0), .unset] [(.int p0)])) rfl (hb hby d1_57) _ ?_
              show Steps p.tables e below (s₁.setTop (mkF m 59 #[.val (.int p0), .unset] [(.int (55295 : Int32)), (.int p0)])) _
              refine XS.icmpNo X0.here hx rfl (hb hby d1_59) rfl (tlt c16).2.2.2 ?_
              show Steps p.tables e below (s₁.setTop (mkF m 62 #[.val (.int p0), .unset] [])) _
              refine XS.iloadN X0.here hx rfl (hb hby d1_62) rfl ?_
              show Steps p.tables e below (s₁.setTop (mkF m 63 #[.val (.int p0), .unset] [(.int p0)])) _
              refine X0.ldcInt hx hown (mvT hZ (hw _ (List.mem_of_getElem? (i := 58) rfl))) (g := (mkF m 63 #[.val (.int p0), .unset] [(.int p0)])) rfl (hb hby d1_63) _ ?_
              show Steps p.tables e below (s₁.setTop (mkF m 65 #[.val (.int p0), .unset] [(.int (63744 : Int32)), (.int p0)])) _
              refine XS.icmpYes X0.here hx rfl (pc0 := 65) (pc' := 74) rfl (hb hby d1_65) rfl (tlt c17).1 (by decide) (by decide) ?_
              show Steps p.tables e below (s₁.setTop (mkF m 74 #[.val (.int p0), .unset] [])) _
              refine XS.iloadN X0.here hx rfl (hb hby d1_74) rfl ?_
              show Steps p.tables e below (s₁.setTop (mkF m 75 #[.val (.int p0), .unset] [(.int p0)])) _
              refine X0.ldcInt hx hown (mvT hZ (hw _ (List.mem_of_getElem? (i := 61) rfl))) (g := (mkF m 75 #[.val (.int p0), .unset] [(.int p0)])) rfl (hb hby d1_75) _ ?_
              show Steps p.tables e below (s₁.setTop (mkF m 77 #[.val (.int p0), .unset] [(.int (65008 : Int32)), (.int p0)])) _
              refine XS.icmpYes X0.here hx rfl (pc0 := 77) (pc' := 90) rfl (hb hby d1_77) rfl (tlt c18).1 (by decide) (by decide) ?_
              show Steps p.tables e below (s₁.setTop (mkF m 90 #[.val (.int p0), .unset] [])) _
              refine XS.iconst X0.here hx rfl (hb hby d1_90) ?_
              show Steps p.tables e below (s₁.setTop (mkF m 91 #[.val (.int p0), .unset] [(.int (0 : Int32))])) _
              exact retN X0 hx (t := .boolean) Bd.returns (by simp) (hb hby d1_91) hr
            · show Q1 Z p0 h0 n0 _ s₁.heap _
              rw [e0]
              exact ⟨(congrArg (fun z => some (Value.int z)) ((if_pos c1).trans ((if_neg c2).trans ((if_pos c16).trans ((if_pos c17).trans ((if_pos c18).trans rfl))))).symm), N0, rfl⟩
          · by_cases c20 : (65519 : Int32) < p0
            · obtain ⟨fs, hr, hrun, hended, hW, hsame⟩ := X0.leave (v := some (.int (0 : Int32))) (fun h => by rw [Bd.returns] at h; cases h)
              refine ⟨_, _, pre0 _ ?_, hrun, hended, _, _, rfl, ?_, ⟨_, rfl⟩, hW, hsame.mono (by decide) (by decide)⟩
              · show Steps p.tables e below (s₁.setTop (mkF m 0 #[.val (.int p0), .unset] [])) _
                refine XS.iloadN X0.here hx rfl (hb hby d1_0) rfl ?_
                show Steps p.tables e below (s₁.setTop (mkF m 1 #[.val (.int p0), .unset] [(.int p0)])) _
                refine X0.ldcInt hx hown (mvT hZ (hw _ (List.mem_of_getElem? (i := 21) rfl))) (g := (mkF m 1 #[.val (.int p0), .unset] [(.int p0)])) rfl (hb hby d1_1) _ ?_
                show Steps p.tables e below (s₁.setTop (mkF m 3 #[.val (.int p0), .unset] [(.int (65536 : Int32)), (.int p0)])) _
                refine XS.icmpYes X0.here hx rfl (pc0 := 3) (pc' := 49) rfl (hb hby d1_3) rfl (tlt c1).1 (by decide) (by decide) ?_
                show Steps p.tables e below (s₁.setTop (mkF m 49 #[.val (.int p0), .unset] [])) _
                refine XS.iloadN X0.here hx rfl (hb hby d1_49) rfl ?_
                show Steps p.tables e below (s₁.setTop (mkF m 50 #[.val (.int p0), .unset] [(.int p0)])) _
                refine XS.sipush X0.here hx rfl (hb hby d1_50) ?_
                show Steps p.tables e below (s₁.setTop (mkF m 53 #[.val (.int p0), .unset] [(.int (160 : Int32)), (.int p0)])) _
                refine XS.icmpNo X0.here hx rfl (hb hby d1_53) rfl (flt c2).1 ?_
                show Steps p.tables e below (s₁.setTop (mkF m 56 #[.val (.int p0), .unset] [])) _
                refine XS.iloadN X0.here hx rfl (hb hby d1_56) rfl ?_
                show Steps p.tables e below (s₁.setTop (mkF m 57 #[.val (.int p0), .unset] [(.int p0)])) _
                refine X0.ldcInt hx hown (mvT hZ (hw _ (List.mem_of_getElem? (i := 22) rfl))) (g := (mkF m 57 #[.val (.int p0), .unset] [(.int p0)])) rfl (hb hby d1_57) _ ?_
                show Steps p.tables e below (s₁.setTop (mkF m 59 #[.val (.int p0), .unset] [(.int (55295 : Int32)), (.int p0)])) _
                refine XS.icmpNo X0.here hx rfl (hb hby d1_59) rfl (tlt c16).2.2.2 ?_
                show Steps p.tables e below (s₁.setTop (mkF m 62 #[.val (.int p0), .unset] [])) _
                refine XS.iloadN X0.here hx rfl (hb hby d1_62) rfl ?_
                show Steps p.tables e below (s₁.setTop (mkF m 63 #[.val (.int p0), .unset] [(.int p0)])) _
                refine X0.ldcInt hx hown (mvT hZ (hw _ (List.mem_of_getElem? (i := 58) rfl))) (g := (mkF m 63 #[.val (.int p0), .unset] [(.int p0)])) rfl (hb hby d1_63) _ ?_
                show Steps p.tables e below (s₁.setTop (mkF m 65 #[.val (.int p0), .unset] [(.int (63744 : Int32)), (.int p0)])) _
                refine XS.icmpYes X0.here hx rfl (pc0 := 65) (pc' := 74) rfl (hb hby d1_65) rfl (tlt c17).1 (by decide) (by decide) ?_
                show Steps p.tables e below (s₁.setTop (mkF m 74 #[.val (.int p0), .unset] [])) _
                refine XS.iloadN X0.here hx rfl (hb hby d1_74) rfl ?_
                show Steps p.tables e below (s₁.setTop (mkF m 75 #[.val (.int p0), .unset] [(.int p0)])) _
                refine X0.ldcInt hx hown (mvT hZ (hw _ (List.mem_of_getElem? (i := 61) rfl))) (g := (mkF m 75 #[.val (.int p0), .unset] [(.int p0)])) rfl (hb hby d1_75) _ ?_
                show Steps p.tables e below (s₁.setTop (mkF m 77 #[.val (.int p0), .unset] [(.int (65008 : Int32)), (.int p0)])) _
                refine XS.icmpNo X0.here hx rfl (hb hby d1_77) rfl (flt c18).1 ?_
                show Steps p.tables e below (s₁.setTop (mkF m 80 #[.val (.int p0), .unset] [])) _
                refine XS.iloadN X0.here hx rfl (hb hby d1_80) rfl ?_
                show Steps p.tables e below (s₁.setTop (mkF m 81 #[.val (.int p0), .unset] [(.int p0)])) _
                refine X0.ldcInt hx hown (mvT hZ (hw _ (List.mem_of_getElem? (i := 63) rfl))) (g := (mkF m 81 #[.val (.int p0), .unset] [(.int p0)])) rfl (hb hby d1_81) _ ?_
                show Steps p.tables e below (s₁.setTop (mkF m 83 #[.val (.int p0), .unset] [(.int (65519 : Int32)), (.int p0)])) _
                refine XS.icmpYes X0.here hx rfl (pc0 := 83) (pc' := 90) rfl (hb hby d1_83) rfl (tlt c20).2.2.1 (by decide) (by decide) ?_
                show Steps p.tables e below (s₁.setTop (mkF m 90 #[.val (.int p0), .unset] [])) _
                refine XS.iconst X0.here hx rfl (hb hby d1_90) ?_
                show Steps p.tables e below (s₁.setTop (mkF m 91 #[.val (.int p0), .unset] [(.int (0 : Int32))])) _
                exact retN X0 hx (t := .boolean) Bd.returns (by simp) (hb hby d1_91) hr
              · show Q1 Z p0 h0 n0 _ s₁.heap _
                rw [e0]
                exact ⟨(congrArg (fun z => some (Value.int z)) ((if_pos c1).trans ((if_neg c2).trans ((if_pos c16).trans ((if_pos c17).trans ((if_neg c18).trans ((if_pos c20).trans rfl)))))).symm), N0, rfl⟩
            · obtain ⟨fs, hr, hrun, hended, hW, hsame⟩ := X0.leave (v := some (.int (1 : Int32))) (fun h => by rw [Bd.returns] at h; cases h)
              refine ⟨_, _, pre0 _ ?_, hrun, hended, _, _, rfl, ?_, ⟨_, rfl⟩, hW, hsame.mono (by decide) (by decide)⟩
              · show Steps p.tables e below (s₁.setTop (mkF m 0 #[.val (.int p0), .unset] [])) _
                refine XS.iloadN X0.here hx rfl (hb hby d1_0) rfl ?_
                show Steps p.tables e below (s₁.setTop (mkF m 1 #[.val (.int p0), .unset] [(.int p0)])) _
                refine X0.ldcInt hx hown (mvT hZ (hw _ (List.mem_of_getElem? (i := 21) rfl))) (g := (mkF m 1 #[.val (.int p0), .unset] [(.int p0)])) rfl (hb hby d1_1) _ ?_
                show Steps p.tables e below (s₁.setTop (mkF m 3 #[.val (.int p0), .unset] [(.int (65536 : Int32)), (.int p0)])) _
                refine XS.icmpYes X0.here hx rfl (pc0 := 3) (pc' := 49) rfl (hb hby d1_3) rfl (tlt c1).1 (by decide) (by decide) ?_
                show Steps p.tables e below (s₁.setTop (mkF m 49 #[.val (.int p0), .unset] [])) _
                refine XS.iloadN X0.here hx rfl (hb hby d1_49) rfl ?_
                show Steps p.tables e below (s₁.setTop (mkF m 50 #[.val (.int p0), .unset] [(.int p0)])) _
                refine XS.sipush X0.here hx rfl (hb hby d1_50) ?_
                show Steps p.tables e below (s₁.setTop (mkF m 53 #[.val (.int p0), .unset] [(.int (160 : Int32)), (.int p0)])) _
                refine XS.icmpNo X0.here hx rfl (hb hby d1_53) rfl (flt c2).1 ?_
                show Steps p.tables e below (s₁.setTop (mkF m 56 #[.val (.int p0), .unset] [])) _
                refine XS.iloadN X0.here hx rfl (hb hby d1_56) rfl ?_
                show Steps p.tables e below (s₁.setTop (mkF m 57 #[.val (.int p0), .unset] [(.int p0)])) _
                refine X0.ldcInt hx hown (mvT hZ (hw _ (List.mem_of_getElem? (i := 22) rfl))) (g := (mkF m 57 #[.val (.int p0), .unset] [(.int p0)])) rfl (hb hby d1_57) _ ?_
                show Steps p.tables e below (s₁.setTop (mkF m 59 #[.val (.int p0), .unset] [(.int (55295 : Int32)), (.int p0)])) _
                refine XS.icmpNo X0.here hx rfl (hb hby d1_59) rfl (tlt c16).2.2.2 ?_
                show Steps p.tables e below (s₁.setTop (mkF m 62 #[.val (.int p0), .unset] [])) _
                refine XS.iloadN X0.here hx rfl (hb hby d1_62) rfl ?_
                show Steps p.tables e below (s₁.setTop (mkF m 63 #[.val (.int p0), .unset] [(.int p0)])) _
                refine X0.ldcInt hx hown (mvT hZ (hw _ (List.mem_of_getElem? (i := 58) rfl))) (g := (mkF m 63 #[.val (.int p0), .unset] [(.int p0)])) rfl (hb hby d1_63) _ ?_
                show Steps p.tables e below (s₁.setTop (mkF m 65 #[.val (.int p0), .unset] [(.int (63744 : Int32)), (.int p0)])) _
                refine XS.icmpYes X0.here hx rfl (pc0 := 65) (pc' := 74) rfl (hb hby d1_65) rfl (tlt c17).1 (by decide) (by decide) ?_
                show Steps p.tables e below (s₁.setTop (mkF m 74 #[.val (.int p0), .unset] [])) _
                refine XS.iloadN X0.here hx rfl (hb hby d1_74) rfl ?_
                show Steps p.tables e below (s₁.setTop (mkF m 75 #[.val (.int p0), .unset] [(.int p0)])) _
                refine X0.ldcInt hx hown (mvT hZ (hw _ (List.mem_of_getElem? (i := 61) rfl))) (g := (mkF m 75 #[.val (.int p0), .unset] [(.int p0)])) rfl (hb hby d1_75) _ ?_
                show Steps p.tables e below (s₁.setTop (mkF m 77 #[.val (.int p0), .unset] [(.int (65008 : Int32)), (.int p0)])) _
                refine XS.icmpNo X0.here hx rfl (hb hby d1_77) rfl (flt c18).1 ?_
                show Steps p.tables e below (s₁.setTop (mkF m 80 #[.val (.int p0), .unset] [])) _
                refine XS.iloadN X0.here hx rfl (hb hby d1_80) rfl ?_
                show Steps p.tables e below (s₁.setTop (mkF m 81 #[.val (.int p0), .unset] [(.int p0)])) _
                refine X0.ldcInt hx hown (mvT hZ (hw _ (List.mem_of_getElem? (i := 63) rfl))) (g := (mkF m 81 #[.val (.int p0), .unset] [(.int p0)])) rfl (hb hby d1_81) _ ?_
                show Steps p.tables e below (s₁.setTop (mkF m 83 #[.val (.int p0), .unset] [(.int (65519 : Int32)), (.int p0)])) _
                refine XS.icmpNo X0.here hx rfl (hb hby d1_83) rfl (flt c20).2.2.1 ?_
                show Steps p.tables e below (s₁.setTop (mkF m 86 #[.val (.int p0), .unset] [])) _
                refine XS.iconst X0.here hx rfl (hb hby d1_86) ?_
                show Steps p.tables e below (s₁.setTop (mkF m 87 #[.val (.int p0), .unset] [(.int (1 : Int32))])) _
                refine XS.goto X0.here hx rfl (pc0 := 87) (pc' := 91) rfl (hb hby d1_87) (by decide) (by decide) ?_
                show Steps p.tables e below (s₁.setTop (mkF m 91 #[.val (.int p0), .unset] [(.int (1 : Int32))])) _
                exact retN X0 hx (t := .boolean) Bd.returns (by simp) (hb hby d1_91) hr
              · show Q1 Z p0 h0 n0 _ s₁.heap _
                rw [e0]
                exact ⟨(congrArg (fun z => some (Value.int z)) ((if_pos c1).trans ((if_neg c2).trans ((if_pos c16).trans ((if_pos c17).trans ((if_neg c18).trans ((if_neg c20).trans rfl)))))).symm), N0, rfl⟩
        · by_cases c23 : (64975 : Int32) < p0
          · by_cases c24 : p0 < (65008 : Int32)
            · obtain ⟨fs, hr, hrun, hended, hW, hsame⟩ := X0.leave (v := some (.int (0 : Int32))) (fun h => by rw [Bd.returns] at h; cases h)
              refine ⟨_, _, pre0 _ ?_, hrun, hended, _, _, rfl, ?_, ⟨_, rfl⟩, hW, hsame.mono (by decide) (by decide)⟩
              · show Steps p.tables e below (s₁.setTop (mkF m 0 #[.val (.int p0), .unset] [])) _
                refine XS.iloadN X0.here hx rfl (hb hby d1_0) rfl ?_
                show Steps p.tables e below (s₁.setTop (mkF m 1 #[.val (.int p0), .unset] [(.int p0)])) _
                refine X0.ldcInt hx hown (mvT hZ (hw _ (List.mem_of_getElem? (i := 21) rfl))) (g := (mkF m 1 #[.val (.int p0), .unset] [(.int p0)])) rfl (hb hby d1_1) _ ?_
                show Steps p.tables e below (s₁.setTop (mkF m 3 #[.val (.int p0), .unset] [(.int (65536 : Int32)), (.int p0)])) _
                refine XS.icmpYes X0.here hx rfl (pc0 := 3) (pc' := 49) rfl (hb hby d1_3) rfl (tlt c1).1 (by decide) (by decide) ?_
                show Steps p.tables e below (s₁.setTop (mkF m 49 #[.val (.int p0), .unset] [])) _
                refine XS.iloadN X0.here hx rfl (hb hby d1_49) rfl ?_
                show Steps p.tables e below (s₁.setTop (mkF m 50 #[.val (.int p0), .unset] [(.int p0)])) _
                refine XS.sipush X0.here hx rfl (hb hby d1_50) ?_
                show Steps p.tables e below (s₁.setTop (mkF m 53 #[.val (.int p0), .unset] [(.int (160 : Int32)), (.int p0)])) _
                refine XS.icmpNo X0.here hx rfl (hb hby d1_53) rfl (flt c2).1 ?_
                show Steps p.tables e below (s₁.setTop (mkF m 56 #[.val (.int p0), .unset] [])) _
                refine XS.iloadN X0.here hx rfl (hb hby d1_56) rfl ?_
                show Steps p.tables e below (s₁.setTop (mkF m 57 #[.val (.int p0), .unset] [(.int p0)])) _
                refine X0.ldcInt hx hown (mvT hZ (hw _ (List.mem_of_getElem? (i := 22) rfl))) (g := (mkF m 57 #[.val (.int p0), .unset] [(.int p0)])) rfl (hb hby d1_57) _ ?_
                show Steps p.tables e below (s₁.setTop (mkF m 59 #[.val (.int p0), .unset] [(.int (55295 : Int32)), (.int p0)])) _
                refine XS.icmpNo X0.here hx rfl (hb hby d1_59) rfl (tlt c16).2.2.2 ?_
                show Steps p.tables e below (s₁.setTop (mkF m 62 #[.val (.int p0), .unset] [])) _
                refine XS.iloadN X0.here hx rfl (hb hby d1_62) rfl ?_
                show Steps p.tables e below (s₁.setTop (mkF m 63 #[.val (.int p0), .unset] [(.int p0)])) _
                refine X0.ldcInt hx hown (mvT hZ (hw _ (List.mem_of_getElem? (i := 58) rfl))) (g := (mkF m 63 #[.val (.int p0), .unset] [(.int p0)])) rfl (hb hby d1_63) _ ?_
                show Steps p.tables e below (s₁.setTop (mkF m 65 #[.val (.int p0), .unset] [(.int (63744 : Int32)), (.int p0)])) _
                refine XS.icmpNo X0.here hx rfl (hb hby d1_65) rfl (flt c17).1 ?_
                show Steps p.tables e below (s₁.setTop (mkF m 68 #[.val (.int p0), .unset] [])) _
                refine XS.iloadN X0.here hx rfl (hb hby d1_68) rfl ?_
                show Steps p.tables e below (s₁.setTop (mkF m 69 #[.val (.int p0), .unset] [(.int p0)])) _
                refine X0.ldcInt hx hown (mvT hZ (hw _ (List.mem_of_getElem? (i := 59) rfl))) (g := (mkF m 69 #[.val (.int p0), .unset] [(.int p0)])) rfl (hb hby d1_69) _ ?_
                show Steps p.tables e below (s₁.setTop (mkF m 71 #[.val (.int p0), .unset] [(.int (64975 : Int32)), (.int p0)])) _
                refine XS.icmpNo X0.here hx rfl (hb hby d1_71) rfl (tlt c23).2.2.2 ?_
                show Steps p.tables e below (s₁.setTop (mkF m 74 #[.val (.int p0), .unset] [])) _
                refine XS.iloadN X0.here hx rfl (hb hby d1_74) rfl ?_
                show Steps p.tables e below (s₁.setTop (mkF m 75 #[.val (.int p0), .unset] [(.int p0)])) _
                refine X0.ldcInt hx hown (mvT hZ (hw _ (List.mem_of_getElem? (i := 61) rfl))) (g := (mkF m 75 #[.val (.int p0), .unset] [(.int p0)])) rfl (hb hby d1_75) _ ?_
                show Steps p.tables e below (s₁.setTop (mkF m 77 #[.val (.int p0), .unset] [(.int (65008 : Int32)), (.int p0)])) _
                refine XS.icmpYes X0.here hx rfl (pc0 := 77) (pc' := 90) rfl (hb hby d1_77) rfl (tlt c24).1 (by decide) (by decide) ?_
                show Steps p.tables e below (s₁.setTop (mkF m 90 #[.val (.int p0), .unset] [])) _
                refine XS.iconst X0.here hx rfl (hb hby d1_90) ?_
                show Steps p.tables e below (s₁.setTop (mkF m 91 #[.val (.int p0), .unset] [(.int (0 : Int32))])) _
                exact retN X0 hx (t := .boolean) Bd.returns (by simp) (hb hby d1_91) hr
              · show Q1 Z p0 h0 n0 _ s₁.heap _
                rw [e0]
                exact ⟨(congrArg (fun z => some (Value.int z)) ((if_pos c1).trans ((if_neg c2).trans ((if_pos c16).trans ((if_neg c17).trans ((if_pos c23).trans ((if_pos c24).trans rfl)))))).symm), N0, rfl⟩
            · by_cases c26 : (65519 : Int32) < p0
              · obtain ⟨fs, hr, hrun, hended, hW, hsame⟩ := X0.leave (v := some (.int (0 : Int32))) (fun h => by rw [Bd.returns] at h; cases h)
                refine ⟨_, _, pre0 _ ?_, hrun, hended, _, _, rfl, ?_, ⟨_, rfl⟩, hW, hsame.mono (by decide) (by decide)⟩
                · show Steps p.tables e below (s₁.setTop (mkF m 0 #[.val (.int p0), .unset] [])) _
                  refine XS.iloadN X0.here hx rfl (hb hby d1_0) rfl ?_
                  show Steps p.tables e below (s₁.setTop (mkF m 1 #[.val (.int p0), .unset] [(.int p0)])) _
                  refine X0.ldcInt hx hown (mvT hZ (hw _ (List.mem_of_getElem? (i := 21) rfl))) (g := (mkF m 1 #[.val (.int p0), .unset] [(.int p0)])) rfl (hb hby d1_1) _ ?_
                  show Steps p.tables e below (s₁.setTop (mkF m 3 #[.val (.int p0), .unset] [(.int (65536 : Int32)), (.int p0)])) _
                  refine XS.icmpYes X0.here hx rfl (pc0 := 3) (pc' := 49) rfl (hb hby d1_3) rfl (tlt c1).1 (by decide) (by decide) ?_
                  show Steps p.tables e below (s₁.setTop (mkF m 49 #[.val (.int p0), .unset] [])) _
                  refine XS.iloadN X0.here hx rfl (hb hby d1_49) rfl ?_
                  show Steps p.tables e below (s₁.setTop (mkF m 50 #[.val (.int p0), .unset] [(.int p0)])) _
                  refine XS.sipush X0.here hx rfl (hb hby d1_50) ?_
                  show Steps p.tables e below (s₁.setTop (mkF m 53 #[.val (.int p0), .unset] [(.int (160 : Int32)), (.int p0)])) _
                  refine XS.icmpNo X0.here hx rfl (hb hby d1_53) rfl (flt c2).1 ?_
                  show Steps p.tables e below (s₁.setTop (mkF m 56 #[.val (.int p0), .unset] [])) _
                  refine XS.iloadN X0.here hx rfl (hb hby d1_56) rfl ?_
                  show Steps p.tables e below (s₁.setTop (mkF m 57 #[.val (.int p0), .unset] [(.int p0)])) _
                  refine X0.ldcInt hx hown (mvT hZ (hw _ (List.mem_of_getElem? (i := 22) rfl))) (g := (mkF m 57 #[.val (.int p0), .unset] [(.int p0)])) rfl (hb hby d1_57) _ ?_
                  show Steps p.tables e below (s₁.setTop (mkF m 59 #[.val (.int p0), .unset] [(.int (55295 : Int32)), (.int p0)])) _
                  refine XS.icmpNo X0.here hx rfl (hb hby d1_59) rfl (tlt c16).2.2.2 ?_
                  show Steps p.tables e below (s₁.setTop (mkF m 62 #[.val (.int p0), .unset] [])) _
                  refine XS.iloadN X0.here hx rfl (hb hby d1_62) rfl ?_
                  show Steps p.tables e below (s₁.setTop (mkF m 63 #[.val (.int p0), .unset] [(.int p0)])) _
                  refine X0.ldcInt hx hown (mvT hZ (hw _ (List.mem_of_getElem? (i := 58) rfl))) (g := (mkF m 63 #[.val (.int p0), .unset] [(.int p0)])) rfl (hb hby d1_63) _ ?_
                  show Steps p.tables e below (s₁.setTop (mkF m 65 #[.val (.int p0), .unset] [(.int (63744 : Int32)), (.int p0)])) _
                  refine XS.icmpNo X0.here hx rfl (hb hby d1_65) rfl (flt c17).1 ?_
                  show Steps p.tables e below (s₁.setTop (mkF m 68 #[.val (.int p0), .unset] [])) _
                  refine XS.iloadN X0.here hx rfl (hb hby d1_68) rfl ?_
                  show Steps p.tables e below (s₁.setTop (mkF m 69 #[.val (.int p0), .unset] [(.int p0)])) _
                  refine X0.ldcInt hx hown (mvT hZ (hw _ (List.mem_of_getElem? (i := 59) rfl))) (g := (mkF m 69 #[.val (.int p0), .unset] [(.int p0)])) rfl (hb hby d1_69) _ ?_
                  show Steps p.tables e below (s₁.setTop (mkF m 71 #[.val (.int p0), .unset] [(.int (64975 : Int32)), (.int p0)])) _
                  refine XS.icmpNo X0.here hx rfl (hb hby d1_71) rfl (tlt c23).2.2.2 ?_
                  show Steps p.tables e below (s₁.setTop (mkF m 74 #[.val (.int p0), .unset] [])) _
                  refine XS.iloadN X0.here hx rfl (hb hby d1_74) rfl ?_
                  show Steps p.tables e below (s₁.setTop (mkF m 75 #[.val (.int p0), .unset] [(.int p0)])) _
                  refine X0.ldcInt hx hown (mvT hZ (hw _ (List.mem_of_getElem? (i := 61) rfl))) (g := (mkF m 75 #[.val (.int p0), .unset] [(.int p0)])) rfl (hb hby d1_75) _ ?_
                  show Steps p.tables e below (s₁.setTop (mkF m 77 #[.val (.int p0), .unset] [(.int (65008 : Int32)), (.int p0)])) _
                  refine XS.icmpNo X0.here hx rfl (hb hby d1_77) rfl (flt c24).1 ?_
                  show Steps p.tables e below (s₁.setTop (mkF m 80 #[.val (.int p0), .unset] [])) _
                  refine XS.iloadN X0.here hx rfl (hb hby d1_80) rfl ?_
                  show Steps p.tables e below (s₁.setTop (mkF m 81 #[.val (.int p0), .unset] [(.int p0)])) _
                  refine X0.ldcInt hx hown (mvT hZ (hw _ (List.mem_of_getElem? (i := 63) rfl))) (g := (mkF m 81 #[.val (.int p0), .unset] [(.int p0)])) rfl (hb hby d1_81) _ ?_
                  show Steps p.tables e below (s₁.setTop (mkF m 83 #[.val (.int p0), .unset] [(.int (65519 : Int32)), (.int p0)])) _
                  refine XS.icmpYes X0.here hx rfl (pc0 := 83) (pc' := 90) rfl (hb hby d1_83) rfl (tlt c26).2.2.1 (by decide) (by decide) ?_
                  show Steps p.tables e below (s₁.setTop (mkF m 90 #[.val (.int p0), .unset] [])) _
                  refine XS.iconst X0.here hx rfl (hb hby d1_90) ?_
                  show Steps p.tables e below (s₁.setTop (mkF m 91 #[.val (.int p0), .unset] [(.int (0 : Int32))])) _
                  exact retN X0 hx (t := .boolean) Bd.returns (by simp) (hb hby d1_91) hr
                · show Q1 Z p0 h0 n0 _ s₁.heap _
                  rw [e0]
                  exact ⟨(congrArg (fun z => some (Value.int z)) ((if_pos c1).trans ((if_neg c2).trans ((if_pos c16).trans ((if_neg c17).trans ((if_pos c23).trans ((if_neg c24).trans ((if_pos c26).trans rfl))))))).symm), N0, rfl⟩
              · obtain ⟨fs, hr, hrun, hended, hW, hsame⟩ := X0.leave (v := some (.int (1 : Int32))) (fun h => by rw [Bd.returns] at h; cases h)
                refine ⟨_, _, pre0 _ ?_, hrun, hended, _, _, rfl, ?_, ⟨_, rfl⟩, hW, hsame.mono (by decide) (by decide)⟩
                · show Steps p.tables e below (s₁.setTop (mkF m 0 #[.val (.int p0), .unset] [])) _
                  refine XS.iloadN X0.here hx rfl (hb hby d1_0) rfl ?_
                  show Steps p.tables e below (s₁.setTop (mkF m 1 #[.val (.int p0), .unset] [(.int p0)])) _
                  refine X0.ldcInt hx hown (mvT hZ (hw _ (List.mem_of_getElem? (i := 21) rfl))) (g := (mkF m 1 #[.val (.int p0), .unset] [(.int p0)])) rfl (hb hby d1_1) _ ?_
                  show Steps p.tables e below (s₁.setTop (mkF m 3 #[.val (.int p0), .unset] [(.int (65536 : Int32)), (.int p0)])) _
                  refine XS.icmpYes X0.here hx rfl (pc0 := 3) (pc' := 49) rfl (hb hby d1_3) rfl (tlt c1).1 (by decide) (by decide) ?_
                  show Steps p.tables e below (s₁.setTop (mkF m 49 #[.val (.int p0), .unset] [])) _
                  refine XS.iloadN X0.here hx rfl (hb hby d1_49) rfl ?_
                  show Steps p.tables e below (s₁.setTop (mkF m 50 #[.val (.int p0), .unset] [(.int p0)])) _
                  refine XS.sipush X0.here hx rfl (hb hby d1_50) ?_
                  show Steps p.tables e below (s₁.setTop (mkF m 53 #[.val (.int p0), .unset] [(.int (160 : Int32)), (.int p0)])) _
                  refine XS.icmpNo X0.here hx rfl (hb hby d1_53) rfl (flt c2).1 ?_
                  show Steps p.tables e below (s₁.setTop (mkF m 56 #[.val (.int p0), .unset] [])) _
                  refine XS.iloadN X0.here hx rfl (hb hby d1_56) rfl ?_
                  show Steps p.tables e below (s₁.setTop (mkF m 57 #[.val (.int p0), .unset] [(.int p0)])) _
                  refine X0.ldcInt hx hown (mvT hZ (hw _ (List.mem_of_getElem? (i := 22) rfl))) (g := (mkF m 57 #[.val (.int p0), .unset] [(.int p0)])) rfl (hb hby d1_57) _ ?_
                  show Steps p.tables e below (s₁.setTop (mkF m 59 #[.val (.int p0), .unset] [(.int (55295 : Int32)), (.int p0)])) _
                  refine XS.icmpNo X0.here hx rfl (hb hby d1_59) rfl (tlt c16).2.2.2 ?_
                  show Steps p.tables e below (s₁.setTop (mkF m 62 #[.val (.int p0), .unset] [])) _
                  refine XS.iloadN X0.here hx rfl (hb hby d1_62) rfl ?_
                  show Steps p.tables e below (s₁.setTop (mkF m 63 #[.val (.int p0), .unset] [(.int p0)])) _
                  refine X0.ldcInt hx hown (mvT hZ (hw _ (List.mem_of_getElem? (i := 58) rfl))) (g := (mkF m 63 #[.val (.int p0), .unset] [(.int p0)])) rfl (hb hby d1_63) _ ?_
                  show Steps p.tables e below (s₁.setTop (mkF m 65 #[.val (.int p0), .unset] [(.int (63744 : Int32)), (.int p0)])) _
                  refine XS.icmpNo X0.here hx rfl (hb hby d1_65) rfl (flt c17).1 ?_
                  show Steps p.tables e below (s₁.setTop (mkF m 68 #[.val (.int p0), .unset] [])) _
                  refine XS.iloadN X0.here hx rfl (hb hby d1_68) rfl ?_
                  show Steps p.tables e below (s₁.setTop (mkF m 69 #[.val (.int p0), .unset] [(.int p0)])) _
                  refine X0.ldcInt hx hown (mvT hZ (hw _ (List.mem_of_getElem? (i := 59) rfl))) (g := (mkF m 69 #[.val (.int p0), .unset] [(.int p0)])) rfl (hb hby d1_69) _ ?_
                  show Steps p.tables e below (s₁.setTop (mkF m 71 #[.val (.int p0), .unset] [(.int (64975 : Int32)), (.int p0)])) _
                  refine XS.icmpNo X0.here hx rfl (hb hby d1_71) rfl (tlt c23).2.2.2 ?_
                  show Steps p.tables e below (s₁.setTop (mkF m 74 #[.val (.int p0), .unset] [])) _
                  refine XS.iloadN X0.here hx rfl (hb hby d1_74) rfl ?_
                  show Steps p.tables e below (s₁.setTop (mkF m 75 #[.val (.int p0), .unset] [(.int p0)])) _
                  refine X0.ldcInt hx hown (mvT hZ (hw _ (List.mem_of_getElem? (i := 61) rfl))) (g := (mkF m 75 #[.val (.int p0), .unset] [(.int p0)])) rfl (hb hby d1_75) _ ?_
                  show Steps p.tables e below (s₁.setTop (mkF m 77 #[.val (.int p0), .unset] [(.int (65008 : Int32)), (.int p0)])) _
                  refine XS.icmpNo X0.here hx rfl (hb hby d1_77) rfl (flt c24).1 ?_
                  show Steps p.tables e below (s₁.setTop (mkF m 80 #[.val (.int p0), .unset] [])) _
                  refine XS.iloadN X0.here hx rfl (hb hby d1_80) rfl ?_
                  show Steps p.tables e below (s₁.setTop (mkF m 81 #[.val (.int p0), .unset] [(.int p0)])) _
                  refine X0.ldcInt hx hown (mvT hZ (hw _ (List.mem_of_getElem? (i := 63) rfl))) (g := (mkF m 81 #[.val (.int p0), .unset] [(.int p0)])) rfl (hb hby d1_81) _ ?_
                  show Steps p.tables e below (s₁.setTop (mkF m 83 #[.val (.int p0), .unset] [(.int (65519 : Int32)), (.int p0)])) _
                  refine XS.icmpNo X0.here hx rfl (hb hby d1_83) rfl (flt c26).2.2.1 ?_
                  show Steps p.tables e below (s₁.setTop (mkF m 86 #[.val (.int p0), .unset] [])) _
                  refine XS.iconst X0.here hx rfl (hb hby d1_86) ?_
                  show Steps p.tables e below (s₁.setTop (mkF m 87 #[.val (.int p0), .unset] [(.int (1 : Int32))])) _
                  refine XS.goto X0.here hx rfl (pc0 := 87) (pc' := 91) rfl (hb hby d1_87) (by decide) (by decide) ?_
                  show Steps p.tables e below (s₁.setTop (mkF m 91 #[.val (.int p0), .unset] [(.int (1 : Int32))])) _
                  exact retN X0 hx (t := .boolean) Bd.returns (by simp) (hb hby d1_91) hr
                · show Q1 Z p0 h0 n0 _ s₁.heap _
                  rw [e0]
                  exact ⟨(congrArg (fun z => some (Value.int z)) ((if_pos c1).trans ((if_neg c2).trans ((if_pos c16).trans ((if_neg c17).trans ((if_pos c23).trans ((if_neg c24).trans ((if_neg c26).trans rfl))))))).symm), N0, rfl⟩
          · obtain ⟨fs, hr, hrun, hended, hW, hsame⟩ := X0.leave (v := some (.int (1 : Int32))) (fun h => by rw [Bd.returns] at h; cases h)
            refine ⟨_, _, pre0 _ ?_, hrun, hended, _, _, rfl, ?_, ⟨_, rfl⟩, hW, hsame.mono (by decide) (by decide)⟩
            · show Steps p.tables e below (s₁.setTop (mkF m 0 #[.val (.int p0), .unset] [])) _
              refine XS.iloadN X0.here hx rfl (hb hby d1_0) rfl ?_
              show Steps p.tables e below (s₁.setTop (mkF m 1 #[.val (.int p0), .unset] [(.int p0)])) _
              refine X0.ldcInt hx hown (mvT hZ (hw _ (List.mem_of_getElem? (i := 21) rfl))) (g := (mkF m 1 #[.val (.int p0), .unset] [(.int p0)])) rfl (hb hby d1_1) _ ?_
              show Steps p.tables e below (s₁.setTop (mkF m 3 #[.val (.int p0), .unset] [(.int (65536 : Int32)), (.int p0)])) _
              refine XS.icmpYes X0.here hx rfl (pc0 := 3) (pc' := 49) rfl (hb hby d1_3) rfl (tlt c1).1 (by decide) (by decide) ?_
              show Steps p.tables e below (s₁.setTop (mkF m 49 #[.val (.int p0), .unset] [])) _
              refine XS.iloadN X0.here hx rfl (hb hby d1_49) rfl ?_
              show Steps p.tables e below (s₁.setTop (mkF m 50 #[.val (.int p0), .unset] [(.int p0)])) _
              refine XS.sipush X0.here hx rfl (hb hby d1_50) ?_
              show Steps p.tables e below (s₁.setTop (mkF m 53 #[.val (.int p0), .unset] [(.int (160 : Int32)), (.int p0)])) _
              refine XS.icmpNo X0.here hx rfl (hb hby d1_53) rfl (flt c2).1 ?_
              show Steps p.tables e below (s₁.setTop (mkF m 56 #[.val (.int p0), .unset] [])) _
              refine XS.iloadN X0.here hx rfl (hb hby d1_56) rfl ?_
              show Steps p.tables e below (s₁.setTop (mkF m 57 #[.val (.int p0), .unset] [(.int p0)])) _
              refine X0.ldcInt hx hown (mvT hZ (hw _ (List.mem_of_getElem? (i := 22) rfl))) (g := (mkF m 57 #[.val (.int p0), .unset] [(.int p0)])) rfl (hb hby d1_57) _ ?_
              show Steps p.tables e below (s₁.setTop (mkF m 59 #[.val (.int p0), .unset] [(.int (55295 : Int32)), (.int p0)])) _
              refine XS.icmpNo X0.here hx rfl (hb hby d1_59) rfl (tlt c16).2.2.2 ?_
              show Steps p.tables e below (s₁.setTop (mkF m 62 #[.val (.int p0), .unset] [])) _
              refine XS.iloadN X0.here hx rfl (hb hby d1_62) rfl ?_
              show Steps p.tables e below (s₁.setTop (mkF m 63 #[.val (.int p0), .unset] [(.int p0)])) _
              refine X0.ldcInt hx hown (mvT hZ (hw _ (List.mem_of_getElem? (i := 58) rfl))) (g := (mkF m 63 #[.val (.int p0), .unset] [(.int p0)])) rfl (hb hby d1_63) _ ?_
              show Steps p.tables e below (s₁.setTop (mkF m 65 #[.val (.int p0), .unset] [(.int (63744 : Int32)), (.int p0)])) _
              refine XS.icmpNo X0.here hx rfl (hb hby d1_65) rfl (flt c17).1 ?_
              show Steps p.tables e below (s₁.setTop (mkF m 68 #[.val (.int p0), .unset] [])) _
              refine XS.iloadN X0.here hx rfl (hb hby d1_68) rfl ?_
              show Steps p.tables e below (s₁.setTop (mkF m 69 #[.val (.int p0), .unset] [(.int p0)])) _
              refine X0.ldcInt hx hown (mvT hZ (hw _ (List.mem_of_getElem? (i := 59) rfl))) (g := (mkF m 69 #[.val (.int p0), .unset] [(.int p0)])) rfl (hb hby d1_69) _ ?_
              show Steps p.tables e below (s₁.setTop (mkF m 71 #[.val (.int p0), .unset] [(.int (64975 : Int32)), (.int p0)])) _
              refine XS.icmpYes X0.here hx rfl (pc0 := 71) (pc' := 86) rfl (hb hby d1_71) rfl (flt c23).2.2.2 (by decide) (by decide) ?_
              show Steps p.tables e below (s₁.setTop (mkF m 86 #[.val (.int p0), .unset] [])) _
              refine XS.iconst X0.here hx rfl (hb hby d1_86) ?_
              show Steps p.tables e below (s₁.setTop (mkF m 87 #[.val (.int p0), .unset] [(.int (1 : Int32))])) _
              refine XS.goto X0.here hx rfl (pc0 := 87) (pc' := 91) rfl (hb hby d1_87) (by decide) (by decide) ?_
              show Steps p.tables e below (s₁.setTop (mkF m 91 #[.val (.int p0), .unset] [(.int (1 : Int32))])) _
              exact retN X0 hx (t := .boolean) Bd.returns (by simp) (hb hby d1_91) hr
            · show Q1 Z p0 h0 n0 _ s₁.heap _
              rw [e0]
              exact ⟨(congrArg (fun z => some (Value.int z)) ((if_pos c1).trans ((if_neg c2).trans ((if_pos c16).trans ((if_neg c17).trans ((if_neg c23).trans rfl))))).symm), N0, rfl⟩
      · obtain ⟨fs, hr, hrun, hended, hW, hsame⟩ := X0.leave (v := some (.int (1 : Int32))) (fun h => by rw [Bd.returns] at h; cases h)
        refine ⟨_, _, pre0 _ ?_, hrun, hended, _, _, rfl, ?_, ⟨_, rfl⟩, hW, hsame.mono (by decide) (by decide)⟩
        · show Steps p.tables e below (s₁.setTop (mkF m 0 #[.val (.int p0), .unset] [])) _
          refine XS.iloadN X0.here hx rfl (hb hby d1_0) rfl ?_
          show Steps p.tables e below (s₁.setTop (mkF m 1 #[.val (.int p0), .unset] [(.int p0)])) _
          refine X0.ldcInt hx hown (mvT hZ (hw _ (List.mem_of_getElem? (i := 21) rfl))) (g := (mkF m 1 #[.val (.int p0), .unset] [(.int p0)])) rfl (hb hby d1_1) _ ?_
          show Steps p.tables e below (s₁.setTop (mkF m 3 #[.val (.int p0), .unset] [(.int (65536 : Int32)), (.int p0)])) _
          refine XS.icmpYes X0.here hx rfl (pc0 := 3) (pc' := 49) rfl (hb hby d1_3) rfl (tlt c1).1 (by decide) (by decide) ?_
          show Steps p.tables e below (s₁.setTop (mkF m 49 #[.val (.int p0), .unset] [])) _
          refine XS.iloadN X0.here hx rfl (hb hby d1_49) rfl ?_
          show Steps p.tables e below (s₁.setTop (mkF m 50 #[.val (.int p0), .unset] [(.int p0)])) _
          refine XS.sipush X0.here hx rfl (hb hby d1_50) ?_
          show Steps p.tables e below (s₁.setTop (mkF m 53 #[.val (.int p0), .unset] [(.int (160 : Int32)), (.int p0)])) _
          refine XS.icmpNo X0.here hx rfl (hb hby d1_53) rfl (flt c2).1 ?_
          show Steps p.tables e below (s₁.setTop (mkF m 56 #[.val (.int p0), .unset] [])) _
          refine XS.iloadN X0.here hx rfl (hb hby d1_56) rfl ?_
          show Steps p.tables e below (s₁.setTop (mkF m 57 #[.val (.int p0), .unset] [(.int p0)])) _
          refine X0.ldcInt hx hown (mvT hZ (hw _ (List.mem_of_getElem? (i := 22) rfl))) (g := (mkF m 57 #[.val (.int p0), .unset] [(.int p0)])) rfl (hb hby d1_57) _ ?_
          show Steps p.tables e below (s₁.setTop (mkF m 59 #[.val (.int p0), .unset] [(.int (55295 : Int32)), (.int p0)])) _
          refine XS.icmpYes X0.here hx rfl (pc0 := 59) (pc' := 86) rfl (hb hby d1_59) rfl (flt c16).2.2.2 (by decide) (by decide) ?_
          show Steps p.tables e below (s₁.setTop (mkF m 86 #[.val (.int p0), .unset] [])) _
          refine XS.iconst X0.here hx rfl (hb hby d1_86) ?_
          show Steps p.tables e below (s₁.setTop (mkF m 87 #[.val (.int p0), .unset] [(.int (1 : Int32))])) _
          refine XS.goto X0.here hx rfl (pc0 := 87) (pc' := 91) rfl (hb hby d1_87) (by decide) (by decide) ?_
          show Steps p.tables e below (s₁.setTop (mkF m 91 #[.val (.int p0), .unset] [(.int (1 : Int32))])) _
          exact retN X0 hx (t := .boolean) Bd.returns (by simp) (hb hby d1_91) hr
        · show Q1 Z p0 h0 n0 _ s₁.heap _
          rw [e0]
          exact ⟨(congrArg (fun z => some (Value.int z)) ((if_pos c1).trans ((if_neg c2).trans ((if_neg c16).trans rfl))).symm), N0, rfl⟩
  · by_cases c31 : p0 < (917504 : Int32)
    · by_cases c32 : p0 < (983040 : Int32)
      · by_cases c33 : (65533 : Int32) < (p0 &&& (65535 : Int32))
        · obtain ⟨fs, hr, hrun, hended, hW, hsame⟩ := X0.leave (v := some (.int (0 : Int32))) (fun h => by rw [Bd.returns] at h; cases h)
          refine ⟨_, _, pre0 _ ?_, hrun, hended, _, _, rfl, ?_, ⟨_, rfl⟩, hW, hsame.mono (by decide) (by decide)⟩
          · show Steps p.tables e below (s₁.setTop (mkF m 0 #[.val (.int p0), .unset] [])) _
            refine XS.iloadN X0.here hx rfl (hb hby d1_0) rfl ?_
            show Steps p.tables e below (s₁.setTop (mkF m 1 #[.val (.int p0), .unset] [(.int p0)])) _
            refine X0.ldcInt hx hown (mvT hZ (hw _ (List.mem_of_getElem? (i := 21) rfl))) (g := (mkF m 1 #[.val (.int p0), .unset] [(.int p0)])) rfl (hb hby d1_1) _ ?_
            show Steps p.tables e below (s₁.setTop (mkF m 3 #[.val (.int p0), .unset] [(.int (65536 : Int32)), (.int p0)])) _
            refine XS.icmpNo X0.here hx rfl (hb hby d1_3) rfl (flt c1).1 ?_
            show Steps p.tables e below (s₁.setTop (mkF m 6 #[.val (.int p0), .unset] [])) _
            refine XS.iloadN X0.here hx rfl (hb hby d1_6) rfl ?_
            show Steps p.tables e below (s₁.setTop (mkF m 7 #[.val (.int p0), .unset] [(.int p0)])) _
            refine X0.ldcInt hx hown (mvT hZ (hw _ (List.mem_of_getElem? (i := 30) rfl))) (g := (mkF m 7 #[.val (.int p0), .unset] [(.int p0)])) rfl (hb hby d1_7) _ ?_
            show Steps p.tables e below (s₁.setTop (mkF m 9 #[.val (.int p0), .unset] [(.int (917504 : Int32)), (.int p0)])) _
            refine XS.icmpYes X0.here hx rfl (pc0 := 9) (pc' := 22) rfl (hb hby d1_9) rfl (tlt c31).1 (by decide) (by decide) ?_
            show Steps p.tables e below (s₁.setTop (mkF m 22 #[.val (.int p0), .unset] [])) _
            refine XS.iconst X0.here hx rfl (hb hby d1_22) ?_
            show Steps p.tables e below (s₁.setTop (mkF m 23 #[.val (.int p0), .unset] [(.int (0 : Int32))])) _
            refine XS.istoreN X0.here hx rfl (hb hby d1_23) rfl (l' := #[.val (.int p0), .val (.int (0 : Int32))]) rfl ?_
            show Steps p.tables e below (s₁.setTop (mkF m 24 #[.val (.int p0), .val (.int (0 : Int32))] [])) _
            refine XS.iloadN X0.here hx rfl (hb hby d1_24) rfl ?_
            show Steps p.tables e below (s₁.setTop (mkF m 25 #[.val (.int p0), .val (.int (0 : Int32))] [(.int p0)])) _
            refine X0.ldcInt hx hown (mvT hZ (hw _ (List.mem_of_getElem? (i := 32) rfl))) (g := (mkF m 25 #[.val (.int p0), .val (.int (0 : Int32))] [(.int p0)])) rfl (hb hby d1_25) _ ?_
            show Steps p.tables e below (s₁.setTop (mkF m 27 #[.val (.int p0), .val (.int (0 : Int32))] [(.int (983040 : Int32)), (.int p0)])) _
            refine XS.icmpNo X0.here hx rfl (hb hby d1_27) rfl (tlt c32).2.1 ?_
            show Steps p.tables e below (s₁.setTop (mkF m 30 #[.val (.int p0), .val (.int (0 : Int32))] [])) _
            refine XS.iloadN X0.here hx rfl (hb hby d1_30) rfl ?_
            show Steps p.tables e below (s₁.setTop (mkF m 31 #[.val (.int p0), .val (.int (0 : Int32))] [(.int p0)])) _
            refine X0.ldcInt hx hown (mvT hZ (hw _ (List.mem_of_getElem? (i := 33) rfl))) (g := (mkF m 31 #[.val (.int p0), .val (.int (0 : Int32))] [(.int p0)])) rfl (hb hby d1_31) _ ?_
            show Steps p.tables e below (s₁.setTop (mkF m 33 #[.val (.int p0), .val (.int (0 : Int32))] [(.int (65535 : Int32)), (.int p0)])) _
            refine XS.iand X0.here hx rfl (hb hby d1_33) rfl ?_
            show Steps p.tables e below (s₁.setTop (mkF m 34 #[.val (.int p0), .val (.int (0 : Int32))] [(.int (p0 &&& (65535 : Int32)))])) _
            refine X0.ldcInt hx hown (mvT hZ (hw _ (List.mem_of_getElem? (i := 34) rfl))) (g := (mkF m 34 #[.val (.int p0), .val (.int (0 : Int32))] [(.int (p0 &&& (65535 : Int32)))])) rfl (hb hby d1_34) _ ?_
            show Steps p.tables e below (s₁.setTop (mkF m 36 #[.val (.int p0), .val (.int (0 : Int32))] [(.int (65533 : Int32)), (.int (p0 &&& (65535 : Int32)))])) _
            refine XS.icmpYes X0.here hx rfl (pc0 := 36) (pc' := 47) rfl (hb hby d1_36) rfl (tlt c33).2.2.1 (by decide) (by decide) ?_
            show Steps p.tables e below (s₁.setTop (mkF m 47 #[.val (.int p0), .val (.int (0 : Int32))] [])) _
            refine XS.iconst X0.here hx rfl (hb hby d1_47) ?_
            show Steps p.tables e below (s₁.setTop (mkF m 48 #[.val (.int p0), .val (.int (0 : Int32))] [(.int (0 : Int32))])) _
            exact retN X0 hx (t := .boolean) Bd.returns (by simp) (hb hby d1_48) hr
          · show Q1 Z p0 h0 n0 _ s₁.heap _
            rw [e0]
            exact ⟨(congrArg (fun z => some (Value.int z)) ((if_neg c1).trans ((if_pos c31).trans ((if_pos c32).trans ((if_pos c33).trans rfl)))).symm), N0, rfl⟩
        · obtain ⟨fs, hr, hrun, hended, hW, hsame⟩ := X0.leave (v := some (.int (1 : Int32))) (fun h => by rw [Bd.returns] at h; cases h)
          refine ⟨_, _, pre0 _ ?_, hrun, hended, _, _, rfl, ?_, ⟨_, rfl⟩, hW, hsame.mono (by decide) (by decide)⟩
          · show Steps p.tables e below (s₁.setTop (mkF m 0 #[.val (.int p0), .unset] [])) _
            refine XS.iloadN X0.here hx rfl (hb hby d1_0) rfl ?_
            show Steps p.tables e below (s₁.setTop (mkF m 1 #[.val (.int p0), .unset] [(.int p0)])) _
            refine X0.ldcInt hx hown (mvT hZ (hw _ (List.mem_of_getElem? (i := 21) rfl))) (g := (mkF m 1 #[.val (.int p0), .unset] [(.int p0)])) rfl (hb hby d1_1) _ ?_
            show Steps p.tables e below (s₁.setTop (mkF m 3 #[.val (.int p0), .unset] [(.int (65536 : Int32)), (.int p0)])) _
            refine XS.icmpNo X0.here hx rfl (hb hby d1_3) rfl (flt c1).1 ?_
            show Steps p.tables e below (s₁.setTop (mkF m 6 #[.val (.int p0), .unset] [])) _
            refine XS.iloadN X0.here hx rfl (hb hby d1_6) rfl ?_
            show Steps p.tables e below (s₁.setTop (mkF m 7 #[.val (.int p0), .unset] [(.int p0)])) _
            refine X0.ldcInt hx hown (mvT hZ (hw _ (List.mem_of_getElem? (i := 30) rfl))) (g := (mkF m 7 #[.val (.int p0), .unset] [(.int p0)])) rfl (hb hby d1_7) _ ?_
            show Steps p.tables e below (s₁.setTop (mkF m 9 #[.val (.int p0), .unset] [(.int (917504 : Int32)), (.int p0)])) _
            refine XS.icmpYes X0.here hx rfl (pc0 := 9) (pc' := 22) rfl (hb hby d1_9) rfl (tlt c31).1 (by decide) (by decide) ?_
            show Steps p.tables e below (s₁.setTop (mkF m 22 #[.val (.int p0), .unset] [])) _
            refine XS.iconst X0.here hx rfl (hb hby d1_22) ?_
            show Steps p.tables e below (s₁.setTop (mkF m 23 #[.val (.int p0), .unset] [(.int (0 : Int32))])) _
            refine XS.istoreN X0.here hx rfl (hb hby d1_23) rfl (l' := #[.val (.int p0), .val (.int (0 : Int32))]) rfl ?_
            show Steps p.tables e below (s₁.setTop (mkF m 24 #[.val (.int p0), .val (.int (0 : Int32))] [])) _
            refine XS.iloadN X0.here hx rfl (hb hby d1_24) rfl ?_
            show Steps p.tables e below (s₁.setTop (mkF m 25 #[.val (.int p0), .val (.int (0 : Int32))] [(.int p0)])) _
            refine X0.ldcInt hx hown (mvT hZ (hw _ (List.mem_of_getElem? (i := 32) rfl))) (g := (mkF m 25 #[.val (.int p0), .val (.int (0 : Int32))] [(.int p0)])) rfl (hb hby d1_25) _ ?_
            show Steps p.tables e below (s₁.setTop (mkF m 27 #[.val (.int p0), .val (.int (0 : Int32))] [(.int (983040 : Int32)), (.int p0)])) _
            refine XS.icmpNo X0.here hx rfl (hb hby d1_27) rfl (tlt c32).2.1 ?_
            show Steps p.tables e below (s₁.setTop (mkF m 30 #[.val (.int p0), .val (.int (0 : Int32))] [])) _
            refine XS.iloadN X0.here hx rfl (hb hby d1_30) rfl ?_
            show Steps p.tables e below (s₁.setTop (mkF m 31 #[.val (.int p0), .val (.int (0 : Int32))] [(.int p0)])) _
            refine X0.ldcInt hx hown (mvT hZ (hw _ (List.mem_of_getElem? (i := 33) rfl))) (g := (mkF m 31 #[.val (.int p0), .val (.int (0 : Int32))] [(.int p0)])) rfl (hb hby d1_31) _ ?_
            show Steps p.tables e below (s₁.setTop (mkF m 33 #[.val (.int p0), .val (.int (0 : Int32))] [(.int (65535 : Int32)), (.int p0)])) _
            refine XS.iand X0.here hx rfl (hb hby d1_33) rfl ?_
            show Steps p.tables e below (s₁.setTop (mkF m 34 #[.val (.int p0), .val (.int (0 : Int32))] [(.int (p0 &&& (65535 : Int32)))])) _
            refine X0.ldcInt hx hown (mvT hZ (hw _ (List.mem_of_getElem? (i := 34) rfl))) (g := (mkF m 34 #[.val (.int p0), .val (.int (0 : Int32))] [(.int (p0 &&& (65535 : Int32)))])) rfl (hb hby d1_34) _ ?_
            show Steps p.tables e below (s₁.setTop (mkF m 36 #[.val (.int p0), .val (.int (0 : Int32))] [(.int (65533 : Int32)), (.int (p0 &&& (65535 : Int32)))])) _
            refine XS.icmpNo X0.here hx rfl (hb hby d1_36) rfl (flt c33).2.2.1 ?_
            show Steps p.tables e below (s₁.setTop (mkF m 39 #[.val (.int p0), .val (.int (0 : Int32))] [])) _
            refine XS.iloadN X0.here hx rfl (hb hby d1_39) rfl ?_
            show Steps p.tables e below (s₁.setTop (mkF m 40 #[.val (.int p0), .val (.int (0 : Int32))] [(.int (0 : Int32))])) _
            refine XS.ifNo X0.here hx rfl (hb hby d1_40) rfl ((if0 _ _).trans (teq ((by decide) : (0 : Int32) = (0 : Int32))).2) ?_
            show Steps p.tables e below (s₁.setTop (mkF m 43 #[.val (.int p0), .val (.int (0 : Int32))] [])) _
            refine XS.iconst X0.here hx rfl (hb hby d1_43) ?_
            show Steps p.tables e below (s₁.setTop (mkF m 44 #[.val (.int p0), .val (.int (0 : Int32))] [(.int (1 : Int32))])) _
            refine XS.goto X0.here hx rfl (pc0 := 44) (pc' := 48) rfl (hb hby d1_44) (by decide) (by decide) ?_
            show Steps p.tables e below (s₁.setTop (mkF m 48 #[.val (.int p0), .val (.int (0 : Int32))] [(.int (1 : Int32))])) _
            exact retN X0 hx (t := .boolean) Bd.returns (by simp) (hb hby d1_48) hr
          · show Q1 Z p0 h0 n0 _ s₁.heap _
            rw [e0]
            exact ⟨(congrArg (fun z => some (Value.int z)) ((if_neg c1).trans ((if_pos c31).trans ((if_pos c32).trans ((if_neg c33).trans rfl)))).symm), N0, rfl⟩
      · obtain ⟨fs, hr, hrun, hended, hW, hsame⟩ := X0.leave (v := some (.int (0 : Int32))) (fun h => by rw [Bd.returns] at h; cases h)
        refine ⟨_, _, pre0 _ ?_, hrun, hended, _, _, rfl, ?_, ⟨_, rfl⟩, hW, hsame.mono (by decide) (by decide)⟩
        · show Steps p.tables e below (s₁.setTop (mkF m 0 #[.val (.int p0), .unset] [])) _
          refine XS.iloadN X0.here hx rfl (hb hby d1_0) rfl ?_
          show Steps p.tables e below (s₁.setTop (mkF m 1 #[.val (.int p0), .unset] [(.int p0)])) _
          refine X0.ldcInt hx hown (mvT hZ (hw _ (List.mem_of_getElem? (i := 21) rfl))) (g := (mkF m 1 #[.val (.int p0), .unset] [(.int p0)])) rfl (hb hby d1_1) _ ?_
          show Steps p.tables e below (s₁.setTop (mkF m 3 #[.val (.int p0), .unset] [(.int (65536 : Int32)), (.int p0)])) _
          refine XS.icmpNo X0.here hx rfl (hb hby d1_3) rfl (flt c1).1 ?_
          show Steps p.tables e below (s₁.setTop (mkF m 6 #[.val (.int p0), .unset] [])) _
          refine XS.iloadN X0.here hx rfl (hb hby d1_6) rfl ?_
          show Steps p.tables e below (s₁.setTop (mkF m 7 #[.val (.int p0), .unset] [(.int p0)])) _
          refine X0.ldcInt hx hown (mvT hZ (hw _ (List.mem_of_getElem? (i := 30) rfl))) (g := (mkF m 7 #[.val (.int p0), .unset] [(.int p0)])) rfl (hb hby d1_7) _ ?_
          show Steps p.tables e below (s₁.setTop (mkF m 9 #[.val (.int p0), .unset] [(.int (917504 : Int32)), (.int p0)])) _
          refine XS.icmpYes X0.here hx rfl (pc0 := 9) (pc' := 22) rfl (hb hby d1_9) rfl (tlt c31).1 (by decide) (by decide) ?_
          show Steps p.tables e below (s₁.setTop (mkF m 22 #[.val (.int p0), .unset] [])) _
          refine XS.iconst X0.here hx rfl (hb hby d1_22) ?_
          show Steps p.tables e below (s₁.setTop (mkF m 23 #[.val (.int p0), .unset] [(.int (0 : Int32))])) _
          refine XS.istoreN X0.here hx rfl (hb hby d1_23) rfl (l' := #[.val (.int p0), .val (.int (0 : Int32))]) rfl ?_
          show Steps p.tables e below (s₁.setTop (mkF m 24 #[.val (.int p0), .val (.int (0 : Int32))] [])) _
          refine XS.iloadN X0.here hx rfl (hb hby d1_24) rfl ?_
          show Steps p.tables e below (s₁.setTop (mkF m 25 #[.val (.int p0), .val (.int (0 : Int32))] [(.int p0)])) _
          refine X0.ldcInt hx hown (mvT hZ (hw _ (List.mem_of_getElem? (i := 32) rfl))) (g := (mkF m 25 #[.val (.int p0), .val (.int (0 : Int32))] [(.int p0)])) rfl (hb hby d1_25) _ ?_
          show Steps p.tables e below (s₁.setTop (mkF m 27 #[.val (.int p0), .val (.int (0 : Int32))] [(.int (983040 : Int32)), (.int p0)])) _
          refine XS.icmpYes X0.here hx rfl (pc0 := 27) (pc' := 47) rfl (hb hby d1_27) rfl (flt c32).2.1 (by decide) (by decide) ?_
          show Steps p.tables e below (s₁.setTop (mkF m 47 #[.val (.int p0), .val (.int (0 : Int32))] [])) _
          refine XS.iconst X0.here hx rfl (hb hby d1_47) ?_
          show Steps p.tables e below (s₁.setTop (mkF m 48 #[.val (.int p0), .val (.int (0 : Int32))] [(.int (0 : Int32))])) _
          exact retN X0 hx (t := .boolean) Bd.returns (by simp) (hb hby d1_48) hr
        · show Q1 Z p0 h0 n0 _ s₁.heap _
          rw [e0]
          exact ⟨(congrArg (fun z => some (Value.int z)) ((if_neg c1).trans ((if_pos c31).trans ((if_neg c32).trans rfl))).symm), N0, rfl⟩
    · by_cases c37 : p0 < (921600 : Int32)
      · by_cases c38 : p0 < (983040 : Int32)
        · by_cases c39 : (65533 : Int32) < (p0 &&& (65535 : Int32))
          · obtain ⟨fs, hr, hrun, hended, hW, hsame⟩ := X0.leave (v := some (.int (0 : Int32))) (fun h => by rw [Bd.returns] at h; cases h)
            refine ⟨_, _, pre0 _ ?_, hrun, hended, _, _, rfl, ?_, ⟨_, rfl⟩, hW, hsame.mono (by decide) (by decide)⟩
            · show Steps p.tables e below (s₁.setTop (mkF m 0 #[.val (.int p0), .unset] [])) _
              refine XS.iloadN X0.here hx rfl (hb hby d1_0) rfl ?_
              show Steps p.tables e below (s₁.setTop (mkF m 1 #[.val (.int p0), .unset] [(.int p0)])) _
              refine X0.ldcInt hx hown (mvT hZ (hw _ (List.mem_of_getElem? (i := 21) rfl))) (g := (mkF m 1 #[.val (.int p0), .unset] [(.int p0)])) rfl (hb hby d1_1) _ ?_
              show Steps p.tables e below (s₁.setTop (mkF m 3 #[.val (.int p0), .unset] [(.int (65536 : Int32)), (.int p0)])) _
              refine XS.icmpNo X0.here hx rfl (hb hby d1_3) rfl (flt c1).1 ?_
              show Steps p.tables e below (s₁.setTop (mkF m 6 #[.val (.int p0), .unset] [])) _
              refine XS.iloadN X0.here hx rfl (hb hby d1_6) rfl ?_
              show Steps p.tables e below (s₁.setTop (mkF m 7 #[.val (.int p0), .unset] [(.int p0)])) _
              refine X0.ldcInt hx hown (mvT hZ (hw _ (List.mem_of_getElem? (i := 30) rfl))) (g := (mkF m 7 #[.val (.int p0), .unset] [(.int p0)])) rfl (hb hby d1_7) _ ?_
              show Steps p.tables e below (s₁.setTop (mkF m 9 #[.val (.int p0), .unset] [(.int (917504 : Int32)), (.int p0)])) _
              refine XS.icmpNo X0.here hx rfl (hb hby d1_9) rfl (flt c31).1 ?_
              show Steps p.tables e below (s₁.setTop (mkF m 12 #[.val (.int p0), .unset] [])) _
              refine XS.iloadN X0.here hx rfl (hb hby d1_12) rfl ?_
              show Steps p.tables e below (s₁.setTop (mkF m 13 #[.val (.int p0), .unset] [(.int p0)])) _
              refine X0.ldcInt hx hown (mvT hZ (hw _ (List.mem_of_getElem? (i := 31) rfl))) (g := (mkF m 13 #[.val (.int p0), .unset] [(.int p0)])) rfl (hb hby d1_13) _ ?_
              show Steps p.tables e below (s₁.setTop (mkF m 15 #[.val (.int p0), .unset] [(.int (921600 : Int32)), (.int p0)])) _
              refine XS.icmpNo X0.here hx rfl (hb hby d1_15) rfl (tlt c37).2.1 ?_
              show Steps p.tables e below (s₁.setTop (mkF m 18 #[.val (.int p0), .unset] [])) _
              refine XS.iconst X0.here hx rfl (hb hby d1_18) ?_
              show Steps p.tables e below (s₁.setTop (mkF m 19 #[.val (.int p0), .unset] [(.int (1 : Int32))])) _
              refine XS.goto X0.here hx rfl (pc0 := 19) (pc' := 23) rfl (hb hby d1_19) (by decide) (by decide) ?_
              show Steps p.tables e below (s₁.setTop (mkF m 23 #[.val (.int p0), .unset] [(.int (1 : Int32))])) _
              refine XS.istoreN X0.here hx rfl (hb hby d1_23) rfl (l' := #[.val (.int p0), .val (.int (1 : Int32))]) rfl ?_
              show Steps p.tables e below (s₁.setTop (mkF m 24 #[.val (.int p0), .val (.int (1 : Int32))] [])) _
              refine XS.iloadN X0.here hx rfl (hb hby d1_24) rfl ?_
              show Steps p.tables e below (s₁.setTop (mkF m 25 #[.val (.int p0), .val (.int (1 : Int32))] [(.int p0)])) _
              refine X0.ldcInt hx hown (mvT hZ (hw _ (List.mem_of_getElem? (i := 32) rfl))) (g := (mkF m 25 #[.val (.int p0), .val (.int (1 : Int32))] [(.int p0)])) rfl (hb hby d1_25) _ ?_
              show Steps p.tables e below (s₁.setTop (mkF m 27 #[.val (.int p0), .val (.int (1 : Int32))] [(.int (983040 : Int32)), (.int p0)])) _
              refine XS.icmpNo X0.here hx rfl (hb hby d1_27) rfl (tlt c38).2.1 ?_
              show Steps p.tables e below (s₁.setTop (mkF m 30 #[.val (.int p0), .val (.int (1 : Int32))] [])) _
              refine XS.iloadN X0.here hx rfl (hb hby d1_30) rfl ?_
              show Steps p.tables e below (s₁.setTop (mkF m 31 #[.val (.int p0), .val (.int (1 : Int32))] [(.int p0)])) _
              refine X0.ldcInt hx hown (mvT hZ (hw _ (List.mem_of_getElem? (i := 33) rfl))) (g := (mkF m 31 #[.val (.int p0), .val (.int (1 : Int32))] [(.int p0)])) rfl (hb hby d1_31) _ ?_
              show Steps p.tables e below (s₁.setTop (mkF m 33 #[.val (.int p0), .val (.int (1 : Int32))] [(.int (65535 : Int32)), (.int p0)])) _
              refine XS.iand X0.here hx rfl (hb hby d1_33) rfl ?_
              show Steps p.tables e below (s₁.setTop (mkF m 34 #[.val (.int p0), .val (.int (1 : Int32))] [(.int (p0 &&& (65535 : Int32)))])) _
              refine X0.ldcInt hx hown (mvT hZ (hw _ (List.mem_of_getElem? (i := 34) rfl))) (g := (mkF m 34 #[.val (.int p0), .val (.int (1 : Int32))] [(.int (p0 &&& (65535 : Int32)))])) rfl (hb hby d1_34) _ ?_
              show Steps p.tables e below (s₁.setTop (mkF m 36 #[.val (.int p0), .val (.int (1 : Int32))] [(.int (65533 : Int32)), (.int (p0 &&& (65535 : Int32)))])) _
              refine XS.icmpYes X0.here hx rfl (pc0 := 36) (pc' := 47) rfl (hb hby d1_36) rfl (tlt c39).2.2.1 (by decide) (by decide) ?_
              show Steps p.tables e below (s₁.setTop (mkF m 47 #[.val (.int p0), .val (.int (1 : Int32))] [])) _
              refine XS.iconst X0.here hx rfl (hb hby d1_47) ?_
              show Steps p.tables e below (s₁.setTop (mkF m 48 #[.val (.int p0), .val (.int (1 : Int32))] [(.int (0 : Int32))])) _
              exact retN X0 hx (t := .boolean) Bd.returns (by simp) (hb hby d1_48) hr
            · show Q1 Z p0 h0 n0 _ s₁.heap _
              rw [e0]
              exact ⟨(congrArg (fun z => some (Value.int z)) ((if_neg c1).trans ((if_neg c31).trans ((if_pos c37).trans rfl))).symm), N0, rfl⟩
          · obtain ⟨fs, hr, hrun, hended, hW, hsame⟩ := X0.leave (v := some (.int (0 : Int32))) (fun h => by rw [Bd.returns] at h; cases h)
            refine ⟨_, _, pre0 _ ?_, hrun, hended, _, _, rfl, ?_, ⟨_, rfl⟩, hW, hsame.mono (by decide) (by decide)⟩
            · show Steps p.tables e below (s₁.setTop (mkF m 0 #[.val (.int p0), .unset] [])) _
              refine XS.iloadN X0.here hx rfl (hb hby d1_0) rfl ?_
              show Steps p.tables e below (s₁.setTop (mkF m 1 #[.val (.int p0), .unset] [(.int p0)])) _
              refine X0.ldcInt hx hown (mvT hZ (hw _ (List.mem_of_getElem? (i := 21) rfl))) (g := (mkF m 1 #[.val (.int p0), .unset] [(.int p0)])) rfl (hb hby d1_1) _ ?_
              show Steps p.tables e below (s₁.setTop (mkF m 3 #[.val (.int p0), .unset] [(.int (65536 : Int32)), (.int p0)])) _
              refine XS.icmpNo X0.here hx rfl (hb hby d1_3) rfl (flt c1).1 ?_
              show Steps p.tables e below (s₁.setTop (mkF m 6 #[.val (.int p0), .unset] [])) _
              refine XS.iloadN X0.here hx rfl (hb hby d1_6) rfl ?_
              show Steps p.tables e below (s₁.setTop (mkF m 7 #[.val (.int p0), .unset] [(.int p0)])) _
              refine X0.ldcInt hx hown (mvT hZ (hw _ (List.mem_of_getElem? (i := 30) rfl))) (g := (mkF m 7 #[.val (.int p0), .unset] [(.int p0)])) rfl (hb hby d1_7) _ ?_
              show Steps p.tables e below (s₁.setTop (mkF m 9 #[.val (.int p0), .unset] [(.int (917504 : Int32)), (.int p0)])) _
              refine XS.icmpNo X0.here hx rfl (hb hby d1_9) rfl (flt c31).1 ?_
              show Steps p.tables e below (s₁.setTop (mkF m 12 #[.val (.int p0), .unset] [])) _
              refine XS.iloadN X0.here hx rfl (hb hby d1_12) rfl ?_
              show Steps p.tables e below (s₁.setTop (mkF m 13 #[.val (.int p0), .unset] [(.int p0)])) _
              refine X0.ldcInt hx hown (mvT hZ (hw _ (List.mem_of_getElem? (i := 31) rfl))) (g := (mkF m 13 #[.val (.int p0), .unset] [(.int p0)])) rfl (hb hby d1_13) _ ?_
              show Steps p.tables e below (s₁.setTop (mkF m 15 #[.val (.int p0), .unset] [(.int (921600 : Int32)), (.int p0)])) _
              refine XS.icmpNo X0.here hx rfl (hb hby d1_15) rfl (tlt c37).2.1 ?_
              show Steps p.tables e below (s₁.setTop (mkF m 18 #[.val (.int p0), .unset] [])) _
              refine XS.iconst X0.here hx rfl (hb hby d1_18) ?_
              show Steps p.tables e below (s₁.setTop (mkF m 19 #[.val (.int p0), .unset] [(.int (1 : Int32))])) _
              refine XS.goto X0.here hx rfl (pc0 := 19) (pc' := 23) rfl (hb hby d1_19) (by decide) (by decide) ?_
              show Steps p.tables e below (s₁.setTop (mkF m 23 #[.val (.int p0), .unset] [(.int (1 : Int32))])) _
              refine XS.istoreN X0.here hx rfl (hb hby d1_23) rfl (l' := #[.val (.int p0), .val (.int (1 : Int32))]) rfl ?_
              show Steps p.tables e below (s₁.setTop (mkF m 24 #[.val (.int p0), .val (.int (1 : Int32))] [])) _
              refine XS.iloadN X0.here hx rfl (hb hby d1_24) rfl ?_
              show Steps p.tables e below (s₁.setTop (mkF m 25 #[.val (.int p0), .val (.int (1 : Int32))] [(.int p0)])) _
              refine X0.ldcInt hx hown (mvT hZ (hw _ (List.mem_of_getElem? (i := 32) rfl))) (g := (mkF m 25 #[.val (.int p0), .val (.int (1 : Int32))] [(.int p0)])) rfl (hb hby d1_25) _ ?_
              show Steps p.tables e below (s₁.setTop (mkF m 27 #[.val (.int p0), .val (.int (1 : Int32))] [(.int (983040 : Int32)), (.int p0)])) _
              refine XS.icmpNo X0.here hx rfl (hb hby d1_27) rfl (tlt c38).2.1 ?_
              show Steps p.tables e below (s₁.setTop (mkF m 30 #[.val (.int p0), .val (.int (1 : Int32))] [])) _
              refine XS.iloadN X0.here hx rfl (hb hby d1_30) rfl ?_
              show Steps p.tables e below (s₁.setTop (mkF m 31 #[.val (.int p0), .val (.int (1 : Int32))] [(.int p0)])) _
              refine X0.ldcInt hx hown (mvT hZ (hw _ (List.mem_of_getElem? (i := 33) rfl))) (g := (mkF m 31 #[.val (.int p0), .val (.int (1 : Int32))] [(.int p0)])) rfl (hb hby d1_31) _ ?_
              show Steps p.tables e below (s₁.setTop (mkF m 33 #[.val (.int p0), .val (.int (1 : Int32))] [(.int (65535 : Int32)), (.int p0)])) _
              refine XS.iand X0.here hx rfl (hb hby d1_33) rfl ?_
              show Steps p.tables e below (s₁.setTop (mkF m 34 #[.val (.int p0), .val (.int (1 : Int32))] [(.int (p0 &&& (65535 : Int32)))])) _
              refine X0.ldcInt hx hown (mvT hZ (hw _ (List.mem_of_getElem? (i := 34) rfl))) (g := (mkF m 34 #[.val (.int p0), .val (.int (1 : Int32))] [(.int (p0 &&& (65535 : Int32)))])) rfl (hb hby d1_34) _ ?_
              show Steps p.tables e below (s₁.setTop (mkF m 36 #[.val (.int p0), .val (.int (1 : Int32))] [(.int (65533 : Int32)), (.int (p0 &&& (65535 : Int32)))])) _
              refine XS.icmpNo X0.here hx rfl (hb hby d1_36) rfl (flt c39).2.2.1 ?_
              show Steps p.tables e below (s₁.setTop (mkF m 39 #[.val (.int p0), .val (.int (1 : Int32))] [])) _
              refine XS.iloadN X0.here hx rfl (hb hby d1_39) rfl ?_
              show Steps p.tables e below (s₁.setTop (mkF m 40 #[.val (.int p0), .val (.int (1 : Int32))] [(.int (1 : Int32))])) _
              refine XS.ifYes X0.here hx rfl (pc0 := 40) (pc' := 47) rfl (hb hby d1_40) rfl ((if0 _ _).trans (feq ((by decide) : ¬ ((1 : Int32) = (0 : Int32)))).2) (by decide) (by decide) ?_
              show Steps p.tables e below (s₁.setTop (mkF m 47 #[.val (.int p0), .val (.int (1 : Int32))] [])) _
              refine XS.iconst X0.here hx rfl (hb hby d1_47) ?_
              show Steps p.tables e below (s₁.setTop (mkF m 48 #[.val (.int p0), .val (.int (1 : Int32))] [(.int (0 : Int32))])) _
              exact retN X0 hx (t := .boolean) Bd.returns (by simp) (hb hby d1_48) hr
            · show Q1 Z p0 h0 n0 _ s₁.heap _
              rw [e0]
              exact ⟨(congrArg (fun z => some (Value.int z)) ((if_neg c1).trans ((if_neg c31).trans ((if_pos c37).trans rfl))).symm), N0, rfl⟩
        · obtain ⟨fs, hr, hrun, hended, hW, hsame⟩ := X0.leave (v := some (.int (0 : Int32))) (fun h => by rw [Bd.returns] at h; cases h)
          refine ⟨_, _, pre0 _ ?_, hrun, hended, _, _, rfl, ?_, ⟨_, rfl⟩, hW, hsame.mono (by decide) (by decide)⟩
          · show Steps p.tables e below (s₁.setTop (mkF m 0 #[.val (.int p0), .unset] [])) _
            refine XS.iloadN X0.here hx rfl (hb hby d1_0) rfl ?_
            show Steps p.tables e below (s₁.setTop (mkF m 1 #[.val (.int p0), .unset] [(.int p0)])) _
            refine X0.ldcInt hx hown (mvT hZ (hw _ (List.mem_of_getElem? (i := 21) rfl))) (g := (mkF m 1 #[.val (.int p0), .unset] [(.int p0)])) rfl (hb hby d1_1) _ ?_
            show Steps p.tables e below (s₁.setTop (mkF m 3 #[.val (.int p0), .unset] [(.int (65536 : Int32)), (.int p0)])) _
            refine XS.icmpNo X0.here hx rfl (hb hby d1_3) rfl (flt c1).1 ?_
            show Steps p.tables e below (s₁.setTop (mkF m 6 #[.val (.int p0), .unset] [])) _
            refine XS.iloadN X0.here hx rfl (hb hby d1_6) rfl ?_
            show Steps p.tables e below (s₁.setTop (mkF m 7 #[.val (.int p0), .unset] [(.int p0)])) _
            refine X0.ldcInt hx hown (mvT hZ (hw _ (List.mem_of_getElem? (i := 30) rfl))) (g := (mkF m 7 #[.val (.int p0), .unset] [(.int p0)])) rfl (hb hby d1_7) _ ?_
            show Steps p.tables e below (s₁.setTop (mkF m 9 #[.val (.int p0), .unset] [(.int (917504 : Int32)), (.int p0)])) _
            refine XS.icmpNo X0.here hx rfl (hb hby d1_9) rfl (flt c31).1 ?_
            show Steps p.tables e below (s₁.setTop (mkF m 12 #[.val (.int p0), .unset] [])) _
            refine XS.iloadN X0.here hx rfl (hb hby d1_12) rfl ?_
            show Steps p.tables e below (s₁.setTop (mkF m 13 #[.val (.int p0), .unset] [(.int p0)])) _
            refine X0.ldcInt hx hown (mvT hZ (hw _ (List.mem_of_getElem? (i := 31) rfl))) (g := (mkF m 13 #[.val (.int p0), .unset] [(.int p0)])) rfl (hb hby d1_13) _ ?_
            show Steps p.tables e below (s₁.setTop (mkF m 15 #[.val (.int p0), .unset] [(.int (921600 : Int32)), (.int p0)])) _
            refine XS.icmpNo X0.here hx rfl (hb hby d1_15) rfl (tlt c37).2.1 ?_
            show Steps p.tables e below (s₁.setTop (mkF m 18 #[.val (.int p0), .unset] [])) _
            refine XS.iconst X0.here hx rfl (hb hby d1_18) ?_
            show Steps p.tables e below (s₁.setTop (mkF m 19 #[.val (.int p0), .unset] [(.int (1 : Int32))])) _
            refine XS.goto X0.here hx rfl (pc0 := 19) (pc' := 23) rfl (hb hby d1_19) (by decide) (by decide) ?_
            show Steps p.tables e below (s₁.setTop (mkF m 23 #[.val (.int p0), .unset] [(.int (1 : Int32))])) _
            refine XS.istoreN X0.here hx rfl (hb hby d1_23) rfl (l' := #[.val (.int p0), .val (.int (1 : Int32))]) rfl ?_
            show Steps p.tables e below (s₁.setTop (mkF m 24 #[.val (.int p0), .val (.int (1 : Int32))] [])) _
            refine XS.iloadN X0.here hx rfl (hb hby d1_24) rfl ?_
            show Steps p.tables e below (s₁.setTop (mkF m 25 #[.val (.int p0), .val (.int (1 : Int32))] [(.int p0)])) _
            refine X0.ldcInt hx hown (mvT hZ (hw _ (List.mem_of_getElem? (i := 32) rfl))) (g := (mkF m 25 #[.val (.int p0), .val (.int (1 : Int32))] [(.int p0)])) rfl (hb hby d1_25) _ ?_
            show Steps p.tables e below (s₁.setTop (mkF m 27 #[.val (.int p0), .val (.int (1 : Int32))] [(.int (983040 : Int32)), (.int p0)])) _
            refine XS.icmpYes X0.here hx rfl (pc0 := 27) (pc' := 47) rfl (hb hby d1_27) rfl (flt c38).2.1 (by decide) (by decide) ?_
            show Steps p.tables e below (s₁.setTop (mkF m 47 #[.val (.int p0), .val (.int (1 : Int32))] [])) _
            refine XS.iconst X0.here hx rfl (hb hby d1_47) ?_
            show Steps p.tables e below (s₁.setTop (mkF m 48 #[.val (.int p0), .val (.int (1 : Int32))] [(.int (0 : Int32))])) _
            exact retN X0 hx (t := .boolean) Bd.returns (by simp) (hb hby d1_48) hr
          · show Q1 Z p0 h0 n0 _ s₁.heap _
            rw [e0]
            exact ⟨(congrArg (fun z => some (Value.int z)) ((if_neg c1).trans ((if_neg c31).trans ((if_pos c37).trans rfl))).symm), N0, rfl⟩
      · by_cases c43 : p0 < (983040 : Int32)
        · by_cases c44 : (65533 : Int32) < (p0 &&& (65535 : Int32))
          · obtain ⟨fs, hr, hrun, hended, hW, hsame⟩ := X0.leave (v := some (.int (0 : Int32))) (fun h => by rw [Bd.returns] at h; cases h)
            refine ⟨_, _, pre0 _ ?_, hrun, hended, _, _, rfl, ?_, ⟨_, rfl⟩, hW, hsame.mono (by decide) (by decide)⟩
            · show Steps p.tables e below (s₁.setTop (mkF m 0 #[.val (.int p0), .unset] [])) _
              refine XS.iloadN X0.here hx rfl (hb hby d1_0) rfl ?_
              show Steps p.tables e below (s₁.setTop (mkF m 1 #[.val (.int p0), .unset] [(.int p0)])) _
              refine X0.ldcInt hx hown (mvT hZ (hw _ (List.mem_of_getElem? (i := 21) rfl))) (g := (mkF m 1 #[.val (.int p0), .unset] [(.int p0)])) rfl (hb hby d1_1) _ ?_
              show Steps p.tables e below (s₁.setTop (mkF m 3 #[.val (.int p0), .unset] [(.int (65536 : Int32)), (.int p0)])) _
              refine XS.icmpNo X0.here hx rfl (hb hby d1_3) rfl (flt c1).1 ?_
              show Steps p.tables e below (s₁.setTop (mkF m 6 #[.val (.int p0), .unset] [])) _
              refine XS.iloadN X0.here hx rfl (hb hby d1_6) rfl ?_
              show Steps p.tables e below (s₁.setTop (mkF m 7 #[.val (.int p0), .unset] [(.int p0)])) _
              refine X0.ldcInt hx hown (mvT hZ (hw _ (List.mem_of_getElem? (i := 30) rfl))) (g := (mkF m 7 #[.val (.int p0), .unset] [(.int p0)])) rfl (hb hby d1_7) _ ?_
              show Steps p.tables e below (s₁.setTop (mkF m 9 #[.val (.int p0), .unset] [(.int (917504 : Int32)), (.int p0)])) _
              refine XS.icmpNo X0.here hx rfl (hb hby d1_9) rfl (flt c31).1 ?_
              show Steps p.tables e below (s₁.setTop (mkF m 12 #[.val (.int p0), .unset] [])) _
              refine XS.iloadN X0.here hx rfl (hb hby d1_12) rfl ?_
              show Steps p.tables e below (s₁.setTop (mkF m 13 #[.val (.int p0), .unset] [(.int p0)])) _
              refine X0.ldcInt hx hown (mvT hZ (hw _ (List.mem_of_getElem? (i := 31) rfl))) (g := (mkF m 13 #[.val (.int p0), .unset] [(.int p0)])) rfl (hb hby d1_13) _ ?_
              show Steps p.tables e below (s₁.setTop (mkF m 15 #[.val (.int p0), .unset] [(.int (921600 : Int32)), (.int p0)])) _
              refine XS.icmpYes X0.here hx rfl (pc0 := 15) (pc' := 22) rfl (hb hby d1_15) rfl (flt c37).2.1 (by decide) (by decide) ?_
              show Steps p.tables e below (s₁.setTop (mkF m 22 #[.val (.int p0), .unset] [])) _
              refine XS.iconst X0.here hx rfl (hb hby d1_22) ?_
              show Steps p.tables e below (s₁.setTop (mkF m 23 #[.val (.int p0), .unset] [(.int (0 : Int32))])) _
              refine XS.istoreN X0.here hx rfl (hb hby d1_23) rfl (l' := #[.val (.int p0), .val (.int (0 : Int32))]) rfl ?_
              show Steps p.tables e below (s₁.setTop (mkF m 24 #[.val (.int p0), .val (.int (0 : Int32))] [])) _
              refine XS.iloadN X0.here hx rfl (hb hby d1_24) rfl ?_
              show Steps p.tables e below (s₁.setTop (mkF m 25 #[.val (.int p0), .val (.int (0 : Int32))] [(.int p0)])) _
              refine X0.ldcInt hx hown (mvT hZ (hw _ (List.mem_of_getElem? (i := 32) rfl))) (g := (mkF m 25 #[.val (.int p0), .val (.int (0 : Int32))] [(.int p0)])) rfl (hb hby d1_25) _ ?_
              show Steps p.tables e below (s₁.setTop (mkF m 27 #[.val (.int p0), .val (.int (0 : Int32))] [(.int (983040 : Int32)), (.int p0)])) _
              refine XS.icmpNo X0.here hx rfl (hb hby d1_27) rfl (tlt c43).2.1 ?_
              show Steps p.tables e below (s₁.setTop (mkF m 30 #[.val (.int p0), .val (.int (0 : Int32))] [])) _
              refine XS.iloadN X0.here hx rfl (hb hby d1_30) rfl ?_
              show Steps p.tables e below (s₁.setTop (mkF m 31 #[.val (.int p0), .val (.int (0 : Int32))] [(.int p0)])) _
              refine X0.ldcInt hx hown (mvT hZ (hw _ (List.mem_of_getElem? (i := 33) rfl))) (g := (mkF m 31 #[.val (.int p0), .val (.int (0 : Int32))] [(.int p0)])) rfl (hb hby d1_31) _ ?_
              show Steps p.tables e below (s₁.setTop (mkF m 33 #[.val (.int p0), .val (.int (0 : Int32))] [(.int (65535 : Int32)), (.int p0)])) _
              refine XS.iand X0.here hx rfl (hb hby d1_33) rfl ?_
              show Steps p.tables e below (s₁.setTop (mkF m 34 #[.val (.int p0), .val (.int (0 : Int32))] [(.int (p0 &&& (65535 : Int32)))])) _
              refine X0.ldcInt hx hown (mvT hZ (hw _ (List.mem_of_getElem? (i := 34) rfl))) (g := (mkF m 34 #[.val (.int p0), .val (.int (0 : Int32))] [(.int (p0 &&& (65535 : Int32)))])) rfl (hb hby d1_34) _ ?_
              show Steps p.tables e below (s₁.setTop (mkF m 36 #[.val (.int p0), .val (.int (0 : Int32))] [(.int (65533 : Int32)), (.int (p0 &&& (65535 : Int32)))])) _
              refine XS.icmpYes X0.here hx rfl (pc0 := 36) (pc' := 47) rfl (hb hby d1_36) rfl (tlt c44).2.2.1 (by decide) (by decide) ?_
              show Steps p.tables e below (s₁.setTop (mkF m 47 #[.val (.int p0), .val (.int (0 : Int32))] [])) _
              refine XS.iconst X0.here hx rfl (hb hby d1_47) ?_
              show Steps p.tables e below (s₁.setTop (mkF m 48 #[.val (.int p0), .val (.int (0 : Int32))] [(.int (0 : Int32))])) _
              exact retN X0 hx (t := .boolean) Bd.returns (by simp) (hb hby d1_48) hr
            · show Q1 Z p0 h0 n0 _ s₁.heap _
              rw [e0]
              exact ⟨(congrArg (fun z => some (Value.int z)) ((if_neg c1).trans ((if_neg c31).trans ((if_neg c37).trans ((if_pos c43).trans ((if_pos c44).trans rfl))))).symm), N0, rfl⟩
          · obtain ⟨fs, hr, hrun, hended, hW, hsame⟩ := X0.leave (v := some (.int (1 : Int32))) (fun h => by rw [Bd.returns] at h; cases h)
            refine ⟨_, _, pre0 _ ?_, hrun, hended, _, _, rfl, ?_, ⟨_, rfl⟩, hW, hsame.mono (by decide) (by decide)⟩
            · show Steps p.tables e below (s₁.setTop (mkF m 0 #[.val (.int p0), .unset] [])) _
              refine XS.iloadN X0.here hx rfl (hb hby d1_0) rfl ?_
              show Steps p.tables e below (s₁.setTop (mkF m 1 #[.val (.int p0), .unset] [(.int p0)])) _
              refine X0.ldcInt hx hown (mvT hZ (hw _ (List.mem_of_getElem? (i := 21) rfl))) (g := (mkF m 1 #[.val (.int p0), .unset] [(.int p0)])) rfl (hb hby d1_1) _ ?_
              show Steps p.tables e below (s₁.setTop (mkF m 3 #[.val (.int p0), .unset] [(.int (65536 : Int32)), (.int p0)])) _
              refine XS.icmpNo X0.here hx rfl (hb hby d1_3) rfl (flt c1).1 ?_
              show Steps p.tables e below (s₁.setTop (mkF m 6 #[.val (.int p0), .unset] [])) _
              refine XS.iloadN X0.here hx rfl (hb hby d1_6) rfl ?_
              show Steps p.tables e below (s₁.setTop (mkF m 7 #[.val (.int p0), .unset] [(.int p0)])) _
              refine X0.ldcInt hx hown (mvT hZ (hw _ (List.mem_of_getElem? (i := 30) rfl))) (g := (mkF m 7 #[.val (.int p0), .unset] [(.int p0)])) rfl (hb hby d1_7) _ ?_
              show Steps p.tables e below (s₁.setTop (mkF m 9 #[.val (.int p0), .unset] [(.int (917504 : Int32)), (.int p0)])) _
              refine XS.icmpNo X0.here hx rfl (hb hby d1_9) rfl (flt c31).1 ?_
              show Steps p.tables e below (s₁.setTop (mkF m 12 #[.val (.int p0), .unset] [])) _
              refine XS.iloadN X0.here hx rfl (hb hby d1_12) rfl ?_
              show Steps p.tables e below (s₁.setTop (mkF m 13 #[.val (.int p0), .unset] [(.int p0)])) _
              refine X0.ldcInt hx hown (mvT hZ (hw _ (List.mem_of_getElem? (i := 31) rfl))) (g := (mkF m 13 #[.val (.int p0), .unset] [(.int p0)])) rfl (hb hby d1_13) _ ?_
              show Steps p.tables e below (s₁.setTop (mkF m 15 #[.val (.int p0), .unset] [(.int (921600 : Int32)), (.int p0)])) _
              refine XS.icmpYes X0.here hx rfl (pc0 := 15) (pc' := 22) rfl (hb hby d1_15) rfl (flt c37).2.1 (by decide) (by decide) ?_
              show Steps p.tables e below (s₁.setTop (mkF m 22 #[.val (.int p0), .unset] [])) _
              refine XS.iconst X0.here hx rfl (hb hby d1_22) ?_
              show Steps p.tables e below (s₁.setTop (mkF m 23 #[.val (.int p0), .unset] [(.int (0 : Int32))])) _
              refine XS.istoreN X0.here hx rfl (hb hby d1_23) rfl (l' := #[.val (.int p0), .val (.int (0 : Int32))]) rfl ?_
              show Steps p.tables e below (s₁.setTop (mkF m 24 #[.val (.int p0), .val (.int (0 : Int32))] [])) _
              refine XS.iloadN X0.here hx rfl (hb hby d1_24) rfl ?_
              show Steps p.tables e below (s₁.setTop (mkF m 25 #[.val (.int p0), .val (.int (0 : Int32))] [(.int p0)])) _
              refine X0.ldcInt hx hown (mvT hZ (hw _ (List.mem_of_getElem? (i := 32) rfl))) (g := (mkF m 25 #[.val (.int p0), .val (.int (0 : Int32))] [(.int p0)])) rfl (hb hby d1_25) _ ?_
              show Steps p.tables e below (s₁.setTop (mkF m 27 #[.val (.int p0), .val (.int (0 : Int32))] [(.int (983040 : Int32)), (.int p0)])) _
              refine XS.icmpNo X0.here hx rfl (hb hby d1_27) rfl (tlt c43).2.1 ?_
              show Steps p.tables e below (s₁.setTop (mkF m 30 #[.val (.int p0), .val (.int (0 : Int32))] [])) _
              refine XS.iloadN X0.here hx rfl (hb hby d1_30) rfl ?_
              show Steps p.tables e below (s₁.setTop (mkF m 31 #[.val (.int p0), .val (.int (0 : Int32))] [(.int p0)])) _
              refine X0.ldcInt hx hown (mvT hZ (hw _ (List.mem_of_getElem? (i := 33) rfl))) (g := (mkF m 31 #[.val (.int p0), .val (.int (0 : Int32))] [(.int p0)])) rfl (hb hby d1_31) _ ?_
              show Steps p.tables e below (s₁.setTop (mkF m 33 #[.val (.int p0), .val (.int (0 : Int32))] [(.int (65535 : Int32)), (.int p0)])) _
              refine XS.iand X0.here hx rfl (hb hby d1_33) rfl ?_
              show Steps p.tables e below (s₁.setTop (mkF m 34 #[.val (.int p0), .val (.int (0 : Int32))] [(.int (p0 &&& (65535 : Int32)))])) _
              refine X0.ldcInt hx hown (mvT hZ (hw _ (List.mem_of_getElem? (i := 34) rfl))) (g := (mkF m 34 #[.val (.int p0), .val (.int (0 : Int32))] [(.int (p0 &&& (65535 : Int32)))])) rfl (hb hby d1_34) _ ?_
              show Steps p.tables e below (s₁.setTop (mkF m 36 #[.val (.int p0), .val (.int (0 : Int32))] [(.int (65533 : Int32)), (.int (p0 &&& (65535 : Int32)))])) _
              refine XS.icmpNo X0.here hx rfl (hb hby d1_36) rfl (flt c44).2.2.1 ?_
              show Steps p.tables e below (s₁.setTop (mkF m 39 #[.val (.int p0), .val (.int (0 : Int32))] [])) _
              refine XS.iloadN X0.here hx rfl (hb hby d1_39) rfl ?_
              show Steps p.tables e below (s₁.setTop (mkF m 40 #[.val (.int p0), .val (.int (0 : Int32))] [(.int (0 : Int32))])) _
              refine XS.ifNo X0.here hx rfl (hb hby d1_40) rfl ((if0 _ _).trans (teq ((by decide) : (0 : Int32) = (0 : Int32))).2) ?_
              show Steps p.tables e below (s₁.setTop (mkF m 43 #[.val (.int p0), .val (.int (0 : Int32))] [])) _
              refine XS.iconst X0.here hx rfl (hb hby d1_43) ?_
              show Steps p.tables e below (s₁.setTop (mkF m 44 #[.val (.int p0), .val (.int (0 : Int32))] [(.int (1 : Int32))])) _
              refine XS.goto X0.here hx rfl (pc0 := 44) (pc' := 48) rfl (hb hby d1_44) (by decide) (by decide) ?_
              show Steps p.tables e below (s₁.setTop (mkF m 48 #[.val (.int p0), .val (.int (0 : Int32))] [(.int (1 : Int32))])) _
              exact retN X0 hx (t := .boolean) Bd.returns (by simp) (hb hby d1_48) hr
            · show Q1 Z p0 h0 n0 _ s₁.heap _
              rw [e0]
              exact ⟨(congrArg (fun z => some (Value.int z)) ((if_neg c1).trans ((if_neg c31).trans ((if_neg c37).trans ((if_pos c43).trans ((if_neg c44).trans rfl))))).symm), N0, rfl⟩
        · obtain ⟨fs, hr, hrun, hended, hW, hsame⟩ := X0.leave (v := some (.int (0 : Int32))) (fun h => by rw [Bd.returns] at h; cases h)
          refine ⟨_, _, pre0 _ ?_, hrun, hended, _, _, rfl, ?_, ⟨_, rfl⟩, hW, hsame.mono (by decide) (by decide)⟩
          · show Steps p.tables e below (s₁.setTop (mkF m 0 #[.val (.int p0), .unset] [])) _
            refine XS.iloadN X0.here hx rfl (hb hby d1_0) rfl ?_
            show Steps p.tables e below (s₁.setTop (mkF m 1 #[.val (.int p0), .unset] [(.int p0)])) _
            refine X0.ldcInt hx hown (mvT hZ (hw _ (List.mem_of_getElem? (i := 21) rfl))) (g := (mkF m 1 #[.val (.int p0), .unset] [(.int p0)])) rfl (hb hby d1_1) _ ?_
            show Steps p.tables e below (s₁.setTop (mkF m 3 #[.val (.int p0), .unset] [(.int (65536 : Int32)), (.int p0)])) _
            refine XS.icmpNo X0.here hx rfl (hb hby d1_3) rfl (flt c1).1 ?_
            show Steps p.tables e below (s₁.setTop (mkF m 6 #[.val (.int p0), .unset] [])) _
            refine XS.iloadN X0.here hx rfl (hb hby d1_6) rfl ?_
            show Steps p.tables e below (s₁.setTop (mkF m 7 #[.val (.int p0), .unset] [(.int p0)])) _
            refine X0.ldcInt hx hown (mvT hZ (hw _ (List.mem_of_getElem? (i := 30) rfl))) (g := (mkF m 7 #[.val (.int p0), .unset] [(.int p0)])) rfl (hb hby d1_7) _ ?_
            show Steps p.tables e below (s₁.setTop (mkF m 9 #[.val (.int p0), .unset] [(.int (917504 : Int32)), (.int p0)])) _
            refine XS.icmpNo X0.here hx rfl (hb hby d1_9) rfl (flt c31).1 ?_
            show Steps p.tables e below (s₁.setTop (mkF m 12 #[.val (.int p0), .unset] [])) _
            refine XS.iloadN X0.here hx rfl (hb hby d1_12) rfl ?_
            show Steps p.tables e below (s₁.setTop (mkF m 13 #[.val (.int p0), .unset] [(.int p0)])) _
            refine X0.ldcInt hx hown (mvT hZ (hw _ (List.mem_of_getElem? (i := 31) rfl))) (g := (mkF m 13 #[.val (.int p0), .unset] [(.int p0)])) rfl (hb hby d1_13) _ ?_
            show Steps p.tables e below (s₁.setTop (mkF m 15 #[.val (.int p0), .unset] [(.int (921600 : Int32)), (.int p0)])) _
            refine XS.icmpYes X0.here hx rfl (pc0 := 15) (pc' := 22) rfl (hb hby d1_15) rfl (flt c37).2.1 (by decide) (by decide) ?_
            show Steps p.tables e below (s₁.setTop (mkF m 22 #[.val (.int p0), .unset] [])) _
            refine XS.iconst X0.here hx rfl (hb hby d1_22) ?_
            show Steps p.tables e below (s₁.setTop (mkF m 23 #[.val (.int p0), .unset] [(.int (0 : Int32))])) _
            refine XS.istoreN X0.here hx rfl (hb hby d1_23) rfl (l' := #[.val (.int p0), .val (.int (0 : Int32))]) rfl ?_
            show Steps p.tables e below (s₁.setTop (mkF m 24 #[.val (.int p0), .val (.int (0 : Int32))] [])) _
            refine XS.iloadN X0.here hx rfl (hb hby d1_24) rfl ?_
            show Steps p.tables e below (s₁.setTop (mkF m 25 #[.val (.int p0), .val (.int (0 : Int32))] [(.int p0)])) _
            refine X0.ldcInt hx hown (mvT hZ (hw _ (List.mem_of_getElem? (i := 32) rfl))) (g := (mkF m 25 #[.val (.int p0), .val (.int (0 : Int32))] [(.int p0)])) rfl (hb hby d1_25) _ ?_
            show Steps p.tables e below (s₁.setTop (mkF m 27 #[.val (.int p0), .val (.int (0 : Int32))] [(.int (983040 : Int32)), (.int p0)])) _
            refine XS.icmpYes X0.here hx rfl (pc0 := 27) (pc' := 47) rfl (hb hby d1_27) rfl (flt c43).2.1 (by decide) (by decide) ?_
            show Steps p.tables e below (s₁.setTop (mkF m 47 #[.val (.int p0), .val (.int (0 : Int32))] [])) _
            refine XS.iconst X0.here hx rfl (hb hby d1_47) ?_
            show Steps p.tables e below (s₁.setTop (mkF m 48 #[.val (.int p0), .val (.int (0 : Int32))] [(.int (0 : Int32))])) _
            exact retN X0 hx (t := .boolean) Bd.returns (by simp) (hb hby d1_48) hr
          · show Q1 Z p0 h0 n0 _ s₁.heap _
            rw [e0]
            exact ⟨(congrArg (fun z => some (Value.int z)) ((if_neg c1).trans ((if_neg c31).trans ((if_neg c37).trans ((if_neg c43).trans rfl)))).symm), N0, rfl⟩
theorem d3_0 : decode method_2_code 0 = .ok (.iload_n 0, 1) := by decide +kernel
theorem d3_1 : decode method_2_code 1 = .ok (.iload_n 1, 1) := by decide +kernel
theorem d3_2 : decode method_2_code 2 = .ok (.if_icmp .lt 12, 3) := by decide +kernel
theorem d3_5 : decode method_2_code 5 = .ok (.iload_n 0, 1) := by decide +kernel
theorem d3_6 : decode method_2_code 6 = .ok (.iload_n 2, 1) := by decide +kernel
theorem d3_7 : decode method_2_code 7 = .ok (.if_icmp .gt 7, 3) := by decide +kernel
theorem d3_10 : decode method_2_code 10 = .ok (.iconst 1, 1) := by decide +kernel
theorem d3_11 : decode method_2_code 11 = .ok (.goto 4, 3) := by decide +kernel
theorem d3_14 : decode method_2_code 14 = .ok (.iconst 0, 1) := by decide +kernel
theorem d3_15 : decode method_2_code 15 = .ok (.ireturn, 1) := by decide +kernel
theorem pn_3 : plainName "com/example/rels_from_records/relsfromrecords/uri/PercentEncodingIsUcscharPinLaw" = true := by first | (simp [plainName, overriddenIn]; done) | decide +kernel
theorem ef_3 (m : MethodId) (p0 : Int32) (p1 : Int32) (p2 : Int32) : entryFrame m #[(.int p0), (.int p1), (.int p2)] 3 = mkF m 0 #[.val (.int p0), .val (.int p1), .val (.int p2)] [] := by first | (simp [entryFrame, mkF, argsToLocals, Value.category]; done) | rfl
def F3 (p0 : Int32) (p1 : Int32) (p2 : Int32) : Int32 := (if p0 < p1 then (0 : Int32) else (if p2 < p0 then (0 : Int32) else (1 : Int32)))
def Q3 (Z : State) (p0 : Int32) (p1 : Int32) (p2 : Int32) (h0 : Heap) (n0 : Nat) (v : Option Value) (h : Heap) (L : List Loc) : Prop := v = some (.int (F3 p0 p1 p2)) ∧ Fr n0 L ∧ h = h0
set_option maxRecDepth 65536 in
set_option maxHeartbeats 40000000 in
theorem rm3 (l : Launch) (Z : State) (a0 : Array Value) (hw : ∀ d ∈ tables_1, d.before a0 Z = true) (ws : List Jvm.Cond) (p0 : Int32) (p1 : Int32) (p2 : Int32) (h0 : Heap) (n0 : Nat) (Z0 : n0 ≤ h0.size)  :
    MetFree l (⟨"com/example/rels_from_records/relsfromrecords/uri/PercentEncodingIsUcscharPinLaw", "in", "(III)Z"⟩ : MethodName) (head1 (Jvm.Cond.code (⟨"com/example/rels_from_records/relsfromrecords/uri/PercentEncodingIsUcscharPinLaw", "in", "(III)Z"⟩ : MethodName) method_2_code 3 (some .boolean) :: ws) ({ frames := 0, cells := 0, slots := 0, locals := 0 } : Room)) (fun a U => a = #[(.int p0), (.int p1), (.int p2)] ∧ Z.Warmed39 U.vm ∧ U.heap = h0) (fun _ _ _ _ _ => True) (fun _ U o U' => ∃ v L, o = .returned v ∧ Q3 Z p0 p1 p2 h0 n0 v U'.heap L ∧ FrameEnd U o U' L ({ frames := 0, cells := 0, slots := 0, locals := 0 } : Room).cells ({ frames := 0, cells := 0, slots := 0, locals := 0 } : Room).slots) := by
  refine MetFree.of_bodySF (plainFor_of_name pn_3) hisR ?_
  intro p e s m args below meth c s₁ Bd hml0 hP hK
  obtain ⟨rfl, hZ, hh⟩ := hP
  have hx := Bd.exec
  have hby := Bd.bytes
  have hml : c.maxLocals = 3 := hml0
  have hown : s.vm.findClass "com/example/rels_from_records/relsfromrecords/uri/PercentEncodingIsUcscharPinLaw" = some m.cls := findClass_of_methodNamed Bd.named
  have X0 : Stand p l e ({ frames := 0, cells := 0, slots := 0, locals := 0 } : Room) s m #[(.int p0), (.int p1), (.int p2)] below meth c s₁ [] 0 0 := Stand.of_body Bd
  have e0 : s₁.heap = h0 := by rw [← hh, Bd.state]; rfl
  have N0 := Fr.nil n0
  have pre0 : ∀ t, Steps p.tables e below (s₁.setTop (mkF m 0 #[.val (.int p0), .val (.int p1), .val (.int p2)] [])) t → Steps p.tables e below (s₁.setTop (entryFrame m #[(.int p0), (.int p1), (.int p2)] 3)) t := fun t k => castTop (ef_3 m p0 p1 p2) k
  by_cases c48 : p0 < p1
  · obtain ⟨fs, hr, hrun, hended, hW, hsame⟩ := X0.leave (v := some (.int (0 : Int32))) (fun h => by rw [Bd.returns] at h; cases h)
    refine ⟨_, _, pre0 _ ?_, hrun, hended, _, _, rfl, ?_, ⟨_, rfl⟩, hW, hsame.mono (by decide) (by decide)⟩
    · show Steps p.tables e below (s₁.setTop (mkF m 0 #[.val (.int p0), .val (.int p1), .val (.int p2)] [])) _
      refine XS.iloadN X0.here hx rfl (hb hby d3_0) rfl ?_
      show Steps p.tables e below (s₁.setTop (mkF m 1 #[.val (.int p0), .val (.int p1), .val (.int p2)] [(.int p0)])) _
      refine XS.iloadN X0.here hx rfl (hb hby d3_1) rfl ?_
      show Steps p.tables e below (s₁.setTop (mkF m 2 #[.val (.int p0), .val (.int p1), .val (.int p2)] [(.int p1), (.int p0)])) _
      refine XS.icmpYes X0.here hx rfl (pc0 := 2) (pc' := 14) rfl (hb hby d3_2) rfl (tlt c48).1 (by decide) (by decide) ?_
      show Steps p.tables e below (s₁.setTop (mkF m 14 #[.val (.int p0), .val (.int p1), .val (.int p2)] [])) _
      refine XS.iconst X0.here hx rfl (hb hby d3_14) ?_
      show Steps p.tables e below (s₁.setTop (mkF m 15 #[.val (.int p0), .val (.int p1), .val (.int p2)] [(.int (0 : Int32))])) _
      exact retN X0 hx (t := .boolean) Bd.returns (by simp) (hb hby d3_15) hr
    · show Q3 Z p0 p1 p2 h0 n0 _ s₁.heap _
      rw [e0]
      exact ⟨(congrArg (fun z => some (Value.int z)) ((if_pos c48).trans rfl).symm), N0, rfl⟩
  · by_cases c50 : p2 < p0
    · obtain ⟨fs, hr, hrun, hended, hW, hsame⟩ := X0.leave (v := some (.int (0 : Int32))) (fun h => by rw [Bd.returns] at h; cases h)
      refine ⟨_, _, pre0 _ ?_, hrun, hended, _, _, rfl, ?_, ⟨_, rfl⟩, hW, hsame.mono (by decide) (by decide)⟩
      · show Steps p.tables e below (s₁.setTop (mkF m 0 #[.val (.int p0), .val (.int p1), .val (.int p2)] [])) _
        refine XS.iloadN X0.here hx rfl (hb hby d3_0) rfl ?_
        show Steps p.tables e below (s₁.setTop (mkF m 1 #[.val (.int p0), .val (.int p1), .val (.int p2)] [(.int p0)])) _
        refine XS.iloadN X0.here hx rfl (hb hby d3_1) rfl ?_
        show Steps p.tables e below (s₁.setTop (mkF m 2 #[.val (.int p0), .val (.int p1), .val (.int p2)] [(.int p1), (.int p0)])) _
        refine XS.icmpNo X0.here hx rfl (hb hby d3_2) rfl (flt c48).1 ?_
        show Steps p.tables e below (s₁.setTop (mkF m 5 #[.val (.int p0), .val (.int p1), .val (.int p2)] [])) _
        refine XS.iloadN X0.here hx rfl (hb hby d3_5) rfl ?_
        show Steps p.tables e below (s₁.setTop (mkF m 6 #[.val (.int p0), .val (.int p1), .val (.int p2)] [(.int p0)])) _
        refine XS.iloadN X0.here hx rfl (hb hby d3_6) rfl ?_
        show Steps p.tables e below (s₁.setTop (mkF m 7 #[.val (.int p0), .val (.int p1), .val (.int p2)] [(.int p2), (.int p0)])) _
        refine XS.icmpYes X0.here hx rfl (pc0 := 7) (pc' := 14) rfl (hb hby d3_7) rfl (tlt c50).2.2.1 (by decide) (by decide) ?_
        show Steps p.tables e below (s₁.setTop (mkF m 14 #[.val (.int p0), .val (.int p1), .val (.int p2)] [])) _
        refine XS.iconst X0.here hx rfl (hb hby d3_14) ?_
        show Steps p.tables e below (s₁.setTop (mkF m 15 #[.val (.int p0), .val (.int p1), .val (.int p2)] [(.int (0 : Int32))])) _
        exact retN X0 hx (t := .boolean) Bd.returns (by simp) (hb hby d3_15) hr
      · show Q3 Z p0 p1 p2 h0 n0 _ s₁.heap _
        rw [e0]
        exact ⟨(congrArg (fun z => some (Value.int z)) ((if_neg c48).trans ((if_pos c50).trans rfl)).symm), N0, rfl⟩
    · obtain ⟨fs, hr, hrun, hended, hW, hsame⟩ := X0.leave (v := some (.int (1 : Int32))) (fun h => by rw [Bd.returns] at h; cases h)
      refine ⟨_, _, pre0 _ ?_, hrun, hended, _, _, rfl, ?_, ⟨_, rfl⟩, hW, hsame.mono (by decide) (by decide)⟩
      · show Steps p.tables e below (s₁.setTop (mkF m 0 #[.val (.int p0), .val (.int p1), .val (.int p2)] [])) _
        refine XS.iloadN X0.here hx rfl (hb hby d3_0) rfl ?_
        show Steps p.tables e below (s₁.setTop (mkF m 1 #[.val (.int p0), .val (.int p1), .val (.int p2)] [(.int p0)])) _
        refine XS.iloadN X0.here hx rfl (hb hby d3_1) rfl ?_
        show Steps p.tables e below (s₁.setTop (mkF m 2 #[.val (.int p0), .val (.int p1), .val (.int p2)] [(.int p1), (.int p0)])) _
        refine XS.icmpNo X0.here hx rfl (hb hby d3_2) rfl (flt c48).1 ?_
        show Steps p.tables e below (s₁.setTop (mkF m 5 #[.val (.int p0), .val (.int p1), .val (.int p2)] [])) _
        refine XS.iloadN X0.here hx rfl (hb hby d3_5) rfl ?_
        show Steps p.tables e below (s₁.setTop (mkF m 6 #[.val (.int p0), .val (.int p1), .val (.int p2)] [(.int p0)])) _
        refine XS.iloadN X0.here hx rfl (hb hby d3_6) rfl ?_
        show Steps p.tables e below (s₁.setTop (mkF m 7 #[.val (.int p0), .val (.int p1), .val (.int p2)] [(.int p2), (.int p0)])) _
        refine XS.icmpNo X0.here hx rfl (hb hby d3_7) rfl (flt c50).2.2.1 ?_
        show Steps p.tables e below (s₁.setTop (mkF m 10 #[.val (.int p0), .val (.int p1), .val (.int p2)] [])) _
        refine XS.iconst X0.here hx rfl (hb hby d3_10) ?_
        show Steps p.tables e below (s₁.setTop (mkF m 11 #[.val (.int p0), .val (.int p1), .val (.int p2)] [(.int (1 : Int32))])) _
        refine XS.goto X0.here hx rfl (pc0 := 11) (pc' := 15) rfl (hb hby d3_11) (by decide) (by decide) ?_
        show Steps p.tables e below (s₁.setTop (mkF m 15 #[.val (.int p0), .val (.int p1), .val (.int p2)] [(.int (1 : Int32))])) _
        exact retN X0 hx (t := .boolean) Bd.returns (by simp) (hb hby d3_15) hr
      · show Q3 Z p0 p1 p2 h0 n0 _ s₁.heap _
        rw [e0]
        exact ⟨(congrArg (fun z => some (Value.int z)) ((if_neg c48).trans ((if_neg c50).trans rfl)).symm), N0, rfl⟩
theorem pd_0 : parseMethodDescriptor "(III)Z" = some ⟨[.int, .int, .int], some .boolean⟩ := by decide +kernel
theorem d2_0 : decode method_3_code 0 = .ok (.iload_n 0, 1) := by decide +kernel
theorem d2_1 : decode method_3_code 1 = .ok (.sipush 160, 3) := by decide +kernel
theorem d2_4 : decode method_3_code 4 = .ok (.ldc 7, 2) := by decide +kernel
theorem d2_6 : decode method_3_code 6 = .ok (.invokestatic 8, 3) := by decide +kernel
theorem d2_9 : decode method_3_code 9 = .ok (.ifCond .ne 179, 3) := by decide +kernel
theorem d2_12 : decode method_3_code 12 = .ok (.iload_n 0, 1) := by decide +kernel
theorem d2_13 : decode method_3_code 13 = .ok (.ldc 14, 2) := by decide +kernel
theorem d2_15 : decode method_3_code 15 = .ok (.ldc 15, 2) := by decide +kernel
theorem d2_17 : decode method_3_code 17 = .ok (.invokestatic 8, 3) := by decide +kernel
theorem d2_20 : decode method_3_code 20 = .ok (.ifCond .ne 168, 3) := by decide +kernel
theorem d2_23 : decode method_3_code 23 = .ok (.iload_n 0, 1) := by decide +kernel
theorem d2_24 : decode method_3_code 24 = .ok (.ldc 16, 2) := by decide +kernel
theorem d2_26 : decode method_3_code 26 = .ok (.ldc 17, 2) := by decide +kernel
theorem d2_28 : decode method_3_code 28 = .ok (.invokestatic 8, 3) := by decide +kernel
theorem d2_31 : decode method_3_code 31 = .ok (.ifCond .ne 157, 3) := by decide +kernel
theorem d2_34 : decode method_3_code 34 = .ok (.iload_n 0, 1) := by decide +kernel
theorem d2_35 : decode method_3_code 35 = .ok (.ldc 18, 2) := by decide +kernel
theorem d2_37 : decode method_3_code 37 = .ok (.ldc 19, 2) := by decide +kernel
theorem d2_39 : decode method_3_code 39 = .ok (.invokestatic 8, 3) := by decide +kernel
theorem d2_42 : decode method_3_code 42 = .ok (.ifCond .ne 146, 3) := by decide +kernel
theorem d2_45 : decode method_3_code 45 = .ok (.iload_n 0, 1) := by decide +kernel
theorem d2_46 : decode method_3_code 46 = .ok (.ldc 20, 2) := by decide +kernel
theorem d2_48 : decode method_3_code 48 = .ok (.ldc 21, 2) := by decide +kernel
theorem d2_50 : decode method_3_code 50 = .ok (.invokestatic 8, 3) := by decide +kernel
theorem d2_53 : decode method_3_code 53 = .ok (.ifCond .ne 135, 3) := by decide +kernel
theorem d2_56 : decode method_3_code 56 = .ok (.iload_n 0, 1) := by decide +kernel
theorem d2_57 : decode method_3_code 57 = .ok (.ldc 22, 2) := by decide +kernel
theorem d2_59 : decode method_3_code 59 = .ok (.ldc 23, 2) := by decide +kernel
theorem d2_61 : decode method_3_code 61 = .ok (.invokestatic 8, 3) := by decide +kernel
theorem d2_64 : decode method_3_code 64 = .ok (.ifCond .ne 124, 3) := by decide +kernel
theorem d2_67 : decode method_3_code 67 = .ok (.iload_n 0, 1) := by decide +kernel
theorem d2_68 : decode method_3_code 68 = .ok (.ldc 24, 2) := by decide +kernel
theorem d2_70 : decode method_3_code 70 = .ok (.ldc 25, 2) := by decide +kernel
theorem d2_72 : decode method_3_code 72 = .ok (.invokestatic 8, 3) := by decide +kernel
theorem d2_75 : decode method_3_code 75 = .ok (.ifCond .ne 113, 3) := by decide +kernel
theorem d2_78 : decode method_3_code 78 = .ok (.iload_n 0, 1) := by decide +kernel
theorem d2_79 : decode method_3_code 79 = .ok (.ldc 26, 2) := by decide +kernel
theorem d2_81 : decode method_3_code 81 = .ok (.ldc 27, 2) := by decide +kernel
theorem d2_83 : decode method_3_code 83 = .ok (.invokestatic 8, 3) := by decide +kernel
theorem d2_86 : decode method_3_code 86 = .ok (.ifCond .ne 102, 3) := by decide +kernel
theorem d2_89 : decode method_3_code 89 = .ok (.iload_n 0, 1) := by decide +kernel
theorem d2_90 : decode method_3_code 90 = .ok (.ldc 28, 2) := by decide +kernel
theorem d2_92 : decode method_3_code 92 = .ok (.ldc 29, 2) := by decide +kernel
theorem d2_94 : decode method_3_code 94 = .ok (.invokestatic 8, 3) := by decide +kernel
theorem d2_97 : decode method_3_code 97 = .ok (.ifCond .ne 91, 3) := by decide +kernel
theorem d2_100 : decode method_3_code 100 = .ok (.iload_n 0, 1) := by decide +kernel
theorem d2_101 : decode method_3_code 101 = .ok (.ldc 30, 2) := by decide +kernel
theorem d2_103 : decode method_3_code 103 = .ok (.ldc 31, 2) := by decide +kernel
theorem d2_105 : decode method_3_code 105 = .ok (.invokestatic 8, 3) := by decide +kernel
theorem d2_108 : decode method_3_code 108 = .ok (.ifCond .ne 80, 3) := by decide +kernel
theorem d2_111 : decode method_3_code 111 = .ok (.iload_n 0, 1) := by decide +kernel
theorem d2_112 : decode method_3_code 112 = .ok (.ldc 32, 2) := by decide +kernel
theorem d2_114 : decode method_3_code 114 = .ok (.ldc 33, 2) := by decide +kernel
theorem d2_116 : decode method_3_code 116 = .ok (.invokestatic 8, 3) := by decide +kernel
theorem d2_119 : decode method_3_code 119 = .ok (.ifCond .ne 69, 3) := by decide +kernel
theorem d2_122 : decode method_3_code 122 = .ok (.iload_n 0, 1) := by decide +kernel
theorem d2_123 : decode method_3_code 123 = .ok (.ldc 34, 2) := by decide +kernel
theorem d2_125 : decode method_3_code 125 = .ok (.ldc 35, 2) := by decide +kernel
theorem d2_127 : decode method_3_code 127 = .ok (.invokestatic 8, 3) := by decide +kernel
theorem d2_130 : decode method_3_code 130 = .ok (.ifCond .ne 58, 3) := by decide +kernel
theorem d2_133 : decode method_3_code 133 = .ok (.iload_n 0, 1) := by decide +kernel
theorem d2_134 : decode method_3_code 134 = .ok (.ldc 36, 2) := by decide +kernel
theorem d2_136 : decode method_3_code 136 = .ok (.ldc 37, 2) := by decide +kernel
theorem d2_138 : decode method_3_code 138 = .ok (.invokestatic 8, 3) := by decide +kernel
theorem d2_141 : decode method_3_code 141 = .ok (.ifCond .ne 47, 3) := by decide +kernel
theorem d2_144 : decode method_3_code 144 = .ok (.iload_n 0, 1) := by decide +kernel
theorem d2_145 : decode method_3_code 145 = .ok (.ldc 38, 2) := by decide +kernel
theorem d2_147 : decode method_3_code 147 = .ok (.ldc 39, 2) := by decide +kernel
theorem d2_149 : decode method_3_code 149 = .ok (.invokestatic 8, 3) := by decide +kernel
theorem d2_152 : decode method_3_code 152 = .ok (.ifCond .ne 36, 3) := by decide +kernel
theorem d2_155 : decode method_3_code 155 = .ok (.iload_n 0, 1) := by decide +kernel
theorem d2_156 : decode method_3_code 156 = .ok (.ldc 40, 2) := by decide +kernel
theorem d2_158 : decode method_3_code 158 = .ok (.ldc 41, 2) := by decide +kernel
theorem d2_160 : decode method_3_code 160 = .ok (.invokestatic 8, 3) := by decide +kernel
theorem d2_163 : decode method_3_code 163 = .ok (.ifCond .ne 25, 3) := by decide +kernel
theorem d2_166 : decode method_3_code 166 = .ok (.iload_n 0, 1) := by decide +kernel
theorem d2_167 : decode method_3_code 167 = .ok (.ldc 42, 2) := by decide +kernel
theorem d2_169 : decode method_3_code 169 = .ok (.ldc 43, 2) := by decide +kernel
theorem d2_171 : decode method_3_code 171 = .ok (.invokestatic 8, 3) := by decide +kernel
theorem d2_174 : decode method_3_code 174 = .ok (.ifCond .ne 14, 3) := by decide +kernel
theorem d2_177 : decode method_3_code 177 = .ok (.iload_n 0, 1) := by decide +kernel
theorem d2_178 : decode method_3_code 178 = .ok (.ldc 44, 2) := by decide +kernel
theorem d2_180 : decode method_3_code 180 = .ok (.ldc 45, 2) := by decide +kernel
theorem d2_182 : decode method_3_code 182 = .ok (.invokestatic 8, 3) := by decide +kernel
theorem d2_185 : decode method_3_code 185 = .ok (.ifCond .eq 7, 3) := by decide +kernel
theorem d2_188 : decode method_3_code 188 = .ok (.iconst 1, 1) := by decide +kernel
theorem d2_189 : decode method_3_code 189 = .ok (.goto 4, 3) := by decide +kernel
theorem d2_192 : decode method_3_code 192 = .ok (.iconst 0, 1) := by decide +kernel
theorem d2_193 : decode method_3_code 193 = .ok (.ireturn, 1) := by decide +kernel
theorem pn_2 : plainName "com/example/rels_from_records/relsfromrecords/uri/PercentEncodingIsUcscharPinLaw" = true := by first | (simp [plainName, overriddenIn]; done) | decide +kernel
theorem ef_2 (m : MethodId) (p0 : Int32) : entryFrame m #[(.int p0)] 1 = mkF m 0 #[.val (.int p0)] [] := by first | (simp [entryFrame, mkF, argsToLocals, Value.category]; done) | rfl
def F2 (p0 : Int32) : Int32 := (if (F3 p0 (160 : Int32) (55295 : Int32)) = (0 : Int32) then (if (F3 p0 (63744 : Int32) (64975 : Int32)) = (0 : Int32) then (if (F3 p0 (65008 : Int32) (65519 : Int32)) = (0 : Int32) then (if (F3 p0 (65536 : Int32) (131069 : Int32)) = (0 : Int32) then (if (F3 p0 (131072 : Int32) (196605 : Int32)) = (0 : Int32) then (if (F3 p0 (196608 : Int32) (262141 : Int32)) = (0 : Int32) then (if (F3 p0 (262144 : Int32) (327677 : Int32)) = (0 : Int32) then (if (F3 p0 (327680 : Int32) (393213 : Int32)) = (0 : Int32) then (if (F3 p0 (393216 : Int32) (458749 : Int32)) = (0 : Int32) then (if (F3 p0 (458752 : Int32) (524285 : Int32)) = (0 : Int32) then (if (F3 p0 (524288 : Int32) (589821 : Int32)) = (0 : Int32) then (if (F3 p0 (589824 : Int32) (655357 : Int32)) = (0 : Int32) then (if (F3 p0 (655360 : Int32) (720893 : Int32)) = (0 : Int32) then (if (F3 p0 (720896 : Int32) (786429 : Int32)) = (0 : Int32) then (if (F3 p0 (786432 : Int32) (851965 : Int32)) = (0 : Int32) then (if (F3 p0 (851968 : Int32) (917501 : Int32)) = (0 : Int32) then (if (F3 p0 (921600 : Int32) (983037 : Int32)) = (0 : Int32) then (0 : Int32) else (1 : Int32)) else (1 : Int32)) else (1 : Int32)) else (1 : Int32)) else (1 : Int32)) else (1 : Int32)) else (1 : Int32)) else (1 : Int32)) else (1 : Int32)) else (1 : Int32)) else (1 : Int32)) else (1 : Int32)) else (1 : Int32)) else (1 : Int32)) else (1 : Int32)) else (1 : Int32)) else (1 : Int32))
def Q2 (Z : State) (p0 : Int32) (h0 : Heap) (n0 : Nat) (v : Option Value) (h : Heap) (L : List Loc) : Prop := v = some (.int (F2 p0)) ∧ Fr n0 L ∧ h = h0
set_option maxRecDepth 65536 in
set_option maxHeartbeats 40000000 in
theorem rm2 (l : Launch) (Z : State) (a0 : Array Value) (hw : ∀ d ∈ tables_1, d.before a0 Z = true) (ws : List Jvm.Cond) (p0 : Int32) (h0 : Heap) (n0 : Nat) (Z0 : n0 ≤ h0.size)  :
    MetFree l (⟨"com/example/rels_from_records/relsfromrecords/uri/PercentEncodingIsUcscharPinLaw", "ref", "(I)Z"⟩ : MethodName) (head1 (Jvm.Cond.code (⟨"com/example/rels_from_records/relsfromrecords/uri/PercentEncodingIsUcscharPinLaw", "ref", "(I)Z"⟩ : MethodName) method_3_code 1 (some .boolean) :: ws) ({ frames := 1, cells := 0, slots := 0, locals := 14 } : Room)) (fun a U => a = #[(.int p0)] ∧ Z.Warmed39 U.vm ∧ U.heap = h0) (fun _ _ _ _ _ => True) (fun _ U o U' => ∃ v L, o = .returned v ∧ Q2 Z p0 h0 n0 v U'.heap L ∧ FrameEnd U o U' L ({ frames := 1, cells := 0, slots := 0, locals := 14 } : Room).cells ({ frames := 1, cells := 0, slots := 0, locals := 14 } : Room).slots) := by
  refine MetFree.of_bodySF (plainFor_of_name pn_2) hisR ?_
  intro p e s m args below meth c s₁ Bd hml0 hP hK
  obtain ⟨rfl, hZ, hh⟩ := hP
  have hx := Bd.exec
  have hby := Bd.bytes
  have hml : c.maxLocals = 1 := hml0
  have hown : s.vm.findClass "com/example/rels_from_records/relsfromrecords/uri/PercentEncodingIsUcscharPinLaw" = some m.cls := findClass_of_methodNamed Bd.named
  have X0 : Stand p l e ({ frames := 1, cells := 0, slots := 0, locals := 14 } : Room) s m #[(.int p0)] below meth c s₁ [] 0 0 := Stand.of_body Bd
  have e0 : s₁.heap = h0 := by rw [← hh, Bd.state]; rfl
  have N0 := Fr.nil n0
  have pre0 : ∀ t, Steps p.tables e below (s₁.setTop (mkF m 0 #[.val (.int p0)] [])) t → Steps p.tables e below (s₁.setTop (entryFrame m #[(.int p0)] 1)) t := fun t k => castTop (ef_2 m p0) k
  obtain ⟨_, _, ⟨T53, L53, k53, n53⟩, -, X53, ⟨Lc53, hQ53, l53, y53, z53⟩, st53⟩ := Jvm.LawKit.callS X0 hx (y := (⟨"com/example/rels_from_records/relsfromrecords/uri/PercentEncodingIsUcscharPinLaw", "in", "(III)Z"⟩ : MethodName)) hown (mvT hZ (hw _ (List.mem_of_getElem? (i := 27) rfl))) (mvT hZ (hw _ (List.mem_of_getElem? (i := 28) rfl))) (mvT hZ (hw _ (List.mem_of_getElem? (i := 25) rfl))) (mvT hZ (hw _ (List.mem_of_getElem? (i := 29) rfl))) (by decide) (backOf (W := 0) (rm3 l Z a0 hw [] p0 (160 : Int32) (55295 : Int32) h0 n0 Z0 ) hZ (hw _ (List.mem_of_getElem? (i := 29) rfl)) (hw _ (List.mem_of_getElem? (i := 25) rfl)) (by decide) (by decide)) (g := (mkF m 6 #[.val (.int p0)] [(.int (55295 : Int32)), (.int (160 : Int32)), (.int p0)])) rfl (by rw [hml]; rfl) (argsL := [(.int p0), (.int (160 : Int32)), (.int (55295 : Int32))]) (rest := []) (lenOf pd_0 rfl) rfl (by show 2 * 0 + _ ≤ _; exact Nat.le_of_eq rfl) (hb hby d2_6) (fun _ _ => ⟨rfl, e0, (by decide : 0 + 0 ≤ _), (by decide : 0 + 0 ≤ _)⟩)
  dsimp only [Pt.U, Pt.locs, Pt.cells, Pt.slots] at X53 l53 y53 z53 st53 hQ53
  subst l53 y53 z53
  obtain ⟨rfl, N53q, e53⟩ := hQ53
  have N53 := Fr.app N0 N53q
  by_cases c54 : (F3 p0 (160 : Int32) (55295 : Int32)) = (0 : Int32)
  · obtain ⟨_, _, ⟨T55, L55, k55, n55⟩, -, X55, ⟨Lc55, hQ55, l55, y55, z55⟩, st55⟩ := Jvm.LawKit.callS X53 hx (y := (⟨"com/example/rels_from_records/relsfromrecords/uri/PercentEncodingIsUcscharPinLaw", "in", "(III)Z"⟩ : MethodName)) hown (mvT hZ (hw _ (List.mem_of_getElem? (i := 27) rfl))) (mvT hZ (hw _ (List.mem_of_getElem? (i := 28) rfl))) (mvT hZ (hw _ (List.mem_of_getElem? (i := 25) rfl))) (mvT hZ (hw _ (List.mem_of_getElem? (i := 29) rfl))) (by decide) (backOf (W := 0) (rm3 l Z a0 hw [] p0 (63744 : Int32) (64975 : Int32) h0 n0 Z0 ) hZ (hw _ (List.mem_of_getElem? (i := 29) rfl)) (hw _ (List.mem_of_getElem? (i := 25) rfl)) (by decide) (by decide)) (g := (mkF m 17 #[.val (.int p0)] [(.int (64975 : Int32)), (.int (63744 : Int32)), (.int p0)])) rfl (by rw [hml]; rfl) (argsL := [(.int p0), (.int (63744 : Int32)), (.int (64975 : Int32))]) (rest := []) (lenOf pd_0 rfl) rfl (by show 2 * 0 + _ ≤ _; exact Nat.le_of_eq rfl) (hb hby d2_17) (fun _ _ => ⟨rfl, e53, (by decide : 0 + 0 ≤ _), (by decide : 0 + 0 ≤ _)⟩)
    dsimp only [Pt.U, Pt.locs, Pt.cells, Pt.slots] at X55 l55 y55 z55 st55 hQ55
    subst l55 y55 z55
    obtain ⟨rfl, N55q, e55⟩ := hQ55
    have N55 := Fr.app N53 N55q
    by_cases c56 : (F3 p0 (63744 : Int32) (64975 : Int32)) = (0 : Int32)
    · obtain ⟨_, _, ⟨T57, L57, k57, n57⟩, -, X57, ⟨Lc57, hQ57, l57, y57, z57⟩, st57⟩ := Jvm.LawKit.callS X55 hx (y := (⟨"com/example/rels_from_records/relsfromrecords/uri/PercentEncodingIsUcscharPinLaw", "in", "(III)Z"⟩ : MethodName)) hown (mvT hZ (hw _ (List.mem_of_getElem? (i := 27) rfl))) (mvT hZ (hw _ (List.mem_of_getElem? (i := 28) rfl))) (mvT hZ (hw _ (List.mem_of_getElem? (i := 25) rfl))) (mvT hZ (hw _ (List.mem_of_getElem? (i := 29) rfl))) (by decide) (backOf (W := 0) (rm3 l Z a0 hw [] p0 (65008 : Int32) (65519 : Int32) h0 n0 Z0 ) hZ (hw _ (List.mem_of_getElem? (i := 29) rfl)) (hw _ (List.mem_of_getElem? (i := 25) rfl)) (by decide) (by decide)) (g := (mkF m 28 #[.val (.int p0)] [(.int (65519 : Int32)), (.int (65008 : Int32)), (.int p0)])) rfl (by rw [hml]; rfl) (argsL := [(.int p0), (.int (65008 : Int32)), (.int (65519 : Int32))]) (rest := []) (lenOf pd_0 rfl) rfl (by show 2 * 0 + _ ≤ _; exact Nat.le_of_eq rfl) (hb hby d2_28) (fun _ _ => ⟨rfl, e55, (by decide : 0 + 0 ≤ _), (by decide : 0 + 0 ≤ _)⟩)
      dsimp only [Pt.U, Pt.locs, Pt.cells, Pt.slots] at X57 l57 y57 z57 st57 hQ57
      subst l57 y57 z57
      obtain ⟨rfl, N57q, e57⟩ := hQ57
      have N57 := Fr.app N55 N57q
      by_cases c58 : (F3 p0 (65008 : Int32) (65519 : Int32)) = (0 : Int32)
      · obtain ⟨_, _, ⟨T59, L59, k59, n59⟩, -, X59, ⟨Lc59, hQ59, l59, y59, z59⟩, st59⟩ := Jvm.LawKit.callS X57 hx (y := (⟨"com/example/rels_from_records/relsfromrecords/uri/PercentEncodingIsUcscharPinLaw", "in", "(III)Z"⟩ : MethodName)) hown (mvT hZ (hw _ (List.mem_of_getElem? (i := 27) rfl))) (mvT hZ (hw _ (List.mem_of_getElem? (i := 28) rfl))) (mvT hZ (hw _ (List.mem_of_getElem? (i := 25) rfl))) (mvT hZ (hw _ (List.mem_of_getElem? (i := 29) rfl))) (by decide) (backOf (W := 0) (rm3 l Z a0 hw [] p0 (65536 : Int32) (131069 : Int32) h0 n0 Z0 ) hZ (hw _ (List.mem_of_getElem? (i := 29) rfl)) (hw _ (List.mem_of_getElem? (i := 25) rfl)) (by decide) (by decide)) (g := (mkF m 39 #[.val (.int p0)] [(.int (131069 : Int32)), (.int (65536 : Int32)), (.int p0)])) rfl (by rw [hml]; rfl) (argsL := [(.int p0), (.int (65536 : Int32)), (.int (131069 : Int32))]) (rest := []) (lenOf pd_0 rfl) rfl (by show 2 * 0 + _ ≤ _; exact Nat.le_of_eq rfl) (hb hby d2_39) (fun _ _ => ⟨rfl, e57, (by decide : 0 + 0 ≤ _), (by decide : 0 + 0 ≤ _)⟩)
        dsimp only [Pt.U, Pt.locs, Pt.cells, Pt.slots] at X59 l59 y59 z59 st59 hQ59
        subst l59 y59 z59
        obtain ⟨rfl, N59q, e59⟩ := hQ59
        have N59 := Fr.app N57 N59q
        by_cases c60 : (F3 p0 (65536 : Int32) (131069 : Int32)) = (0 : Int32)
        · obtain ⟨_, _, ⟨T61, L61, k61, n61⟩, -, X61, ⟨Lc61, hQ61, l61, y61, z61⟩, st61⟩ := Jvm.LawKit.callS X59 hx (y := (⟨"com/example/rels_from_records/relsfromrecords/uri/PercentEncodingIsUcscharPinLaw", "in", "(III)Z"⟩ : MethodName)) hown (mvT hZ (hw _ (List.mem_of_getElem? (i := 27) rfl))) (mvT hZ (hw _ (List.mem_of_getElem? (i := 28) rfl))) (mvT hZ (hw _ (List.mem_of_getElem? (i := 25) rfl))) (mvT hZ (hw _ (List.mem_of_getElem? (i := 29) rfl))) (by decide) (backOf (W := 0) (rm3 l Z a0 hw [] p0 (131072 : Int32) (196605 : Int32) h0 n0 Z0 ) hZ (hw _ (List.mem_of_getElem? (i := 29) rfl)) (hw _ (List.mem_of_getElem? (i := 25) rfl)) (by decide) (by decide)) (g := (mkF m 50 #[.val (.int p0)] [(.int (196605 : Int32)), (.int (131072 : Int32)), (.int p0)])) rfl (by rw [hml]; rfl) (argsL := [(.int p0), (.int (131072 : Int32)), (.int (196605 : Int32))]) (rest := []) (lenOf pd_0 rfl) rfl (by show 2 * 0 + _ ≤ _; exact Nat.le_of_eq rfl) (hb hby d2_50) (fun _ _ => ⟨rfl, e59, (by decide : 0 + 0 ≤ _), (by decide : 0 + 0 ≤ _)⟩)
          dsimp only [Pt.U, Pt.locs, Pt.cells, Pt.slots] at X61 l61 y61 z61 st61 hQ61
          subst l61 y61 z61
          obtain ⟨rfl, N61q, e61⟩ := hQ61
          have N61 := Fr.app N59 N61q
          by_cases c62 : (F3 p0 (131072 : Int32) (196605 : Int32)) = (0 : Int32)
          · obtain ⟨_, _, ⟨T63, L63, k63, n63⟩, -, X63, ⟨Lc63, hQ63, l63, y63, z63⟩, st63⟩ := Jvm.LawKit.callS X61 hx (y := (⟨"com/example/rels_from_records/relsfromrecords/uri/PercentEncodingIsUcscharPinLaw", "in", "(III)Z"⟩ : MethodName)) hown (mvT hZ (hw _ (List.mem_of_getElem? (i := 27) rfl))) (mvT hZ (hw _ (List.mem_of_getElem? (i := 28) rfl))) (mvT hZ (hw _ (List.mem_of_getElem? (i := 25) rfl))) (mvT hZ (hw _ (List.mem_of_getElem? (i := 29) rfl))) (by decide) (backOf (W := 0) (rm3 l Z a0 hw [] p0 (196608 : Int32) (262141 : Int32) h0 n0 Z0 ) hZ (hw _ (List.mem_of_getElem? (i := 29) rfl)) (hw _ (List.mem_of_getElem? (i := 25) rfl)) (by decide) (by decide)) (g := (mkF m 61 #[.val (.int p0)] [(.int (262141 : Int32)), (.int (196608 : Int32)), (.int p0)])) rfl (by rw [hml]; rfl) (argsL := [(.int p0), (.int (196608 : Int32)), (.int (262141 : Int32))]) (rest := []) (lenOf pd_0 rfl) rfl (by show 2 * 0 + _ ≤ _; exact Nat.le_of_eq rfl) (hb hby d2_61) (fun _ _ => ⟨rfl, e61, (by decide : 0 + 0 ≤ _), (by decide : 0 + 0 ≤ _)⟩)
            dsimp only [Pt.U, Pt.locs, Pt.cells, Pt.slots] at X63 l63 y63 z63 st63 hQ63
            subst l63 y63 z63
            obtain ⟨rfl, N63q, e63⟩ := hQ63
            have N63 := Fr.app N61 N63q
            by_cases c64 : (F3 p0 (196608 : Int32) (262141 : Int32)) = (0 : Int32)
            · obtain ⟨_, _, ⟨T65, L65, k65, n65⟩, -, X65, ⟨Lc65, hQ65, l65, y65, z65⟩, st65⟩ := Jvm.LawKit.callS X63 hx (y := (⟨"com/example/rels_from_records/relsfromrecords/uri/PercentEncodingIsUcscharPinLaw", "in", "(III)Z"⟩ : MethodName)) hown (mvT hZ (hw _ (List.mem_of_getElem? (i := 27) rfl))) (mvT hZ (hw _ (List.mem_of_getElem? (i := 28) rfl))) (mvT hZ (hw _ (List.mem_of_getElem? (i := 25) rfl))) (mvT hZ (hw _ (List.mem_of_getElem? (i := 29) rfl))) (by decide) (backOf (W := 0) (rm3 l Z a0 hw [] p0 (262144 : Int32) (327677 : Int32) h0 n0 Z0 ) hZ (hw _ (List.mem_of_getElem? (i := 29) rfl)) (hw _ (List.mem_of_getElem? (i := 25) rfl)) (by decide) (by decide)) (g := (mkF m 72 #[.val (.int p0)] [(.int (327677 : Int32)), (.int (262144 : Int32)), (.int p0)])) rfl (by rw [hml]; rfl) (argsL := [(.int p0), (.int (262144 : Int32)), (.int (327677 : Int32))]) (rest := []) (lenOf pd_0 rfl) rfl (by show 2 * 0 + _ ≤ _; exact Nat.le_of_eq rfl) (hb hby d2_72) (fun _ _ => ⟨rfl, e63, (by decide : 0 + 0 ≤ _), (by decide : 0 + 0 ≤ _)⟩)
              dsimp only [Pt.U, Pt.locs, Pt.cells, Pt.slots] at X65 l65 y65 z65 st65 hQ65
              subst l65 y65 z65
              obtain ⟨rfl, N65q, e65⟩ := hQ65
              have N65 := Fr.app N63 N65q
              by_cases c66 : (F3 p0 (262144 : Int32) (327677 : Int32)) = (0 : Int32)
              · obtain ⟨_, _, ⟨T67, L67, k67, n67⟩, -, X67, ⟨Lc67, hQ67, l67, y67, z67⟩, st67⟩ := Jvm.LawKit.callS X65 hx (y := (⟨"com/example/rels_from_records/relsfromrecords/uri/PercentEncodingIsUcscharPinLaw", "in", "(III)Z"⟩ : MethodName)) hown (mvT hZ (hw _ (List.mem_of_getElem? (i := 27) rfl))) (mvT hZ (hw _ (List.mem_of_getElem? (i := 28) rfl))) (mvT hZ (hw _ (List.mem_of_getElem? (i := 25) rfl))) (mvT hZ (hw _ (List.mem_of_getElem? (i := 29) rfl))) (by decide) (backOf (W := 0) (rm3 l Z a0 hw [] p0 (327680 : Int32) (393213 : Int32) h0 n0 Z0 ) hZ (hw _ (List.mem_of_getElem? (i := 29) rfl)) (hw _ (List.mem_of_getElem? (i := 25) rfl)) (by decide) (by decide)) (g := (mkF m 83 #[.val (.int p0)] [(.int (393213 : Int32)), (.int (327680 : Int32)), (.int p0)])) rfl (by rw [hml]; rfl) (argsL := [(.int p0), (.int (327680 : Int32)), (.int (393213 : Int32))]) (rest := []) (lenOf pd_0 rfl) rfl (by show 2 * 0 + _ ≤ _; exact Nat.le_of_eq rfl) (hb hby d2_83) (fun _ _ => ⟨rfl, e65, (by decide : 0 + 0 ≤ _), (by decide : 0 + 0 ≤ _)⟩)
                dsimp only [Pt.U, Pt.locs, Pt.cells, Pt.slots] at X67 l67 y67 z67 st67 hQ67
                subst l67 y67 z67
                obtain ⟨rfl, N67q, e67⟩ := hQ67
                have N67 := Fr.app N65 N67q
                by_cases c68 : (F3 p0 (327680 : Int32) (393213 : Int32)) = (0 : Int32)
                · obtain ⟨_, _, ⟨T69, L69, k69, n69⟩, -, X69, ⟨Lc69, hQ69, l69, y69, z69⟩, st69⟩ := Jvm.LawKit.callS X67 hx (y := (⟨"com/example/rels_from_records/relsfromrecords/uri/PercentEncodingIsUcscharPinLaw", "in", "(III)Z"⟩ : MethodName)) hown (mvT hZ (hw _ (List.mem_of_getElem? (i := 27) rfl))) (mvT hZ (hw _ (List.mem_of_getElem? (i := 28) rfl))) (mvT hZ (hw _ (List.mem_of_getElem? (i := 25) rfl))) (mvT hZ (hw _ (List.mem_of_getElem? (i := 29) rfl))) (by decide) (backOf (W := 0) (rm3 l Z a0 hw [] p0 (393216 : Int32) (458749 : Int32) h0 n0 Z0 ) hZ (hw _ (List.mem_of_getElem? (i := 29) rfl)) (hw _ (List.mem_of_getElem? (i := 25) rfl)) (by decide) (by decide)) (g := (mkF m 94 #[.val (.int p0)] [(.int (458749 : Int32)), (.int (393216 : Int32)), (.int p0)])) rfl (by rw [hml]; rfl) (argsL := [(.int p0), (.int (393216 : Int32)), (.int (458749 : Int32))]) (rest := []) (lenOf pd_0 rfl) rfl (by show 2 * 0 + _ ≤ _; exact Nat.le_of_eq rfl) (hb hby d2_94) (fun _ _ => ⟨rfl, e67, (by decide : 0 + 0 ≤ _), (by decide : 0 + 0 ≤ _)⟩)
                  dsimp only [Pt.U, Pt.locs, Pt.cells, Pt.slots] at X69 l69 y69 z69 st69 hQ69
                  subst l69 y69 z69
                  obtain ⟨rfl, N69q, e69⟩ := hQ69
                  have N69 := Fr.app N67 N69q
                  by_cases c70 : (F3 p0 (393216 : Int32) (458749 : Int32)) = (0 : Int32)
                  · obtain ⟨_, _, ⟨T71, L71, k71, n71⟩, -, X71, ⟨Lc71, hQ71, l71, y71, z71⟩, st71⟩ := Jvm.LawKit.callS X69 hx (y := (⟨"com/example/rels_from_records/relsfromrecords/uri/PercentEncodingIsUcscharPinLaw", "in", "(III)Z"⟩ : MethodName)) hown (mvT hZ (hw _ (List.mem_of_getElem? (i := 27) rfl))) (mvT hZ (hw _ (List.mem_of_getElem? (i := 28) rfl))) (mvT hZ (hw _ (List.mem_of_getElem? (i := 25) rfl))) (mvT hZ (hw _ (List.mem_of_getElem? (i := 29) rfl))) (by decide) (backOf (W := 0) (rm3 l Z a0 hw [] p0 (458752 : Int32) (524285 : Int32) h0 n0 Z0 ) hZ (hw _ (List.mem_of_getElem? (i := 29) rfl)) (hw _ (List.mem_of_getElem? (i := 25) rfl)) (by decide) (by decide)) (g := (mkF m 105 #[.val (.int p0)] [(.int (524285 : Int32)), (.int (458752 : Int32)), (.int p0)])) rfl (by rw [hml]; rfl) (argsL := [(.int p0), (.int (458752 : Int32)), (.int (524285 : Int32))]) (rest := []) (lenOf pd_0 rfl) rfl (by show 2 * 0 + _ ≤ _; exact Nat.le_of_eq rfl) (hb hby d2_105) (fun _ _ => ⟨rfl, e69, (by decide : 0 + 0 ≤ _), (by decide : 0 + 0 ≤ _)⟩)
                    dsimp only [Pt.U, Pt.locs, Pt.cells, Pt.slots] at X71 l71 y71 z71 st71 hQ71
                    subst l71 y71 z71
                    obtain ⟨rfl, N71q, e71⟩ := hQ71
                    have N71 := Fr.app N69 N71q
                    by_cases c72 : (F3 p0 (458752 : Int32) (524285 : Int32)) = (0 : Int32)
                    · obtain ⟨_, _, ⟨T73, L73, k73, n73⟩, -, X73, ⟨Lc73, hQ73, l73, y73, z73⟩, st73⟩ := Jvm.LawKit.callS X71 hx (y := (⟨"com/example/rels_from_records/relsfromrecords/uri/PercentEncodingIsUcscharPinLaw", "in", "(III)Z"⟩ : MethodName)) hown (mvT hZ (hw _ (List.mem_of_getElem? (i := 27) rfl))) (mvT hZ (hw _ (List.mem_of_getElem? (i := 28) rfl))) (mvT hZ (hw _ (List.mem_of_getElem? (i := 25) rfl))) (mvT hZ (hw _ (List.mem_of_getElem? (i := 29) rfl))) (by decide) (backOf (W := 0) (rm3 l Z a0 hw [] p0 (524288 : Int32) (589821 : Int32) h0 n0 Z0 ) hZ (hw _ (List.mem_of_getElem? (i := 29) rfl)) (hw _ (List.mem_of_getElem? (i := 25) rfl)) (by decide) (by decide)) (g := (mkF m 116 #[.val (.int p0)] [(.int (589821 : Int32)), (.int (524288 : Int32)), (.int p0)])) rfl (by rw [hml]; rfl) (argsL := [(.int p0), (.int (524288 : Int32)), (.int (589821 : Int32))]) (rest := []) (lenOf pd_0 rfl) rfl (by show 2 * 0 + _ ≤ _; exact Nat.le_of_eq rfl) (hb hby d2_116) (fun _ _ => ⟨rfl, e71, (by decide : 0 + 0 ≤ _), (by decide : 0 + 0 ≤ _)⟩)
                      dsimp only [Pt.U, Pt.locs, Pt.cells, Pt.slots] at X73 l73 y73 z73 st73 hQ73
                      subst l73 y73 z73
                      obtain ⟨rfl, N73q, e73⟩ := hQ73
                      have N73 := Fr.app N71 N73q
                      by_cases c74 : (F3 p0 (524288 : Int32) (589821 : Int32)) = (0 : Int32)
                      · obtain ⟨_, _, ⟨T75, L75, k75, n75⟩, -, X75, ⟨Lc75, hQ75, l75, y75, z75⟩, st75⟩ := Jvm.LawKit.callS X73 hx (y := (⟨"com/example/rels_from_records/relsfromrecords/uri/PercentEncodingIsUcscharPinLaw", "in", "(III)Z"⟩ : MethodName)) hown (mvT hZ (hw _ (List.mem_of_getElem? (i := 27) rfl))) (mvT hZ (hw _ (List.mem_of_getElem? (i := 28) rfl))) (mvT hZ (hw _ (List.mem_of_getElem? (i := 25) rfl))) (mvT hZ (hw _ (List.mem_of_getElem? (i := 29) rfl))) (by decide) (backOf (W := 0) (rm3 l Z a0 hw [] p0 (589824 : Int32) (655357 : Int32) h0 n0 Z0 ) hZ (hw _ (List.mem_of_getElem? (i := 29) rfl)) (hw _ (List.mem_of_getElem? (i := 25) rfl)) (by decide) (by decide)) (g := (mkF m 127 #[.val (.int p0)] [(.int (655357 : Int32)), (.int (589824 : Int32)), (.int p0)])) rfl (by rw [hml]; rfl) (argsL := [(.int p0), (.int (589824 : Int32)), (.int (655357 : Int32))]) (rest := []) (lenOf pd_0 rfl) rfl (by show 2 * 0 + _ ≤ _; exact Nat.le_of_eq rfl) (hb hby d2_127) (fun _ _ => ⟨rfl, e73, (by decide : 0 + 0 ≤ _), (by decide : 0 + 0 ≤ _)⟩)
                        dsimp only [Pt.U, Pt.locs, Pt.cells, Pt.slots] at X75 l75 y75 z75 st75 hQ75
                        subst l75 y75 z75
                        obtain ⟨rfl, N75q, e75⟩ := hQ75
                        have N75 := Fr.app N73 N75q
                        by_cases c76 : (F3 p0 (589824 : Int32) (655357 : Int32)) = (0 : Int32)
                        · obtain ⟨_, _, ⟨T77, L77, k77, n77⟩, -, X77, ⟨Lc77, hQ77, l77, y77, z77⟩, st77⟩ := Jvm.LawKit.callS X75 hx (y := (⟨"com/example/rels_from_records/relsfromrecords/uri/PercentEncodingIsUcscharPinLaw", "in", "(III)Z"⟩ : MethodName)) hown (mvT hZ (hw _ (List.mem_of_getElem? (i := 27) rfl))) (mvT hZ (hw _ (List.mem_of_getElem? (i := 28) rfl))) (mvT hZ (hw _ (List.mem_of_getElem? (i := 25) rfl))) (mvT hZ (hw _ (List.mem_of_getElem? (i := 29) rfl))) (by decide) (backOf (W := 0) (rm3 l Z a0 hw [] p0 (655360 : Int32) (720893 : Int32) h0 n0 Z0 ) hZ (hw _ (List.mem_of_getElem? (i := 29) rfl)) (hw _ (List.mem_of_getElem? (i := 25) rfl)) (by decide) (by decide)) (g := (mkF m 138 #[.val (.int p0)] [(.int (720893 : Int32)), (.int (655360 : Int32)), (.int p0)])) rfl (by rw [hml]; rfl) (argsL := [(.int p0), (.int (655360 : Int32)), (.int (720893 : Int32))]) (rest := []) (lenOf pd_0 rfl) rfl (by show 2 * 0 + _ ≤ _; exact Nat.le_of_eq rfl) (hb hby d2_138) (fun _ _ => ⟨rfl, e75, (by decide : 0 + 0 ≤ _), (by decide : 0 + 0 ≤ _)⟩)
                          dsimp only [Pt.U, Pt.locs, Pt.cells, Pt.slots] at X77 l77 y77 z77 st77 hQ77
                          subst l77 y77 z77
                          obtain ⟨rfl, N77q, e77⟩ := hQ77
                          have N77 := Fr.app N75 N77q
                          by_cases c78 : (F3 p0 (655360 : Int32) (720893 : Int32)) = (0 : Int32)
                          · obtain ⟨_, _, ⟨T79, L79, k79, n79⟩, -, X79, ⟨Lc79, hQ79, l79, y79, z79⟩, st79⟩ := Jvm.LawKit.callS X77 hx (y := (⟨"com/example/rels_from_records/relsfromrecords/uri/PercentEncodingIsUcscharPinLaw", "in", "(III)Z"⟩ : MethodName)) hown (mvT hZ (hw _ (List.mem_of_getElem? (i := 27) rfl))) (mvT hZ (hw _ (List.mem_of_getElem? (i := 28) rfl))) (mvT hZ (hw _ (List.mem_of_getElem? (i := 25) rfl))) (mvT hZ (hw _ (List.mem_of_getElem? (i := 29) rfl))) (by decide) (backOf (W := 0) (rm3 l Z a0 hw [] p0 (720896 : Int32) (786429 : Int32) h0 n0 Z0 ) hZ (hw _ (List.mem_of_getElem? (i := 29) rfl)) (hw _ (List.mem_of_getElem? (i := 25) rfl)) (by decide) (by decide)) (g := (mkF m 149 #[.val (.int p0)] [(.int (786429 : Int32)), (.int (720896 : Int32)), (.int p0)])) rfl (by rw [hml]; rfl) (argsL := [(.int p0), (.int (720896 : Int32)), (.int (786429 : Int32))]) (rest := []) (lenOf pd_0 rfl) rfl (by show 2 * 0 + _ ≤ _; exact Nat.le_of_eq rfl) (hb hby d2_149) (fun _ _ => ⟨rfl, e77, (by decide : 0 + 0 ≤ _), (by decide : 0 + 0 ≤ _)⟩)
                            dsimp only [Pt.U, Pt.locs, Pt.cells, Pt.slots] at X79 l79 y79 z79 st79 hQ79
                            subst l79 y79 z79
                            obtain ⟨rfl, N79q, e79⟩ := hQ79
                            have N79 := Fr.app N77 N79q
                            by_cases c80 : (F3 p0 (720896 : Int32) (786429 : Int32)) = (0 : Int32)
                            · obtain ⟨_, _, ⟨T81, L81, k81, n81⟩, -, X81, ⟨Lc81, hQ81, l81, y81, z81⟩, st81⟩ := Jvm.LawKit.callS X79 hx (y := (⟨"com/example/rels_from_records/relsfromrecords/uri/PercentEncodingIsUcscharPinLaw", "in", "(III)Z"⟩ : MethodName)) hown (mvT hZ (hw _ (List.mem_of_getElem? (i := 27) rfl))) (mvT hZ (hw _ (List.mem_of_getElem? (i := 28) rfl))) (mvT hZ (hw _ (List.mem_of_getElem? (i := 25) rfl))) (mvT hZ (hw _ (List.mem_of_getElem? (i := 29) rfl))) (by decide) (backOf (W := 0) (rm3 l Z a0 hw [] p0 (786432 : Int32) (851965 : Int32) h0 n0 Z0 ) hZ (hw _ (List.mem_of_getElem? (i := 29) rfl)) (hw _ (List.mem_of_getElem? (i := 25) rfl)) (by decide) (by decide)) (g := (mkF m 160 #[.val (.int p0)] [(.int (851965 : Int32)), (.int (786432 : Int32)), (.int p0)])) rfl (by rw [hml]; rfl) (argsL := [(.int p0), (.int (786432 : Int32)), (.int (851965 : Int32))]) (rest := []) (lenOf pd_0 rfl) rfl (by show 2 * 0 + _ ≤ _; exact Nat.le_of_eq rfl) (hb hby d2_160) (fun _ _ => ⟨rfl, e79, (by decide : 0 + 0 ≤ _), (by decide : 0 + 0 ≤ _)⟩)
                              dsimp only [Pt.U, Pt.locs, Pt.cells, Pt.slots] at X81 l81 y81 z81 st81 hQ81
                              subst l81 y81 z81
                              obtain ⟨rfl, N81q, e81⟩ := hQ81
                              have N81 := Fr.app N79 N81q
                              by_cases c82 : (F3 p0 (786432 : Int32) (851965 : Int32)) = (0 : Int32)
                              · obtain ⟨_, _, ⟨T83, L83, k83, n83⟩, -, X83, ⟨Lc83, hQ83, l83, y83, z83⟩, st83⟩ := Jvm.LawKit.callS X81 hx (y := (⟨"com/example/rels_from_records/relsfromrecords/uri/PercentEncodingIsUcscharPinLaw", "in", "(III)Z"⟩ : MethodName)) hown (mvT hZ (hw _ (List.mem_of_getElem? (i := 27) rfl))) (mvT hZ (hw _ (List.mem_of_getElem? (i := 28) rfl))) (mvT hZ (hw _ (List.mem_of_getElem? (i := 25) rfl))) (mvT hZ (hw _ (List.mem_of_getElem? (i := 29) rfl))) (by decide) (backOf (W := 0) (rm3 l Z a0 hw [] p0 (851968 : Int32) (917501 : Int32) h0 n0 Z0 ) hZ (hw _ (List.mem_of_getElem? (i := 29) rfl)) (hw _ (List.mem_of_getElem? (i := 25) rfl)) (by decide) (by decide)) (g := (mkF m 171 #[.val (.int p0)] [(.int (917501 : Int32)), (.int (851968 : Int32)), (.int p0)])) rfl (by rw [hml]; rfl) (argsL := [(.int p0), (.int (851968 : Int32)), (.int (917501 : Int32))]) (rest := []) (lenOf pd_0 rfl) rfl (by show 2 * 0 + _ ≤ _; exact Nat.le_of_eq rfl) (hb hby d2_171) (fun _ _ => ⟨rfl, e81, (by decide : 0 + 0 ≤ _), (by decide : 0 + 0 ≤ _)⟩)
                                dsimp only [Pt.U, Pt.locs, Pt.cells, Pt.slots] at X83 l83 y83 z83 st83 hQ83
                                subst l83 y83 z83
                                obtain ⟨rfl, N83q, e83⟩ := hQ83
                                have N83 := Fr.app N81 N83q
                                by_cases c84 : (F3 p0 (851968 : Int32) (917501 : Int32)) = (0 : Int32)
                                · obtain ⟨_, _, ⟨T85, L85, k85, n85⟩, -, X85, ⟨Lc85, hQ85, l85, y85, z85⟩, st85⟩ := Jvm.LawKit.callS X83 hx (y := (⟨"com/example/rels_from_records/relsfromrecords/uri/PercentEncodingIsUcscharPinLaw", "in", "(III)Z"⟩ : MethodName)) hown (mvT hZ (hw _ (List.mem_of_getElem? (i := 27) rfl))) (mvT hZ (hw _ (List.mem_of_getElem? (i := 28) rfl))) (mvT hZ (hw _ (List.mem_of_getElem? (i := 25) rfl))) (mvT hZ (hw _ (List.mem_of_getElem? (i := 29) rfl))) (by decide) (backOf (W := 0) (rm3 l Z a0 hw [] p0 (921600 : Int32) (983037 : Int32) h0 n0 Z0 ) hZ (hw _ (List.mem_of_getElem? (i := 29) rfl)) (hw _ (List.mem_of_getElem? (i := 25) rfl)) (by decide) (by decide)) (g := (mkF m 182 #[.val (.int p0)] [(.int (983037 : Int32)), (.int (921600 : Int32)), (.int p0)])) rfl (by rw [hml]; rfl) (argsL := [(.int p0), (.int (921600 : Int32)), (.int (983037 : Int32))]) (rest := []) (lenOf pd_0 rfl) rfl (by show 2 * 0 + _ ≤ _; exact Nat.le_of_eq rfl) (hb hby d2_182) (fun _ _ => ⟨rfl, e83, (by decide : 0 + 0 ≤ _), (by decide : 0 + 0 ≤ _)⟩)
                                  dsimp only [Pt.U, Pt.locs, Pt.cells, Pt.slots] at X85 l85 y85 z85 st85 hQ85
                                  subst l85 y85 z85
                                  obtain ⟨rfl, N85q, e85⟩ := hQ85
                                  have N85 := Fr.app N83 N85q
                                  by_cases c86 : (F3 p0 (921600 : Int32) (983037 : Int32)) = (0 : Int32)
                                  · obtain ⟨fs, hr, hrun, hended, hW, hsame⟩ := X85.leave (v := some (.int (0 : Int32))) (fun h => by rw [Bd.returns] at h; cases h)
                                    refine ⟨_, _, pre0 _ ?_, hrun, hended, _, _, rfl, ?_, ⟨_, rfl⟩, hW, hsame.mono (by decide) (by decide)⟩
                                    · show Steps p.tables e below (s₁.setTop (mkF m 0 #[.val (.int p0)] [])) _
                                      refine XS.iloadN X0.here hx rfl (hb hby d2_0) rfl ?_
                                      show Steps p.tables e below (s₁.setTop (mkF m 1 #[.val (.int p0)] [(.int p0)])) _
                                      refine XS.sipush X0.here hx rfl (hb hby d2_1) ?_
                                      show Steps p.tables e below (s₁.setTop (mkF m 4 #[.val (.int p0)] [(.int (160 : Int32)), (.int p0)])) _
                                      refine X0.ldcInt hx hown (mvT hZ (hw _ (List.mem_of_getElem? (i := 1) rfl))) (g := (mkF m 4 #[.val (.int p0)] [(.int (160 : Int32)), (.int p0)])) rfl (hb hby d2_4) _ ?_
                                      show Steps p.tables e below (s₁.setTop (mkF m 6 #[.val (.int p0)] [(.int (55295 : Int32)), (.int (160 : Int32)), (.int p0)])) _
                                      refine st53 _ ?_
                                      show Steps p.tables e below (T53.setTop (mkF m 9 #[.val (.int p0)] [(.int (F3 p0 (160 : Int32) (55295 : Int32)))])) _
                                      refine XS.ifNo X53.here hx rfl (hb hby d2_9) rfl ((if0 _ _).trans (teq c54).2) ?_
                                      show Steps p.tables e below (T53.setTop (mkF m 12 #[.val (.int p0)] [])) _
                                      refine XS.iloadN X53.here hx rfl (hb hby d2_12) rfl ?_
                                      show Steps p.tables e below (T53.setTop (mkF m 13 #[.val (.int p0)] [(.int p0)])) _
                                      refine X53.ldcInt hx hown (mvT hZ (hw _ (List.mem_of_getElem? (i := 2) rfl))) (g := (mkF m 13 #[.val (.int p0)] [(.int p0)])) rfl (hb hby d2_13) _ ?_
                                      show Steps p.tables e below (T53.setTop (mkF m 15 #[.val (.int p0)] [(.int (63744 : Int32)), (.int p0)])) _
                                      refine X53.ldcInt hx hown (mvT hZ (hw _ (List.mem_of_getElem? (i := 3) rfl))) (g := (mkF m 15 #[.val (.int p0)] [(.int (63744 : Int32)), (.int p0)])) rfl (hb hby d2_15) _ ?_
                                      show Steps p.tables e below (T53.setTop (mkF m 17 #[.val (.int p0)] [(.int (64975 : Int32)), (.int (63744 : Int32)), (.int p0)])) _
                                      refine st55 _ ?_
                                      show Steps p.tables e below (T55.setTop (mkF m 20 #[.val (.int p0)] [(.int (F3 p0 (63744 : Int32) (64975 : Int32)))])) _
                                      refine XS.ifNo X55.here hx rfl (hb hby d2_20) rfl ((if0 _ _).trans (teq c56).2) ?_
                                      show Steps p.tables e below (T55.setTop (mkF m 23 #[.val (.int p0)] [])) _
                                      refine XS.iloadN X55.here hx rfl (hb hby d2_23) rfl ?_
                                      show Steps p.tables e below (T55.setTop (mkF m 24 #[.val (.int p0)] [(.int p0)])) _
                                      refine X55.ldcInt hx hown (mvT hZ (hw _ (List.mem_of_getElem? (i := 4) rfl))) (g := (mkF m 24 #[.val (.int p0)] [(.int p0)])) rfl (hb hby d2_24) _ ?_
                                      show Steps p.tables e below (T55.setTop (mkF m 26 #[.val (.int p0)] [(.int (65008 : Int32)), (.int p0)])) _
                                      refine X55.ldcInt hx hown (mvT hZ (hw _ (List.mem_of_getElem? (i := 5) rfl))) (g := (mkF m 26 #[.val (.int p0)] [(.int (65008 : Int32)), (.int p0)])) rfl (hb hby d2_26) _ ?_
                                      show Steps p.tables e below (T55.setTop (mkF m 28 #[.val (.int p0)] [(.int (65519 : Int32)), (.int (65008 : Int32)), (.int p0)])) _
                                      refine st57 _ ?_
                                      show Steps p.tables e below (T57.setTop (mkF m 31 #[.val (.int p0)] [(.int (F3 p0 (65008 : Int32) (65519 : Int32)))])) _
                                      refine XS.ifNo X57.here hx rfl (hb hby d2_31) rfl ((if0 _ _).trans (teq c58).2) ?_
                                      show Steps p.tables e below (T57.setTop (mkF m 34 #[.val (.int p0)] [])) _
                                      refine XS.iloadN X57.here hx rfl (hb hby d2_34) rfl ?_
                                      show Steps p.tables e below (T57.setTop (mkF m 35 #[.val (.int p0)] [(.int p0)])) _
                                      refine X57.ldcInt hx hown (mvT hZ (hw _ (List.mem_of_getElem? (i := 6) rfl))) (g := (mkF m 35 #[.val (.int p0)] [(.int p0)])) rfl (hb hby d2_35) _ ?_
                                      show Steps p.tables e below (T57.setTop (mkF m 37 #[.val (.int p0)] [(.int (65536 : Int32)), (.int p0)])) _
                                      refine X57.ldcInt hx hown (mvT hZ (hw _ (List.mem_of_getElem? (i := 7) rfl))) (g := (mkF m 37 #[.val (.int p0)] [(.int (65536 : Int32)), (.int p0)])) rfl (hb hby d2_37) _ ?_
                                      show Steps p.tables e below (T57.setTop (mkF m 39 #[.val (.int p0)] [(.int (131069 : Int32)), (.int (65536 : Int32)), (.int p0)])) _
                                      refine st59 _ ?_
                                      show Steps p.tables e below (T59.setTop (mkF m 42 #[.val (.int p0)] [(.int (F3 p0 (65536 : Int32) (131069 : Int32)))])) _
                                      refine XS.ifNo X59.here hx rfl (hb hby d2_42) rfl ((if0 _ _).trans (teq c60).2) ?_
                                      show Steps p.tables e below (T59.setTop (mkF m 45 #[.val (.int p0)] [])) _
                                      refine XS.iloadN X59.here hx rfl (hb hby d2_45) rfl ?_
                                      show Steps p.tables e below (T59.setTop (mkF m 46 #[.val (.int p0)] [(.int p0)])) _
                                      refine X59.ldcInt hx hown (mvT hZ (hw _ (List.mem_of_getElem? (i := 35) rfl))) (g := (mkF m 46 #[.val (.int p0)] [(.int p0)])) rfl (hb hby d2_46) _ ?_
                                      show Steps p.tables e below (T59.setTop (mkF m 48 #[.val (.int p0)] [(.int (131072 : Int32)), (.int p0)])) _
                                      refine X59.ldcInt hx hown (mvT hZ (hw _ (List.mem_of_getElem? (i := 36) rfl))) (g := (mkF m 48 #[.val (.int p0)] [(.int (131072 : Int32)), (.int p0)])) rfl (hb hby d2_48) _ ?_
                                      show Steps p.tables e below (T59.setTop (mkF m 50 #[.val (.int p0)] [(.int (196605 : Int32)), (.int (131072 : Int32)), (.int p0)])) _
                                      refine st61 _ ?_
                                      show Steps p.tables e below (T61.setTop (mkF m 53 #[.val (.int p0)] [(.int (F3 p0 (131072 : Int32) (196605 : Int32)))])) _
                                      refine XS.ifNo X61.here hx rfl (hb hby d2_53) rfl ((if0 _ _).trans (teq c62).2) ?_
                                      show Steps p.tables e below (T61.setTop (mkF m 56 #[.val (.int p0)] [])) _
                                      refine XS.iloadN X61.here hx rfl (hb hby d2_56) rfl ?_
                                      show Steps p.tables e below (T61.setTop (mkF m 57 #[.val (.int p0)] [(.int p0)])) _
                                      refine X61.ldcInt hx hown (mvT hZ (hw _ (List.mem_of_getElem? (i := 37) rfl))) (g := (mkF m 57 #[.val (.int p0)] [(.int p0)])) rfl (hb hby d2_57) _ ?_
                                      show Steps p.tables e below (T61.setTop (mkF m 59 #[.val (.int p0)] [(.int (196608 : Int32)), (.int p0)])) _
                                      refine X61.ldcInt hx hown (mvT hZ (hw _ (List.mem_of_getElem? (i := 38) rfl))) (g := (mkF m 59 #[.val (.int p0)] [(.int (196608 : Int32)), (.int p0)])) rfl (hb hby d2_59) _ ?_
                                      show Steps p.tables e below (T61.setTop (mkF m 61 #[.val (.int p0)] [(.int (262141 : Int32)), (.int (196608 : Int32)), (.int p0)])) _
                                      refine st63 _ ?_
                                      show Steps p.tables e below (T63.setTop (mkF m 64 #[.val (.int p0)] [(.int (F3 p0 (196608 : Int32) (262141 : Int32)))])) _
                                      refine XS.ifNo X63.here hx rfl (hb hby d2_64) rfl ((if0 _ _).trans (teq c64).2) ?_
                                      show Steps p.tables e below (T63.setTop (mkF m 67 #[.val (.int p0)] [])) _
                                      refine XS.iloadN X63.here hx rfl (hb hby d2_67) rfl ?_
                                      show Steps p.tables e below (T63.setTop (mkF m 68 #[.val (.int p0)] [(.int p0)])) _
                                      refine X63.ldcInt hx hown (mvT hZ (hw _ (List.mem_of_getElem? (i := 39) rfl))) (g := (mkF m 68 #[.val (.int p0)] [(.int p0)])) rfl (hb hby d2_68) _ ?_
                                      show Steps p.tables e below (T63.setTop (mkF m 70 #[.val (.int p0)] [(.int (262144 : Int32)), (.int p0)])) _
                                      refine X63.ldcInt hx hown (mvT hZ (hw _ (List.mem_of_getElem? (i := 40) rfl))) (g := (mkF m 70 #[.val (.int p0)] [(.int (262144 : Int32)), (.int p0)])) rfl (hb hby d2_70) _ ?_
                                      show Steps p.tables e below (T63.setTop (mkF m 72 #[.val (.int p0)] [(.int (327677 : Int32)), (.int (262144 : Int32)), (.int p0)])) _
                                      refine st65 _ ?_
                                      show Steps p.tables e below (T65.setTop (mkF m 75 #[.val (.int p0)] [(.int (F3 p0 (262144 : Int32) (327677 : Int32)))])) _
                                      refine XS.ifNo X65.here hx rfl (hb hby d2_75) rfl ((if0 _ _).trans (teq c66).2) ?_
                                      show Steps p.tables e below (T65.setTop (mkF m 78 #[.val (.int p0)] [])) _
                                      refine XS.iloadN X65.here hx rfl (hb hby d2_78) rfl ?_
                                      show Steps p.tables e below (T65.setTop (mkF m 79 #[.val (.int p0)] [(.int p0)])) _
                                      refine X65.ldcInt hx hown (mvT hZ (hw _ (List.mem_of_getElem? (i := 41) rfl))) (g := (mkF m 79 #[.val (.int p0)] [(.int p0)])) rfl (hb hby d2_79) _ ?_
                                      show Steps p.tables e below (T65.setTop (mkF m 81 #[.val (.int p0)] [(.int (327680 : Int32)), (.int p0)])) _
                                      refine X65.ldcInt hx hown (mvT hZ (hw _ (List.mem_of_getElem? (i := 42) rfl))) (g := (mkF m 81 #[.val (.int p0)] [(.int (327680 : Int32)), (.int p0)])) rfl (hb hby d2_81) _ ?_
                                      show Steps p.tables e below (T65.setTop (mkF m 83 #[.val (.int p0)] [(.int (393213 : Int32)), (.int (327680 : Int32)), (.int p0)])) _
                                      refine st67 _ ?_
                                      show Steps p.tables e below (T67.setTop (mkF m 86 #[.val (.int p0)] [(.int (F3 p0 (327680 : Int32) (393213 : Int32)))])) _
                                      refine XS.ifNo X67.here hx rfl (hb hby d2_86) rfl ((if0 _ _).trans (teq c68).2) ?_
                                      show Steps p.tables e below (T67.setTop (mkF m 89 #[.val (.int p0)] [])) _
                                      refine XS.iloadN X67.here hx rfl (hb hby d2_89) rfl ?_
                                      show Steps p.tables e below (T67.setTop (mkF m 90 #[.val (.int p0)] [(.int p0)])) _
                                      refine X67.ldcInt hx hown (mvT hZ (hw _ (List.mem_of_getElem? (i := 43) rfl))) (g := (mkF m 90 #[.val (.int p0)] [(.int p0)])) rfl (hb hby d2_90) _ ?_
                                      show Steps p.tables e below (T67.setTop (mkF m 92 #[.val (.int p0)] [(.int (393216 : Int32)), (.int p0)])) _
                                      refine X67.ldcInt hx hown (mvT hZ (hw _ (List.mem_of_getElem? (i := 44) rfl))) (g := (mkF m 92 #[.val (.int p0)] [(.int (393216 : Int32)), (.int p0)])) rfl (hb hby d2_92) _ ?_
                                      show Steps p.tables e below (T67.setTop (mkF m 94 #[.val (.int p0)] [(.int (458749 : Int32)), (.int (393216 : Int32)), (.int p0)])) _
                                      refine st69 _ ?_
                                      show Steps p.tables e below (T69.setTop (mkF m 97 #[.val (.int p0)] [(.int (F3 p0 (393216 : Int32) (458749 : Int32)))])) _
                                      refine XS.ifNo X69.here hx rfl (hb hby d2_97) rfl ((if0 _ _).trans (teq c70).2) ?_
                                      show Steps p.tables e below (T69.setTop (mkF m 100 #[.val (.int p0)] [])) _
                                      refine XS.iloadN X69.here hx rfl (hb hby d2_100) rfl ?_
                                      show Steps p.tables e below (T69.setTop (mkF m 101 #[.val (.int p0)] [(.int p0)])) _
                                      refine X69.ldcInt hx hown (mvT hZ (hw _ (List.mem_of_getElem? (i := 45) rfl))) (g := (mkF m 101 #[.val (.int p0)] [(.int p0)])) rfl (hb hby d2_101) _ ?_
                                      show Steps p.tables e below (T69.setTop (mkF m 103 #[.val (.int p0)] [(.int (458752 : Int32)), (.int p0)])) _
                                      refine X69.ldcInt hx hown (mvT hZ (hw _ (List.mem_of_getElem? (i := 46) rfl))) (g := (mkF m 103 #[.val (.int p0)] [(.int (458752 : Int32)), (.int p0)])) rfl (hb hby d2_103) _ ?_
                                      show Steps p.tables e below (T69.setTop (mkF m 105 #[.val (.int p0)] [(.int (524285 : Int32)), (.int (458752 : Int32)), (.int p0)])) _
                                      refine st71 _ ?_
                                      show Steps p.tables e below (T71.setTop (mkF m 108 #[.val (.int p0)] [(.int (F3 p0 (458752 : Int32) (524285 : Int32)))])) _
                                      refine XS.ifNo X71.here hx rfl (hb hby d2_108) rfl ((if0 _ _).trans (teq c72).2) ?_
                                      show Steps p.tables e below (T71.setTop (mkF m 111 #[.val (.int p0)] [])) _
                                      refine XS.iloadN X71.here hx rfl (hb hby d2_111) rfl ?_
                                      show Steps p.tables e below (T71.setTop (mkF m 112 #[.val (.int p0)] [(.int p0)])) _
                                      refine X71.ldcInt hx hown (mvT hZ (hw _ (List.mem_of_getElem? (i := 47) rfl))) (g := (mkF m 112 #[.val (.int p0)] [(.int p0)])) rfl (hb hby d2_112) _ ?_
                                      show Steps p.tables e below (T71.setTop (mkF m 114 #[.val (.int p0)] [(.int (524288 : Int32)), (.int p0)])) _
                                      refine X71.ldcInt hx hown (mvT hZ (hw _ (List.mem_of_getElem? (i := 48) rfl))) (g := (mkF m 114 #[.val (.int p0)] [(.int (524288 : Int32)), (.int p0)])) rfl (hb hby d2_114) _ ?_
                                      show Steps p.tables e below (T71.setTop (mkF m 116 #[.val (.int p0)] [(.int (589821 : Int32)), (.int (524288 : Int32)), (.int p0)])) _
                                      refine st73 _ ?_
                                      show Steps p.tables e below (T73.setTop (mkF m 119 #[.val (.int p0)] [(.int (F3 p0 (524288 : Int32) (589821 : Int32)))])) _
                                      refine XS.ifNo X73.here hx rfl (hb hby d2_119) rfl ((if0 _ _).trans (teq c74).2) ?_
                                      show Steps p.tables e below (T73.setTop (mkF m 122 #[.val (.int p0)] [])) _
                                      refine XS.iloadN X73.here hx rfl (hb hby d2_122) rfl ?_
                                      show Steps p.tables e below (T73.setTop (mkF m 123 #[.val (.int p0)] [(.int p0)])) _
                                      refine X73.ldcInt hx hown (mvT hZ (hw _ (List.mem_of_getElem? (i := 49) rfl))) (g := (mkF m 123 #[.val (.int p0)] [(.int p0)])) rfl (hb hby d2_123) _ ?_
                                      show Steps p.tables e below (T73.setTop (mkF m 125 #[.val (.int p0)] [(.int (589824 : Int32)), (.int p0)])) _
                                      refine X73.ldcInt hx hown (mvT hZ (hw _ (List.mem_of_getElem? (i := 50) rfl))) (g := (mkF m 125 #[.val (.int p0)] [(.int (589824 : Int32)), (.int p0)])) rfl (hb hby d2_125) _ ?_
                                      show Steps p.tables e below (T73.setTop (mkF m 127 #[.val (.int p0)] [(.int (655357 : Int32)), (.int (589824 : Int32)), (.int p0)])) _
                                      refine st75 _ ?_
                                      show Steps p.tables e below (T75.setTop (mkF m 130 #[.val (.int p0)] [(.int (F3 p0 (589824 : Int32) (655357 : Int32)))])) _
                                      refine XS.ifNo X75.here hx rfl (hb hby d2_130) rfl ((if0 _ _).trans (teq c76).2) ?_
                                      show Steps p.tables e below (T75.setTop (mkF m 133 #[.val (.int p0)] [])) _
                                      refine XS.iloadN X75.here hx rfl (hb hby d2_133) rfl ?_
                                      show Steps p.tables e below (T75.setTop (mkF m 134 #[.val (.int p0)] [(.int p0)])) _
                                      refine X75.ldcInt hx hown (mvT hZ (hw _ (List.mem_of_getElem? (i := 51) rfl))) (g := (mkF m 134 #[.val (.int p0)] [(.int p0)])) rfl (hb hby d2_134) _ ?_
                                      show Steps p.tables e below (T75.setTop (mkF m 136 #[.val (.int p0)] [(.int (655360 : Int32)), (.int p0)])) _
                                      refine X75.ldcInt hx hown (mvT hZ (hw _ (List.mem_of_getElem? (i := 52) rfl))) (g := (mkF m 136 #[.val (.int p0)] [(.int (655360 : Int32)), (.int p0)])) rfl (hb hby d2_136) _ ?_
                                      show Steps p.tables e below (T75.setTop (mkF m 138 #[.val (.int p0)] [(.int (720893 : Int32)), (.int (655360 : Int32)), (.int p0)])) _
                                      refine st77 _ ?_
                                      show Steps p.tables e below (T77.setTop (mkF m 141 #[.val (.int p0)] [(.int (F3 p0 (655360 : Int32) (720893 : Int32)))])) _
                                      refine XS.ifNo X77.here hx rfl (hb hby d2_141) rfl ((if0 _ _).trans (teq c78).2) ?_
                                      show Steps p.tables e below (T77.setTop (mkF m 144 #[.val (.int p0)] [])) _
                                      refine XS.iloadN X77.here hx rfl (hb hby d2_144) rfl ?_
                                      show Steps p.tables e below (T77.setTop (mkF m 145 #[.val (.int p0)] [(.int p0)])) _
                                      refine X77.ldcInt hx hown (mvT hZ (hw _ (List.mem_of_getElem? (i := 53) rfl))) (g := (mkF m 145 #[.val (.int p0)] [(.int p0)])) rfl (hb hby d2_145) _ ?_
                                      show Steps p.tables e below (T77.setTop (mkF m 147 #[.val (.int p0)] [(.int (720896 : Int32)), (.int p0)])) _
                                      refine X77.ldcInt hx hown (mvT hZ (hw _ (List.mem_of_getElem? (i := 54) rfl))) (g := (mkF m 147 #[.val (.int p0)] [(.int (720896 : Int32)), (.int p0)])) rfl (hb hby d2_147) _ ?_
                                      show Steps p.tables e below (T77.setTop (mkF m 149 #[.val (.int p0)] [(.int (786429 : Int32)), (.int (720896 : Int32)), (.int p0)])) _
                                      refine st79 _ ?_
                                      show Steps p.tables e below (T79.setTop (mkF m 152 #[.val (.int p0)] [(.int (F3 p0 (720896 : Int32) (786429 : Int32)))])) _
                                      refine XS.ifNo X79.here hx rfl (hb hby d2_152) rfl ((if0 _ _).trans (teq c80).2) ?_
                                      show Steps p.tables e below (T79.setTop (mkF m 155 #[.val (.int p0)] [])) _
                                      refine XS.iloadN X79.here hx rfl (hb hby d2_155) rfl ?_
                                      show Steps p.tables e below (T79.setTop (mkF m 156 #[.val (.int p0)] [(.int p0)])) _
                                      refine X79.ldcInt hx hown (mvT hZ (hw _ (List.mem_of_getElem? (i := 55) rfl))) (g := (mkF m 156 #[.val (.int p0)] [(.int p0)])) rfl (hb hby d2_156) _ ?_
                                      show Steps p.tables e below (T79.setTop (mkF m 158 #[.val (.int p0)] [(.int (786432 : Int32)), (.int p0)])) _
                                      refine X79.ldcInt hx hown (mvT hZ (hw _ (List.mem_of_getElem? (i := 56) rfl))) (g := (mkF m 158 #[.val (.int p0)] [(.int (786432 : Int32)), (.int p0)])) rfl (hb hby d2_158) _ ?_
                                      show Steps p.tables e below (T79.setTop (mkF m 160 #[.val (.int p0)] [(.int (851965 : Int32)), (.int (786432 : Int32)), (.int p0)])) _
                                      refine st81 _ ?_
                                      show Steps p.tables e below (T81.setTop (mkF m 163 #[.val (.int p0)] [(.int (F3 p0 (786432 : Int32) (851965 : Int32)))])) _
                                      refine XS.ifNo X81.here hx rfl (hb hby d2_163) rfl ((if0 _ _).trans (teq c82).2) ?_
                                      show Steps p.tables e below (T81.setTop (mkF m 166 #[.val (.int p0)] [])) _
                                      refine XS.iloadN X81.here hx rfl (hb hby d2_166) rfl ?_
                                      show Steps p.tables e below (T81.setTop (mkF m 167 #[.val (.int p0)] [(.int p0)])) _
                                      refine X81.ldcInt hx hown (mvT hZ (hw _ (List.mem_of_getElem? (i := 57) rfl))) (g := (mkF m 167 #[.val (.int p0)] [(.int p0)])) rfl (hb hby d2_167) _ ?_
                                      show Steps p.tables e below (T81.setTop (mkF m 169 #[.val (.int p0)] [(.int (851968 : Int32)), (.int p0)])) _
                                      refine X81.ldcInt hx hown (mvT hZ (hw _ (List.mem_of_getElem? (i := 8) rfl))) (g := (mkF m 169 #[.val (.int p0)] [(.int (851968 : Int32)), (.int p0)])) rfl (hb hby d2_169) _ ?_
                                      show Steps p.tables e below (T81.setTop (mkF m 171 #[.val (.int p0)] [(.int (917501 : Int32)), (.int (851968 : Int32)), (.int p0)])) _
                                      refine st83 _ ?_
                                      show Steps p.tables e below (T83.setTop (mkF m 174 #[.val (.int p0)] [(.int (F3 p0 (851968 : Int32) (917501 : Int32)))])) _
                                      refine XS.ifNo X83.here hx rfl (hb hby d2_174) rfl ((if0 _ _).trans (teq c84).2) ?_
                                      show Steps p.tables e below (T83.setTop (mkF m 177 #[.val (.int p0)] [])) _
                                      refine XS.iloadN X83.here hx rfl (hb hby d2_177) rfl ?_
                                      show Steps p.tables e below (T83.setTop (mkF m 178 #[.val (.int p0)] [(.int p0)])) _
                                      refine X83.ldcInt hx hown (mvT hZ (hw _ (List.mem_of_getElem? (i := 10) rfl))) (g := (mkF m 178 #[.val (.int p0)] [(.int p0)])) rfl (hb hby d2_178) _ ?_
                                      show Steps p.tables e below (T83.setTop (mkF m 180 #[.val (.int p0)] [(.int (921600 : Int32)), (.int p0)])) _
                                      refine X83.ldcInt hx hown (mvT hZ (hw _ (List.mem_of_getElem? (i := 11) rfl))) (g := (mkF m 180 #[.val (.int p0)] [(.int (921600 : Int32)), (.int p0)])) rfl (hb hby d2_180) _ ?_
                                      show Steps p.tables e below (T83.setTop (mkF m 182 #[.val (.int p0)] [(.int (983037 : Int32)), (.int (921600 : Int32)), (.int p0)])) _
                                      refine st85 _ ?_
                                      show Steps p.tables e below (T85.setTop (mkF m 185 #[.val (.int p0)] [(.int (F3 p0 (921600 : Int32) (983037 : Int32)))])) _
                                      refine XS.ifYes X85.here hx rfl (pc0 := 185) (pc' := 192) rfl (hb hby d2_185) rfl ((if0 _ _).trans (teq c86).1) (by decide) (by decide) ?_
                                      show Steps p.tables e below (T85.setTop (mkF m 192 #[.val (.int p0)] [])) _
                                      refine XS.iconst X85.here hx rfl (hb hby d2_192) ?_
                                      show Steps p.tables e below (T85.setTop (mkF m 193 #[.val (.int p0)] [(.int (0 : Int32))])) _
                                      exact retN X85 hx (t := .boolean) Bd.returns (by simp) (hb hby d2_193) hr
                                    · show Q2 Z p0 h0 n0 _ T85.heap _
                                      rw [e85]
                                      exact ⟨(congrArg (fun z => some (Value.int z)) ((if_pos c54).trans ((if_pos c56).trans ((if_pos c58).trans ((if_pos c60).trans ((if_pos c62).trans ((if_pos c64).trans ((if_pos c66).trans ((if_pos c68).trans ((if_pos c70).trans ((if_pos c72).trans ((if_pos c74).trans ((if_pos c76).trans ((if_pos c78).trans ((if_pos c80).trans ((if_pos c82).trans ((if_pos c84).trans ((if_pos c86).trans rfl))))))))))))))))).symm), N85, rfl⟩
                                  · obtain ⟨fs, hr, hrun, hended, hW, hsame⟩ := X85.leave (v := some (.int (1 : Int32))) (fun h => by rw [Bd.returns] at h; cases h)
                                    refine ⟨_, _, pre0 _ ?_, hrun, hended, _, _, rfl, ?_, ⟨_, rfl⟩, hW, hsame.mono (by decide) (by decide)⟩
                                    · show Steps p.tables e below (s₁.setTop (mkF m 0 #[.val (.int p0)] [])) _
                                      refine XS.iloadN X0.here hx rfl (hb hby d2_0) rfl ?_
                                      show Steps p.tables e below (s₁.setTop (mkF m 1 #[.val (.int p0)] [(.int p0)])) _
                                      refine XS.sipush X0.here hx rfl (hb hby d2_1) ?_
                                      show Steps p.tables e below (s₁.setTop (mkF m 4 #[.val (.int p0)] [(.int (160 : Int32)), (.int p0)])) _
                                      refine X0.ldcInt hx hown (mvT hZ (hw _ (List.mem_of_getElem? (i := 1) rfl))) (g := (mkF m 4 #[.val (.int p0)] [(.int (160 : Int32)), (.int p0)])) rfl (hb hby d2_4) _ ?_
                                      show Steps p.tables e below (s₁.setTop (mkF m 6 #[.val (.int p0)] [(.int (55295 : Int32)), (.int (160 : Int32)), (.int p0)])) _
                                      refine st53 _ ?_
                                      show Steps p.tables e below (T53.setTop (mkF m 9 #[.val (.int p0)] [(.int (F3 p0 (160 : Int32) (55295 : Int32)))])) _
                                      refine XS.ifNo X53.here hx rfl (hb hby d2_9) rfl ((if0 _ _).trans (teq c54).2) ?_
                                      show Steps p.tables e below (T53.setTop (mkF m 12 #[.val (.int p0)] [])) _
                                      refine XS.iloadN X53.here hx rfl (hb hby d2_12) rfl ?_
                                      show Steps p.tables e below (T53.setTop (mkF m 13 #[.val (.int p0)] [(.int p0)])) _
                                      refine X53.ldcInt hx hown (mvT hZ (hw _ (List.mem_of_getElem? (i := 2) rfl))) (g := (mkF m 13 #[.val (.int p0)] [(.int p0)])) rfl (hb hby d2_13) _ ?_
                                      show Steps p.tables e below (T53.setTop (mkF m 15 #[.val (.int p0)] [(.int (63744 : Int32)), (.int p0)])) _
                                      refine X53.ldcInt hx hown (mvT hZ (hw _ (List.mem_of_getElem? (i := 3) rfl))) (g := (mkF m 15 #[.val (.int p0)] [(.int (63744 : Int32)), (.int p0)])) rfl (hb hby d2_15) _ ?_
                                      show Steps p.tables e below (T53.setTop (mkF m 17 #[.val (.int p0)] [(.int (64975 : Int32)), (.int (63744 : Int32)), (.int p0)])) _
                                      refine st55 _ ?_
                                      show Steps p.tables e below (T55.setTop (mkF m 20 #[.val (.int p0)] [(.int (F3 p0 (63744 : Int32) (64975 : Int32)))])) _
                                      refine XS.ifNo X55.here hx rfl (hb hby d2_20) rfl ((if0 _ _).trans (teq c56).2) ?_
                                      show Steps p.tables e below (T55.setTop (mkF m 23 #[.val (.int p0)] [])) _
                                      refine XS.iloadN X55.here hx rfl (hb hby d2_23) rfl ?_
                                      show Steps p.tables e below (T55.setTop (mkF m 24 #[.val (.int p0)] [(.int p0)])) _
                                      refine X55.ldcInt hx hown (mvT hZ (hw _ (List.mem_of_getElem? (i := 4) rfl))) (g := (mkF m 24 #[.val (.int p0)] [(.int p0)])) rfl (hb hby d2_24) _ ?_
                                      show Steps p.tables e below (T55.setTop (mkF m 26 #[.val (.int p0)] [(.int (65008 : Int32)), (.int p0)])) _
                                      refine X55.ldcInt hx hown (mvT hZ (hw _ (List.mem_of_getElem? (i := 5) rfl))) (g := (mkF m 26 #[.val (.int p0)] [(.int (65008 : Int32)), (.int p0)])) rfl (hb hby d2_26) _ ?_
                                      show Steps p.tables e below (T55.setTop (mkF m 28 #[.val (.int p0)] [(.int (65519 : Int32)), (.int (65008 : Int32)), (.int p0)])) _
                                      refine st57 _ ?_
                                      show Steps p.tables e below (T57.setTop (mkF m 31 #[.val (.int p0)] [(.int (F3 p0 (65008 : Int32) (65519 : Int32)))])) _
                                      refine XS.ifNo X57.here hx rfl (hb hby d2_31) rfl ((if0 _ _).trans (teq c58).2) ?_
                                      show Steps p.tables e below (T57.setTop (mkF m 34 #[.val (.int p0)] [])) _
                                      refine XS.iloadN X57.here hx rfl (hb hby d2_34) rfl ?_
                                      show Steps p.tables e below (T57.setTop (mkF m 35 #[.val (.int p0)] [(.int p0)])) _
                                      refine X57.ldcInt hx hown (mvT hZ (hw _ (List.mem_of_getElem? (i := 6) rfl))) (g := (mkF m 35 #[.val (.int p0)] [(.int p0)])) rfl (hb hby d2_35) _ ?_
                                      show Steps p.tables e below (T57.setTop (mkF m 37 #[.val (.int p0)] [(.int (65536 : Int32)), (.int p0)])) _
                                      refine X57.ldcInt hx hown (mvT hZ (hw _ (List.mem_of_getElem? (i := 7) rfl))) (g := (mkF m 37 #[.val (.int p0)] [(.int (65536 : Int32)), (.int p0)])) rfl (hb hby d2_37) _ ?_
                                      show Steps p.tables e below (T57.setTop (mkF m 39 #[.val (.int p0)] [(.int (131069 : Int32)), (.int (65536 : Int32)), (.int p0)])) _
                                      refine st59 _ ?_
                                      show Steps p.tables e below (T59.setTop (mkF m 42 #[.val (.int p0)] [(.int (F3 p0 (65536 : Int32) (131069 : Int32)))])) _
                                      refine XS.ifNo X59.here hx rfl (hb hby d2_42) rfl ((if0 _ _).trans (teq c60).2) ?_
                                      show Steps p.tables e below (T59.setTop (mkF m 45 #[.val (.int p0)] [])) _
                                      refine XS.iloadN X59.here hx rfl (hb hby d2_45) rfl ?_
                                      show Steps p.tables e below (T59.setTop (mkF m 46 #[.val (.int p0)] [(.int p0)])) _
                                      refine X59.ldcInt hx hown (mvT hZ (hw _ (List.mem_of_getElem? (i := 35) rfl))) (g := (mkF m 46 #[.val (.int p0)] [(.int p0)])) rfl (hb hby d2_46) _ ?_
                                      show Steps p.tables e below (T59.setTop (mkF m 48 #[.val (.int p0)] [(.int (131072 : Int32)), (.int p0)])) _
                                      refine X59.ldcInt hx hown (mvT hZ (hw _ (List.mem_of_getElem? (i := 36) rfl))) (g := (mkF m 48 #[.val (.int p0)] [(.int (131072 : Int32)), (.int p0)])) rfl (hb hby d2_48) _ ?_
                                      show Steps p.tables e below (T59.setTop (mkF m 50 #[.val (.int p0)] [(.int (196605 : Int32)), (.int (131072 : Int32)), (.int p0)])) _
                                      refine st61 _ ?_
                                      show Steps p.tables e below (T61.setTop (mkF m 53 #[.val (.int p0)] [(.int (F3 p0 (131072 : Int32) (196605 : Int32)))])) _
                                      refine XS.ifNo X61.here hx rfl (hb hby d2_53) rfl ((if0 _ _).trans (teq c62).2) ?_
                                      show Steps p.tables e below (T61.setTop (mkF m 56 #[.val (.int p0)] [])) _
                                      refine XS.iloadN X61.here hx rfl (hb hby d2_56) rfl ?_
                                      show Steps p.tables e below (T61.setTop (mkF m 57 #[.val (.int p0)] [(.int p0)])) _
                                      refine X61.ldcInt hx hown (mvT hZ (hw _ (List.mem_of_getElem? (i := 37) rfl))) (g := (mkF m 57 #[.val (.int p0)] [(.int p0)])) rfl (hb hby d2_57) _ ?_
                                      show Steps p.tables e below (T61.setTop (mkF m 59 #[.val (.int p0)] [(.int (196608 : Int32)), (.int p0)])) _
                                      refine X61.ldcInt hx hown (mvT hZ (hw _ (List.mem_of_getElem? (i := 38) rfl))) (g := (mkF m 59 #[.val (.int p0)] [(.int (196608 : Int32)), (.int p0)])) rfl (hb hby d2_59) _ ?_
                                      show Steps p.tables e below (T61.setTop (mkF m 61 #[.val (.int p0)] [(.int (262141 : Int32)), (.int (196608 : Int32)), (.int p0)])) _
                                      refine st63 _ ?_
                                      show Steps p.tables e below (T63.setTop (mkF m 64 #[.val (.int p0)] [(.int (F3 p0 (196608 : Int32) (262141 : Int32)))])) _
                                      refine XS.ifNo X63.here hx rfl (hb hby d2_64) rfl ((if0 _ _).trans (teq c64).2) ?_
                                      show Steps p.tables e below (T63.setTop (mkF m 67 #[.val (.int p0)] [])) _
                                      refine XS.iloadN X63.here hx rfl (hb hby d2_67) rfl ?_
                                      show Steps p.tables e below (T63.setTop (mkF m 68 #[.val (.int p0)] [(.int p0)])) _
                                      refine X63.ldcInt hx hown (mvT hZ (hw _ (List.mem_of_getElem? (i := 39) rfl))) (g := (mkF m 68 #[.val (.int p0)] [(.int p0)])) rfl (hb hby d2_68) _ ?_
                                      show Steps p.tables e below (T63.setTop (mkF m 70 #[.val (.int p0)] [(.int (262144 : Int32)), (.int p0)])) _
                                      refine X63.ldcInt hx hown (mvT hZ (hw _ (List.mem_of_getElem? (i := 40) rfl))) (g := (mkF m 70 #[.val (.int p0)] [(.int (262144 : Int32)), (.int p0)])) rfl (hb hby d2_70) _ ?_
                                      show Steps p.tables e below (T63.setTop (mkF m 72 #[.val (.int p0)] [(.int (327677 : Int32)), (.int (262144 : Int32)), (.int p0)])) _
                                      refine st65 _ ?_
                                      show Steps p.tables e below (T65.setTop (mkF m 75 #[.val (.int p0)] [(.int (F3 p0 (262144 : Int32) (327677 : Int32)))])) _
                                      refine XS.ifNo X65.here hx rfl (hb hby d2_75) rfl ((if0 _ _).trans (teq c66).2) ?_
                                      show Steps p.tables e below (T65.setTop (mkF m 78 #[.val (.int p0)] [])) _
                                      refine XS.iloadN X65.here hx rfl (hb hby d2_78) rfl ?_
                                      show Steps p.tables e below (T65.setTop (mkF m 79 #[.val (.int p0)] [(.int p0)])) _
                                      refine X65.ldcInt hx hown (mvT hZ (hw _ (List.mem_of_getElem? (i := 41) rfl))) (g := (mkF m 79 #[.val (.int p0)] [(.int p0)])) rfl (hb hby d2_79) _ ?_
                                      show Steps p.tables e below (T65.setTop (mkF m 81 #[.val (.int p0)] [(.int (327680 : Int32)), (.int p0)])) _
                                      refine X65.ldcInt hx hown (mvT hZ (hw _ (List.mem_of_getElem? (i := 42) rfl))) (g := (mkF m 81 #[.val (.int p0)] [(.int (327680 : Int32)), (.int p0)])) rfl (hb hby d2_81) _ ?_
                                      show Steps p.tables e below (T65.setTop (mkF m 83 #[.val (.int p0)] [(.int (393213 : Int32)), (.int (327680 : Int32)), (.int p0)])) _
                                      refine st67 _ ?_
                                      show Steps p.tables e below (T67.setTop (mkF m 86 #[.val (.int p0)] [(.int (F3 p0 (327680 : Int32) (393213 : Int32)))])) _
                                      refine XS.ifNo X67.here hx rfl (hb hby d2_86) rfl ((if0 _ _).trans (teq c68).2) ?_
                                      show Steps p.tables e below (T67.setTop (mkF m 89 #[.val (.int p0)] [])) _
                                      refine XS.iloadN X67.here hx rfl (hb hby d2_89) rfl ?_
                                      show Steps p.tables e below (T67.setTop (mkF m 90 #[.val (.int p0)] [(.int p0)])) _
                                      refine X67.ldcInt hx hown (mvT hZ (hw _ (List.mem_of_getElem? (i := 43) rfl))) (g := (mkF m 90 #[.val (.int p0)] [(.int p0)])) rfl (hb hby d2_90) _ ?_
                                      show Steps p.tables e below (T67.setTop (mkF m 92 #[.val (.int p0)] [(.int (393216 : Int32)), (.int p0)])) _
                                      refine X67.ldcInt hx hown (mvT hZ (hw _ (List.mem_of_getElem? (i := 44) rfl))) (g := (mkF m 92 #[.val (.int p0)] [(.int (393216 : Int32)), (.int p0)])) rfl (hb hby d2_92) _ ?_
                                      show Steps p.tables e below (T67.setTop (mkF m 94 #[.val (.int p0)] [(.int (458749 : Int32)), (.int (393216 : Int32)), (.int p0)])) _
                                      refine st69 _ ?_
                                      show Steps p.tables e below (T69.setTop (mkF m 97 #[.val (.int p0)] [(.int (F3 p0 (393216 : Int32) (458749 : Int32)))])) _
                                      refine XS.ifNo X69.here hx rfl (hb hby d2_97) rfl ((if0 _ _).trans (teq c70).2) ?_
                                      show Steps p.tables e below (T69.setTop (mkF m 100 #[.val (.int p0)] [])) _
                                      refine XS.iloadN X69.here hx rfl (hb hby d2_100) rfl ?_
                                      show Steps p.tables e below (T69.setTop (mkF m 101 #[.val (.int p0)] [(.int p0)])) _
                                      refine X69.ldcInt hx hown (mvT hZ (hw _ (List.mem_of_getElem? (i := 45) rfl))) (g := (mkF m 101 #[.val (.int p0)] [(.int p0)])) rfl (hb hby d2_101) _ ?_
                                      show Steps p.tables e below (T69.setTop (mkF m 103 #[.val (.int p0)] [(.int (458752 : Int32)), (.int p0)])) _
                                      refine X69.ldcInt hx hown (mvT hZ (hw _ (List.mem_of_getElem? (i := 46) rfl))) (g := (mkF m 103 #[.val (.int p0)] [(.int (458752 : Int32)), (.int p0)])) rfl (hb hby d2_103) _ ?_
                                      show Steps p.tables e below (T69.setTop (mkF m 105 #[.val (.int p0)] [(.int (524285 : Int32)), (.int (458752 : Int32)), (.int p0)])) _
                                      refine st71 _ ?_
                                      show Steps p.tables e below (T71.setTop (mkF m 108 #[.val (.int p0)] [(.int (F3 p0 (458752 : Int32) (524285 : Int32)))])) _
                                      refine XS.ifNo X71.here hx rfl (hb hby d2_108) rfl ((if0 _ _).trans (teq c72).2) ?_
                                      show Steps p.tables e below (T71.setTop (mkF m 111 #[.val (.int p0)] [])) _
                                      refine XS.iloadN X71.here hx rfl (hb hby d2_111) rfl ?_
                                      show Steps p.tables e below (T71.setTop (mkF m 112 #[.val (.int p0)] [(.int p0)])) _
                                      refine X71.ldcInt hx hown (mvT hZ (hw _ (List.mem_of_getElem? (i := 47) rfl))) (g := (mkF m 112 #[.val (.int p0)] [(.int p0)])) rfl (hb hby d2_112) _ ?_
                                      show Steps p.tables e below (T71.setTop (mkF m 114 #[.val (.int p0)] [(.int (524288 : Int32)), (.int p0)])) _
                                      refine X71.ldcInt hx hown (mvT hZ (hw _ (List.mem_of_getElem? (i := 48) rfl))) (g := (mkF m 114 #[.val (.int p0)] [(.int (524288 : Int32)), (.int p0)])) rfl (hb hby d2_114) _ ?_
                                      show Steps p.tables e below (T71.setTop (mkF m 116 #[.val (.int p0)] [(.int (589821 : Int32)), (.int (524288 : Int32)), (.int p0)])) _
                                      refine st73 _ ?_
                                      show Steps p.tables e below (T73.setTop (mkF m 119 #[.val (.int p0)] [(.int (F3 p0 (524288 : Int32) (589821 : Int32)))])) _
                                      refine XS.ifNo X73.here hx rfl (hb hby d2_119) rfl ((if0 _ _).trans (teq c74).2) ?_
                                      show Steps p.tables e below (T73.setTop (mkF m 122 #[.val (.int p0)] [])) _
                                      refine XS.iloadN X73.here hx rfl (hb hby d2_122) rfl ?_
                                      show Steps p.tables e below (T73.setTop (mkF m 123 #[.val (.int p0)] [(.int p0)])) _
                                      refine X73.ldcInt hx hown (mvT hZ (hw _ (List.mem_of_getElem? (i := 49) rfl))) (g := (mkF m 123 #[.val (.int p0)] [(.int p0)])) rfl (hb hby d2_123) _ ?_
                                      show Steps p.tables e below (T73.setTop (mkF m 125 #[.val (.int p0)] [(.int (589824 : Int32)), (.int p0)])) _
                                      refine X73.ldcInt hx hown (mvT hZ (hw _ (List.mem_of_getElem? (i := 50) rfl))) (g := (mkF m 125 #[.val (.int p0)] [(.int (589824 : Int32)), (.int p0)])) rfl (hb hby d2_125) _ ?_
                                      show Steps p.tables e below (T73.setTop (mkF m 127 #[.val (.int p0)] [(.int (655357 : Int32)), (.int (589824 : Int32)), (.int p0)])) _
                                      refine st75 _ ?_
                                      show Steps p.tables e below (T75.setTop (mkF m 130 #[.val (.int p0)] [(.int (F3 p0 (589824 : Int32) (655357 : Int32)))])) _
                                      refine XS.ifNo X75.here hx rfl (hb hby d2_130) rfl ((if0 _ _).trans (teq c76).2) ?_
                                      show Steps p.tables e below (T75.setTop (mkF m 133 #[.val (.int p0)] [])) _
                                      refine XS.iloadN X75.here hx rfl (hb hby d2_133) rfl ?_
                                      show Steps p.tables e below (T75.setTop (mkF m 134 #[.val (.int p0)] [(.int p0)])) _
                                      refine X75.ldcInt hx hown (mvT hZ (hw _ (List.mem_of_getElem? (i := 51) rfl))) (g := (mkF m 134 #[.val (.int p0)] [(.int p0)])) rfl (hb hby d2_134) _ ?_
                                      show Steps p.tables e below (T75.setTop (mkF m 136 #[.val (.int p0)] [(.int (655360 : Int32)), (.int p0)])) _
                                      refine X75.ldcInt hx hown (mvT hZ (hw _ (List.mem_of_getElem? (i := 52) rfl))) (g := (mkF m 136 #[.val (.int p0)] [(.int (655360 : Int32)), (.int p0)])) rfl (hb hby d2_136) _ ?_
                                      show Steps p.tables e below (T75.setTop (mkF m 138 #[.val (.int p0)] [(.int (720893 : Int32)), (.int (655360 : Int32)), (.int p0)])) _
                                      refine st77 _ ?_
                                      show Steps p.tables e below (T77.setTop (mkF m 141 #[.val (.int p0)] [(.int (F3 p0 (655360 : Int32) (720893 : Int32)))])) _
                                      refine XS.ifNo X77.here hx rfl (hb hby d2_141) rfl ((if0 _ _).trans (teq c78).2) ?_
                                      show Steps p.tables e below (T77.setTop (mkF m 144 #[.val (.int p0)] [])) _
                                      refine XS.iloadN X77.here hx rfl (hb hby d2_144) rfl ?_
                                      show Steps p.tables e below (T77.setTop (mkF m 145 #[.val (.int p0)] [(.int p0)])) _
                                      refine X77.ldcInt hx hown (mvT hZ (hw _ (List.mem_of_getElem? (i := 53) rfl))) (g := (mkF m 145 #[.val (.int p0)] [(.int p0)])) rfl (hb hby d2_145) _ ?_
                                      show Steps p.tables e below (T77.setTop (mkF m 147 #[.val (.int p0)] [(.int (720896 : Int32)), (.int p0)])) _
                                      refine X77.ldcInt hx hown (mvT hZ (hw _ (List.mem_of_getElem? (i := 54) rfl))) (g := (mkF m 147 #[.val (.int p0)] [(.int (720896 : Int32)), (.int p0)])) rfl (hb hby d2_147) _ ?_
                                      show Steps p.tables e below (T77.setTop (mkF m 149 #[.val (.int p0)] [(.int (786429 : Int32)), (.int (720896 : Int32)), (.int p0)])) _
                                      refine st79 _ ?_
                                      show Steps p.tables e below (T79.setTop (mkF m 152 #[.val (.int p0)] [(.int (F3 p0 (720896 : Int32) (786429 : Int32)))])) _
                                      refine XS.ifNo X79.here hx rfl (hb hby d2_152) rfl ((if0 _ _).trans (teq c80).2) ?_
                                      show Steps p.tables e below (T79.setTop (mkF m 155 #[.val (.int p0)] [])) _
                                      refine XS.iloadN X79.here hx rfl (hb hby d2_155) rfl ?_
                                      show Steps p.tables e below (T79.setTop (mkF m 156 #[.val (.int p0)] [(.int p0)])) _
                                      refine X79.ldcInt hx hown (mvT hZ (hw _ (List.mem_of_getElem? (i := 55) rfl))) (g := (mkF m 156 #[.val (.int p0)] [(.int p0)])) rfl (hb hby d2_156) _ ?_
                                      show Steps p.tables e below (T79.setTop (mkF m 158 #[.val (.int p0)] [(.int (786432 : Int32)), (.int p0)])) _
                                      refine X79.ldcInt hx hown (mvT hZ (hw _ (List.mem_of_getElem? (i := 56) rfl))) (g := (mkF m 158 #[.val (.int p0)] [(.int (786432 : Int32)), (.int p0)])) rfl (hb hby d2_158) _ ?_
                                      show Steps p.tables e below (T79.setTop (mkF m 160 #[.val (.int p0)] [(.int (851965 : Int32)), (.int (786432 : Int32)), (.int p0)])) _
                                      refine st81 _ ?_
                                      show Steps p.tables e below (T81.setTop (mkF m 163 #[.val (.int p0)] [(.int (F3 p0 (786432 : Int32) (851965 : Int32)))])) _
                                      refine XS.ifNo X81.here hx rfl (hb hby d2_163) rfl ((if0 _ _).trans (teq c82).2) ?_
                                      show Steps p.tables e below (T81.setTop (mkF m 166 #[.val (.int p0)] [])) _
                                      refine XS.iloadN X81.here hx rfl (hb hby d2_166) rfl ?_
                                      show Steps p.tables e below (T81.setTop (mkF m 167 #[.val (.int p0)] [(.int p0)])) _
                                      refine X81.ldcInt hx hown (mvT hZ (hw _ (List.mem_of_getElem? (i := 57) rfl))) (g := (mkF m 167 #[.val (.int p0)] [(.int p0)])) rfl (hb hby d2_167) _ ?_
                                      show Steps p.tables e below (T81.setTop (mkF m 169 #[.val (.int p0)] [(.int (851968 : Int32)), (.int p0)])) _
                                      refine X81.ldcInt hx hown (mvT hZ (hw _ (List.mem_of_getElem? (i := 8) rfl))) (g := (mkF m 169 #[.val (.int p0)] [(.int (851968 : Int32)), (.int p0)])) rfl (hb hby d2_169) _ ?_
                                      show Steps p.tables e below (T81.setTop (mkF m 171 #[.val (.int p0)] [(.int (917501 : Int32)), (.int (851968 : Int32)), (.int p0)])) _
                                      refine st83 _ ?_
                                      show Steps p.tables e below (T83.setTop (mkF m 174 #[.val (.int p0)] [(.int (F3 p0 (851968 : Int32) (917501 : Int32)))])) _
                                      refine XS.ifNo X83.here hx rfl (hb hby d2_174) rfl ((if0 _ _).trans (teq c84).2) ?_
                                      show Steps p.tables e below (T83.setTop (mkF m 177 #[.val (.int p0)] [])) _
                                      refine XS.iloadN X83.here hx rfl (hb hby d2_177) rfl ?_
                                      show Steps p.tables e below (T83.setTop (mkF m 178 #[.val (.int p0)] [(.int p0)])) _
                                      refine X83.ldcInt hx hown (mvT hZ (hw _ (List.mem_of_getElem? (i := 10) rfl))) (g := (mkF m 178 #[.val (.int p0)] [(.int p0)])) rfl (hb hby d2_178) _ ?_
                                      show Steps p.tables e below (T83.setTop (mkF m 180 #[.val (.int p0)] [(.int (921600 : Int32)), (.int p0)])) _
                                      refine X83.ldcInt hx hown (mvT hZ (hw _ (List.mem_of_getElem? (i := 11) rfl))) (g := (mkF m 180 #[.val (.int p0)] [(.int (921600 : Int32)), (.int p0)])) rfl (hb hby d2_180) _ ?_
                                      show Steps p.tables e below (T83.setTop (mkF m 182 #[.val (.int p0)] [(.int (983037 : Int32)), (.int (921600 : Int32)), (.int p0)])) _
                                      refine st85 _ ?_
                                      show Steps p.tables e below (T85.setTop (mkF m 185 #[.val (.int p0)] [(.int (F3 p0 (921600 : Int32) (983037 : Int32)))])) _
                                      refine XS.ifNo X85.here hx rfl (hb hby d2_185) rfl ((if0 _ _).trans (feq c86).1) ?_
                                      show Steps p.tables e below (T85.setTop (mkF m 188 #[.val (.int p0)] [])) _
                                      refine XS.iconst X85.here hx rfl (hb hby d2_188) ?_
                                      show Steps p.tables e below (T85.setTop (mkF m 189 #[.val (.int p0)] [(.int (1 : Int32))])) _
                                      refine XS.goto X85.here hx rfl (pc0 := 189) (pc' := 193) rfl (hb hby d2_189) (by decide) (by decide) ?_
                                      show Steps p.tables e below (T85.setTop (mkF m 193 #[.val (.int p0)] [(.int (1 : Int32))])) _
                                      exact retN X85 hx (t := .boolean) Bd.returns (by simp) (hb hby d2_193) hr
                                    · show Q2 Z p0 h0 n0 _ T85.heap _
                                      rw [e85]
                                      exact ⟨(congrArg (fun z => some (Value.int z)) ((if_pos c54).trans ((if_pos c56).trans ((if_pos c58).trans ((if_pos c60).trans ((if_pos c62).trans ((if_pos c64).trans ((if_pos c66).trans ((if_pos c68).trans ((if_pos c70).trans ((if_pos c72).trans ((if_pos c74).trans ((if_pos c76).trans ((if_pos c78).trans ((if_pos c80).trans ((if_pos c82).trans ((if_pos c84).trans ((if_neg c86).trans rfl))))))))))))))))).symm), N85, rfl⟩
                                · obtain ⟨fs, hr, hrun, hended, hW, hsame⟩ := X83.leave (v := some (.int (1 : Int32))) (fun h => by rw [Bd.returns] at h; cases h)
                                  refine ⟨_, _, pre0 _ ?_, hrun, hended, _, _, rfl, ?_, ⟨_, rfl⟩, hW, hsame.mono (by decide) (by decide)⟩
                                  · show Steps p.tables e below (s₁.setTop (mkF m 0 #[.val (.int p0)] [])) _
                                    refine XS.iloadN X0.here hx rfl (hb hby d2_0) rfl ?_
                                    show Steps p.tables e below (s₁.setTop (mkF m 1 #[.val (.int p0)] [(.int p0)])) _
                                    refine XS.sipush X0.here hx rfl (hb hby d2_1) ?_
                                    show Steps p.tables e below (s₁.setTop (mkF m 4 #[.val (.int p0)] [(.int (160 : Int32)), (.int p0)])) _
                                    refine X0.ldcInt hx hown (mvT hZ (hw _ (List.mem_of_getElem? (i := 1) rfl))) (g := (mkF m 4 #[.val (.int p0)] [(.int (160 : Int32)), (.int p0)])) rfl (hb hby d2_4) _ ?_
                                    show Steps p.tables e below (s₁.setTop (mkF m 6 #[.val (.int p0)] [(.int (55295 : Int32)), (.int (160 : Int32)), (.int p0)])) _
                                    refine st53 _ ?_
                                    show Steps p.tables e below (T53.setTop (mkF m 9 #[.val (.int p0)] [(.int (F3 p0 (160 : Int32) (55295 : Int32)))])) _
                                    refine XS.ifNo X53.here hx rfl (hb hby d2_9) rfl ((if0 _ _).trans (teq c54).2) ?_
                                    show Steps p.tables e below (T53.setTop (mkF m 12 #[.val (.int p0)] [])) _
                                    refine XS.iloadN X53.here hx rfl (hb hby d2_12) rfl ?_
                                    show Steps p.tables e below (T53.setTop (mkF m 13 #[.val (.int p0)] [(.int p0)])) _
                                    refine X53.ldcInt hx hown (mvT hZ (hw _ (List.mem_of_getElem? (i := 2) rfl))) (g := (mkF m 13 #[.val (.int p0)] [(.int p0)])) rfl (hb hby d2_13) _ ?_
                                    show Steps p.tables e below (T53.setTop (mkF m 15 #[.val (.int p0)] [(.int (63744 : Int32)), (.int p0)])) _
                                    refine X53.ldcInt hx hown (mvT hZ (hw _ (List.mem_of_getElem? (i := 3) rfl))) (g := (mkF m 15 #[.val (.int p0)] [(.int (63744 : Int32)), (.int p0)])) rfl (hb hby d2_15) _ ?_
                                    show Steps p.tables e below (T53.setTop (mkF m 17 #[.val (.int p0)] [(.int (64975 : Int32)), (.int (63744 : Int32)), (.int p0)])) _
                                    refine st55 _ ?_
                                    show Steps p.tables e below (T55.setTop (mkF m 20 #[.val (.int p0)] [(.int (F3 p0 (63744 : Int32) (64975 : Int32)))])) _
                                    refine XS.ifNo X55.here hx rfl (hb hby d2_20) rfl ((if0 _ _).trans (teq c56).2) ?_
                                    show Steps p.tables e below (T55.setTop (mkF m 23 #[.val (.int p0)] [])) _
                                    refine XS.iloadN X55.here hx rfl (hb hby d2_23) rfl ?_
                                    show Steps p.tables e below (T55.setTop (mkF m 24 #[.val (.int p0)] [(.int p0)])) _
                                    refine X55.ldcInt hx hown (mvT hZ (hw _ (List.mem_of_getElem? (i := 4) rfl))) (g := (mkF m 24 #[.val (.int p0)] [(.int p0)])) rfl (hb hby d2_24) _ ?_
                                    show Steps p.tables e below (T55.setTop (mkF m 26 #[.val (.int p0)] [(.int (65008 : Int32)), (.int p0)])) _
                                    refine X55.ldcInt hx hown (mvT hZ (hw _ (List.mem_of_getElem? (i := 5) rfl))) (g := (mkF m 26 #[.val (.int p0)] [(.int (65008 : Int32)), (.int p0)])) rfl (hb hby d2_26) _ ?_
                                    show Steps p.tables e below (T55.setTop (mkF m 28 #[.val (.int p0)] [(.int (65519 : Int32)), (.int (65008 : Int32)), (.int p0)])) _
                                    refine st57 _ ?_
                                    show Steps p.tables e below (T57.setTop (mkF m 31 #[.val (.int p0)] [(.int (F3 p0 (65008 : Int32) (65519 : Int32)))])) _
                                    refine XS.ifNo X57.here hx rfl (hb hby d2_31) rfl ((if0 _ _).trans (teq c58).2) ?_
                                    show Steps p.tables e below (T57.setTop (mkF m 34 #[.val (.int p0)] [])) _
                                    refine XS.iloadN X57.here hx rfl (hb hby d2_34) rfl ?_
                                    show Steps p.tables e below (T57.setTop (mkF m 35 #[.val (.int p0)] [(.int p0)])) _
                                    refine X57.ldcInt hx hown (mvT hZ (hw _ (List.mem_of_getElem? (i := 6) rfl))) (g := (mkF m 35 #[.val (.int p0)] [(.int p0)])) rfl (hb hby d2_35) _ ?_
                                    show Steps p.tables e below (T57.setTop (mkF m 37 #[.val (.int p0)] [(.int (65536 : Int32)), (.int p0)])) _
                                    refine X57.ldcInt hx hown (mvT hZ (hw _ (List.mem_of_getElem? (i := 7) rfl))) (g := (mkF m 37 #[.val (.int p0)] [(.int (65536 : Int32)), (.int p0)])) rfl (hb hby d2_37) _ ?_
                                    show Steps p.tables e below (T57.setTop (mkF m 39 #[.val (.int p0)] [(.int (131069 : Int32)), (.int (65536 : Int32)), (.int p0)])) _
                                    refine st59 _ ?_
                                    show Steps p.tables e below (T59.setTop (mkF m 42 #[.val (.int p0)] [(.int (F3 p0 (65536 : Int32) (131069 : Int32)))])) _
                                    refine XS.ifNo X59.here hx rfl (hb hby d2_42) rfl ((if0 _ _).trans (teq c60).2) ?_
                                    show Steps p.tables e below (T59.setTop (mkF m 45 #[.val (.int p0)] [])) _
                                    refine XS.iloadN X59.here hx rfl (hb hby d2_45) rfl ?_
                                    show Steps p.tables e below (T59.setTop (mkF m 46 #[.val (.int p0)] [(.int p0)])) _
                                    refine X59.ldcInt hx hown (mvT hZ (hw _ (List.mem_of_getElem? (i := 35) rfl))) (g := (mkF m 46 #[.val (.int p0)] [(.int p0)])) rfl (hb hby d2_46) _ ?_
                                    show Steps p.tables e below (T59.setTop (mkF m 48 #[.val (.int p0)] [(.int (131072 : Int32)), (.int p0)])) _
                                    refine X59.ldcInt hx hown (mvT hZ (hw _ (List.mem_of_getElem? (i := 36) rfl))) (g := (mkF m 48 #[.val (.int p0)] [(.int (131072 : Int32)), (.int p0)])) rfl (hb hby d2_48) _ ?_
                                    show Steps p.tables e below (T59.setTop (mkF m 50 #[.val (.int p0)] [(.int (196605 : Int32)), (.int (131072 : Int32)), (.int p0)])) _
                                    refine st61 _ ?_
                                    show Steps p.tables e below (T61.setTop (mkF m 53 #[.val (.int p0)] [(.int (F3 p0 (131072 : Int32) (196605 : Int32)))])) _
                                    refine XS.ifNo X61.here hx rfl (hb hby d2_53) rfl ((if0 _ _).trans (teq c62).2) ?_
                                    show Steps p.tables e below (T61.setTop (mkF m 56 #[.val (.int p0)] [])) _
                                    refine XS.iloadN X61.here hx rfl (hb hby d2_56) rfl ?_
                                    show Steps p.tables e below (T61.setTop (mkF m 57 #[.val (.int p0)] [(.int p0)])) _
                                    refine X61.ldcInt hx hown (mvT hZ (hw _ (List.mem_of_getElem? (i := 37) rfl))) (g := (mkF m 57 #[.val (.int p0)] [(.int p0)])) rfl (hb hby d2_57) _ ?_
                                    show Steps p.tables e below (T61.setTop (mkF m 59 #[.val (.int p0)] [(.int (196608 : Int32)), (.int p0)])) _
                                    refine X61.ldcInt hx hown (mvT hZ (hw _ (List.mem_of_getElem? (i := 38) rfl))) (g := (mkF m 59 #[.val (.int p0)] [(.int (196608 : Int32)), (.int p0)])) rfl (hb hby d2_59) _ ?_
                                    show Steps p.tables e below (T61.setTop (mkF m 61 #[.val (.int p0)] [(.int (262141 : Int32)), (.int (196608 : Int32)), (.int p0)])) _
                                    refine st63 _ ?_
                                    show Steps p.tables e below (T63.setTop (mkF m 64 #[.val (.int p0)] [(.int (F3 p0 (196608 : Int32) (262141 : Int32)))])) _
                                    refine XS.ifNo X63.here hx rfl (hb hby d2_64) rfl ((if0 _ _).trans (teq c64).2) ?_
                                    show Steps p.tables e below (T63.setTop (mkF m 67 #[.val (.int p0)] [])) _
                                    refine XS.iloadN X63.here hx rfl (hb hby d2_67) rfl ?_
                                    show Steps p.tables e below (T63.setTop (mkF m 68 #[.val (.int p0)] [(.int p0)])) _
                                    refine X63.ldcInt hx hown (mvT hZ (hw _ (List.mem_of_getElem? (i := 39) rfl))) (g := (mkF m 68 #[.val (.int p0)] [(.int p0)])) rfl (hb hby d2_68) _ ?_
                                    show Steps p.tables e below (T63.setTop (mkF m 70 #[.val (.int p0)] [(.int (262144 : Int32)), (.int p0)])) _
                                    refine X63.ldcInt hx hown (mvT hZ (hw _ (List.mem_of_getElem? (i := 40) rfl))) (g := (mkF m 70 #[.val (.int p0)] [(.int (262144 : Int32)), (.int p0)])) rfl (hb hby d2_70) _ ?_
                                    show Steps p.tables e below (T63.setTop (mkF m 72 #[.val (.int p0)] [(.int (327677 : Int32)), (.int (262144 : Int32)), (.int p0)])) _
                                    refine st65 _ ?_
                                    show Steps p.tables e below (T65.setTop (mkF m 75 #[.val (.int p0)] [(.int (F3 p0 (262144 : Int32) (327677 : Int32)))])) _
                                    refine XS.ifNo X65.here hx rfl (hb hby d2_75) rfl ((if0 _ _).trans (teq c66).2) ?_
                                    show Steps p.tables e below (T65.setTop (mkF m 78 #[.val (.int p0)] [])) _
                                    refine XS.iloadN X65.here hx rfl (hb hby d2_78) rfl ?_
                                    show Steps p.tables e below (T65.setTop (mkF m 79 #[.val (.int p0)] [(.int p0)])) _
                                    refine X65.ldcInt hx hown (mvT hZ (hw _ (List.mem_of_getElem? (i := 41) rfl))) (g := (mkF m 79 #[.val (.int p0)] [(.int p0)])) rfl (hb hby d2_79) _ ?_
                                    show Steps p.tables e below (T65.setTop (mkF m 81 #[.val (.int p0)] [(.int (327680 : Int32)), (.int p0)])) _
                                    refine X65.ldcInt hx hown (mvT hZ (hw _ (List.mem_of_getElem? (i := 42) rfl))) (g := (mkF m 81 #[.val (.int p0)] [(.int (327680 : Int32)), (.int p0)])) rfl (hb hby d2_81) _ ?_
                                    show Steps p.tables e below (T65.setTop (mkF m 83 #[.val (.int p0)] [(.int (393213 : Int32)), (.int (327680 : Int32)), (.int p0)])) _
                                    refine st67 _ ?_
                                    show Steps p.tables e below (T67.setTop (mkF m 86 #[.val (.int p0)] [(.int (F3 p0 (327680 : Int32) (393213 : Int32)))])) _
                                    refine XS.ifNo X67.here hx rfl (hb hby d2_86) rfl ((if0 _ _).trans (teq c68).2) ?_
                                    show Steps p.tables e below (T67.setTop (mkF m 89 #[.val (.int p0)] [])) _
                                    refine XS.iloadN X67.here hx rfl (hb hby d2_89) rfl ?_
                                    show Steps p.tables e below (T67.setTop (mkF m 90 #[.val (.int p0)] [(.int p0)])) _
                                    refine X67.ldcInt hx hown (mvT hZ (hw _ (List.mem_of_getElem? (i := 43) rfl))) (g := (mkF m 90 #[.val (.int p0)] [(.int p0)])) rfl (hb hby d2_90) _ ?_
                                    show Steps p.tables e below (T67.setTop (mkF m 92 #[.val (.int p0)] [(.int (393216 : Int32)), (.int p0)])) _
                                    refine X67.ldcInt hx hown (mvT hZ (hw _ (List.mem_of_getElem? (i := 44) rfl))) (g := (mkF m 92 #[.val (.int p0)] [(.int (393216 : Int32)), (.int p0)])) rfl (hb hby d2_92) _ ?_
                                    show Steps p.tables e below (T67.setTop (mkF m 94 #[.val (.int p0)] [(.int (458749 : Int32)), (.int (393216 : Int32)), (.int p0)])) _
                                    refine st69 _ ?_
                                    show Steps p.tables e below (T69.setTop (mkF m 97 #[.val (.int p0)] [(.int (F3 p0 (393216 : Int32) (458749 : Int32)))])) _
                                    refine XS.ifNo X69.here hx rfl (hb hby d2_97) rfl ((if0 _ _).trans (teq c70).2) ?_
                                    show Steps p.tables e below (T69.setTop (mkF m 100 #[.val (.int p0)] [])) _
                                    refine XS.iloadN X69.here hx rfl (hb hby d2_100) rfl ?_
                                    show Steps p.tables e below (T69.setTop (mkF m 101 #[.val (.int p0)] [(.int p0)])) _
                                    refine X69.ldcInt hx hown (mvT hZ (hw _ (List.mem_of_getElem? (i := 45) rfl))) (g := (mkF m 101 #[.val (.int p0)] [(.int p0)])) rfl (hb hby d2_101) _ ?_
                                    show Steps p.tables e below (T69.setTop (mkF m 103 #[.val (.int p0)] [(.int (458752 : Int32)), (.int p0)])) _
                                    refine X69.ldcInt hx hown (mvT hZ (hw _ (List.mem_of_getElem? (i := 46) rfl))) (g := (mkF m 103 #[.val (.int p0)] [(.int (458752 : Int32)), (.int p0)])) rfl (hb hby d2_103) _ ?_
                                    show Steps p.tables e below (T69.setTop (mkF m 105 #[.val (.int p0)] [(.int (524285 : Int32)), (.int (458752 : Int32)), (.int p0)])) _
                                    refine st71 _ ?_
                                    show Steps p.tables e below (T71.setTop (mkF m 108 #[.val (.int p0)] [(.int (F3 p0 (458752 : Int32) (524285 : Int32)))])) _
                                    refine XS.ifNo X71.here hx rfl (hb hby d2_108) rfl ((if0 _ _).trans (teq c72).2) ?_
                                    show Steps p.tables e below (T71.setTop (mkF m 111 #[.val (.int p0)] [])) _
                                    refine XS.iloadN X71.here hx rfl (hb hby d2_111) rfl ?_
                                    show Steps p.tables e below (T71.setTop (mkF m 112 #[.val (.int p0)] [(.int p0)])) _
                                    refine X71.ldcInt hx hown (mvT hZ (hw _ (List.mem_of_getElem? (i := 47) rfl))) (g := (mkF m 112 #[.val (.int p0)] [(.int p0)])) rfl (hb hby d2_112) _ ?_
                                    show Steps p.tables e below (T71.setTop (mkF m 114 #[.val (.int p0)] [(.int (524288 : Int32)), (.int p0)])) _
                                    refine X71.ldcInt hx hown (mvT hZ (hw _ (List.mem_of_getElem? (i := 48) rfl))) (g := (mkF m 114 #[.val (.int p0)] [(.int (524288 : Int32)), (.int p0)])) rfl (hb hby d2_114) _ ?_
                                    show Steps p.tables e below (T71.setTop (mkF m 116 #[.val (.int p0)] [(.int (589821 : Int32)), (.int (524288 : Int32)), (.int p0)])) _
                                    refine st73 _ ?_
                                    show Steps p.tables e below (T73.setTop (mkF m 119 #[.val (.int p0)] [(.int (F3 p0 (524288 : Int32) (589821 : Int32)))])) _
                                    refine XS.ifNo X73.here hx rfl (hb hby d2_119) rfl ((if0 _ _).trans (teq c74).2) ?_
                                    show Steps p.tables e below (T73.setTop (mkF m 122 #[.val (.int p0)] [])) _
                                    refine XS.iloadN X73.here hx rfl (hb hby d2_122) rfl ?_
                                    show Steps p.tables e below (T73.setTop (mkF m 123 #[.val (.int p0)] [(.int p0)])) _
                                    refine X73.ldcInt hx hown (mvT hZ (hw _ (List.mem_of_getElem? (i := 49) rfl))) (g := (mkF m 123 #[.val (.int p0)] [(.int p0)])) rfl (hb hby d2_123) _ ?_
                                    show Steps p.tables e below (T73.setTop (mkF m 125 #[.val (.int p0)] [(.int (589824 : Int32)), (.int p0)])) _
                                    refine X73.ldcInt hx hown (mvT hZ (hw _ (List.mem_of_getElem? (i := 50) rfl))) (g := (mkF m 125 #[.val (.int p0)] [(.int (589824 : Int32)), (.int p0)])) rfl (hb hby d2_125) _ ?_
                                    show Steps p.tables e below (T73.setTop (mkF m 127 #[.val (.int p0)] [(.int (655357 : Int32)), (.int (589824 : Int32)), (.int p0)])) _
                                    refine st75 _ ?_
                                    show Steps p.tables e below (T75.setTop (mkF m 130 #[.val (.int p0)] [(.int (F3 p0 (589824 : Int32) (655357 : Int32)))])) _
                                    refine XS.ifNo X75.here hx rfl (hb hby d2_130) rfl ((if0 _ _).trans (teq c76).2) ?_
                                    show Steps p.tables e below (T75.setTop (mkF m 133 #[.val (.int p0)] [])) _
                                    refine XS.iloadN X75.here hx rfl (hb hby d2_133) rfl ?_
                                    show Steps p.tables e below (T75.setTop (mkF m 134 #[.val (.int p0)] [(.int p0)])) _
                                    refine X75.ldcInt hx hown (mvT hZ (hw _ (List.mem_of_getElem? (i := 51) rfl))) (g := (mkF m 134 #[.val (.int p0)] [(.int p0)])) rfl (hb hby d2_134) _ ?_
                                    show Steps p.tables e below (T75.setTop (mkF m 136 #[.val (.int p0)] [(.int (655360 : Int32)), (.int p0)])) _
                                    refine X75.ldcInt hx hown (mvT hZ (hw _ (List.mem_of_getElem? (i := 52) rfl))) (g := (mkF m 136 #[.val (.int p0)] [(.int (655360 : Int32)), (.int p0)])) rfl (hb hby d2_136) _ ?_
                                    show Steps p.tables e below (T75.setTop (mkF m 138 #[.val (.int p0)] [(.int (720893 : Int32)), (.int (655360 : Int32)), (.int p0)])) _
                                    refine st77 _ ?_
                                    show Steps p.tables e below (T77.setTop (mkF m 141 #[.val (.int p0)] [(.int (F3 p0 (655360 : Int32) (720893 : Int32)))])) _
                                    refine XS.ifNo X77.here hx rfl (hb hby d2_141) rfl ((if0 _ _).trans (teq c78).2) ?_
                                    show Steps p.tables e below (T77.setTop (mkF m 144 #[.val (.int p0)] [])) _
                                    refine XS.iloadN X77.here hx rfl (hb hby d2_144) rfl ?_
                                    show Steps p.tables e below (T77.setTop (mkF m 145 #[.val (.int p0)] [(.int p0)])) _
                                    refine X77.ldcInt hx hown (mvT hZ (hw _ (List.mem_of_getElem? (i := 53) rfl))) (g := (mkF m 145 #[.val (.int p0)] [(.int p0)])) rfl (hb hby d2_145) _ ?_
                                    show Steps p.tables e below (T77.setTop (mkF m 147 #[.val (.int p0)] [(.int (720896 : Int32)), (.int p0)])) _
                                    refine X77.ldcInt hx hown (mvT hZ (hw _ (List.mem_of_getElem? (i := 54) rfl))) (g := (mkF m 147 #[.val (.int p0)] [(.int (720896 : Int32)), (.int p0)])) rfl (hb hby d2_147) _ ?_
                                    show Steps p.tables e below (T77.setTop (mkF m 149 #[.val (.int p0)] [(.int (786429 : Int32)), (.int (720896 : Int32)), (.int p0)])) _
                                    refine st79 _ ?_
                                    show Steps p.tables e below (T79.setTop (mkF m 152 #[.val (.int p0)] [(.int (F3 p0 (720896 : Int32) (786429 : Int32)))])) _
                                    refine XS.ifNo X79.here hx rfl (hb hby d2_152) rfl ((if0 _ _).trans (teq c80).2) ?_
                                    show Steps p.tables e below (T79.setTop (mkF m 155 #[.val (.int p0)] [])) _
                                    refine XS.iloadN X79.here hx rfl (hb hby d2_155) rfl ?_
                                    show Steps p.tables e below (T79.setTop (mkF m 156 #[.val (.int p0)] [(.int p0)])) _
                                    refine X79.ldcInt hx hown (mvT hZ (hw _ (List.mem_of_getElem? (i := 55) rfl))) (g := (mkF m 156 #[.val (.int p0)] [(.int p0)])) rfl (hb hby d2_156) _ ?_
                                    show Steps p.tables e below (T79.setTop (mkF m 158 #[.val (.int p0)] [(.int (786432 : Int32)), (.int p0)])) _
                                    refine X79.ldcInt hx hown (mvT hZ (hw _ (List.mem_of_getElem? (i := 56) rfl))) (g := (mkF m 158 #[.val (.int p0)] [(.int (786432 : Int32)), (.int p0)])) rfl (hb hby d2_158) _ ?_
                                    show Steps p.tables e below (T79.setTop (mkF m 160 #[.val (.int p0)] [(.int (851965 : Int32)), (.int (786432 : Int32)), (.int p0)])) _
                                    refine st81 _ ?_
                                    show Steps p.tables e below (T81.setTop (mkF m 163 #[.val (.int p0)] [(.int (F3 p0 (786432 : Int32) (851965 : Int32)))])) _
                                    refine XS.ifNo X81.here hx rfl (hb hby d2_163) rfl ((if0 _ _).trans (teq c82).2) ?_
                                    show Steps p.tables e below (T81.setTop (mkF m 166 #[.val (.int p0)] [])) _
                                    refine XS.iloadN X81.here hx rfl (hb hby d2_166) rfl ?_
                                    show Steps p.tables e below (T81.setTop (mkF m 167 #[.val (.int p0)] [(.int p0)])) _
                                    refine X81.ldcInt hx hown (mvT hZ (hw _ (List.mem_of_getElem? (i := 57) rfl))) (g := (mkF m 167 #[.val (.int p0)] [(.int p0)])) rfl (hb hby d2_167) _ ?_
                                    show Steps p.tables e below (T81.setTop (mkF m 169 #[.val (.int p0)] [(.int (851968 : Int32)), (.int p0)])) _
                                    refine X81.ldcInt hx hown (mvT hZ (hw _ (List.mem_of_getElem? (i := 8) rfl))) (g := (mkF m 169 #[.val (.int p0)] [(.int (851968 : Int32)), (.int p0)])) rfl (hb hby d2_169) _ ?_
                                    show Steps p.tables e below (T81.setTop (mkF m 171 #[.val (.int p0)] [(.int (917501 : Int32)), (.int (851968 : Int32)), (.int p0)])) _
                                    refine st83 _ ?_
                                    show Steps p.tables e below (T83.setTop (mkF m 174 #[.val (.int p0)] [(.int (F3 p0 (851968 : Int32) (917501 : Int32)))])) _
                                    refine XS.ifYes X83.here hx rfl (pc0 := 174) (pc' := 188) rfl (hb hby d2_174) rfl ((if0 _ _).trans (feq c84).2) (by decide) (by decide) ?_
                                    show Steps p.tables e below (T83.setTop (mkF m 188 #[.val (.int p0)] [])) _
                                    refine XS.iconst X83.here hx rfl (hb hby d2_188) ?_
                                    show Steps p.tables e below (T83.setTop (mkF m 189 #[.val (.int p0)] [(.int (1 : Int32))])) _
                                    refine XS.goto X83.here hx rfl (pc0 := 189) (pc' := 193) rfl (hb hby d2_189) (by decide) (by decide) ?_
                                    show Steps p.tables e below (T83.setTop (mkF m 193 #[.val (.int p0)] [(.int (1 : Int32))])) _
                                    exact retN X83 hx (t := .boolean) Bd.returns (by simp) (hb hby d2_193) hr
                                  · show Q2 Z p0 h0 n0 _ T83.heap _
                                    rw [e83]
                                    exact ⟨(congrArg (fun z => some (Value.int z)) ((if_pos c54).trans ((if_pos c56).trans ((if_pos c58).trans ((if_pos c60).trans ((if_pos c62).trans ((if_pos c64).trans ((if_pos c66).trans ((if_pos c68).trans ((if_pos c70).trans ((if_pos c72).trans ((if_pos c74).trans ((if_pos c76).trans ((if_pos c78).trans ((if_pos c80).trans ((if_pos c82).trans ((if_neg c84).trans rfl)))))))))))))))).symm), N83, rfl⟩
                              · obtain ⟨fs, hr, hrun, hended, hW, hsame⟩ := X81.leave (v := some (.int (1 : Int32))) (fun h => by rw [Bd.returns] at h; cases h)
                                refine ⟨_, _, pre0 _ ?_, hrun, hended, _, _, rfl, ?_, ⟨_, rfl⟩, hW, hsame.mono (by decide) (by decide)⟩
                                · show Steps p.tables e below (s₁.setTop (mkF m 0 #[.val (.int p0)] [])) _
                                  refine XS.iloadN X0.here hx rfl (hb hby d2_0) rfl ?_
                                  show Steps p.tables e below (s₁.setTop (mkF m 1 #[.val (.int p0)] [(.int p0)])) _
                                  refine XS.sipush X0.here hx rfl (hb hby d2_1) ?_
                                  show Steps p.tables e below (s₁.setTop (mkF m 4 #[.val (.int p0)] [(.int (160 : Int32)), (.int p0)])) _
                                  refine X0.ldcInt hx hown (mvT hZ (hw _ (List.mem_of_getElem? (i := 1) rfl))) (g := (mkF m 4 #[.val (.int p0)] [(.int (160 : Int32)), (.int p0)])) rfl (hb hby d2_4) _ ?_
                                  show Steps p.tables e below (s₁.setTop (mkF m 6 #[.val (.int p0)] [(.int (55295 : Int32)), (.int (160 : Int32)), (.int p0)])) _
                                  refine st53 _ ?_
                                  show Steps p.tables e below (T53.setTop (mkF m 9 #[.val (.int p0)] [(.int (F3 p0 (160 : Int32) (55295 : Int32)))])) _
                                  refine XS.ifNo X53.here hx rfl (hb hby d2_9) rfl ((if0 _ _).trans (teq c54).2) ?_
                                  show Steps p.tables e below (T53.setTop (mkF m 12 #[.val (.int p0)] [])) _
                                  refine XS.iloadN X53.here hx rfl (hb hby d2_12) rfl ?_
                                  show Steps p.tables e below (T53.setTop (mkF m 13 #[.val (.int p0)] [(.int p0)])) _
                                  refine X53.ldcInt hx hown (mvT hZ (hw _ (List.mem_of_getElem? (i := 2) rfl))) (g := (mkF m 13 #[.val (.int p0)] [(.int p0)])) rfl (hb hby d2_13) _ ?_
                                  show Steps p.tables e below (T53.setTop (mkF m 15 #[.val (.int p0)] [(.int (63744 : Int32)), (.int p0)])) _
                                  refine X53.ldcInt hx hown (mvT hZ (hw _ (List.mem_of_getElem? (i := 3) rfl))) (g := (mkF m 15 #[.val (.int p0)] [(.int (63744 : Int32)), (.int p0)])) rfl (hb hby d2_15) _ ?_
                                  show Steps p.tables e below (T53.setTop (mkF m 17 #[.val (.int p0)] [(.int (64975 : Int32)), (.int (63744 : Int32)), (.int p0)])) _
                                  refine st55 _ ?_
                                  show Steps p.tables e below (T55.setTop (mkF m 20 #[.val (.int p0)] [(.int (F3 p0 (63744 : Int32) (64975 : Int32)))])) _
                                  refine XS.ifNo X55.here hx rfl (hb hby d2_20) rfl ((if0 _ _).trans (teq c56).2) ?_
                                  show Steps p.tables e below (T55.setTop (mkF m 23 #[.val (.int p0)] [])) _
                                  refine XS.iloadN X55.here hx rfl (hb hby d2_23) rfl ?_
                                  show Steps p.tables e below (T55.setTop (mkF m 24 #[.val (.int p0)] [(.int p0)])) _
                                  refine X55.ldcInt hx hown (mvT hZ (hw _ (List.mem_of_getElem? (i := 4) rfl))) (g := (mkF m 24 #[.val (.int p0)] [(.int p0)])) rfl (hb hby d2_24) _ ?_
                                  show Steps p.tables e below (T55.setTop (mkF m 26 #[.val (.int p0)] [(.int (65008 : Int32)), (.int p0)])) _
                                  refine X55.ldcInt hx hown (mvT hZ (hw _ (List.mem_of_getElem? (i := 5) rfl))) (g := (mkF m 26 #[.val (.int p0)] [(.int (65008 : Int32)), (.int p0)])) rfl (hb hby d2_26) _ ?_
                                  show Steps p.tables e below (T55.setTop (mkF m 28 #[.val (.int p0)] [(.int (65519 : Int32)), (.int (65008 : Int32)), (.int p0)])) _
                                  refine st57 _ ?_
                                  show Steps p.tables e below (T57.setTop (mkF m 31 #[.val (.int p0)] [(.int (F3 p0 (65008 : Int32) (65519 : Int32)))])) _
                                  refine XS.ifNo X57.here hx rfl (hb hby d2_31) rfl ((if0 _ _).trans (teq c58).2) ?_
                                  show Steps p.tables e below (T57.setTop (mkF m 34 #[.val (.int p0)] [])) _
                                  refine XS.iloadN X57.here hx rfl (hb hby d2_34) rfl ?_
                                  show Steps p.tables e below (T57.setTop (mkF m 35 #[.val (.int p0)] [(.int p0)])) _
                                  refine X57.ldcInt hx hown (mvT hZ (hw _ (List.mem_of_getElem? (i := 6) rfl))) (g := (mkF m 35 #[.val (.int p0)] [(.int p0)])) rfl (hb hby d2_35) _ ?_
                                  show Steps p.tables e below (T57.setTop (mkF m 37 #[.val (.int p0)] [(.int (65536 : Int32)), (.int p0)])) _
                                  refine X57.ldcInt hx hown (mvT hZ (hw _ (List.mem_of_getElem? (i := 7) rfl))) (g := (mkF m 37 #[.val (.int p0)] [(.int (65536 : Int32)), (.int p0)])) rfl (hb hby d2_37) _ ?_
                                  show Steps p.tables e below (T57.setTop (mkF m 39 #[.val (.int p0)] [(.int (131069 : Int32)), (.int (65536 : Int32)), (.int p0)])) _
                                  refine st59 _ ?_
                                  show Steps p.tables e below (T59.setTop (mkF m 42 #[.val (.int p0)] [(.int (F3 p0 (65536 : Int32) (131069 : Int32)))])) _
                                  refine XS.ifNo X59.here hx rfl (hb hby d2_42) rfl ((if0 _ _).trans (teq c60).2) ?_
                                  show Steps p.tables e below (T59.setTop (mkF m 45 #[.val (.int p0)] [])) _
                                  refine XS.iloadN X59.here hx rfl (hb hby d2_45) rfl ?_
                                  show Steps p.tables e below (T59.setTop (mkF m 46 #[.val (.int p0)] [(.int p0)])) _
                                  refine X59.ldcInt hx hown (mvT hZ (hw _ (List.mem_of_getElem? (i := 35) rfl))) (g := (mkF m 46 #[.val (.int p0)] [(.int p0)])) rfl (hb hby d2_46) _ ?_
                                  show Steps p.tables e below (T59.setTop (mkF m 48 #[.val (.int p0)] [(.int (131072 : Int32)), (.int p0)])) _
                                  refine X59.ldcInt hx hown (mvT hZ (hw _ (List.mem_of_getElem? (i := 36) rfl))) (g := (mkF m 48 #[.val (.int p0)] [(.int (131072 : Int32)), (.int p0)])) rfl (hb hby d2_48) _ ?_
                                  show Steps p.tables e below (T59.setTop (mkF m 50 #[.val (.int p0)] [(.int (196605 : Int32)), (.int (131072 : Int32)), (.int p0)])) _
                                  refine st61 _ ?_
                                  show Steps p.tables e below (T61.setTop (mkF m 53 #[.val (.int p0)] [(.int (F3 p0 (131072 : Int32) (196605 : Int32)))])) _
                                  refine XS.ifNo X61.here hx rfl (hb hby d2_53) rfl ((if0 _ _).trans (teq c62).2) ?_
                                  show Steps p.tables e below (T61.setTop (mkF m 56 #[.val (.int p0)] [])) _
                                  refine XS.iloadN X61.here hx rfl (hb hby d2_56) rfl ?_
                                  show Steps p.tables e below (T61.setTop (mkF m 57 #[.val (.int p0)] [(.int p0)])) _
                                  refine X61.ldcInt hx hown (mvT hZ (hw _ (List.mem_of_getElem? (i := 37) rfl))) (g := (mkF m 57 #[.val (.int p0)] [(.int p0)])) rfl (hb hby d2_57) _ ?_
                                  show Steps p.tables e below (T61.setTop (mkF m 59 #[.val (.int p0)] [(.int (196608 : Int32)), (.int p0)])) _
                                  refine X61.ldcInt hx hown (mvT hZ (hw _ (List.mem_of_getElem? (i := 38) rfl))) (g := (mkF m 59 #[.val (.int p0)] [(.int (196608 : Int32)), (.int p0)])) rfl (hb hby d2_59) _ ?_
                                  show Steps p.tables e below (T61.setTop (mkF m 61 #[.val (.int p0)] [(.int (262141 : Int32)), (.int (196608 : Int32)), (.int p0)])) _
                                  refine st63 _ ?_
                                  show Steps p.tables e below (T63.setTop (mkF m 64 #[.val (.int p0)] [(.int (F3 p0 (196608 : Int32) (262141 : Int32)))])) _
                                  refine XS.ifNo X63.here hx rfl (hb hby d2_64) rfl ((if0 _ _).trans (teq c64).2) ?_
                                  show Steps p.tables e below (T63.setTop (mkF m 67 #[.val (.int p0)] [])) _
                                  refine XS.iloadN X63.here hx rfl (hb hby d2_67) rfl ?_
                                  show Steps p.tables e below (T63.setTop (mkF m 68 #[.val (.int p0)] [(.int p0)])) _
                                  refine X63.ldcInt hx hown (mvT hZ (hw _ (List.mem_of_getElem? (i := 39) rfl))) (g := (mkF m 68 #[.val (.int p0)] [(.int p0)])) rfl (hb hby d2_68) _ ?_
                                  show Steps p.tables e below (T63.setTop (mkF m 70 #[.val (.int p0)] [(.int (262144 : Int32)), (.int p0)])) _
                                  refine X63.ldcInt hx hown (mvT hZ (hw _ (List.mem_of_getElem? (i := 40) rfl))) (g := (mkF m 70 #[.val (.int p0)] [(.int (262144 : Int32)), (.int p0)])) rfl (hb hby d2_70) _ ?_
                                  show Steps p.tables e below (T63.setTop (mkF m 72 #[.val (.int p0)] [(.int (327677 : Int32)), (.int (262144 : Int32)), (.int p0)])) _
                                  refine st65 _ ?_
                                  show Steps p.tables e below (T65.setTop (mkF m 75 #[.val (.int p0)] [(.int (F3 p0 (262144 : Int32) (327677 : Int32)))])) _
                                  refine XS.ifNo X65.here hx rfl (hb hby d2_75) rfl ((if0 _ _).trans (teq c66).2) ?_
                                  show Steps p.tables e below (T65.setTop (mkF m 78 #[.val (.int p0)] [])) _
                                  refine XS.iloadN X65.here hx rfl (hb hby d2_78) rfl ?_
                                  show Steps p.tables e below (T65.setTop (mkF m 79 #[.val (.int p0)] [(.int p0)])) _
                                  refine X65.ldcInt hx hown (mvT hZ (hw _ (List.mem_of_getElem? (i := 41) rfl))) (g := (mkF m 79 #[.val (.int p0)] [(.int p0)])) rfl (hb hby d2_79) _ ?_
                                  show Steps p.tables e below (T65.setTop (mkF m 81 #[.val (.int p0)] [(.int (327680 : Int32)), (.int p0)])) _
                                  refine X65.ldcInt hx hown (mvT hZ (hw _ (List.mem_of_getElem? (i := 42) rfl))) (g := (mkF m 81 #[.val (.int p0)] [(.int (327680 : Int32)), (.int p0)])) rfl (hb hby d2_81) _ ?_
                                  show Steps p.tables e below (T65.setTop (mkF m 83 #[.val (.int p0)] [(.int (393213 : Int32)), (.int (327680 : Int32)), (.int p0)])) _
                                  refine st67 _ ?_
                                  show Steps p.tables e below (T67.setTop (mkF m 86 #[.val (.int p0)] [(.int (F3 p0 (327680 : Int32) (393213 : Int32)))])) _
                                  refine XS.ifNo X67.here hx rfl (hb hby d2_86) rfl ((if0 _ _).trans (teq c68).2) ?_
                                  show Steps p.tables e below (T67.setTop (mkF m 89 #[.val (.int p0)] [])) _
                                  refine XS.iloadN X67.here hx rfl (hb hby d2_89) rfl ?_
                                  show Steps p.tables e below (T67.setTop (mkF m 90 #[.val (.int p0)] [(.int p0)])) _
                                  refine X67.ldcInt hx hown (mvT hZ (hw _ (List.mem_of_getElem? (i := 43) rfl))) (g := (mkF m 90 #[.val (.int p0)] [(.int p0)])) rfl (hb hby d2_90) _ ?_
                                  show Steps p.tables e below (T67.setTop (mkF m 92 #[.val (.int p0)] [(.int (393216 : Int32)), (.int p0)])) _
                                  refine X67.ldcInt hx hown (mvT hZ (hw _ (List.mem_of_getElem? (i := 44) rfl))) (g := (mkF m 92 #[.val (.int p0)] [(.int (393216 : Int32)), (.int p0)])) rfl (hb hby d2_92) _ ?_
                                  show Steps p.tables e below (T67.setTop (mkF m 94 #[.val (.int p0)] [(.int (458749 : Int32)), (.int (393216 : Int32)), (.int p0)])) _
                                  refine st69 _ ?_
                                  show Steps p.tables e below (T69.setTop (mkF m 97 #[.val (.int p0)] [(.int (F3 p0 (393216 : Int32) (458749 : Int32)))])) _
                                  refine XS.ifNo X69.here hx rfl (hb hby d2_97) rfl ((if0 _ _).trans (teq c70).2) ?_
                                  show Steps p.tables e below (T69.setTop (mkF m 100 #[.val (.int p0)] [])) _
                                  refine XS.iloadN X69.here hx rfl (hb hby d2_100) rfl ?_
                                  show Steps p.tables e below (T69.setTop (mkF m 101 #[.val (.int p0)] [(.int p0)])) _
                                  refine X69.ldcInt hx hown (mvT hZ (hw _ (List.mem_of_getElem? (i := 45) rfl))) (g := (mkF m 101 #[.val (.int p0)] [(.int p0)])) rfl (hb hby d2_101) _ ?_
                                  show Steps p.tables e below (T69.setTop (mkF m 103 #[.val (.int p0)] [(.int (458752 : Int32)), (.int p0)])) _
                                  refine X69.ldcInt hx hown (mvT hZ (hw _ (List.mem_of_getElem? (i := 46) rfl))) (g := (mkF m 103 #[.val (.int p0)] [(.int (458752 : Int32)), (.int p0)])) rfl (hb hby d2_103) _ ?_
                                  show Steps p.tables e below (T69.setTop (mkF m 105 #[.val (.int p0)] [(.int (524285 : Int32)), (.int (458752 : Int32)), (.int p0)])) _
                                  refine st71 _ ?_
                                  show Steps p.tables e below (T71.setTop (mkF m 108 #[.val (.int p0)] [(.int (F3 p0 (458752 : Int32) (524285 : Int32)))])) _
                                  refine XS.ifNo X71.here hx rfl (hb hby d2_108) rfl ((if0 _ _).trans (teq c72).2) ?_
                                  show Steps p.tables e below (T71.setTop (mkF m 111 #[.val (.int p0)] [])) _
                                  refine XS.iloadN X71.here hx rfl (hb hby d2_111) rfl ?_
                                  show Steps p.tables e below (T71.setTop (mkF m 112 #[.val (.int p0)] [(.int p0)])) _
                                  refine X71.ldcInt hx hown (mvT hZ (hw _ (List.mem_of_getElem? (i := 47) rfl))) (g := (mkF m 112 #[.val (.int p0)] [(.int p0)])) rfl (hb hby d2_112) _ ?_
                                  show Steps p.tables e below (T71.setTop (mkF m 114 #[.val (.int p0)] [(.int (524288 : Int32)), (.int p0)])) _
                                  refine X71.ldcInt hx hown (mvT hZ (hw _ (List.mem_of_getElem? (i := 48) rfl))) (g := (mkF m 114 #[.val (.int p0)] [(.int (524288 : Int32)), (.int p0)])) rfl (hb hby d2_114) _ ?_
                                  show Steps p.tables e below (T71.setTop (mkF m 116 #[.val (.int p0)] [(.int (589821 : Int32)), (.int (524288 : Int32)), (.int p0)])) _
                                  refine st73 _ ?_
                                  show Steps p.tables e below (T73.setTop (mkF m 119 #[.val (.int p0)] [(.int (F3 p0 (524288 : Int32) (589821 : Int32)))])) _
                                  refine XS.ifNo X73.here hx rfl (hb hby d2_119) rfl ((if0 _ _).trans (teq c74).2) ?_
                                  show Steps p.tables e below (T73.setTop (mkF m 122 #[.val (.int p0)] [])) _
                                  refine XS.iloadN X73.here hx rfl (hb hby d2_122) rfl ?_
                                  show Steps p.tables e below (T73.setTop (mkF m 123 #[.val (.int p0)] [(.int p0)])) _
                                  refine X73.ldcInt hx hown (mvT hZ (hw _ (List.mem_of_getElem? (i := 49) rfl))) (g := (mkF m 123 #[.val (.int p0)] [(.int p0)])) rfl (hb hby d2_123) _ ?_
                                  show Steps p.tables e below (T73.setTop (mkF m 125 #[.val (.int p0)] [(.int (589824 : Int32)), (.int p0)])) _
                                  refine X73.ldcInt hx hown (mvT hZ (hw _ (List.mem_of_getElem? (i := 50) rfl))) (g := (mkF m 125 #[.val (.int p0)] [(.int (589824 : Int32)), (.int p0)])) rfl (hb hby d2_125) _ ?_
                                  show Steps p.tables e below (T73.setTop (mkF m 127 #[.val (.int p0)] [(.int (655357 : Int32)), (.int (589824 : Int32)), (.int p0)])) _
                                  refine st75 _ ?_
                                  show Steps p.tables e below (T75.setTop (mkF m 130 #[.val (.int p0)] [(.int (F3 p0 (589824 : Int32) (655357 : Int32)))])) _
                                  refine XS.ifNo X75.here hx rfl (hb hby d2_130) rfl ((if0 _ _).trans (teq c76).2) ?_
                                  show Steps p.tables e below (T75.setTop (mkF m 133 #[.val (.int p0)] [])) _
                                  refine XS.iloadN X75.here hx rfl (hb hby d2_133) rfl ?_
                                  show Steps p.tables e below (T75.setTop (mkF m 134 #[.val (.int p0)] [(.int p0)])) _
                                  refine X75.ldcInt hx hown (mvT hZ (hw _ (List.mem_of_getElem? (i := 51) rfl))) (g := (mkF m 134 #[.val (.int p0)] [(.int p0)])) rfl (hb hby d2_134) _ ?_
                                  show Steps p.tables e below (T75.setTop (mkF m 136 #[.val (.int p0)] [(.int (655360 : Int32)), (.int p0)])) _
                                  refine X75.ldcInt hx hown (mvT hZ (hw _ (List.mem_of_getElem? (i := 52) rfl))) (g := (mkF m 136 #[.val (.int p0)] [(.int (655360 : Int32)), (.int p0)])) rfl (hb hby d2_136) _ ?_
                                  show Steps p.tables e below (T75.setTop (mkF m 138 #[.val (.int p0)] [(.int (720893 : Int32)), (.int (655360 : Int32)), (.int p0)])) _
                                  refine st77 _ ?_
                                  show Steps p.tables e below (T77.setTop (mkF m 141 #[.val (.int p0)] [(.int (F3 p0 (655360 : Int32) (720893 : Int32)))])) _
                                  refine XS.ifNo X77.here hx rfl (hb hby d2_141) rfl ((if0 _ _).trans (teq c78).2) ?_
                                  show Steps p.tables e below (T77.setTop (mkF m 144 #[.val (.int p0)] [])) _
                                  refine XS.iloadN X77.here hx rfl (hb hby d2_144) rfl ?_
                                  show Steps p.tables e below (T77.setTop (mkF m 145 #[.val (.int p0)] [(.int p0)])) _
                                  refine X77.ldcInt hx hown (mvT hZ (hw _ (List.mem_of_getElem? (i := 53) rfl))) (g := (mkF m 145 #[.val (.int p0)] [(.int p0)])) rfl (hb hby d2_145) _ ?_
                                  show Steps p.tables e below (T77.setTop (mkF m 147 #[.val (.int p0)] [(.int (720896 : Int32)), (.int p0)])) _
                                  refine X77.ldcInt hx hown (mvT hZ (hw _ (List.mem_of_getElem? (i := 54) rfl))) (g := (mkF m 147 #[.val (.int p0)] [(.int (720896 : Int32)), (.int p0)])) rfl (hb hby d2_147) _ ?_
                                  show Steps p.tables e below (T77.setTop (mkF m 149 #[.val (.int p0)] [(.int (786429 : Int32)), (.int (720896 : Int32)), (.int p0)])) _
                                  refine st79 _ ?_
                                  show Steps p.tables e below (T79.setTop (mkF m 152 #[.val (.int p0)] [(.int (F3 p0 (720896 : Int32) (786429 : Int32)))])) _
                                  refine XS.ifNo X79.here hx rfl (hb hby d2_152) rfl ((if0 _ _).trans (teq c80).2) ?_
                                  show Steps p.tables e below (T79.setTop (mkF m 155 #[.val (.int p0)] [])) _
                                  refine XS.iloadN X79.here hx rfl (hb hby d2_155) rfl ?_
                                  show Steps p.tables e below (T79.setTop (mkF m 156 #[.val (.int p0)] [(.int p0)])) _
                                  refine X79.ldcInt hx hown (mvT hZ (hw _ (List.mem_of_getElem? (i := 55) rfl))) (g := (mkF m 156 #[.val (.int p0)] [(.int p0)])) rfl (hb hby d2_156) _ ?_
                                  show Steps p.tables e below (T79.setTop (mkF m 158 #[.val (.int p0)] [(.int (786432 : Int32)), (.int p0)])) _
                                  refine X79.ldcInt hx hown (mvT hZ (hw _ (List.mem_of_getElem? (i := 56) rfl))) (g := (mkF m 158 #[.val (.int p0)] [(.int (786432 : Int32)), (.int p0)])) rfl (hb hby d2_158) _ ?_
                                  show Steps p.tables e below (T79.setTop (mkF m 160 #[.val (.int p0)] [(.int (851965 : Int32)), (.int (786432 : Int32)), (.int p0)])) _
                                  refine st81 _ ?_
                                  show Steps p.tables e below (T81.setTop (mkF m 163 #[.val (.int p0)] [(.int (F3 p0 (786432 : Int32) (851965 : Int32)))])) _
                                  refine XS.ifYes X81.here hx rfl (pc0 := 163) (pc' := 188) rfl (hb hby d2_163) rfl ((if0 _ _).trans (feq c82).2) (by decide) (by decide) ?_
                                  show Steps p.tables e below (T81.setTop (mkF m 188 #[.val (.int p0)] [])) _
                                  refine XS.iconst X81.here hx rfl (hb hby d2_188) ?_
                                  show Steps p.tables e below (T81.setTop (mkF m 189 #[.val (.int p0)] [(.int (1 : Int32))])) _
                                  refine XS.goto X81.here hx rfl (pc0 := 189) (pc' := 193) rfl (hb hby d2_189) (by decide) (by decide) ?_
                                  show Steps p.tables e below (T81.setTop (mkF m 193 #[.val (.int p0)] [(.int (1 : Int32))])) _
                                  exact retN X81 hx (t := .boolean) Bd.returns (by simp) (hb hby d2_193) hr
                                · show Q2 Z p0 h0 n0 _ T81.heap _
                                  rw [e81]
                                  exact ⟨(congrArg (fun z => some (Value.int z)) ((if_pos c54).trans ((if_pos c56).trans ((if_pos c58).trans ((if_pos c60).trans ((if_pos c62).trans ((if_pos c64).trans ((if_pos c66).trans ((if_pos c68).trans ((if_pos c70).trans ((if_pos c72).trans ((if_pos c74).trans ((if_pos c76).trans ((if_pos c78).trans ((if_pos c80).trans ((if_neg c82).trans rfl))))))))))))))).symm), N81, rfl⟩
                            · obtain ⟨fs, hr, hrun, hended, hW, hsame⟩ := X79.leave (v := some (.int (1 : Int32))) (fun h => by rw [Bd.returns] at h; cases h)
                              refine ⟨_, _, pre0 _ ?_, hrun, hended, _, _, rfl, ?_, ⟨_, rfl⟩, hW, hsame.mono (by decide) (by decide)⟩
                              · show Steps p.tables e below (s₁.setTop (mkF m 0 #[.val (.int p0)] [])) _
                                refine XS.iloadN X0.here hx rfl (hb hby d2_0) rfl ?_
                                show Steps p.tables e below (s₁.setTop (mkF m 1 #[.val (.int p0)] [(.int p0)])) _
                                refine XS.sipush X0.here hx rfl (hb hby d2_1) ?_
                                show Steps p.tables e below (s₁.setTop (mkF m 4 #[.val (.int p0)] [(.int (160 : Int32)), (.int p0)])) _
                                refine X0.ldcInt hx hown (mvT hZ (hw _ (List.mem_of_getElem? (i := 1) rfl))) (g := (mkF m 4 #[.val (.int p0)] [(.int (160 : Int32)), (.int p0)])) rfl (hb hby d2_4) _ ?_
                                show Steps p.tables e below (s₁.setTop (mkF m 6 #[.val (.int p0)] [(.int (55295 : Int32)), (.int (160 : Int32)), (.int p0)])) _
                                refine st53 _ ?_
                                show Steps p.tables e below (T53.setTop (mkF m 9 #[.val (.int p0)] [(.int (F3 p0 (160 : Int32) (55295 : Int32)))])) _
                                refine XS.ifNo X53.here hx rfl (hb hby d2_9) rfl ((if0 _ _).trans (teq c54).2) ?_
                                show Steps p.tables e below (T53.setTop (mkF m 12 #[.val (.int p0)] [])) _
                                refine XS.iloadN X53.here hx rfl (hb hby d2_12) rfl ?_
                                show Steps p.tables e below (T53.setTop (mkF m 13 #[.val (.int p0)] [(.int p0)])) _
                                refine X53.ldcInt hx hown (mvT hZ (hw _ (List.mem_of_getElem? (i := 2) rfl))) (g := (mkF m 13 #[.val (.int p0)] [(.int p0)])) rfl (hb hby d2_13) _ ?_
                                show Steps p.tables e below (T53.setTop (mkF m 15 #[.val (.int p0)] [(.int (63744 : Int32)), (.int p0)])) _
                                refine X53.ldcInt hx hown (mvT hZ (hw _ (List.mem_of_getElem? (i := 3) rfl))) (g := (mkF m 15 #[.val (.int p0)] [(.int (63744 : Int32)), (.int p0)])) rfl (hb hby d2_15) _ ?_
                                show Steps p.tables e below (T53.setTop (mkF m 17 #[.val (.int p0)] [(.int (64975 : Int32)), (.int (63744 : Int32)), (.int p0)])) _
                                refine st55 _ ?_
                                show Steps p.tables e below (T55.setTop (mkF m 20 #[.val (.int p0)] [(.int (F3 p0 (63744 : Int32) (64975 : Int32)))])) _
                                refine XS.ifNo X55.here hx rfl (hb hby d2_20) rfl ((if0 _ _).trans (teq c56).2) ?_
                                show Steps p.tables e below (T55.setTop (mkF m 23 #[.val (.int p0)] [])) _
                                refine XS.iloadN X55.here hx rfl (hb hby d2_23) rfl ?_
                                show Steps p.tables e below (T55.setTop (mkF m 24 #[.val (.int p0)] [(.int p0)])) _
                                refine X55.ldcInt hx hown (mvT hZ (hw _ (List.mem_of_getElem? (i := 4) rfl))) (g := (mkF m 24 #[.val (.int p0)] [(.int p0)])) rfl (hb hby d2_24) _ ?_
                                show Steps p.tables e below (T55.setTop (mkF m 26 #[.val (.int p0)] [(.int (65008 : Int32)), (.int p0)])) _
                                refine X55.ldcInt hx hown (mvT hZ (hw _ (List.mem_of_getElem? (i := 5) rfl))) (g := (mkF m 26 #[.val (.int p0)] [(.int (65008 : Int32)), (.int p0)])) rfl (hb hby d2_26) _ ?_
                                show Steps p.tables e below (T55.setTop (mkF m 28 #[.val (.int p0)] [(.int (65519 : Int32)), (.int (65008 : Int32)), (.int p0)])) _
                                refine st57 _ ?_
                                show Steps p.tables e below (T57.setTop (mkF m 31 #[.val (.int p0)] [(.int (F3 p0 (65008 : Int32) (65519 : Int32)))])) _
                                refine XS.ifNo X57.here hx rfl (hb hby d2_31) rfl ((if0 _ _).trans (teq c58).2) ?_
                                show Steps p.tables e below (T57.setTop (mkF m 34 #[.val (.int p0)] [])) _
                                refine XS.iloadN X57.here hx rfl (hb hby d2_34) rfl ?_
                                show Steps p.tables e below (T57.setTop (mkF m 35 #[.val (.int p0)] [(.int p0)])) _
                                refine X57.ldcInt hx hown (mvT hZ (hw _ (List.mem_of_getElem? (i := 6) rfl))) (g := (mkF m 35 #[.val (.int p0)] [(.int p0)])) rfl (hb hby d2_35) _ ?_
                                show Steps p.tables e below (T57.setTop (mkF m 37 #[.val (.int p0)] [(.int (65536 : Int32)), (.int p0)])) _
                                refine X57.ldcInt hx hown (mvT hZ (hw _ (List.mem_of_getElem? (i := 7) rfl))) (g := (mkF m 37 #[.val (.int p0)] [(.int (65536 : Int32)), (.int p0)])) rfl (hb hby d2_37) _ ?_
                                show Steps p.tables e below (T57.setTop (mkF m 39 #[.val (.int p0)] [(.int (131069 : Int32)), (.int (65536 : Int32)), (.int p0)])) _
                                refine st59 _ ?_
                                show Steps p.tables e below (T59.setTop (mkF m 42 #[.val (.int p0)] [(.int (F3 p0 (65536 : Int32) (131069 : Int32)))])) _
                                refine XS.ifNo X59.here hx rfl (hb hby d2_42) rfl ((if0 _ _).trans (teq c60).2) ?_
                                show Steps p.tables e below (T59.setTop (mkF m 45 #[.val (.int p0)] [])) _
                                refine XS.iloadN X59.here hx rfl (hb hby d2_45) rfl ?_
                                show Steps p.tables e below (T59.setTop (mkF m 46 #[.val (.int p0)] [(.int p0)])) _
                                refine X59.ldcInt hx hown (mvT hZ (hw _ (List.mem_of_getElem? (i := 35) rfl))) (g := (mkF m 46 #[.val (.int p0)] [(.int p0)])) rfl (hb hby d2_46) _ ?_
                                show Steps p.tables e below (T59.setTop (mkF m 48 #[.val (.int p0)] [(.int (131072 : Int32)), (.int p0)])) _
                                refine X59.ldcInt hx hown (mvT hZ (hw _ (List.mem_of_getElem? (i := 36) rfl))) (g := (mkF m 48 #[.val (.int p0)] [(.int (131072 : Int32)), (.int p0)])) rfl (hb hby d2_48) _ ?_
                                show Steps p.tables e below (T59.setTop (mkF m 50 #[.val (.int p0)] [(.int (196605 : Int32)), (.int (131072 : Int32)), (.int p0)])) _
                                refine st61 _ ?_
                                show Steps p.tables e below (T61.setTop (mkF m 53 #[.val (.int p0)] [(.int (F3 p0 (131072 : Int32) (196605 : Int32)))])) _
                                refine XS.ifNo X61.here hx rfl (hb hby d2_53) rfl ((if0 _ _).trans (teq c62).2) ?_
                                show Steps p.tables e below (T61.setTop (mkF m 56 #[.val (.int p0)] [])) _
                                refine XS.iloadN X61.here hx rfl (hb hby d2_56) rfl ?_
                                show Steps p.tables e below (T61.setTop (mkF m 57 #[.val (.int p0)] [(.int p0)])) _
                                refine X61.ldcInt hx hown (mvT hZ (hw _ (List.mem_of_getElem? (i := 37) rfl))) (g := (mkF m 57 #[.val (.int p0)] [(.int p0)])) rfl (hb hby d2_57) _ ?_
                                show Steps p.tables e below (T61.setTop (mkF m 59 #[.val (.int p0)] [(.int (196608 : Int32)), (.int p0)])) _
                                refine X61.ldcInt hx hown (mvT hZ (hw _ (List.mem_of_getElem? (i := 38) rfl))) (g := (mkF m 59 #[.val (.int p0)] [(.int (196608 : Int32)), (.int p0)])) rfl (hb hby d2_59) _ ?_
                                show Steps p.tables e below (T61.setTop (mkF m 61 #[.val (.int p0)] [(.int (262141 : Int32)), (.int (196608 : Int32)), (.int p0)])) _
                                refine st63 _ ?_
                                show Steps p.tables e below (T63.setTop (mkF m 64 #[.val (.int p0)] [(.int (F3 p0 (196608 : Int32) (262141 : Int32)))])) _
                                refine XS.ifNo X63.here hx rfl (hb hby d2_64) rfl ((if0 _ _).trans (teq c64).2) ?_
                                show Steps p.tables e below (T63.setTop (mkF m 67 #[.val (.int p0)] [])) _
                                refine XS.iloadN X63.here hx rfl (hb hby d2_67) rfl ?_
                                show Steps p.tables e below (T63.setTop (mkF m 68 #[.val (.int p0)] [(.int p0)])) _
                                refine X63.ldcInt hx hown (mvT hZ (hw _ (List.mem_of_getElem? (i := 39) rfl))) (g := (mkF m 68 #[.val (.int p0)] [(.int p0)])) rfl (hb hby d2_68) _ ?_
                                show Steps p.tables e below (T63.setTop (mkF m 70 #[.val (.int p0)] [(.int (262144 : Int32)), (.int p0)])) _
                                refine X63.ldcInt hx hown (mvT hZ (hw _ (List.mem_of_getElem? (i := 40) rfl))) (g := (mkF m 70 #[.val (.int p0)] [(.int (262144 : Int32)), (.int p0)])) rfl (hb hby d2_70) _ ?_
                                show Steps p.tables e below (T63.setTop (mkF m 72 #[.val (.int p0)] [(.int (327677 : Int32)), (.int (262144 : Int32)), (.int p0)])) _
                                refine st65 _ ?_
                                show Steps p.tables e below (T65.setTop (mkF m 75 #[.val (.int p0)] [(.int (F3 p0 (262144 : Int32) (327677 : Int32)))])) _
                                refine XS.ifNo X65.here hx rfl (hb hby d2_75) rfl ((if0 _ _).trans (teq c66).2) ?_
                                show Steps p.tables e below (T65.setTop (mkF m 78 #[.val (.int p0)] [])) _
                                refine XS.iloadN X65.here hx rfl (hb hby d2_78) rfl ?_
                                show Steps p.tables e below (T65.setTop (mkF m 79 #[.val (.int p0)] [(.int p0)])) _
                                refine X65.ldcInt hx hown (mvT hZ (hw _ (List.mem_of_getElem? (i := 41) rfl))) (g := (mkF m 79 #[.val (.int p0)] [(.int p0)])) rfl (hb hby d2_79) _ ?_
                                show Steps p.tables e below (T65.setTop (mkF m 81 #[.val (.int p0)] [(.int (327680 : Int32)), (.int p0)])) _
                                refine X65.ldcInt hx hown (mvT hZ (hw _ (List.mem_of_getElem? (i := 42) rfl))) (g := (mkF m 81 #[.val (.int p0)] [(.int (327680 : Int32)), (.int p0)])) rfl (hb hby d2_81) _ ?_
                                show Steps p.tables e below (T65.setTop (mkF m 83 #[.val (.int p0)] [(.int (393213 : Int32)), (.int (327680 : Int32)), (.int p0)])) _
                                refine st67 _ ?_
                                show Steps p.tables e below (T67.setTop (mkF m 86 #[.val (.int p0)] [(.int (F3 p0 (327680 : Int32) (393213 : Int32)))])) _
                                refine XS.ifNo X67.here hx rfl (hb hby d2_86) rfl ((if0 _ _).trans (teq c68).2) ?_
                                show Steps p.tables e below (T67.setTop (mkF m 89 #[.val (.int p0)] [])) _
                                refine XS.iloadN X67.here hx rfl (hb hby d2_89) rfl ?_
                                show Steps p.tables e below (T67.setTop (mkF m 90 #[.val (.int p0)] [(.int p0)])) _
                                refine X67.ldcInt hx hown (mvT hZ (hw _ (List.mem_of_getElem? (i := 43) rfl))) (g := (mkF m 90 #[.val (.int p0)] [(.int p0)])) rfl (hb hby d2_90) _ ?_
                                show Steps p.tables e below (T67.setTop (mkF m 92 #[.val (.int p0)] [(.int (393216 : Int32)), (.int p0)])) _
                                refine X67.ldcInt hx hown (mvT hZ (hw _ (List.mem_of_getElem? (i := 44) rfl))) (g := (mkF m 92 #[.val (.int p0)] [(.int (393216 : Int32)), (.int p0)])) rfl (hb hby d2_92) _ ?_
                                show Steps p.tables e below (T67.setTop (mkF m 94 #[.val (.int p0)] [(.int (458749 : Int32)), (.int (393216 : Int32)), (.int p0)])) _
                                refine st69 _ ?_
                                show Steps p.tables e below (T69.setTop (mkF m 97 #[.val (.int p0)] [(.int (F3 p0 (393216 : Int32) (458749 : Int32)))])) _
                                refine XS.ifNo X69.here hx rfl (hb hby d2_97) rfl ((if0 _ _).trans (teq c70).2) ?_
                                show Steps p.tables e below (T69.setTop (mkF m 100 #[.val (.int p0)] [])) _
                                refine XS.iloadN X69.here hx rfl (hb hby d2_100) rfl ?_
                                show Steps p.tables e below (T69.setTop (mkF m 101 #[.val (.int p0)] [(.int p0)])) _
                                refine X69.ldcInt hx hown (mvT hZ (hw _ (List.mem_of_getElem? (i := 45) rfl))) (g := (mkF m 101 #[.val (.int p0)] [(.int p0)])) rfl (hb hby d2_101) _ ?_
                                show Steps p.tables e below (T69.setTop (mkF m 103 #[.val (.int p0)] [(.int (458752 : Int32)), (.int p0)])) _
                                refine X69.ldcInt hx hown (mvT hZ (hw _ (List.mem_of_getElem? (i := 46) rfl))) (g := (mkF m 103 #[.val (.int p0)] [(.int (458752 : Int32)), (.int p0)])) rfl (hb hby d2_103) _ ?_
                                show Steps p.tables e below (T69.setTop (mkF m 105 #[.val (.int p0)] [(.int (524285 : Int32)), (.int (458752 : Int32)), (.int p0)])) _
                                refine st71 _ ?_
                                show Steps p.tables e below (T71.setTop (mkF m 108 #[.val (.int p0)] [(.int (F3 p0 (458752 : Int32) (524285 : Int32)))])) _
                                refine XS.ifNo X71.here hx rfl (hb hby d2_108) rfl ((if0 _ _).trans (teq c72).2) ?_
                                show Steps p.tables e below (T71.setTop (mkF m 111 #[.val (.int p0)] [])) _
                                refine XS.iloadN X71.here hx rfl (hb hby d2_111) rfl ?_
                                show Steps p.tables e below (T71.setTop (mkF m 112 #[.val (.int p0)] [(.int p0)])) _
                                refine X71.ldcInt hx hown (mvT hZ (hw _ (List.mem_of_getElem? (i := 47) rfl))) (g := (mkF m 112 #[.val (.int p0)] [(.int p0)])) rfl (hb hby d2_112) _ ?_
                                show Steps p.tables e below (T71.setTop (mkF m 114 #[.val (.int p0)] [(.int (524288 : Int32)), (.int p0)])) _
                                refine X71.ldcInt hx hown (mvT hZ (hw _ (List.mem_of_getElem? (i := 48) rfl))) (g := (mkF m 114 #[.val (.int p0)] [(.int (524288 : Int32)), (.int p0)])) rfl (hb hby d2_114) _ ?_
                                show Steps p.tables e below (T71.setTop (mkF m 116 #[.val (.int p0)] [(.int (589821 : Int32)), (.int (524288 : Int32)), (.int p0)])) _
                                refine st73 _ ?_
                                show Steps p.tables e below (T73.setTop (mkF m 119 #[.val (.int p0)] [(.int (F3 p0 (524288 : Int32) (589821 : Int32)))])) _
                                refine XS.ifNo X73.here hx rfl (hb hby d2_119) rfl ((if0 _ _).trans (teq c74).2) ?_
                                show Steps p.tables e below (T73.setTop (mkF m 122 #[.val (.int p0)] [])) _
                                refine XS.iloadN X73.here hx rfl (hb hby d2_122) rfl ?_
                                show Steps p.tables e below (T73.setTop (mkF m 123 #[.val (.int p0)] [(.int p0)])) _
                                refine X73.ldcInt hx hown (mvT hZ (hw _ (List.mem_of_getElem? (i := 49) rfl))) (g := (mkF m 123 #[.val (.int p0)] [(.int p0)])) rfl (hb hby d2_123) _ ?_
                                show Steps p.tables e below (T73.setTop (mkF m 125 #[.val (.int p0)] [(.int (589824 : Int32)), (.int p0)])) _
                                refine X73.ldcInt hx hown (mvT hZ (hw _ (List.mem_of_getElem? (i := 50) rfl))) (g := (mkF m 125 #[.val (.int p0)] [(.int (589824 : Int32)), (.int p0)])) rfl (hb hby d2_125) _ ?_
                                show Steps p.tables e below (T73.setTop (mkF m 127 #[.val (.int p0)] [(.int (655357 : Int32)), (.int (589824 : Int32)), (.int p0)])) _
                                refine st75 _ ?_
                                show Steps p.tables e below (T75.setTop (mkF m 130 #[.val (.int p0)] [(.int (F3 p0 (589824 : Int32) (655357 : Int32)))])) _
                                refine XS.ifNo X75.here hx rfl (hb hby d2_130) rfl ((if0 _ _).trans (teq c76).2) ?_
                                show Steps p.tables e below (T75.setTop (mkF m 133 #[.val (.int p0)] [])) _
                                refine XS.iloadN X75.here hx rfl (hb hby d2_133) rfl ?_
                                show Steps p.tables e below (T75.setTop (mkF m 134 #[.val (.int p0)] [(.int p0)])) _
                                refine X75.ldcInt hx hown (mvT hZ (hw _ (List.mem_of_getElem? (i := 51) rfl))) (g := (mkF m 134 #[.val (.int p0)] [(.int p0)])) rfl (hb hby d2_134) _ ?_
                                show Steps p.tables e below (T75.setTop (mkF m 136 #[.val (.int p0)] [(.int (655360 : Int32)), (.int p0)])) _
                                refine X75.ldcInt hx hown (mvT hZ (hw _ (List.mem_of_getElem? (i := 52) rfl))) (g := (mkF m 136 #[.val (.int p0)] [(.int (655360 : Int32)), (.int p0)])) rfl (hb hby d2_136) _ ?_
                                show Steps p.tables e below (T75.setTop (mkF m 138 #[.val (.int p0)] [(.int (720893 : Int32)), (.int (655360 : Int32)), (.int p0)])) _
                                refine st77 _ ?_
                                show Steps p.tables e below (T77.setTop (mkF m 141 #[.val (.int p0)] [(.int (F3 p0 (655360 : Int32) (720893 : Int32)))])) _
                                refine XS.ifNo X77.here hx rfl (hb hby d2_141) rfl ((if0 _ _).trans (teq c78).2) ?_
                                show Steps p.tables e below (T77.setTop (mkF m 144 #[.val (.int p0)] [])) _
                                refine XS.iloadN X77.here hx rfl (hb hby d2_144) rfl ?_
                                show Steps p.tables e below (T77.setTop (mkF m 145 #[.val (.int p0)] [(.int p0)])) _
                                refine X77.ldcInt hx hown (mvT hZ (hw _ (List.mem_of_getElem? (i := 53) rfl))) (g := (mkF m 145 #[.val (.int p0)] [(.int p0)])) rfl (hb hby d2_145) _ ?_
                                show Steps p.tables e below (T77.setTop (mkF m 147 #[.val (.int p0)] [(.int (720896 : Int32)), (.int p0)])) _
                                refine X77.ldcInt hx hown (mvT hZ (hw _ (List.mem_of_getElem? (i := 54) rfl))) (g := (mkF m 147 #[.val (.int p0)] [(.int (720896 : Int32)), (.int p0)])) rfl (hb hby d2_147) _ ?_
                                show Steps p.tables e below (T77.setTop (mkF m 149 #[.val (.int p0)] [(.int (786429 : Int32)), (.int (720896 : Int32)), (.int p0)])) _
                                refine st79 _ ?_
                                show Steps p.tables e below (T79.setTop (mkF m 152 #[.val (.int p0)] [(.int (F3 p0 (720896 : Int32) (786429 : Int32)))])) _
                                refine XS.ifYes X79.here hx rfl (pc0 := 152) (pc' := 188) rfl (hb hby d2_152) rfl ((if0 _ _).trans (feq c80).2) (by decide) (by decide) ?_
                                show Steps p.tables e below (T79.setTop (mkF m 188 #[.val (.int p0)] [])) _
                                refine XS.iconst X79.here hx rfl (hb hby d2_188) ?_
                                show Steps p.tables e below (T79.setTop (mkF m 189 #[.val (.int p0)] [(.int (1 : Int32))])) _
                                refine XS.goto X79.here hx rfl (pc0 := 189) (pc' := 193) rfl (hb hby d2_189) (by decide) (by decide) ?_
                                show Steps p.tables e below (T79.setTop (mkF m 193 #[.val (.int p0)] [(.int (1 : Int32))])) _
                                exact retN X79 hx (t := .boolean) Bd.returns (by simp) (hb hby d2_193) hr
                              · show Q2 Z p0 h0 n0 _ T79.heap _
                                rw [e79]
                                exact ⟨(congrArg (fun z => some (Value.int z)) ((if_pos c54).trans ((if_pos c56).trans ((if_pos c58).trans ((if_pos c60).trans ((if_pos c62).trans ((if_pos c64).trans ((if_pos c66).trans ((if_pos c68).trans ((if_pos c70).trans ((if_pos c72).trans ((if_pos c74).trans ((if_pos c76).trans ((if_pos c78).trans ((if_neg c80).trans rfl)))))))))))))).symm), N79, rfl⟩
                          · obtain ⟨fs, hr, hrun, hended, hW, hsame⟩ := X77.leave (v := some (.int (1 : Int32))) (fun h => by rw [Bd.returns] at h; cases h)
                            refine ⟨_, _, pre0 _ ?_, hrun, hended, _, _, rfl, ?_, ⟨_, rfl⟩, hW, hsame.mono (by decide) (by decide)⟩
                            · show Steps p.tables e below (s₁.setTop (mkF m 0 #[.val (.int p0)] [])) _
                              refine XS.iloadN X0.here hx rfl (hb hby d2_0) rfl ?_
                              show Steps p.tables e below (s₁.setTop (mkF m 1 #[.val (.int p0)] [(.int p0)])) _
                              refine XS.sipush X0.here hx rfl (hb hby d2_1) ?_
                              show Steps p.tables e below (s₁.setTop (mkF m 4 #[.val (.int p0)] [(.int (160 : Int32)), (.int p0)])) _
                              refine X0.ldcInt hx hown (mvT hZ (hw _ (List.mem_of_getElem? (i := 1) rfl))) (g := (mkF m 4 #[.val (.int p0)] [(.int (160 : Int32)), (.int p0)])) rfl (hb hby d2_4) _ ?_
                              show Steps p.tables e below (s₁.setTop (mkF m 6 #[.val (.int p0)] [(.int (55295 : Int32)), (.int (160 : Int32)), (.int p0)])) _
                              refine st53 _ ?_
                              show Steps p.tables e below (T53.setTop (mkF m 9 #[.val (.int p0)] [(.int (F3 p0 (160 : Int32) (55295 : Int32)))])) _
                              refine XS.ifNo X53.here hx rfl (hb hby d2_9) rfl ((if0 _ _).trans (teq c54).2) ?_
                              show Steps p.tables e below (T53.setTop (mkF m 12 #[.val (.int p0)] [])) _
                              refine XS.iloadN X53.here hx rfl (hb hby d2_12) rfl ?_
                              show Steps p.tables e below (T53.setTop (mkF m 13 #[.val (.int p0)] [(.int p0)])) _
                              refine X53.ldcInt hx hown (mvT hZ (hw _ (List.mem_of_getElem? (i := 2) rfl))) (g := (mkF m 13 #[.val (.int p0)] [(.int p0)])) rfl (hb hby d2_13) _ ?_
                              show Steps p.tables e below (T53.setTop (mkF m 15 #[.val (.int p0)] [(.int (63744 : Int32)), (.int p0)])) _
                              refine X53.ldcInt hx hown (mvT hZ (hw _ (List.mem_of_getElem? (i := 3) rfl))) (g := (mkF m 15 #[.val (.int p0)] [(.int (63744 : Int32)), (.int p0)])) rfl (hb hby d2_15) _ ?_
                              show Steps p.tables e below (T53.setTop (mkF m 17 #[.val (.int p0)] [(.int (64975 : Int32)), (.int (63744 : Int32)), (.int p0)])) _
                              refine st55 _ ?_
                              show Steps p.tables e below (T55.setTop (mkF m 20 #[.val (.int p0)] [(.int (F3 p0 (63744 : Int32) (64975 : Int32)))])) _
                              refine XS.ifNo X55.here hx rfl (hb hby d2_20) rfl ((if0 _ _).trans (teq c56).2) ?_
                              show Steps p.tables e below (T55.setTop (mkF m 23 #[.val (.int p0)] [])) _
                              refine XS.iloadN X55.here hx rfl (hb hby d2_23) rfl ?_
                              show Steps p.tables e below (T55.setTop (mkF m 24 #[.val (.int p0)] [(.int p0)])) _
                              refine X55.ldcInt hx hown (mvT hZ (hw _ (List.mem_of_getElem? (i := 4) rfl))) (g := (mkF m 24 #[.val (.int p0)] [(.int p0)])) rfl (hb hby d2_24) _ ?_
                              show Steps p.tables e below (T55.setTop (mkF m 26 #[.val (.int p0)] [(.int (65008 : Int32)), (.int p0)])) _
                              refine X55.ldcInt hx hown (mvT hZ (hw _ (List.mem_of_getElem? (i := 5) rfl))) (g := (mkF m 26 #[.val (.int p0)] [(.int (65008 : Int32)), (.int p0)])) rfl (hb hby d2_26) _ ?_
                              show Steps p.tables e below (T55.setTop (mkF m 28 #[.val (.int p0)] [(.int (65519 : Int32)), (.int (65008 : Int32)), (.int p0)])) _
                              refine st57 _ ?_
                              show Steps p.tables e below (T57.setTop (mkF m 31 #[.val (.int p0)] [(.int (F3 p0 (65008 : Int32) (65519 : Int32)))])) _
                              refine XS.ifNo X57.here hx rfl (hb hby d2_31) rfl ((if0 _ _).trans (teq c58).2) ?_
                              show Steps p.tables e below (T57.setTop (mkF m 34 #[.val (.int p0)] [])) _
                              refine XS.iloadN X57.here hx rfl (hb hby d2_34) rfl ?_
                              show Steps p.tables e below (T57.setTop (mkF m 35 #[.val (.int p0)] [(.int p0)])) _
                              refine X57.ldcInt hx hown (mvT hZ (hw _ (List.mem_of_getElem? (i := 6) rfl))) (g := (mkF m 35 #[.val (.int p0)] [(.int p0)])) rfl (hb hby d2_35) _ ?_
                              show Steps p.tables e below (T57.setTop (mkF m 37 #[.val (.int p0)] [(.int (65536 : Int32)), (.int p0)])) _
                              refine X57.ldcInt hx hown (mvT hZ (hw _ (List.mem_of_getElem? (i := 7) rfl))) (g := (mkF m 37 #[.val (.int p0)] [(.int (65536 : Int32)), (.int p0)])) rfl (hb hby d2_37) _ ?_
                              show Steps p.tables e below (T57.setTop (mkF m 39 #[.val (.int p0)] [(.int (131069 : Int32)), (.int (65536 : Int32)), (.int p0)])) _
                              refine st59 _ ?_
                              show Steps p.tables e below (T59.setTop (mkF m 42 #[.val (.int p0)] [(.int (F3 p0 (65536 : Int32) (131069 : Int32)))])) _
                              refine XS.ifNo X59.here hx rfl (hb hby d2_42) rfl ((if0 _ _).trans (teq c60).2) ?_
                              show Steps p.tables e below (T59.setTop (mkF m 45 #[.val (.int p0)] [])) _
                              refine XS.iloadN X59.here hx rfl (hb hby d2_45) rfl ?_
                              show Steps p.tables e below (T59.setTop (mkF m 46 #[.val (.int p0)] [(.int p0)])) _
                              refine X59.ldcInt hx hown (mvT hZ (hw _ (List.mem_of_getElem? (i := 35) rfl))) (g := (mkF m 46 #[.val (.int p0)] [(.int p0)])) rfl (hb hby d2_46) _ ?_
                              show Steps p.tables e below (T59.setTop (mkF m 48 #[.val (.int p0)] [(.int (131072 : Int32)), (.int p0)])) _
                              refine X59.ldcInt hx hown (mvT hZ (hw _ (List.mem_of_getElem? (i := 36) rfl))) (g := (mkF m 48 #[.val (.int p0)] [(.int (131072 : Int32)), (.int p0)])) rfl (hb hby d2_48) _ ?_
                              show Steps p.tables e below (T59.setTop (mkF m 50 #[.val (.int p0)] [(.int (196605 : Int32)), (.int (131072 : Int32)), (.int p0)])) _
                              refine st61 _ ?_
                              show Steps p.tables e below (T61.setTop (mkF m 53 #[.val (.int p0)] [(.int (F3 p0 (131072 : Int32) (196605 : Int32)))])) _
                              refine XS.ifNo X61.here hx rfl (hb hby d2_53) rfl ((if0 _ _).trans (teq c62).2) ?_
                              show Steps p.tables e below (T61.setTop (mkF m 56 #[.val (.int p0)] [])) _
                              refine XS.iloadN X61.here hx rfl (hb hby d2_56) rfl ?_
                              show Steps p.tables e below (T61.setTop (mkF m 57 #[.val (.int p0)] [(.int p0)])) _
                              refine X61.ldcInt hx hown (mvT hZ (hw _ (List.mem_of_getElem? (i := 37) rfl))) (g := (mkF m 57 #[.val (.int p0)] [(.int p0)])) rfl (hb hby d2_57) _ ?_
                              show Steps p.tables e below (T61.setTop (mkF m 59 #[.val (.int p0)] [(.int (196608 : Int32)), (.int p0)])) _
                              refine X61.ldcInt hx hown (mvT hZ (hw _ (List.mem_of_getElem? (i := 38) rfl))) (g := (mkF m 59 #[.val (.int p0)] [(.int (196608 : Int32)), (.int p0)])) rfl (hb hby d2_59) _ ?_
                              show Steps p.tables e below (T61.setTop (mkF m 61 #[.val (.int p0)] [(.int (262141 : Int32)), (.int (196608 : Int32)), (.int p0)])) _
                              refine st63 _ ?_
                              show Steps p.tables e below (T63.setTop (mkF m 64 #[.val (.int p0)] [(.int (F3 p0 (196608 : Int32) (262141 : Int32)))])) _
                              refine XS.ifNo X63.here hx rfl (hb hby d2_64) rfl ((if0 _ _).trans (teq c64).2) ?_
                              show Steps p.tables e below (T63.setTop (mkF m 67 #[.val (.int p0)] [])) _
                              refine XS.iloadN X63.here hx rfl (hb hby d2_67) rfl ?_
                              show Steps p.tables e below (T63.setTop (mkF m 68 #[.val (.int p0)] [(.int p0)])) _
                              refine X63.ldcInt hx hown (mvT hZ (hw _ (List.mem_of_getElem? (i := 39) rfl))) (g := (mkF m 68 #[.val (.int p0)] [(.int p0)])) rfl (hb hby d2_68) _ ?_
                              show Steps p.tables e below (T63.setTop (mkF m 70 #[.val (.int p0)] [(.int (262144 : Int32)), (.int p0)])) _
                              refine X63.ldcInt hx hown (mvT hZ (hw _ (List.mem_of_getElem? (i := 40) rfl))) (g := (mkF m 70 #[.val (.int p0)] [(.int (262144 : Int32)), (.int p0)])) rfl (hb hby d2_70) _ ?_
                              show Steps p.tables e below (T63.setTop (mkF m 72 #[.val (.int p0)] [(.int (327677 : Int32)), (.int (262144 : Int32)), (.int p0)])) _
                              refine st65 _ ?_
                              show Steps p.tables e below (T65.setTop (mkF m 75 #[.val (.int p0)] [(.int (F3 p0 (262144 : Int32) (327677 : Int32)))])) _
                              refine XS.ifNo X65.here hx rfl (hb hby d2_75) rfl ((if0 _ _).trans (teq c66).2) ?_
                              show Steps p.tables e below (T65.setTop (mkF m 78 #[.val (.int p0)] [])) _
                              refine XS.iloadN X65.here hx rfl (hb hby d2_78) rfl ?_
                              show Steps p.tables e below (T65.setTop (mkF m 79 #[.val (.int p0)] [(.int p0)])) _
                              refine X65.ldcInt hx hown (mvT hZ (hw _ (List.mem_of_getElem? (i := 41) rfl))) (g := (mkF m 79 #[.val (.int p0)] [(.int p0)])) rfl (hb hby d2_79) _ ?_
                              show Steps p.tables e below (T65.setTop (mkF m 81 #[.val (.int p0)] [(.int (327680 : Int32)), (.int p0)])) _
                              refine X65.ldcInt hx hown (mvT hZ (hw _ (List.mem_of_getElem? (i := 42) rfl))) (g := (mkF m 81 #[.val (.int p0)] [(.int (327680 : Int32)), (.int p0)])) rfl (hb hby d2_81) _ ?_
                              show Steps p.tables e below (T65.setTop (mkF m 83 #[.val (.int p0)] [(.int (393213 : Int32)), (.int (327680 : Int32)), (.int p0)])) _
                              refine st67 _ ?_
                              show Steps p.tables e below (T67.setTop (mkF m 86 #[.val (.int p0)] [(.int (F3 p0 (327680 : Int32) (393213 : Int32)))])) _
                              refine XS.ifNo X67.here hx rfl (hb hby d2_86) rfl ((if0 _ _).trans (teq c68).2) ?_
                              show Steps p.tables e below (T67.setTop (mkF m 89 #[.val (.int p0)] [])) _
                              refine XS.iloadN X67.here hx rfl (hb hby d2_89) rfl ?_
                              show Steps p.tables e below (T67.setTop (mkF m 90 #[.val (.int p0)] [(.int p0)])) _
                              refine X67.ldcInt hx hown (mvT hZ (hw _ (List.mem_of_getElem? (i := 43) rfl))) (g := (mkF m 90 #[.val (.int p0)] [(.int p0)])) rfl (hb hby d2_90) _ ?_
                              show Steps p.tables e below (T67.setTop (mkF m 92 #[.val (.int p0)] [(.int (393216 : Int32)), (.int p0)])) _
                              refine X67.ldcInt hx hown (mvT hZ (hw _ (List.mem_of_getElem? (i := 44) rfl))) (g := (mkF m 92 #[.val (.int p0)] [(.int (393216 : Int32)), (.int p0)])) rfl (hb hby d2_92) _ ?_
                              show Steps p.tables e below (T67.setTop (mkF m 94 #[.val (.int p0)] [(.int (458749 : Int32)), (.int (393216 : Int32)), (.int p0)])) _
                              refine st69 _ ?_
                              show Steps p.tables e below (T69.setTop (mkF m 97 #[.val (.int p0)] [(.int (F3 p0 (393216 : Int32) (458749 : Int32)))])) _
                              refine XS.ifNo X69.here hx rfl (hb hby d2_97) rfl ((if0 _ _).trans (teq c70).2) ?_
                              show Steps p.tables e below (T69.setTop (mkF m 100 #[.val (.int p0)] [])) _
                              refine XS.iloadN X69.here hx rfl (hb hby d2_100) rfl ?_
                              show Steps p.tables e below (T69.setTop (mkF m 101 #[.val (.int p0)] [(.int p0)])) _
                              refine X69.ldcInt hx hown (mvT hZ (hw _ (List.mem_of_getElem? (i := 45) rfl))) (g := (mkF m 101 #[.val (.int p0)] [(.int p0)])) rfl (hb hby d2_101) _ ?_
                              show Steps p.tables e below (T69.setTop (mkF m 103 #[.val (.int p0)] [(.int (458752 : Int32)), (.int p0)])) _
                              refine X69.ldcInt hx hown (mvT hZ (hw _ (List.mem_of_getElem? (i := 46) rfl))) (g := (mkF m 103 #[.val (.int p0)] [(.int (458752 : Int32)), (.int p0)])) rfl (hb hby d2_103) _ ?_
                              show Steps p.tables e below (T69.setTop (mkF m 105 #[.val (.int p0)] [(.int (524285 : Int32)), (.int (458752 : Int32)), (.int p0)])) _
                              refine st71 _ ?_
                              show Steps p.tables e below (T71.setTop (mkF m 108 #[.val (.int p0)] [(.int (F3 p0 (458752 : Int32) (524285 : Int32)))])) _
                              refine XS.ifNo X71.here hx rfl (hb hby d2_108) rfl ((if0 _ _).trans (teq c72).2) ?_
                              show Steps p.tables e below (T71.setTop (mkF m 111 #[.val (.int p0)] [])) _
                              refine XS.iloadN X71.here hx rfl (hb hby d2_111) rfl ?_
                              show Steps p.tables e below (T71.setTop (mkF m 112 #[.val (.int p0)] [(.int p0)])) _
                              refine X71.ldcInt hx hown (mvT hZ (hw _ (List.mem_of_getElem? (i := 47) rfl))) (g := (mkF m 112 #[.val (.int p0)] [(.int p0)])) rfl (hb hby d2_112) _ ?_
                              show Steps p.tables e below (T71.setTop (mkF m 114 #[.val (.int p0)] [(.int (524288 : Int32)), (.int p0)])) _
                              refine X71.ldcInt hx hown (mvT hZ (hw _ (List.mem_of_getElem? (i := 48) rfl))) (g := (mkF m 114 #[.val (.int p0)] [(.int (524288 : Int32)), (.int p0)])) rfl (hb hby d2_114) _ ?_
                              show Steps p.tables e below (T71.setTop (mkF m 116 #[.val (.int p0)] [(.int (589821 : Int32)), (.int (524288 : Int32)), (.int p0)])) _
                              refine st73 _ ?_
                              show Steps p.tables e below (T73.setTop (mkF m 119 #[.val (.int p0)] [(.int (F3 p0 (524288 : Int32) (589821 : Int32)))])) _
                              refine XS.ifNo X73.here hx rfl (hb hby d2_119) rfl ((if0 _ _).trans (teq c74).2) ?_
                              show Steps p.tables e below (T73.setTop (mkF m 122 #[.val (.int p0)] [])) _
                              refine XS.iloadN X73.here hx rfl (hb hby d2_122) rfl ?_
                              show Steps p.tables e below (T73.setTop (mkF m 123 #[.val (.int p0)] [(.int p0)])) _
                              refine X73.ldcInt hx hown (mvT hZ (hw _ (List.mem_of_getElem? (i := 49) rfl))) (g := (mkF m 123 #[.val (.int p0)] [(.int p0)])) rfl (hb hby d2_123) _ ?_
                              show Steps p.tables e below (T73.setTop (mkF m 125 #[.val (.int p0)] [(.int (589824 : Int32)), (.int p0)])) _
                              refine X73.ldcInt hx hown (mvT hZ (hw _ (List.mem_of_getElem? (i := 50) rfl))) (g := (mkF m 125 #[.val (.int p0)] [(.int (589824 : Int32)), (.int p0)])) rfl (hb hby d2_125) _ ?_
                              show Steps p.tables e below (T73.setTop (mkF m 127 #[.val (.int p0)] [(.int (655357 : Int32)), (.int (589824 : Int32)), (.int p0)])) _
                              refine st75 _ ?_
                              show Steps p.tables e below (T75.setTop (mkF m 130 #[.val (.int p0)] [(.int (F3 p0 (589824 : Int32) (655357 : Int32)))])) _
                              refine XS.ifNo X75.here hx rfl (hb hby d2_130) rfl ((if0 _ _).trans (teq c76).2) ?_
                              show Steps p.tables e below (T75.setTop (mkF m 133 #[.val (.int p0)] [])) _
                              refine XS.iloadN X75.here hx rfl (hb hby d2_133) rfl ?_
                              show Steps p.tables e below (T75.setTop (mkF m 134 #[.val (.int p0)] [(.int p0)])) _
                              refine X75.ldcInt hx hown (mvT hZ (hw _ (List.mem_of_getElem? (i := 51) rfl))) (g := (mkF m 134 #[.val (.int p0)] [(.int p0)])) rfl (hb hby d2_134) _ ?_
                              show Steps p.tables e below (T75.setTop (mkF m 136 #[.val (.int p0)] [(.int (655360 : Int32)), (.int p0)])) _
                              refine X75.ldcInt hx hown (mvT hZ (hw _ (List.mem_of_getElem? (i := 52) rfl))) (g := (mkF m 136 #[.val (.int p0)] [(.int (655360 : Int32)), (.int p0)])) rfl (hb hby d2_136) _ ?_
                              show Steps p.tables e below (T75.setTop (mkF m 138 #[.val (.int p0)] [(.int (720893 : Int32)), (.int (655360 : Int32)), (.int p0)])) _
                              refine st77 _ ?_
                              show Steps p.tables e below (T77.setTop (mkF m 141 #[.val (.int p0)] [(.int (F3 p0 (655360 : Int32) (720893 : Int32)))])) _
                              refine XS.ifYes X77.here hx rfl (pc0 := 141) (pc' := 188) rfl (hb hby d2_141) rfl ((if0 _ _).trans (feq c78).2) (by decide) (by decide) ?_
                              show Steps p.tables e below (T77.setTop (mkF m 188 #[.val (.int p0)] [])) _
                              refine XS.iconst X77.here hx rfl (hb hby d2_188) ?_
                              show Steps p.tables e below (T77.setTop (mkF m 189 #[.val (.int p0)] [(.int (1 : Int32))])) _
                              refine XS.goto X77.here hx rfl (pc0 := 189) (pc' := 193) rfl (hb hby d2_189) (by decide) (by decide) ?_
                              show Steps p.tables e below (T77.setTop (mkF m 193 #[.val (.int p0)] [(.int (1 : Int32))])) _
                              exact retN X77 hx (t := .boolean) Bd.returns (by simp) (hb hby d2_193) hr
                            · show Q2 Z p0 h0 n0 _ T77.heap _
                              rw [e77]
                              exact ⟨(congrArg (fun z => some (Value.int z)) ((if_pos c54).trans ((if_pos c56).trans ((if_pos c58).trans ((if_pos c60).trans ((if_pos c62).trans ((if_pos c64).trans ((if_pos c66).trans ((if_pos c68).trans ((if_pos c70).trans ((if_pos c72).trans ((if_pos c74).trans ((if_pos c76).trans ((if_neg c78).trans rfl))))))))))))).symm), N77, rfl⟩
                        · obtain ⟨fs, hr, hrun, hended, hW, hsame⟩ := X75.leave (v := some (.int (1 : Int32))) (fun h => by rw [Bd.returns] at h; cases h)
                          refine ⟨_, _, pre0 _ ?_, hrun, hended, _, _, rfl, ?_, ⟨_, rfl⟩, hW, hsame.mono (by decide) (by decide)⟩
                          · show Steps p.tables e below (s₁.setTop (mkF m 0 #[.val (.int p0)] [])) _
                            refine XS.iloadN X0.here hx rfl (hb hby d2_0) rfl ?_
                            show Steps p.tables e below (s₁.setTop (mkF m 1 #[.val (.int p0)] [(.int p0)])) _
                            refine XS.sipush X0.here hx rfl (hb hby d2_1) ?_
                            show Steps p.tables e below (s₁.setTop (mkF m 4 #[.val (.int p0)] [(.int (160 : Int32)), (.int p0)])) _
                            refine X0.ldcInt hx hown (mvT hZ (hw _ (List.mem_of_getElem? (i := 1) rfl))) (g := (mkF m 4 #[.val (.int p0)] [(.int (160 : Int32)), (.int p0)])) rfl (hb hby d2_4) _ ?_
                            show Steps p.tables e below (s₁.setTop (mkF m 6 #[.val (.int p0)] [(.int (55295 : Int32)), (.int (160 : Int32)), (.int p0)])) _
                            refine st53 _ ?_
                            show Steps p.tables e below (T53.setTop (mkF m 9 #[.val (.int p0)] [(.int (F3 p0 (160 : Int32) (55295 : Int32)))])) _
                            refine XS.ifNo X53.here hx rfl (hb hby d2_9) rfl ((if0 _ _).trans (teq c54).2) ?_
                            show Steps p.tables e below (T53.setTop (mkF m 12 #[.val (.int p0)] [])) _
                            refine XS.iloadN X53.here hx rfl (hb hby d2_12) rfl ?_
                            show Steps p.tables e below (T53.setTop (mkF m 13 #[.val (.int p0)] [(.int p0)])) _
                            refine X53.ldcInt hx hown (mvT hZ (hw _ (List.mem_of_getElem? (i := 2) rfl))) (g := (mkF m 13 #[.val (.int p0)] [(.int p0)])) rfl (hb hby d2_13) _ ?_
                            show Steps p.tables e below (T53.setTop (mkF m 15 #[.val (.int p0)] [(.int (63744 : Int32)), (.int p0)])) _
                            refine X53.ldcInt hx hown (mvT hZ (hw _ (List.mem_of_getElem? (i := 3) rfl))) (g := (mkF m 15 #[.val (.int p0)] [(.int (63744 : Int32)), (.int p0)])) rfl (hb hby d2_15) _ ?_
                            show Steps p.tables e below (T53.setTop (mkF m 17 #[.val (.int p0)] [(.int (64975 : Int32)), (.int (63744 : Int32)), (.int p0)])) _
                            refine st55 _ ?_
                            show Steps p.tables e below (T55.setTop (mkF m 20 #[.val (.int p0)] [(.int (F3 p0 (63744 : Int32) (64975 : Int32)))])) _
                            refine XS.ifNo X55.here hx rfl (hb hby d2_20) rfl ((if0 _ _).trans (teq c56).2) ?_
                            show Steps p.tables e below (T55.setTop (mkF m 23 #[.val (.int p0)] [])) _
                            refine XS.iloadN X55.here hx rfl (hb hby d2_23) rfl ?_
                            show Steps p.tables e below (T55.setTop (mkF m 24 #[.val (.int p0)] [(.int p0)])) _
                            refine X55.ldcInt hx hown (mvT hZ (hw _ (List.mem_of_getElem? (i := 4) rfl))) (g := (mkF m 24 #[.val (.int p0)] [(.int p0)])) rfl (hb hby d2_24) _ ?_
                            show Steps p.tables e below (T55.setTop (mkF m 26 #[.val (.int p0)] [(.int (65008 : Int32)), (.int p0)])) _
                            refine X55.ldcInt hx hown (mvT hZ (hw _ (List.mem_of_getElem? (i := 5) rfl))) (g := (mkF m 26 #[.val (.int p0)] [(.int (65008 : Int32)), (.int p0)])) rfl (hb hby d2_26) _ ?_
                            show Steps p.tables e below (T55.setTop (mkF m 28 #[.val (.int p0)] [(.int (65519 : Int32)), (.int (65008 : Int32)), (.int p0)])) _
                            refine st57 _ ?_
                            show Steps p.tables e below (T57.setTop (mkF m 31 #[.val (.int p0)] [(.int (F3 p0 (65008 : Int32) (65519 : Int32)))])) _
                            refine XS.ifNo X57.here hx rfl (hb hby d2_31) rfl ((if0 _ _).trans (teq c58).2) ?_
                            show Steps p.tables e below (T57.setTop (mkF m 34 #[.val (.int p0)] [])) _
                            refine XS.iloadN X57.here hx rfl (hb hby d2_34) rfl ?_
                            show Steps p.tables e below (T57.setTop (mkF m 35 #[.val (.int p0)] [(.int p0)])) _
                            refine X57.ldcInt hx hown (mvT hZ (hw _ (List.mem_of_getElem? (i := 6) rfl))) (g := (mkF m 35 #[.val (.int p0)] [(.int p0)])) rfl (hb hby d2_35) _ ?_
                            show Steps p.tables e below (T57.setTop (mkF m 37 #[.val (.int p0)] [(.int (65536 : Int32)), (.int p0)])) _
                            refine X57.ldcInt hx hown (mvT hZ (hw _ (List.mem_of_getElem? (i := 7) rfl))) (g := (mkF m 37 #[.val (.int p0)] [(.int (65536 : Int32)), (.int p0)])) rfl (hb hby d2_37) _ ?_
                            show Steps p.tables e below (T57.setTop (mkF m 39 #[.val (.int p0)] [(.int (131069 : Int32)), (.int (65536 : Int32)), (.int p0)])) _
                            refine st59 _ ?_
                            show Steps p.tables e below (T59.setTop (mkF m 42 #[.val (.int p0)] [(.int (F3 p0 (65536 : Int32) (131069 : Int32)))])) _
                            refine XS.ifNo X59.here hx rfl (hb hby d2_42) rfl ((if0 _ _).trans (teq c60).2) ?_
                            show Steps p.tables e below (T59.setTop (mkF m 45 #[.val (.int p0)] [])) _
                            refine XS.iloadN X59.here hx rfl (hb hby d2_45) rfl ?_
                            show Steps p.tables e below (T59.setTop (mkF m 46 #[.val (.int p0)] [(.int p0)])) _
                            refine X59.ldcInt hx hown (mvT hZ (hw _ (List.mem_of_getElem? (i := 35) rfl))) (g := (mkF m 46 #[.val (.int p0)] [(.int p0)])) rfl (hb hby d2_46) _ ?_
                            show Steps p.tables e below (T59.setTop (mkF m 48 #[.val (.int p0)] [(.int (131072 : Int32)), (.int p0)])) _
                            refine X59.ldcInt hx hown (mvT hZ (hw _ (List.mem_of_getElem? (i := 36) rfl))) (g := (mkF m 48 #[.val (.int p0)] [(.int (131072 : Int32)), (.int p0)])) rfl (hb hby d2_48) _ ?_
                            show Steps p.tables e below (T59.setTop (mkF m 50 #[.val (.int p0)] [(.int (196605 : Int32)), (.int (131072 : Int32)), (.int p0)])) _
                            refine st61 _ ?_
                            show Steps p.tables e below (T61.setTop (mkF m 53 #[.val (.int p0)] [(.int (F3 p0 (131072 : Int32) (196605 : Int32)))])) _
                            refine XS.ifNo X61.here hx rfl (hb hby d2_53) rfl ((if0 _ _).trans (teq c62).2) ?_
                            show Steps p.tables e below (T61.setTop (mkF m 56 #[.val (.int p0)] [])) _
                            refine XS.iloadN X61.here hx rfl (hb hby d2_56) rfl ?_
                            show Steps p.tables e below (T61.setTop (mkF m 57 #[.val (.int p0)] [(.int p0)])) _
                            refine X61.ldcInt hx hown (mvT hZ (hw _ (List.mem_of_getElem? (i := 37) rfl))) (g := (mkF m 57 #[.val (.int p0)] [(.int p0)])) rfl (hb hby d2_57) _ ?_
                            show Steps p.tables e below (T61.setTop (mkF m 59 #[.val (.int p0)] [(.int (196608 : Int32)), (.int p0)])) _
                            refine X61.ldcInt hx hown (mvT hZ (hw _ (List.mem_of_getElem? (i := 38) rfl))) (g := (mkF m 59 #[.val (.int p0)] [(.int (196608 : Int32)), (.int p0)])) rfl (hb hby d2_59) _ ?_
                            show Steps p.tables e below (T61.setTop (mkF m 61 #[.val (.int p0)] [(.int (262141 : Int32)), (.int (196608 : Int32)), (.int p0)])) _
                            refine st63 _ ?_
                            show Steps p.tables e below (T63.setTop (mkF m 64 #[.val (.int p0)] [(.int (F3 p0 (196608 : Int32) (262141 : Int32)))])) _
                            refine XS.ifNo X63.here hx rfl (hb hby d2_64) rfl ((if0 _ _).trans (teq c64).2) ?_
                            show Steps p.tables e below (T63.setTop (mkF m 67 #[.val (.int p0)] [])) _
                            refine XS.iloadN X63.here hx rfl (hb hby d2_67) rfl ?_
                            show Steps p.tables e below (T63.setTop (mkF m 68 #[.val (.int p0)] [(.int p0)])) _
                            refine X63.ldcInt hx hown (mvT hZ (hw _ (List.mem_of_getElem? (i := 39) rfl))) (g := (mkF m 68 #[.val (.int p0)] [(.int p0)])) rfl (hb hby d2_68) _ ?_
                            show Steps p.tables e below (T63.setTop (mkF m 70 #[.val (.int p0)] [(.int (262144 : Int32)), (.int p0)])) _
                            refine X63.ldcInt hx hown (mvT hZ (hw _ (List.mem_of_getElem? (i := 40) rfl))) (g := (mkF m 70 #[.val (.int p0)] [(.int (262144 : Int32)), (.int p0)])) rfl (hb hby d2_70) _ ?_
                            show Steps p.tables e below (T63.setTop (mkF m 72 #[.val (.int p0)] [(.int (327677 : Int32)), (.int (262144 : Int32)), (.int p0)])) _
                            refine st65 _ ?_
                            show Steps p.tables e below (T65.setTop (mkF m 75 #[.val (.int p0)] [(.int (F3 p0 (262144 : Int32) (327677 : Int32)))])) _
                            refine XS.ifNo X65.here hx rfl (hb hby d2_75) rfl ((if0 _ _).trans (teq c66).2) ?_
                            show Steps p.tables e below (T65.setTop (mkF m 78 #[.val (.int p0)] [])) _
                            refine XS.iloadN X65.here hx rfl (hb hby d2_78) rfl ?_
                            show Steps p.tables e below (T65.setTop (mkF m 79 #[.val (.int p0)] [(.int p0)])) _
                            refine X65.ldcInt hx hown (mvT hZ (hw _ (List.mem_of_getElem? (i := 41) rfl))) (g := (mkF m 79 #[.val (.int p0)] [(.int p0)])) rfl (hb hby d2_79) _ ?_
                            show Steps p.tables e below (T65.setTop (mkF m 81 #[.val (.int p0)] [(.int (327680 : Int32)), (.int p0)])) _
                            refine X65.ldcInt hx hown (mvT hZ (hw _ (List.mem_of_getElem? (i := 42) rfl))) (g := (mkF m 81 #[.val (.int p0)] [(.int (327680 : Int32)), (.int p0)])) rfl (hb hby d2_81) _ ?_
                            show Steps p.tables e below (T65.setTop (mkF m 83 #[.val (.int p0)] [(.int (393213 : Int32)), (.int (327680 : Int32)), (.int p0)])) _
                            refine st67 _ ?_
                            show Steps p.tables e below (T67.setTop (mkF m 86 #[.val (.int p0)] [(.int (F3 p0 (327680 : Int32) (393213 : Int32)))])) _
                            refine XS.ifNo X67.here hx rfl (hb hby d2_86) rfl ((if0 _ _).trans (teq c68).2) ?_
                            show Steps p.tables e below (T67.setTop (mkF m 89 #[.val (.int p0)] [])) _
                            refine XS.iloadN X67.here hx rfl (hb hby d2_89) rfl ?_
                            show Steps p.tables e below (T67.setTop (mkF m 90 #[.val (.int p0)] [(.int p0)])) _
                            refine X67.ldcInt hx hown (mvT hZ (hw _ (List.mem_of_getElem? (i := 43) rfl))) (g := (mkF m 90 #[.val (.int p0)] [(.int p0)])) rfl (hb hby d2_90) _ ?_
                            show Steps p.tables e below (T67.setTop (mkF m 92 #[.val (.int p0)] [(.int (393216 : Int32)), (.int p0)])) _
                            refine X67.ldcInt hx hown (mvT hZ (hw _ (List.mem_of_getElem? (i := 44) rfl))) (g := (mkF m 92 #[.val (.int p0)] [(.int (393216 : Int32)), (.int p0)])) rfl (hb hby d2_92) _ ?_
                            show Steps p.tables e below (T67.setTop (mkF m 94 #[.val (.int p0)] [(.int (458749 : Int32)), (.int (393216 : Int32)), (.int p0)])) _
                            refine st69 _ ?_
                            show Steps p.tables e below (T69.setTop (mkF m 97 #[.val (.int p0)] [(.int (F3 p0 (393216 : Int32) (458749 : Int32)))])) _
                            refine XS.ifNo X69.here hx rfl (hb hby d2_97) rfl ((if0 _ _).trans (teq c70).2) ?_
                            show Steps p.tables e below (T69.setTop (mkF m 100 #[.val (.int p0)] [])) _
                            refine XS.iloadN X69.here hx rfl (hb hby d2_100) rfl ?_
                            show Steps p.tables e below (T69.setTop (mkF m 101 #[.val (.int p0)] [(.int p0)])) _
                            refine X69.ldcInt hx hown (mvT hZ (hw _ (List.mem_of_getElem? (i := 45) rfl))) (g := (mkF m 101 #[.val (.int p0)] [(.int p0)])) rfl (hb hby d2_101) _ ?_
                            show Steps p.tables e below (T69.setTop (mkF m 103 #[.val (.int p0)] [(.int (458752 : Int32)), (.int p0)])) _
                            refine X69.ldcInt hx hown (mvT hZ (hw _ (List.mem_of_getElem? (i := 46) rfl))) (g := (mkF m 103 #[.val (.int p0)] [(.int (458752 : Int32)), (.int p0)])) rfl (hb hby d2_103) _ ?_
                            show Steps p.tables e below (T69.setTop (mkF m 105 #[.val (.int p0)] [(.int (524285 : Int32)), (.int (458752 : Int32)), (.int p0)])) _
                            refine st71 _ ?_
                            show Steps p.tables e below (T71.setTop (mkF m 108 #[.val (.int p0)] [(.int (F3 p0 (458752 : Int32) (524285 : Int32)))])) _
                            refine XS.ifNo X71.here hx rfl (hb hby d2_108) rfl ((if0 _ _).trans (teq c72).2) ?_
                            show Steps p.tables e below (T71.setTop (mkF m 111 #[.val (.int p0)] [])) _
                            refine XS.iloadN X71.here hx rfl (hb hby d2_111) rfl ?_
                            show Steps p.tables e below (T71.setTop (mkF m 112 #[.val (.int p0)] [(.int p0)])) _
                            refine X71.ldcInt hx hown (mvT hZ (hw _ (List.mem_of_getElem? (i := 47) rfl))) (g := (mkF m 112 #[.val (.int p0)] [(.int p0)])) rfl (hb hby d2_112) _ ?_
                            show Steps p.tables e below (T71.setTop (mkF m 114 #[.val (.int p0)] [(.int (524288 : Int32)), (.int p0)])) _
                            refine X71.ldcInt hx hown (mvT hZ (hw _ (List.mem_of_getElem? (i := 48) rfl))) (g := (mkF m 114 #[.val (.int p0)] [(.int (524288 : Int32)), (.int p0)])) rfl (hb hby d2_114) _ ?_
                            show Steps p.tables e below (T71.setTop (mkF m 116 #[.val (.int p0)] [(.int (589821 : Int32)), (.int (524288 : Int32)), (.int p0)])) _
                            refine st73 _ ?_
                            show Steps p.tables e below (T73.setTop (mkF m 119 #[.val (.int p0)] [(.int (F3 p0 (524288 : Int32) (589821 : Int32)))])) _
                            refine XS.ifNo X73.here hx rfl (hb hby d2_119) rfl ((if0 _ _).trans (teq c74).2) ?_
                            show Steps p.tables e below (T73.setTop (mkF m 122 #[.val (.int p0)] [])) _
                            refine XS.iloadN X73.here hx rfl (hb hby d2_122) rfl ?_
                            show Steps p.tables e below (T73.setTop (mkF m 123 #[.val (.int p0)] [(.int p0)])) _
                            refine X73.ldcInt hx hown (mvT hZ (hw _ (List.mem_of_getElem? (i := 49) rfl))) (g := (mkF m 123 #[.val (.int p0)] [(.int p0)])) rfl (hb hby d2_123) _ ?_
                            show Steps p.tables e below (T73.setTop (mkF m 125 #[.val (.int p0)] [(.int (589824 : Int32)), (.int p0)])) _
                            refine X73.ldcInt hx hown (mvT hZ (hw _ (List.mem_of_getElem? (i := 50) rfl))) (g := (mkF m 125 #[.val (.int p0)] [(.int (589824 : Int32)), (.int p0)])) rfl (hb hby d2_125) _ ?_
                            show Steps p.tables e below (T73.setTop (mkF m 127 #[.val (.int p0)] [(.int (655357 : Int32)), (.int (589824 : Int32)), (.int p0)])) _
                            refine st75 _ ?_
                            show Steps p.tables e below (T75.setTop (mkF m 130 #[.val (.int p0)] [(.int (F3 p0 (589824 : Int32) (655357 : Int32)))])) _
                            refine XS.ifYes X75.here hx rfl (pc0 := 130) (pc' := 188) rfl (hb hby d2_130) rfl ((if0 _ _).trans (feq c76).2) (by decide) (by decide) ?_
                            show Steps p.tables e below (T75.setTop (mkF m 188 #[.val (.int p0)] [])) _
                            refine XS.iconst X75.here hx rfl (hb hby d2_188) ?_
                            show Steps p.tables e below (T75.setTop (mkF m 189 #[.val (.int p0)] [(.int (1 : Int32))])) _
                            refine XS.goto X75.here hx rfl (pc0 := 189) (pc' := 193) rfl (hb hby d2_189) (by decide) (by decide) ?_
                            show Steps p.tables e below (T75.setTop (mkF m 193 #[.val (.int p0)] [(.int (1 : Int32))])) _
                            exact retN X75 hx (t := .boolean) Bd.returns (by simp) (hb hby d2_193) hr
                          · show Q2 Z p0 h0 n0 _ T75.heap _
                            rw [e75]
                            exact ⟨(congrArg (fun z => some (Value.int z)) ((if_pos c54).trans ((if_pos c56).trans ((if_pos c58).trans ((if_pos c60).trans ((if_pos c62).trans ((if_pos c64).trans ((if_pos c66).trans ((if_pos c68).trans ((if_pos c70).trans ((if_pos c72).trans ((if_pos c74).trans ((if_neg c76).trans rfl)))))))))))).symm), N75, rfl⟩
                      · obtain ⟨fs, hr, hrun, hended, hW, hsame⟩ := X73.leave (v := some (.int (1 : Int32))) (fun h => by rw [Bd.returns] at h; cases h)
                        refine ⟨_, _, pre0 _ ?_, hrun, hended, _, _, rfl, ?_, ⟨_, rfl⟩, hW, hsame.mono (by decide) (by decide)⟩
                        · show Steps p.tables e below (s₁.setTop (mkF m 0 #[.val (.int p0)] [])) _
                          refine XS.iloadN X0.here hx rfl (hb hby d2_0) rfl ?_
                          show Steps p.tables e below (s₁.setTop (mkF m 1 #[.val (.int p0)] [(.int p0)])) _
                          refine XS.sipush X0.here hx rfl (hb hby d2_1) ?_
                          show Steps p.tables e below (s₁.setTop (mkF m 4 #[.val (.int p0)] [(.int (160 : Int32)), (.int p0)])) _
                          refine X0.ldcInt hx hown (mvT hZ (hw _ (List.mem_of_getElem? (i := 1) rfl))) (g := (mkF m 4 #[.val (.int p0)] [(.int (160 : Int32)), (.int p0)])) rfl (hb hby d2_4) _ ?_
                          show Steps p.tables e below (s₁.setTop (mkF m 6 #[.val (.int p0)] [(.int (55295 : Int32)), (.int (160 : Int32)), (.int p0)])) _
                          refine st53 _ ?_
                          show Steps p.tables e below (T53.setTop (mkF m 9 #[.val (.int p0)] [(.int (F3 p0 (160 : Int32) (55295 : Int32)))])) _
                          refine XS.ifNo X53.here hx rfl (hb hby d2_9) rfl ((if0 _ _).trans (teq c54).2) ?_
                          show Steps p.tables e below (T53.setTop (mkF m 12 #[.val (.int p0)] [])) _
                          refine XS.iloadN X53.here hx rfl (hb hby d2_12) rfl ?_
                          show Steps p.tables e below (T53.setTop (mkF m 13 #[.val (.int p0)] [(.int p0)])) _
                          refine X53.ldcInt hx hown (mvT hZ (hw _ (List.mem_of_getElem? (i := 2) rfl))) (g := (mkF m 13 #[.val (.int p0)] [(.int p0)])) rfl (hb hby d2_13) _ ?_
                          show Steps p.tables e below (T53.setTop (mkF m 15 #[.val (.int p0)] [(.int (63744 : Int32)), (.int p0)])) _
                          refine X53.ldcInt hx hown (mvT hZ (hw _ (List.mem_of_getElem? (i := 3) rfl))) (g := (mkF m 15 #[.val (.int p0)] [(.int (63744 : Int32)), (.int p0)])) rfl (hb hby d2_15) _ ?_
                          show Steps p.tables e below (T53.setTop (mkF m 17 #[.val (.int p0)] [(.int (64975 : Int32)), (.int (63744 : Int32)), (.int p0)])) _
                          refine st55 _ ?_
                          show Steps p.tables e below (T55.setTop (mkF m 20 #[.val (.int p0)] [(.int (F3 p0 (63744 : Int32) (64975 : Int32)))])) _
                          refine XS.ifNo X55.here hx rfl (hb hby d2_20) rfl ((if0 _ _).trans (teq c56).2) ?_
                          show Steps p.tables e below (T55.setTop (mkF m 23 #[.val (.int p0)] [])) _
                          refine XS.iloadN X55.here hx rfl (hb hby d2_23) rfl ?_
                          show Steps p.tables e below (T55.setTop (mkF m 24 #[.val (.int p0)] [(.int p0)])) _
                          refine X55.ldcInt hx hown (mvT hZ (hw _ (List.mem_of_getElem? (i := 4) rfl))) (g := (mkF m 24 #[.val (.int p0)] [(.int p0)])) rfl (hb hby d2_24) _ ?_
                          show Steps p.tables e below (T55.setTop (mkF m 26 #[.val (.int p0)] [(.int (65008 : Int32)), (.int p0)])) _
                          refine X55.ldcInt hx hown (mvT hZ (hw _ (List.mem_of_getElem? (i := 5) rfl))) (g := (mkF m 26 #[.val (.int p0)] [(.int (65008 : Int32)), (.int p0)])) rfl (hb hby d2_26) _ ?_
                          show Steps p.tables e below (T55.setTop (mkF m 28 #[.val (.int p0)] [(.int (65519 : Int32)), (.int (65008 : Int32)), (.int p0)])) _
                          refine st57 _ ?_
                          show Steps p.tables e below (T57.setTop (mkF m 31 #[.val (.int p0)] [(.int (F3 p0 (65008 : Int32) (65519 : Int32)))])) _
                          refine XS.ifNo X57.here hx rfl (hb hby d2_31) rfl ((if0 _ _).trans (teq c58).2) ?_
                          show Steps p.tables e below (T57.setTop (mkF m 34 #[.val (.int p0)] [])) _
                          refine XS.iloadN X57.here hx rfl (hb hby d2_34) rfl ?_
                          show Steps p.tables e below (T57.setTop (mkF m 35 #[.val (.int p0)] [(.int p0)])) _
                          refine X57.ldcInt hx hown (mvT hZ (hw _ (List.mem_of_getElem? (i := 6) rfl))) (g := (mkF m 35 #[.val (.int p0)] [(.int p0)])) rfl (hb hby d2_35) _ ?_
                          show Steps p.tables e below (T57.setTop (mkF m 37 #[.val (.int p0)] [(.int (65536 : Int32)), (.int p0)])) _
                          refine X57.ldcInt hx hown (mvT hZ (hw _ (List.mem_of_getElem? (i := 7) rfl))) (g := (mkF m 37 #[.val (.int p0)] [(.int (65536 : Int32)), (.int p0)])) rfl (hb hby d2_37) _ ?_
                          show Steps p.tables e below (T57.setTop (mkF m 39 #[.val (.int p0)] [(.int (131069 : Int32)), (.int (65536 : Int32)), (.int p0)])) _
                          refine st59 _ ?_
                          show Steps p.tables e below (T59.setTop (mkF m 42 #[.val (.int p0)] [(.int (F3 p0 (65536 : Int32) (131069 : Int32)))])) _
                          refine XS.ifNo X59.here hx rfl (hb hby d2_42) rfl ((if0 _ _).trans (teq c60).2) ?_
                          show Steps p.tables e below (T59.setTop (mkF m 45 #[.val (.int p0)] [])) _
                          refine XS.iloadN X59.here hx rfl (hb hby d2_45) rfl ?_
                          show Steps p.tables e below (T59.setTop (mkF m 46 #[.val (.int p0)] [(.int p0)])) _
                          refine X59.ldcInt hx hown (mvT hZ (hw _ (List.mem_of_getElem? (i := 35) rfl))) (g := (mkF m 46 #[.val (.int p0)] [(.int p0)])) rfl (hb hby d2_46) _ ?_
                          show Steps p.tables e below (T59.setTop (mkF m 48 #[.val (.int p0)] [(.int (131072 : Int32)), (.int p0)])) _
                          refine X59.ldcInt hx hown (mvT hZ (hw _ (List.mem_of_getElem? (i := 36) rfl))) (g := (mkF m 48 #[.val (.int p0)] [(.int (131072 : Int32)), (.int p0)])) rfl (hb hby d2_48) _ ?_
                          show Steps p.tables e below (T59.setTop (mkF m 50 #[.val (.int p0)] [(.int (196605 : Int32)), (.int (131072 : Int32)), (.int p0)])) _
                          refine st61 _ ?_
                          show Steps p.tables e below (T61.setTop (mkF m 53 #[.val (.int p0)] [(.int (F3 p0 (131072 : Int32) (196605 : Int32)))])) _
                          refine XS.ifNo X61.here hx rfl (hb hby d2_53) rfl ((if0 _ _).trans (teq c62).2) ?_
                          show Steps p.tables e below (T61.setTop (mkF m 56 #[.val (.int p0)] [])) _
                          refine XS.iloadN X61.here hx rfl (hb hby d2_56) rfl ?_
                          show Steps p.tables e below (T61.setTop (mkF m 57 #[.val (.int p0)] [(.int p0)])) _
                          refine X61.ldcInt hx hown (mvT hZ (hw _ (List.mem_of_getElem? (i := 37) rfl))) (g := (mkF m 57 #[.val (.int p0)] [(.int p0)])) rfl (hb hby d2_57) _ ?_
                          show Steps p.tables e below (T61.setTop (mkF m 59 #[.val (.int p0)] [(.int (196608 : Int32)), (.int p0)])) _
                          refine X61.ldcInt hx hown (mvT hZ (hw _ (List.mem_of_getElem? (i := 38) rfl))) (g := (mkF m 59 #[.val (.int p0)] [(.int (196608 : Int32)), (.int p0)])) rfl (hb hby d2_59) _ ?_
                          show Steps p.tables e below (T61.setTop (mkF m 61 #[.val (.int p0)] [(.int (262141 : Int32)), (.int (196608 : Int32)), (.int p0)])) _
                          refine st63 _ ?_
                          show Steps p.tables e below (T63.setTop (mkF m 64 #[.val (.int p0)] [(.int (F3 p0 (196608 : Int32) (262141 : Int32)))])) _
                          refine XS.ifNo X63.here hx rfl (hb hby d2_64) rfl ((if0 _ _).trans (teq c64).2) ?_
                          show Steps p.tables e below (T63.setTop (mkF m 67 #[.val (.int p0)] [])) _
                          refine XS.iloadN X63.here hx rfl (hb hby d2_67) rfl ?_
                          show Steps p.tables e below (T63.setTop (mkF m 68 #[.val (.int p0)] [(.int p0)])) _
                          refine X63.ldcInt hx hown (mvT hZ (hw _ (List.mem_of_getElem? (i := 39) rfl))) (g := (mkF m 68 #[.val (.int p0)] [(.int p0)])) rfl (hb hby d2_68) _ ?_
                          show Steps p.tables e below (T63.setTop (mkF m 70 #[.val (.int p0)] [(.int (262144 : Int32)), (.int p0)])) _
                          refine X63.ldcInt hx hown (mvT hZ (hw _ (List.mem_of_getElem? (i := 40) rfl))) (g := (mkF m 70 #[.val (.int p0)] [(.int (262144 : Int32)), (.int p0)])) rfl (hb hby d2_70) _ ?_
                          show Steps p.tables e below (T63.setTop (mkF m 72 #[.val (.int p0)] [(.int (327677 : Int32)), (.int (262144 : Int32)), (.int p0)])) _
                          refine st65 _ ?_
                          show Steps p.tables e below (T65.setTop (mkF m 75 #[.val (.int p0)] [(.int (F3 p0 (262144 : Int32) (327677 : Int32)))])) _
                          refine XS.ifNo X65.here hx rfl (hb hby d2_75) rfl ((if0 _ _).trans (teq c66).2) ?_
                          show Steps p.tables e below (T65.setTop (mkF m 78 #[.val (.int p0)] [])) _
                          refine XS.iloadN X65.here hx rfl (hb hby d2_78) rfl ?_
                          show Steps p.tables e below (T65.setTop (mkF m 79 #[.val (.int p0)] [(.int p0)])) _
                          refine X65.ldcInt hx hown (mvT hZ (hw _ (List.mem_of_getElem? (i := 41) rfl))) (g := (mkF m 79 #[.val (.int p0)] [(.int p0)])) rfl (hb hby d2_79) _ ?_
                          show Steps p.tables e below (T65.setTop (mkF m 81 #[.val (.int p0)] [(.int (327680 : Int32)), (.int p0)])) _
                          refine X65.ldcInt hx hown (mvT hZ (hw _ (List.mem_of_getElem? (i := 42) rfl))) (g := (mkF m 81 #[.val (.int p0)] [(.int (327680 : Int32)), (.int p0)])) rfl (hb hby d2_81) _ ?_
                          show Steps p.tables e below (T65.setTop (mkF m 83 #[.val (.int p0)] [(.int (393213 : Int32)), (.int (327680 : Int32)), (.int p0)])) _
                          refine st67 _ ?_
                          show Steps p.tables e below (T67.setTop (mkF m 86 #[.val (.int p0)] [(.int (F3 p0 (327680 : Int32) (393213 : Int32)))])) _
                          refine XS.ifNo X67.here hx rfl (hb hby d2_86) rfl ((if0 _ _).trans (teq c68).2) ?_
                          show Steps p.tables e below (T67.setTop (mkF m 89 #[.val (.int p0)] [])) _
                          refine XS.iloadN X67.here hx rfl (hb hby d2_89) rfl ?_
                          show Steps p.tables e below (T67.setTop (mkF m 90 #[.val (.int p0)] [(.int p0)])) _
                          refine X67.ldcInt hx hown (mvT hZ (hw _ (List.mem_of_getElem? (i := 43) rfl))) (g := (mkF m 90 #[.val (.int p0)] [(.int p0)])) rfl (hb hby d2_90) _ ?_
                          show Steps p.tables e below (T67.setTop (mkF m 92 #[.val (.int p0)] [(.int (393216 : Int32)), (.int p0)])) _
                          refine X67.ldcInt hx hown (mvT hZ (hw _ (List.mem_of_getElem? (i := 44) rfl))) (g := (mkF m 92 #[.val (.int p0)] [(.int (393216 : Int32)), (.int p0)])) rfl (hb hby d2_92) _ ?_
                          show Steps p.tables e below (T67.setTop (mkF m 94 #[.val (.int p0)] [(.int (458749 : Int32)), (.int (393216 : Int32)), (.int p0)])) _
                          refine st69 _ ?_
                          show Steps p.tables e below (T69.setTop (mkF m 97 #[.val (.int p0)] [(.int (F3 p0 (393216 : Int32) (458749 : Int32)))])) _
                          refine XS.ifNo X69.here hx rfl (hb hby d2_97) rfl ((if0 _ _).trans (teq c70).2) ?_
                          show Steps p.tables e below (T69.setTop (mkF m 100 #[.val (.int p0)] [])) _
                          refine XS.iloadN X69.here hx rfl (hb hby d2_100) rfl ?_
                          show Steps p.tables e below (T69.setTop (mkF m 101 #[.val (.int p0)] [(.int p0)])) _
                          refine X69.ldcInt hx hown (mvT hZ (hw _ (List.mem_of_getElem? (i := 45) rfl))) (g := (mkF m 101 #[.val (.int p0)] [(.int p0)])) rfl (hb hby d2_101) _ ?_
                          show Steps p.tables e below (T69.setTop (mkF m 103 #[.val (.int p0)] [(.int (458752 : Int32)), (.int p0)])) _
                          refine X69.ldcInt hx hown (mvT hZ (hw _ (List.mem_of_getElem? (i := 46) rfl))) (g := (mkF m 103 #[.val (.int p0)] [(.int (458752 : Int32)), (.int p0)])) rfl (hb hby d2_103) _ ?_
                          show Steps p.tables e below (T69.setTop (mkF m 105 #[.val (.int p0)] [(.int (524285 : Int32)), (.int (458752 : Int32)), (.int p0)])) _
                          refine st71 _ ?_
                          show Steps p.tables e below (T71.setTop (mkF m 108 #[.val (.int p0)] [(.int (F3 p0 (458752 : Int32) (524285 : Int32)))])) _
                          refine XS.ifNo X71.here hx rfl (hb hby d2_108) rfl ((if0 _ _).trans (teq c72).2) ?_
                          show Steps p.tables e below (T71.setTop (mkF m 111 #[.val (.int p0)] [])) _
                          refine XS.iloadN X71.here hx rfl (hb hby d2_111) rfl ?_
                          show Steps p.tables e below (T71.setTop (mkF m 112 #[.val (.int p0)] [(.int p0)])) _
                          refine X71.ldcInt hx hown (mvT hZ (hw _ (List.mem_of_getElem? (i := 47) rfl))) (g := (mkF m 112 #[.val (.int p0)] [(.int p0)])) rfl (hb hby d2_112) _ ?_
                          show Steps p.tables e below (T71.setTop (mkF m 114 #[.val (.int p0)] [(.int (524288 : Int32)), (.int p0)])) _
                          refine X71.ldcInt hx hown (mvT hZ (hw _ (List.mem_of_getElem? (i := 48) rfl))) (g := (mkF m 114 #[.val (.int p0)] [(.int (524288 : Int32)), (.int p0)])) rfl (hb hby d2_114) _ ?_
                          show Steps p.tables e below (T71.setTop (mkF m 116 #[.val (.int p0)] [(.int (589821 : Int32)), (.int (524288 : Int32)), (.int p0)])) _
                          refine st73 _ ?_
                          show Steps p.tables e below (T73.setTop (mkF m 119 #[.val (.int p0)] [(.int (F3 p0 (524288 : Int32) (589821 : Int32)))])) _
                          refine XS.ifYes X73.here hx rfl (pc0 := 119) (pc' := 188) rfl (hb hby d2_119) rfl ((if0 _ _).trans (feq c74).2) (by decide) (by decide) ?_
                          show Steps p.tables e below (T73.setTop (mkF m 188 #[.val (.int p0)] [])) _
                          refine XS.iconst X73.here hx rfl (hb hby d2_188) ?_
                          show Steps p.tables e below (T73.setTop (mkF m 189 #[.val (.int p0)] [(.int (1 : Int32))])) _
                          refine XS.goto X73.here hx rfl (pc0 := 189) (pc' := 193) rfl (hb hby d2_189) (by decide) (by decide) ?_
                          show Steps p.tables e below (T73.setTop (mkF m 193 #[.val (.int p0)] [(.int (1 : Int32))])) _
                          exact retN X73 hx (t := .boolean) Bd.returns (by simp) (hb hby d2_193) hr
                        · show Q2 Z p0 h0 n0 _ T73.heap _
                          rw [e73]
                          exact ⟨(congrArg (fun z => some (Value.int z)) ((if_pos c54).trans ((if_pos c56).trans ((if_pos c58).trans ((if_pos c60).trans ((if_pos c62).trans ((if_pos c64).trans ((if_pos c66).trans ((if_pos c68).trans ((if_pos c70).trans ((if_pos c72).trans ((if_neg c74).trans rfl))))))))))).symm), N73, rfl⟩
                    · obtain ⟨fs, hr, hrun, hended, hW, hsame⟩ := X71.leave (v := some (.int (1 : Int32))) (fun h => by rw [Bd.returns] at h; cases h)
                      refine ⟨_, _, pre0 _ ?_, hrun, hended, _, _, rfl, ?_, ⟨_, rfl⟩, hW, hsame.mono (by decide) (by decide)⟩
                      · show Steps p.tables e below (s₁.setTop (mkF m 0 #[.val (.int p0)] [])) _
                        refine XS.iloadN X0.here hx rfl (hb hby d2_0) rfl ?_
                        show Steps p.tables e below (s₁.setTop (mkF m 1 #[.val (.int p0)] [(.int p0)])) _
                        refine XS.sipush X0.here hx rfl (hb hby d2_1) ?_
                        show Steps p.tables e below (s₁.setTop (mkF m 4 #[.val (.int p0)] [(.int (160 : Int32)), (.int p0)])) _
                        refine X0.ldcInt hx hown (mvT hZ (hw _ (List.mem_of_getElem? (i := 1) rfl))) (g := (mkF m 4 #[.val (.int p0)] [(.int (160 : Int32)), (.int p0)])) rfl (hb hby d2_4) _ ?_
                        show Steps p.tables e below (s₁.setTop (mkF m 6 #[.val (.int p0)] [(.int (55295 : Int32)), (.int (160 : Int32)), (.int p0)])) _
                        refine st53 _ ?_
                        show Steps p.tables e below (T53.setTop (mkF m 9 #[.val (.int p0)] [(.int (F3 p0 (160 : Int32) (55295 : Int32)))])) _
                        refine XS.ifNo X53.here hx rfl (hb hby d2_9) rfl ((if0 _ _).trans (teq c54).2) ?_
                        show Steps p.tables e below (T53.setTop (mkF m 12 #[.val (.int p0)] [])) _
                        refine XS.iloadN X53.here hx rfl (hb hby d2_12) rfl ?_
                        show Steps p.tables e below (T53.setTop (mkF m 13 #[.val (.int p0)] [(.int p0)])) _
                        refine X53.ldcInt hx hown (mvT hZ (hw _ (List.mem_of_getElem? (i := 2) rfl))) (g := (mkF m 13 #[.val (.int p0)] [(.int p0)])) rfl (hb hby d2_13) _ ?_
                        show Steps p.tables e below (T53.setTop (mkF m 15 #[.val (.int p0)] [(.int (63744 : Int32)), (.int p0)])) _
                        refine X53.ldcInt hx hown (mvT hZ (hw _ (List.mem_of_getElem? (i := 3) rfl))) (g := (mkF m 15 #[.val (.int p0)] [(.int (63744 : Int32)), (.int p0)])) rfl (hb hby d2_15) _ ?_
                        show Steps p.tables e below (T53.setTop (mkF m 17 #[.val (.int p0)] [(.int (64975 : Int32)), (.int (63744 : Int32)), (.int p0)])) _
                        refine st55 _ ?_
                        show Steps p.tables e below (T55.setTop (mkF m 20 #[.val (.int p0)] [(.int (F3 p0 (63744 : Int32) (64975 : Int32)))])) _
                        refine XS.ifNo X55.here hx rfl (hb hby d2_20) rfl ((if0 _ _).trans (teq c56).2) ?_
                        show Steps p.tables e below (T55.setTop (mkF m 23 #[.val (.int p0)] [])) _
                        refine XS.iloadN X55.here hx rfl (hb hby d2_23) rfl ?_
                        show Steps p.tables e below (T55.setTop (mkF m 24 #[.val (.int p0)] [(.int p0)])) _
                        refine X55.ldcInt hx hown (mvT hZ (hw _ (List.mem_of_getElem? (i := 4) rfl))) (g := (mkF m 24 #[.val (.int p0)] [(.int p0)])) rfl (hb hby d2_24) _ ?_
                        show Steps p.tables e below (T55.setTop (mkF m 26 #[.val (.int p0)] [(.int (65008 : Int32)), (.int p0)])) _
                        refine X55.ldcInt hx hown (mvT hZ (hw _ (List.mem_of_getElem? (i := 5) rfl))) (g := (mkF m 26 #[.val (.int p0)] [(.int (65008 : Int32)), (.int p0)])) rfl (hb hby d2_26) _ ?_
                        show Steps p.tables e below (T55.setTop (mkF m 28 #[.val (.int p0)] [(.int (65519 : Int32)), (.int (65008 : Int32)), (.int p0)])) _
                        refine st57 _ ?_
                        show Steps p.tables e below (T57.setTop (mkF m 31 #[.val (.int p0)] [(.int (F3 p0 (65008 : Int32) (65519 : Int32)))])) _
                        refine XS.ifNo X57.here hx rfl (hb hby d2_31) rfl ((if0 _ _).trans (teq c58).2) ?_
                        show Steps p.tables e below (T57.setTop (mkF m 34 #[.val (.int p0)] [])) _
                        refine XS.iloadN X57.here hx rfl (hb hby d2_34) rfl ?_
                        show Steps p.tables e below (T57.setTop (mkF m 35 #[.val (.int p0)] [(.int p0)])) _
                        refine X57.ldcInt hx hown (mvT hZ (hw _ (List.mem_of_getElem? (i := 6) rfl))) (g := (mkF m 35 #[.val (.int p0)] [(.int p0)])) rfl (hb hby d2_35) _ ?_
                        show Steps p.tables e below (T57.setTop (mkF m 37 #[.val (.int p0)] [(.int (65536 : Int32)), (.int p0)])) _
                        refine X57.ldcInt hx hown (mvT hZ (hw _ (List.mem_of_getElem? (i := 7) rfl))) (g := (mkF m 37 #[.val (.int p0)] [(.int (65536 : Int32)), (.int p0)])) rfl (hb hby d2_37) _ ?_
                        show Steps p.tables e below (T57.setTop (mkF m 39 #[.val (.int p0)] [(.int (131069 : Int32)), (.int (65536 : Int32)), (.int p0)])) _
                        refine st59 _ ?_
                        show Steps p.tables e below (T59.setTop (mkF m 42 #[.val (.int p0)] [(.int (F3 p0 (65536 : Int32) (131069 : Int32)))])) _
                        refine XS.ifNo X59.here hx rfl (hb hby d2_42) rfl ((if0 _ _).trans (teq c60).2) ?_
                        show Steps p.tables e below (T59.setTop (mkF m 45 #[.val (.int p0)] [])) _
                        refine XS.iloadN X59.here hx rfl (hb hby d2_45) rfl ?_
                        show Steps p.tables e below (T59.setTop (mkF m 46 #[.val (.int p0)] [(.int p0)])) _
                        refine X59.ldcInt hx hown (mvT hZ (hw _ (List.mem_of_getElem? (i := 35) rfl))) (g := (mkF m 46 #[.val (.int p0)] [(.int p0)])) rfl (hb hby d2_46) _ ?_
                        show Steps p.tables e below (T59.setTop (mkF m 48 #[.val (.int p0)] [(.int (131072 : Int32)), (.int p0)])) _
                        refine X59.ldcInt hx hown (mvT hZ (hw _ (List.mem_of_getElem? (i := 36) rfl))) (g := (mkF m 48 #[.val (.int p0)] [(.int (131072 : Int32)), (.int p0)])) rfl (hb hby d2_48) _ ?_
                        show Steps p.tables e below (T59.setTop (mkF m 50 #[.val (.int p0)] [(.int (196605 : Int32)), (.int (131072 : Int32)), (.int p0)])) _
                        refine st61 _ ?_
                        show Steps p.tables e below (T61.setTop (mkF m 53 #[.val (.int p0)] [(.int (F3 p0 (131072 : Int32) (196605 : Int32)))])) _
                        refine XS.ifNo X61.here hx rfl (hb hby d2_53) rfl ((if0 _ _).trans (teq c62).2) ?_
                        show Steps p.tables e below (T61.setTop (mkF m 56 #[.val (.int p0)] [])) _
                        refine XS.iloadN X61.here hx rfl (hb hby d2_56) rfl ?_
                        show Steps p.tables e below (T61.setTop (mkF m 57 #[.val (.int p0)] [(.int p0)])) _
                        refine X61.ldcInt hx hown (mvT hZ (hw _ (List.mem_of_getElem? (i := 37) rfl))) (g := (mkF m 57 #[.val (.int p0)] [(.int p0)])) rfl (hb hby d2_57) _ ?_
                        show Steps p.tables e below (T61.setTop (mkF m 59 #[.val (.int p0)] [(.int (196608 : Int32)), (.int p0)])) _
                        refine X61.ldcInt hx hown (mvT hZ (hw _ (List.mem_of_getElem? (i := 38) rfl))) (g := (mkF m 59 #[.val (.int p0)] [(.int (196608 : Int32)), (.int p0)])) rfl (hb hby d2_59) _ ?_
                        show Steps p.tables e below (T61.setTop (mkF m 61 #[.val (.int p0)] [(.int (262141 : Int32)), (.int (196608 : Int32)), (.int p0)])) _
                        refine st63 _ ?_
                        show Steps p.tables e below (T63.setTop (mkF m 64 #[.val (.int p0)] [(.int (F3 p0 (196608 : Int32) (262141 : Int32)))])) _
                        refine XS.ifNo X63.here hx rfl (hb hby d2_64) rfl ((if0 _ _).trans (teq c64).2) ?_
                        show Steps p.tables e below (T63.setTop (mkF m 67 #[.val (.int p0)] [])) _
                        refine XS.iloadN X63.here hx rfl (hb hby d2_67) rfl ?_
                        show Steps p.tables e below (T63.setTop (mkF m 68 #[.val (.int p0)] [(.int p0)])) _
                        refine X63.ldcInt hx hown (mvT hZ (hw _ (List.mem_of_getElem? (i := 39) rfl))) (g := (mkF m 68 #[.val (.int p0)] [(.int p0)])) rfl (hb hby d2_68) _ ?_
                        show Steps p.tables e below (T63.setTop (mkF m 70 #[.val (.int p0)] [(.int (262144 : Int32)), (.int p0)])) _
                        refine X63.ldcInt hx hown (mvT hZ (hw _ (List.mem_of_getElem? (i := 40) rfl))) (g := (mkF m 70 #[.val (.int p0)] [(.int (262144 : Int32)), (.int p0)])) rfl (hb hby d2_70) _ ?_
                        show Steps p.tables e below (T63.setTop (mkF m 72 #[.val (.int p0)] [(.int (327677 : Int32)), (.int (262144 : Int32)), (.int p0)])) _
                        refine st65 _ ?_
                        show Steps p.tables e below (T65.setTop (mkF m 75 #[.val (.int p0)] [(.int (F3 p0 (262144 : Int32) (327677 : Int32)))])) _
                        refine XS.ifNo X65.here hx rfl (hb hby d2_75) rfl ((if0 _ _).trans (teq c66).2) ?_
                        show Steps p.tables e below (T65.setTop (mkF m 78 #[.val (.int p0)] [])) _
                        refine XS.iloadN X65.here hx rfl (hb hby d2_78) rfl ?_
                        show Steps p.tables e below (T65.setTop (mkF m 79 #[.val (.int p0)] [(.int p0)])) _
                        refine X65.ldcInt hx hown (mvT hZ (hw _ (List.mem_of_getElem? (i := 41) rfl))) (g := (mkF m 79 #[.val (.int p0)] [(.int p0)])) rfl (hb hby d2_79) _ ?_
                        show Steps p.tables e below (T65.setTop (mkF m 81 #[.val (.int p0)] [(.int (327680 : Int32)), (.int p0)])) _
                        refine X65.ldcInt hx hown (mvT hZ (hw _ (List.mem_of_getElem? (i := 42) rfl))) (g := (mkF m 81 #[.val (.int p0)] [(.int (327680 : Int32)), (.int p0)])) rfl (hb hby d2_81) _ ?_
                        show Steps p.tables e below (T65.setTop (mkF m 83 #[.val (.int p0)] [(.int (393213 : Int32)), (.int (327680 : Int32)), (.int p0)])) _
                        refine st67 _ ?_
                        show Steps p.tables e below (T67.setTop (mkF m 86 #[.val (.int p0)] [(.int (F3 p0 (327680 : Int32) (393213 : Int32)))])) _
                        refine XS.ifNo X67.here hx rfl (hb hby d2_86) rfl ((if0 _ _).trans (teq c68).2) ?_
                        show Steps p.tables e below (T67.setTop (mkF m 89 #[.val (.int p0)] [])) _
                        refine XS.iloadN X67.here hx rfl (hb hby d2_89) rfl ?_
                        show Steps p.tables e below (T67.setTop (mkF m 90 #[.val (.int p0)] [(.int p0)])) _
                        refine X67.ldcInt hx hown (mvT hZ (hw _ (List.mem_of_getElem? (i := 43) rfl))) (g := (mkF m 90 #[.val (.int p0)] [(.int p0)])) rfl (hb hby d2_90) _ ?_
                        show Steps p.tables e below (T67.setTop (mkF m 92 #[.val (.int p0)] [(.int (393216 : Int32)), (.int p0)])) _
                        refine X67.ldcInt hx hown (mvT hZ (hw _ (List.mem_of_getElem? (i := 44) rfl))) (g := (mkF m 92 #[.val (.int p0)] [(.int (393216 : Int32)), (.int p0)])) rfl (hb hby d2_92) _ ?_
                        show Steps p.tables e below (T67.setTop (mkF m 94 #[.val (.int p0)] [(.int (458749 : Int32)), (.int (393216 : Int32)), (.int p0)])) _
                        refine st69 _ ?_
                        show Steps p.tables e below (T69.setTop (mkF m 97 #[.val (.int p0)] [(.int (F3 p0 (393216 : Int32) (458749 : Int32)))])) _
                        refine XS.ifNo X69.here hx rfl (hb hby d2_97) rfl ((if0 _ _).trans (teq c70).2) ?_
                        show Steps p.tables e below (T69.setTop (mkF m 100 #[.val (.int p0)] [])) _
                        refine XS.iloadN X69.here hx rfl (hb hby d2_100) rfl ?_
                        show Steps p.tables e below (T69.setTop (mkF m 101 #[.val (.int p0)] [(.int p0)])) _
                        refine X69.ldcInt hx hown (mvT hZ (hw _ (List.mem_of_getElem? (i := 45) rfl))) (g := (mkF m 101 #[.val (.int p0)] [(.int p0)])) rfl (hb hby d2_101) _ ?_
                        show Steps p.tables e below (T69.setTop (mkF m 103 #[.val (.int p0)] [(.int (458752 : Int32)), (.int p0)])) _
                        refine X69.ldcInt hx hown (mvT hZ (hw _ (List.mem_of_getElem? (i := 46) rfl))) (g := (mkF m 103 #[.val (.int p0)] [(.int (458752 : Int32)), (.int p0)])) rfl (hb hby d2_103) _ ?_
                        show Steps p.tables e below (T69.setTop (mkF m 105 #[.val (.int p0)] [(.int (524285 : Int32)), (.int (458752 : Int32)), (.int p0)])) _
                        refine st71 _ ?_
                        show Steps p.tables e below (T71.setTop (mkF m 108 #[.val (.int p0)] [(.int (F3 p0 (458752 : Int32) (524285 : Int32)))])) _
                        refine XS.ifYes X71.here hx rfl (pc0 := 108) (pc' := 188) rfl (hb hby d2_108) rfl ((if0 _ _).trans (feq c72).2) (by decide) (by decide) ?_
                        show Steps p.tables e below (T71.setTop (mkF m 188 #[.val (.int p0)] [])) _
                        refine XS.iconst X71.here hx rfl (hb hby d2_188) ?_
                        show Steps p.tables e below (T71.setTop (mkF m 189 #[.val (.int p0)] [(.int (1 : Int32))])) _
                        refine XS.goto X71.here hx rfl (pc0 := 189) (pc' := 193) rfl (hb hby d2_189) (by decide) (by decide) ?_
                        show Steps p.tables e below (T71.setTop (mkF m 193 #[.val (.int p0)] [(.int (1 : Int32))])) _
                        exact retN X71 hx (t := .boolean) Bd.returns (by simp) (hb hby d2_193) hr
                      · show Q2 Z p0 h0 n0 _ T71.heap _
                        rw [e71]
                        exact ⟨(congrArg (fun z => some (Value.int z)) ((if_pos c54).trans ((if_pos c56).trans ((if_pos c58).trans ((if_pos c60).trans ((if_pos c62).trans ((if_pos c64).trans ((if_pos c66).trans ((if_pos c68).trans ((if_pos c70).trans ((if_neg c72).trans rfl)))))))))).symm), N71, rfl⟩
                  · obtain ⟨fs, hr, hrun, hended, hW, hsame⟩ := X69.leave (v := some (.int (1 : Int32))) (fun h => by rw [Bd.returns] at h; cases h)
                    refine ⟨_, _, pre0 _ ?_, hrun, hended, _, _, rfl, ?_, ⟨_, rfl⟩, hW, hsame.mono (by decide) (by decide)⟩
                    · show Steps p.tables e below (s₁.setTop (mkF m 0 #[.val (.int p0)] [])) _
                      refine XS.iloadN X0.here hx rfl (hb hby d2_0) rfl ?_
                      show Steps p.tables e below (s₁.setTop (mkF m 1 #[.val (.int p0)] [(.int p0)])) _
                      refine XS.sipush X0.here hx rfl (hb hby d2_1) ?_
                      show Steps p.tables e below (s₁.setTop (mkF m 4 #[.val (.int p0)] [(.int (160 : Int32)), (.int p0)])) _
                      refine X0.ldcInt hx hown (mvT hZ (hw _ (List.mem_of_getElem? (i := 1) rfl))) (g := (mkF m 4 #[.val (.int p0)] [(.int (160 : Int32)), (.int p0)])) rfl (hb hby d2_4) _ ?_
                      show Steps p.tables e below (s₁.setTop (mkF m 6 #[.val (.int p0)] [(.int (55295 : Int32)), (.int (160 : Int32)), (.int p0)])) _
                      refine st53 _ ?_
                      show Steps p.tables e below (T53.setTop (mkF m 9 #[.val (.int p0)] [(.int (F3 p0 (160 : Int32) (55295 : Int32)))])) _
                      refine XS.ifNo X53.here hx rfl (hb hby d2_9) rfl ((if0 _ _).trans (teq c54).2) ?_
                      show Steps p.tables e below (T53.setTop (mkF m 12 #[.val (.int p0)] [])) _
                      refine XS.iloadN X53.here hx rfl (hb hby d2_12) rfl ?_
                      show Steps p.tables e below (T53.setTop (mkF m 13 #[.val (.int p0)] [(.int p0)])) _
                      refine X53.ldcInt hx hown (mvT hZ (hw _ (List.mem_of_getElem? (i := 2) rfl))) (g := (mkF m 13 #[.val (.int p0)] [(.int p0)])) rfl (hb hby d2_13) _ ?_
                      show Steps p.tables e below (T53.setTop (mkF m 15 #[.val (.int p0)] [(.int (63744 : Int32)), (.int p0)])) _
                      refine X53.ldcInt hx hown (mvT hZ (hw _ (List.mem_of_getElem? (i := 3) rfl))) (g := (mkF m 15 #[.val (.int p0)] [(.int (63744 : Int32)), (.int p0)])) rfl (hb hby d2_15) _ ?_
                      show Steps p.tables e below (T53.setTop (mkF m 17 #[.val (.int p0)] [(.int (64975 : Int32)), (.int (63744 : Int32)), (.int p0)])) _
                      refine st55 _ ?_
                      show Steps p.tables e below (T55.setTop (mkF m 20 #[.val (.int p0)] [(.int (F3 p0 (63744 : Int32) (64975 : Int32)))])) _
                      refine XS.ifNo X55.here hx rfl (hb hby d2_20) rfl ((if0 _ _).trans (teq c56).2) ?_
                      show Steps p.tables e below (T55.setTop (mkF m 23 #[.val (.int p0)] [])) _
                      refine XS.iloadN X55.here hx rfl (hb hby d2_23) rfl ?_
                      show Steps p.tables e below (T55.setTop (mkF m 24 #[.val (.int p0)] [(.int p0)])) _
                      refine X55.ldcInt hx hown (mvT hZ (hw _ (List.mem_of_getElem? (i := 4) rfl))) (g := (mkF m 24 #[.val (.int p0)] [(.int p0)])) rfl (hb hby d2_24) _ ?_
                      show Steps p.tables e below (T55.setTop (mkF m 26 #[.val (.int p0)] [(.int (65008 : Int32)), (.int p0)])) _
                      refine X55.ldcInt hx hown (mvT hZ (hw _ (List.mem_of_getElem? (i := 5) rfl))) (g := (mkF m 26 #[.val (.int p0)] [(.int (65008 : Int32)), (.int p0)])) rfl (hb hby d2_26) _ ?_
                      show Steps p.tables e below (T55.setTop (mkF m 28 #[.val (.int p0)] [(.int (65519 : Int32)), (.int (65008 : Int32)), (.int p0)])) _
                      refine st57 _ ?_
                      show Steps p.tables e below (T57.setTop (mkF m 31 #[.val (.int p0)] [(.int (F3 p0 (65008 : Int32) (65519 : Int32)))])) _
                      refine XS.ifNo X57.here hx rfl (hb hby d2_31) rfl ((if0 _ _).trans (teq c58).2) ?_
                      show Steps p.tables e below (T57.setTop (mkF m 34 #[.val (.int p0)] [])) _
                      refine XS.iloadN X57.here hx rfl (hb hby d2_34) rfl ?_
                      show Steps p.tables e below (T57.setTop (mkF m 35 #[.val (.int p0)] [(.int p0)])) _
                      refine X57.ldcInt hx hown (mvT hZ (hw _ (List.mem_of_getElem? (i := 6) rfl))) (g := (mkF m 35 #[.val (.int p0)] [(.int p0)])) rfl (hb hby d2_35) _ ?_
                      show Steps p.tables e below (T57.setTop (mkF m 37 #[.val (.int p0)] [(.int (65536 : Int32)), (.int p0)])) _
                      refine X57.ldcInt hx hown (mvT hZ (hw _ (List.mem_of_getElem? (i := 7) rfl))) (g := (mkF m 37 #[.val (.int p0)] [(.int (65536 : Int32)), (.int p0)])) rfl (hb hby d2_37) _ ?_
                      show Steps p.tables e below (T57.setTop (mkF m 39 #[.val (.int p0)] [(.int (131069 : Int32)), (.int (65536 : Int32)), (.int p0)])) _
                      refine st59 _ ?_
                      show Steps p.tables e below (T59.setTop (mkF m 42 #[.val (.int p0)] [(.int (F3 p0 (65536 : Int32) (131069 : Int32)))])) _
                      refine XS.ifNo X59.here hx rfl (hb hby d2_42) rfl ((if0 _ _).trans (teq c60).2) ?_
                      show Steps p.tables e below (T59.setTop (mkF m 45 #[.val (.int p0)] [])) _
                      refine XS.iloadN X59.here hx rfl (hb hby d2_45) rfl ?_
                      show Steps p.tables e below (T59.setTop (mkF m 46 #[.val (.int p0)] [(.int p0)])) _
                      refine X59.ldcInt hx hown (mvT hZ (hw _ (List.mem_of_getElem? (i := 35) rfl))) (g := (mkF m 46 #[.val (.int p0)] [(.int p0)])) rfl (hb hby d2_46) _ ?_
                      show Steps p.tables e below (T59.setTop (mkF m 48 #[.val (.int p0)] [(.int (131072 : Int32)), (.int p0)])) _
                      refine X59.ldcInt hx hown (mvT hZ (hw _ (List.mem_of_getElem? (i := 36) rfl))) (g := (mkF m 48 #[.val (.int p0)] [(.int (131072 : Int32)), (.int p0)])) rfl (hb hby d2_48) _ ?_
                      show Steps p.tables e below (T59.setTop (mkF m 50 #[.val (.int p0)] [(.int (196605 : Int32)), (.int (131072 : Int32)), (.int p0)])) _
                      refine st61 _ ?_
                      show Steps p.tables e below (T61.setTop (mkF m 53 #[.val (.int p0)] [(.int (F3 p0 (131072 : Int32) (196605 : Int32)))])) _
                      refine XS.ifNo X61.here hx rfl (hb hby d2_53) rfl ((if0 _ _).trans (teq c62).2) ?_
                      show Steps p.tables e below (T61.setTop (mkF m 56 #[.val (.int p0)] [])) _
                      refine XS.iloadN X61.here hx rfl (hb hby d2_56) rfl ?_
                      show Steps p.tables e below (T61.setTop (mkF m 57 #[.val (.int p0)] [(.int p0)])) _
                      refine X61.ldcInt hx hown (mvT hZ (hw _ (List.mem_of_getElem? (i := 37) rfl))) (g := (mkF m 57 #[.val (.int p0)] [(.int p0)])) rfl (hb hby d2_57) _ ?_
                      show Steps p.tables e below (T61.setTop (mkF m 59 #[.val (.int p0)] [(.int (196608 : Int32)), (.int p0)])) _
                      refine X61.ldcInt hx hown (mvT hZ (hw _ (List.mem_of_getElem? (i := 38) rfl))) (g := (mkF m 59 #[.val (.int p0)] [(.int (196608 : Int32)), (.int p0)])) rfl (hb hby d2_59) _ ?_
                      show Steps p.tables e below (T61.setTop (mkF m 61 #[.val (.int p0)] [(.int (262141 : Int32)), (.int (196608 : Int32)), (.int p0)])) _
                      refine st63 _ ?_
                      show Steps p.tables e below (T63.setTop (mkF m 64 #[.val (.int p0)] [(.int (F3 p0 (196608 : Int32) (262141 : Int32)))])) _
                      refine XS.ifNo X63.here hx rfl (hb hby d2_64) rfl ((if0 _ _).trans (teq c64).2) ?_
                      show Steps p.tables e below (T63.setTop (mkF m 67 #[.val (.int p0)] [])) _
                      refine XS.iloadN X63.here hx rfl (hb hby d2_67) rfl ?_
                      show Steps p.tables e below (T63.setTop (mkF m 68 #[.val (.int p0)] [(.int p0)])) _
                      refine X63.ldcInt hx hown (mvT hZ (hw _ (List.mem_of_getElem? (i := 39) rfl))) (g := (mkF m 68 #[.val (.int p0)] [(.int p0)])) rfl (hb hby d2_68) _ ?_
                      show Steps p.tables e below (T63.setTop (mkF m 70 #[.val (.int p0)] [(.int (262144 : Int32)), (.int p0)])) _
                      refine X63.ldcInt hx hown (mvT hZ (hw _ (List.mem_of_getElem? (i := 40) rfl))) (g := (mkF m 70 #[.val (.int p0)] [(.int (262144 : Int32)), (.int p0)])) rfl (hb hby d2_70) _ ?_
                      show Steps p.tables e below (T63.setTop (mkF m 72 #[.val (.int p0)] [(.int (327677 : Int32)), (.int (262144 : Int32)), (.int p0)])) _
                      refine st65 _ ?_
                      show Steps p.tables e below (T65.setTop (mkF m 75 #[.val (.int p0)] [(.int (F3 p0 (262144 : Int32) (327677 : Int32)))])) _
                      refine XS.ifNo X65.here hx rfl (hb hby d2_75) rfl ((if0 _ _).trans (teq c66).2) ?_
                      show Steps p.tables e below (T65.setTop (mkF m 78 #[.val (.int p0)] [])) _
                      refine XS.iloadN X65.here hx rfl (hb hby d2_78) rfl ?_
                      show Steps p.tables e below (T65.setTop (mkF m 79 #[.val (.int p0)] [(.int p0)])) _
                      refine X65.ldcInt hx hown (mvT hZ (hw _ (List.mem_of_getElem? (i := 41) rfl))) (g := (mkF m 79 #[.val (.int p0)] [(.int p0)])) rfl (hb hby d2_79) _ ?_
                      show Steps p.tables e below (T65.setTop (mkF m 81 #[.val (.int p0)] [(.int (327680 : Int32)), (.int p0)])) _
                      refine X65.ldcInt hx hown (mvT hZ (hw _ (List.mem_of_getElem? (i := 42) rfl))) (g := (mkF m 81 #[.val (.int p0)] [(.int (327680 : Int32)), (.int p0)])) rfl (hb hby d2_81) _ ?_
                      show Steps p.tables e below (T65.setTop (mkF m 83 #[.val (.int p0)] [(.int (393213 : Int32)), (.int (327680 : Int32)), (.int p0)])) _
                      refine st67 _ ?_
                      show Steps p.tables e below (T67.setTop (mkF m 86 #[.val (.int p0)] [(.int (F3 p0 (327680 : Int32) (393213 : Int32)))])) _
                      refine XS.ifNo X67.here hx rfl (hb hby d2_86) rfl ((if0 _ _).trans (teq c68).2) ?_
                      show Steps p.tables e below (T67.setTop (mkF m 89 #[.val (.int p0)] [])) _
                      refine XS.iloadN X67.here hx rfl (hb hby d2_89) rfl ?_
                      show Steps p.tables e below (T67.setTop (mkF m 90 #[.val (.int p0)] [(.int p0)])) _
                      refine X67.ldcInt hx hown (mvT hZ (hw _ (List.mem_of_getElem? (i := 43) rfl))) (g := (mkF m 90 #[.val (.int p0)] [(.int p0)])) rfl (hb hby d2_90) _ ?_
                      show Steps p.tables e below (T67.setTop (mkF m 92 #[.val (.int p0)] [(.int (393216 : Int32)), (.int p0)])) _
                      refine X67.ldcInt hx hown (mvT hZ (hw _ (List.mem_of_getElem? (i := 44) rfl))) (g := (mkF m 92 #[.val (.int p0)] [(.int (393216 : Int32)), (.int p0)])) rfl (hb hby d2_92) _ ?_
                      show Steps p.tables e below (T67.setTop (mkF m 94 #[.val (.int p0)] [(.int (458749 : Int32)), (.int (393216 : Int32)), (.int p0)])) _
                      refine st69 _ ?_
                      show Steps p.tables e below (T69.setTop (mkF m 97 #[.val (.int p0)] [(.int (F3 p0 (393216 : Int32) (458749 : Int32)))])) _
                      refine XS.ifYes X69.here hx rfl (pc0 := 97) (pc' := 188) rfl (hb hby d2_97) rfl ((if0 _ _).trans (feq c70).2) (by decide) (by decide) ?_
                      show Steps p.tables e below (T69.setTop (mkF m 188 #[.val (.int p0)] [])) _
                      refine XS.iconst X69.here hx rfl (hb hby d2_188) ?_
                      show Steps p.tables e below (T69.setTop (mkF m 189 #[.val (.int p0)] [(.int (1 : Int32))])) _
                      refine XS.goto X69.here hx rfl (pc0 := 189) (pc' := 193) rfl (hb hby d2_189) (by decide) (by decide) ?_
                      show Steps p.tables e below (T69.setTop (mkF m 193 #[.val (.int p0)] [(.int (1 : Int32))])) _
                      exact retN X69 hx (t := .boolean) Bd.returns (by simp) (hb hby d2_193) hr
                    · show Q2 Z p0 h0 n0 _ T69.heap _
                      rw [e69]
                      exact ⟨(congrArg (fun z => some (Value.int z)) ((if_pos c54).trans ((if_pos c56).trans ((if_pos c58).trans ((if_pos c60).trans ((if_pos c62).trans ((if_pos c64).trans ((if_pos c66).trans ((if_pos c68).trans ((if_neg c70).trans rfl))))))))).symm), N69, rfl⟩
                · obtain ⟨fs, hr, hrun, hended, hW, hsame⟩ := X67.leave (v := some (.int (1 : Int32))) (fun h => by rw [Bd.returns] at h; cases h)
                  refine ⟨_, _, pre0 _ ?_, hrun, hended, _, _, rfl, ?_, ⟨_, rfl⟩, hW, hsame.mono (by decide) (by decide)⟩
                  · show Steps p.tables e below (s₁.setTop (mkF m 0 #[.val (.int p0)] [])) _
                    refine XS.iloadN X0.here hx rfl (hb hby d2_0) rfl ?_
                    show Steps p.tables e below (s₁.setTop (mkF m 1 #[.val (.int p0)] [(.int p0)])) _
                    refine XS.sipush X0.here hx rfl (hb hby d2_1) ?_
                    show Steps p.tables e below (s₁.setTop (mkF m 4 #[.val (.int p0)] [(.int (160 : Int32)), (.int p0)])) _
                    refine X0.ldcInt hx hown (mvT hZ (hw _ (List.mem_of_getElem? (i := 1) rfl))) (g := (mkF m 4 #[.val (.int p0)] [(.int (160 : Int32)), (.int p0)])) rfl (hb hby d2_4) _ ?_
                    show Steps p.tables e below (s₁.setTop (mkF m 6 #[.val (.int p0)] [(.int (55295 : Int32)), (.int (160 : Int32)), (.int p0)])) _
                    refine st53 _ ?_
                    show Steps p.tables e below (T53.setTop (mkF m 9 #[.val (.int p0)] [(.int (F3 p0 (160 : Int32) (55295 : Int32)))])) _
                    refine XS.ifNo X53.here hx rfl (hb hby d2_9) rfl ((if0 _ _).trans (teq c54).2) ?_
                    show Steps p.tables e below (T53.setTop (mkF m 12 #[.val (.int p0)] [])) _
                    refine XS.iloadN X53.here hx rfl (hb hby d2_12) rfl ?_
                    show Steps p.tables e below (T53.setTop (mkF m 13 #[.val (.int p0)] [(.int p0)])) _
                    refine X53.ldcInt hx hown (mvT hZ (hw _ (List.mem_of_getElem? (i := 2) rfl))) (g := (mkF m 13 #[.val (.int p0)] [(.int p0)])) rfl (hb hby d2_13) _ ?_
                    show Steps p.tables e below (T53.setTop (mkF m 15 #[.val (.int p0)] [(.int (63744 : Int32)), (.int p0)])) _
                    refine X53.ldcInt hx hown (mvT hZ (hw _ (List.mem_of_getElem? (i := 3) rfl))) (g := (mkF m 15 #[.val (.int p0)] [(.int (63744 : Int32)), (.int p0)])) rfl (hb hby d2_15) _ ?_
                    show Steps p.tables e below (T53.setTop (mkF m 17 #[.val (.int p0)] [(.int (64975 : Int32)), (.int (63744 : Int32)), (.int p0)])) _
                    refine st55 _ ?_
                    show Steps p.tables e below (T55.setTop (mkF m 20 #[.val (.int p0)] [(.int (F3 p0 (63744 : Int32) (64975 : Int32)))])) _
                    refine XS.ifNo X55.here hx rfl (hb hby d2_20) rfl ((if0 _ _).trans (teq c56).2) ?_
                    show Steps p.tables e below (T55.setTop (mkF m 23 #[.val (.int p0)] [])) _
                    refine XS.iloadN X55.here hx rfl (hb hby d2_23) rfl ?_
                    show Steps p.tables e below (T55.setTop (mkF m 24 #[.val (.int p0)] [(.int p0)])) _
                    refine X55.ldcInt hx hown (mvT hZ (hw _ (List.mem_of_getElem? (i := 4) rfl))) (g := (mkF m 24 #[.val (.int p0)] [(.int p0)])) rfl (hb hby d2_24) _ ?_
                    show Steps p.tables e below (T55.setTop (mkF m 26 #[.val (.int p0)] [(.int (65008 : Int32)), (.int p0)])) _
                    refine X55.ldcInt hx hown (mvT hZ (hw _ (List.mem_of_getElem? (i := 5) rfl))) (g := (mkF m 26 #[.val (.int p0)] [(.int (65008 : Int32)), (.int p0)])) rfl (hb hby d2_26) _ ?_
                    show Steps p.tables e below (T55.setTop (mkF m 28 #[.val (.int p0)] [(.int (65519 : Int32)), (.int (65008 : Int32)), (.int p0)])) _
                    refine st57 _ ?_
                    show Steps p.tables e below (T57.setTop (mkF m 31 #[.val (.int p0)] [(.int (F3 p0 (65008 : Int32) (65519 : Int32)))])) _
                    refine XS.ifNo X57.here hx rfl (hb hby d2_31) rfl ((if0 _ _).trans (teq c58).2) ?_
                    show Steps p.tables e below (T57.setTop (mkF m 34 #[.val (.int p0)] [])) _
                    refine XS.iloadN X57.here hx rfl (hb hby d2_34) rfl ?_
                    show Steps p.tables e below (T57.setTop (mkF m 35 #[.val (.int p0)] [(.int p0)])) _
                    refine X57.ldcInt hx hown (mvT hZ (hw _ (List.mem_of_getElem? (i := 6) rfl))) (g := (mkF m 35 #[.val (.int p0)] [(.int p0)])) rfl (hb hby d2_35) _ ?_
                    show Steps p.tables e below (T57.setTop (mkF m 37 #[.val (.int p0)] [(.int (65536 : Int32)), (.int p0)])) _
                    refine X57.ldcInt hx hown (mvT hZ (hw _ (List.mem_of_getElem? (i := 7) rfl))) (g := (mkF m 37 #[.val (.int p0)] [(.int (65536 : Int32)), (.int p0)])) rfl (hb hby d2_37) _ ?_
                    show Steps p.tables e below (T57.setTop (mkF m 39 #[.val (.int p0)] [(.int (131069 : Int32)), (.int (65536 : Int32)), (.int p0)])) _
                    refine st59 _ ?_
                    show Steps p.tables e below (T59.setTop (mkF m 42 #[.val (.int p0)] [(.int (F3 p0 (65536 : Int32) (131069 : Int32)))])) _
                    refine XS.ifNo X59.here hx rfl (hb hby d2_42) rfl ((if0 _ _).trans (teq c60).2) ?_
                    show Steps p.tables e below (T59.setTop (mkF m 45 #[.val (.int p0)] [])) _
                    refine XS.iloadN X59.here hx rfl (hb hby d2_45) rfl ?_
                    show Steps p.tables e below (T59.setTop (mkF m 46 #[.val (.int p0)] [(.int p0)])) _
                    refine X59.ldcInt hx hown (mvT hZ (hw _ (List.mem_of_getElem? (i := 35) rfl))) (g := (mkF m 46 #[.val (.int p0)] [(.int p0)])) rfl (hb hby d2_46) _ ?_
                    show Steps p.tables e below (T59.setTop (mkF m 48 #[.val (.int p0)] [(.int (131072 : Int32)), (.int p0)])) _
                    refine X59.ldcInt hx hown (mvT hZ (hw _ (List.mem_of_getElem? (i := 36) rfl))) (g := (mkF m 48 #[.val (.int p0)] [(.int (131072 : Int32)), (.int p0)])) rfl (hb hby d2_48) _ ?_
                    show Steps p.tables e below (T59.setTop (mkF m 50 #[.val (.int p0)] [(.int (196605 : Int32)), (.int (131072 : Int32)), (.int p0)])) _
                    refine st61 _ ?_
                    show Steps p.tables e below (T61.setTop (mkF m 53 #[.val (.int p0)] [(.int (F3 p0 (131072 : Int32) (196605 : Int32)))])) _
                    refine XS.ifNo X61.here hx rfl (hb hby d2_53) rfl ((if0 _ _).trans (teq c62).2) ?_
                    show Steps p.tables e below (T61.setTop (mkF m 56 #[.val (.int p0)] [])) _
                    refine XS.iloadN X61.here hx rfl (hb hby d2_56) rfl ?_
                    show Steps p.tables e below (T61.setTop (mkF m 57 #[.val (.int p0)] [(.int p0)])) _
                    refine X61.ldcInt hx hown (mvT hZ (hw _ (List.mem_of_getElem? (i := 37) rfl))) (g := (mkF m 57 #[.val (.int p0)] [(.int p0)])) rfl (hb hby d2_57) _ ?_
                    show Steps p.tables e below (T61.setTop (mkF m 59 #[.val (.int p0)] [(.int (196608 : Int32)), (.int p0)])) _
                    refine X61.ldcInt hx hown (mvT hZ (hw _ (List.mem_of_getElem? (i := 38) rfl))) (g := (mkF m 59 #[.val (.int p0)] [(.int (196608 : Int32)), (.int p0)])) rfl (hb hby d2_59) _ ?_
                    show Steps p.tables e below (T61.setTop (mkF m 61 #[.val (.int p0)] [(.int (262141 : Int32)), (.int (196608 : Int32)), (.int p0)])) _
                    refine st63 _ ?_
                    show Steps p.tables e below (T63.setTop (mkF m 64 #[.val (.int p0)] [(.int (F3 p0 (196608 : Int32) (262141 : Int32)))])) _
                    refine XS.ifNo X63.here hx rfl (hb hby d2_64) rfl ((if0 _ _).trans (teq c64).2) ?_
                    show Steps p.tables e below (T63.setTop (mkF m 67 #[.val (.int p0)] [])) _
                    refine XS.iloadN X63.here hx rfl (hb hby d2_67) rfl ?_
                    show Steps p.tables e below (T63.setTop (mkF m 68 #[.val (.int p0)] [(.int p0)])) _
                    refine X63.ldcInt hx hown (mvT hZ (hw _ (List.mem_of_getElem? (i := 39) rfl))) (g := (mkF m 68 #[.val (.int p0)] [(.int p0)])) rfl (hb hby d2_68) _ ?_
                    show Steps p.tables e below (T63.setTop (mkF m 70 #[.val (.int p0)] [(.int (262144 : Int32)), (.int p0)])) _
                    refine X63.ldcInt hx hown (mvT hZ (hw _ (List.mem_of_getElem? (i := 40) rfl))) (g := (mkF m 70 #[.val (.int p0)] [(.int (262144 : Int32)), (.int p0)])) rfl (hb hby d2_70) _ ?_
                    show Steps p.tables e below (T63.setTop (mkF m 72 #[.val (.int p0)] [(.int (327677 : Int32)), (.int (262144 : Int32)), (.int p0)])) _
                    refine st65 _ ?_
                    show Steps p.tables e below (T65.setTop (mkF m 75 #[.val (.int p0)] [(.int (F3 p0 (262144 : Int32) (327677 : Int32)))])) _
                    refine XS.ifNo X65.here hx rfl (hb hby d2_75) rfl ((if0 _ _).trans (teq c66).2) ?_
                    show Steps p.tables e below (T65.setTop (mkF m 78 #[.val (.int p0)] [])) _
                    refine XS.iloadN X65.here hx rfl (hb hby d2_78) rfl ?_
                    show Steps p.tables e below (T65.setTop (mkF m 79 #[.val (.int p0)] [(.int p0)])) _
                    refine X65.ldcInt hx hown (mvT hZ (hw _ (List.mem_of_getElem? (i := 41) rfl))) (g := (mkF m 79 #[.val (.int p0)] [(.int p0)])) rfl (hb hby d2_79) _ ?_
                    show Steps p.tables e below (T65.setTop (mkF m 81 #[.val (.int p0)] [(.int (327680 : Int32)), (.int p0)])) _
                    refine X65.ldcInt hx hown (mvT hZ (hw _ (List.mem_of_getElem? (i := 42) rfl))) (g := (mkF m 81 #[.val (.int p0)] [(.int (327680 : Int32)), (.int p0)])) rfl (hb hby d2_81) _ ?_
                    show Steps p.tables e below (T65.setTop (mkF m 83 #[.val (.int p0)] [(.int (393213 : Int32)), (.int (327680 : Int32)), (.int p0)])) _
                    refine st67 _ ?_
                    show Steps p.tables e below (T67.setTop (mkF m 86 #[.val (.int p0)] [(.int (F3 p0 (327680 : Int32) (393213 : Int32)))])) _
                    refine XS.ifYes X67.here hx rfl (pc0 := 86) (pc' := 188) rfl (hb hby d2_86) rfl ((if0 _ _).trans (feq c68).2) (by decide) (by decide) ?_
                    show Steps p.tables e below (T67.setTop (mkF m 188 #[.val (.int p0)] [])) _
                    refine XS.iconst X67.here hx rfl (hb hby d2_188) ?_
                    show Steps p.tables e below (T67.setTop (mkF m 189 #[.val (.int p0)] [(.int (1 : Int32))])) _
                    refine XS.goto X67.here hx rfl (pc0 := 189) (pc' := 193) rfl (hb hby d2_189) (by decide) (by decide) ?_
                    show Steps p.tables e below (T67.setTop (mkF m 193 #[.val (.int p0)] [(.int (1 : Int32))])) _
                    exact retN X67 hx (t := .boolean) Bd.returns (by simp) (hb hby d2_193) hr
                  · show Q2 Z p0 h0 n0 _ T67.heap _
                    rw [e67]
                    exact ⟨(congrArg (fun z => some (Value.int z)) ((if_pos c54).trans ((if_pos c56).trans ((if_pos c58).trans ((if_pos c60).trans ((if_pos c62).trans ((if_pos c64).trans ((if_pos c66).trans ((if_neg c68).trans rfl)))))))).symm), N67, rfl⟩
              · obtain ⟨fs, hr, hrun, hended, hW, hsame⟩ := X65.leave (v := some (.int (1 : Int32))) (fun h => by rw [Bd.returns] at h; cases h)
                refine ⟨_, _, pre0 _ ?_, hrun, hended, _, _, rfl, ?_, ⟨_, rfl⟩, hW, hsame.mono (by decide) (by decide)⟩
                · show Steps p.tables e below (s₁.setTop (mkF m 0 #[.val (.int p0)] [])) _
                  refine XS.iloadN X0.here hx rfl (hb hby d2_0) rfl ?_
                  show Steps p.tables e below (s₁.setTop (mkF m 1 #[.val (.int p0)] [(.int p0)])) _
                  refine XS.sipush X0.here hx rfl (hb hby d2_1) ?_
                  show Steps p.tables e below (s₁.setTop (mkF m 4 #[.val (.int p0)] [(.int (160 : Int32)), (.int p0)])) _
                  refine X0.ldcInt hx hown (mvT hZ (hw _ (List.mem_of_getElem? (i := 1) rfl))) (g := (mkF m 4 #[.val (.int p0)] [(.int (160 : Int32)), (.int p0)])) rfl (hb hby d2_4) _ ?_
                  show Steps p.tables e below (s₁.setTop (mkF m 6 #[.val (.int p0)] [(.int (55295 : Int32)), (.int (160 : Int32)), (.int p0)])) _
                  refine st53 _ ?_
                  show Steps p.tables e below (T53.setTop (mkF m 9 #[.val (.int p0)] [(.int (F3 p0 (160 : Int32) (55295 : Int32)))])) _
                  refine XS.ifNo X53.here hx rfl (hb hby d2_9) rfl ((if0 _ _).trans (teq c54).2) ?_
                  show Steps p.tables e below (T53.setTop (mkF m 12 #[.val (.int p0)] [])) _
                  refine XS.iloadN X53.here hx rfl (hb hby d2_12) rfl ?_
                  show Steps p.tables e below (T53.setTop (mkF m 13 #[.val (.int p0)] [(.int p0)])) _
                  refine X53.ldcInt hx hown (mvT hZ (hw _ (List.mem_of_getElem? (i := 2) rfl))) (g := (mkF m 13 #[.val (.int p0)] [(.int p0)])) rfl (hb hby d2_13) _ ?_
                  show Steps p.tables e below (T53.setTop (mkF m 15 #[.val (.int p0)] [(.int (63744 : Int32)), (.int p0)])) _
                  refine X53.ldcInt hx hown (mvT hZ (hw _ (List.mem_of_getElem? (i := 3) rfl))) (g := (mkF m 15 #[.val (.int p0)] [(.int (63744 : Int32)), (.int p0)])) rfl (hb hby d2_15) _ ?_
                  show Steps p.tables e below (T53.setTop (mkF m 17 #[.val (.int p0)] [(.int (64975 : Int32)), (.int (63744 : Int32)), (.int p0)])) _
                  refine st55 _ ?_
                  show Steps p.tables e below (T55.setTop (mkF m 20 #[.val (.int p0)] [(.int (F3 p0 (63744 : Int32) (64975 : Int32)))])) _
                  refine XS.ifNo X55.here hx rfl (hb hby d2_20) rfl ((if0 _ _).trans (teq c56).2) ?_
                  show Steps p.tables e below (T55.setTop (mkF m 23 #[.val (.int p0)] [])) _
                  refine XS.iloadN X55.here hx rfl (hb hby d2_23) rfl ?_
                  show Steps p.tables e below (T55.setTop (mkF m 24 #[.val (.int p0)] [(.int p0)])) _
                  refine X55.ldcInt hx hown (mvT hZ (hw _ (List.mem_of_getElem? (i := 4) rfl))) (g := (mkF m 24 #[.val (.int p0)] [(.int p0)])) rfl (hb hby d2_24) _ ?_
                  show Steps p.tables e below (T55.setTop (mkF m 26 #[.val (.int p0)] [(.int (65008 : Int32)), (.int p0)])) _
                  refine X55.ldcInt hx hown (mvT hZ (hw _ (List.mem_of_getElem? (i := 5) rfl))) (g := (mkF m 26 #[.val (.int p0)] [(.int (65008 : Int32)), (.int p0)])) rfl (hb hby d2_26) _ ?_
                  show Steps p.tables e below (T55.setTop (mkF m 28 #[.val (.int p0)] [(.int (65519 : Int32)), (.int (65008 : Int32)), (.int p0)])) _
                  refine st57 _ ?_
                  show Steps p.tables e below (T57.setTop (mkF m 31 #[.val (.int p0)] [(.int (F3 p0 (65008 : Int32) (65519 : Int32)))])) _
                  refine XS.ifNo X57.here hx rfl (hb hby d2_31) rfl ((if0 _ _).trans (teq c58).2) ?_
                  show Steps p.tables e below (T57.setTop (mkF m 34 #[.val (.int p0)] [])) _
                  refine XS.iloadN X57.here hx rfl (hb hby d2_34) rfl ?_
                  show Steps p.tables e below (T57.setTop (mkF m 35 #[.val (.int p0)] [(.int p0)])) _
                  refine X57.ldcInt hx hown (mvT hZ (hw _ (List.mem_of_getElem? (i := 6) rfl))) (g := (mkF m 35 #[.val (.int p0)] [(.int p0)])) rfl (hb hby d2_35) _ ?_
                  show Steps p.tables e below (T57.setTop (mkF m 37 #[.val (.int p0)] [(.int (65536 : Int32)), (.int p0)])) _
                  refine X57.ldcInt hx hown (mvT hZ (hw _ (List.mem_of_getElem? (i := 7) rfl))) (g := (mkF m 37 #[.val (.int p0)] [(.int (65536 : Int32)), (.int p0)])) rfl (hb hby d2_37) _ ?_
                  show Steps p.tables e below (T57.setTop (mkF m 39 #[.val (.int p0)] [(.int (131069 : Int32)), (.int (65536 : Int32)), (.int p0)])) _
                  refine st59 _ ?_
                  show Steps p.tables e below (T59.setTop (mkF m 42 #[.val (.int p0)] [(.int (F3 p0 (65536 : Int32) (131069 : Int32)))])) _
                  refine XS.ifNo X59.here hx rfl (hb hby d2_42) rfl ((if0 _ _).trans (teq c60).2) ?_
                  show Steps p.tables e below (T59.setTop (mkF m 45 #[.val (.int p0)] [])) _
                  refine XS.iloadN X59.here hx rfl (hb hby d2_45) rfl ?_
                  show Steps p.tables e below (T59.setTop (mkF m 46 #[.val (.int p0)] [(.int p0)])) _
                  refine X59.ldcInt hx hown (mvT hZ (hw _ (List.mem_of_getElem? (i := 35) rfl))) (g := (mkF m 46 #[.val (.int p0)] [(.int p0)])) rfl (hb hby d2_46) _ ?_
                  show Steps p.tables e below (T59.setTop (mkF m 48 #[.val (.int p0)] [(.int (131072 : Int32)), (.int p0)])) _
                  refine X59.ldcInt hx hown (mvT hZ (hw _ (List.mem_of_getElem? (i := 36) rfl))) (g := (mkF m 48 #[.val (.int p0)] [(.int (131072 : Int32)), (.int p0)])) rfl (hb hby d2_48) _ ?_
                  show Steps p.tables e below (T59.setTop (mkF m 50 #[.val (.int p0)] [(.int (196605 : Int32)), (.int (131072 : Int32)), (.int p0)])) _
                  refine st61 _ ?_
                  show Steps p.tables e below (T61.setTop (mkF m 53 #[.val (.int p0)] [(.int (F3 p0 (131072 : Int32) (196605 : Int32)))])) _
                  refine XS.ifNo X61.here hx rfl (hb hby d2_53) rfl ((if0 _ _).trans (teq c62).2) ?_
                  show Steps p.tables e below (T61.setTop (mkF m 56 #[.val (.int p0)] [])) _
                  refine XS.iloadN X61.here hx rfl (hb hby d2_56) rfl ?_
                  show Steps p.tables e below (T61.setTop (mkF m 57 #[.val (.int p0)] [(.int p0)])) _
                  refine X61.ldcInt hx hown (mvT hZ (hw _ (List.mem_of_getElem? (i := 37) rfl))) (g := (mkF m 57 #[.val (.int p0)] [(.int p0)])) rfl (hb hby d2_57) _ ?_
                  show Steps p.tables e below (T61.setTop (mkF m 59 #[.val (.int p0)] [(.int (196608 : Int32)), (.int p0)])) _
                  refine X61.ldcInt hx hown (mvT hZ (hw _ (List.mem_of_getElem? (i := 38) rfl))) (g := (mkF m 59 #[.val (.int p0)] [(.int (196608 : Int32)), (.int p0)])) rfl (hb hby d2_59) _ ?_
                  show Steps p.tables e below (T61.setTop (mkF m 61 #[.val (.int p0)] [(.int (262141 : Int32)), (.int (196608 : Int32)), (.int p0)])) _
                  refine st63 _ ?_
                  show Steps p.tables e below (T63.setTop (mkF m 64 #[.val (.int p0)] [(.int (F3 p0 (196608 : Int32) (262141 : Int32)))])) _
                  refine XS.ifNo X63.here hx rfl (hb hby d2_64) rfl ((if0 _ _).trans (teq c64).2) ?_
                  show Steps p.tables e below (T63.setTop (mkF m 67 #[.val (.int p0)] [])) _
                  refine XS.iloadN X63.here hx rfl (hb hby d2_67) rfl ?_
                  show Steps p.tables e below (T63.setTop (mkF m 68 #[.val (.int p0)] [(.int p0)])) _
                  refine X63.ldcInt hx hown (mvT hZ (hw _ (List.mem_of_getElem? (i := 39) rfl))) (g := (mkF m 68 #[.val (.int p0)] [(.int p0)])) rfl (hb hby d2_68) _ ?_
                  show Steps p.tables e below (T63.setTop (mkF m 70 #[.val (.int p0)] [(.int (262144 : Int32)), (.int p0)])) _
                  refine X63.ldcInt hx hown (mvT hZ (hw _ (List.mem_of_getElem? (i := 40) rfl))) (g := (mkF m 70 #[.val (.int p0)] [(.int (262144 : Int32)), (.int p0)])) rfl (hb hby d2_70) _ ?_
                  show Steps p.tables e below (T63.setTop (mkF m 72 #[.val (.int p0)] [(.int (327677 : Int32)), (.int (262144 : Int32)), (.int p0)])) _
                  refine st65 _ ?_
                  show Steps p.tables e below (T65.setTop (mkF m 75 #[.val (.int p0)] [(.int (F3 p0 (262144 : Int32) (327677 : Int32)))])) _
                  refine XS.ifYes X65.here hx rfl (pc0 := 75) (pc' := 188) rfl (hb hby d2_75) rfl ((if0 _ _).trans (feq c66).2) (by decide) (by decide) ?_
                  show Steps p.tables e below (T65.setTop (mkF m 188 #[.val (.int p0)] [])) _
                  refine XS.iconst X65.here hx rfl (hb hby d2_188) ?_
                  show Steps p.tables e below (T65.setTop (mkF m 189 #[.val (.int p0)] [(.int (1 : Int32))])) _
                  refine XS.goto X65.here hx rfl (pc0 := 189) (pc' := 193) rfl (hb hby d2_189) (by decide) (by decide) ?_
                  show Steps p.tables e below (T65.setTop (mkF m 193 #[.val (.int p0)] [(.int (1 : Int32))])) _
                  exact retN X65 hx (t := .boolean) Bd.returns (by simp) (hb hby d2_193) hr
                · show Q2 Z p0 h0 n0 _ T65.heap _
                  rw [e65]
                  exact ⟨(congrArg (fun z => some (Value.int z)) ((if_pos c54).trans ((if_pos c56).trans ((if_pos c58).trans ((if_pos c60).trans ((if_pos c62).trans ((if_pos c64).trans ((if_neg c66).trans rfl))))))).symm), N65, rfl⟩
            · obtain ⟨fs, hr, hrun, hended, hW, hsame⟩ := X63.leave (v := some (.int (1 : Int32))) (fun h => by rw [Bd.returns] at h; cases h)
              refine ⟨_, _, pre0 _ ?_, hrun, hended, _, _, rfl, ?_, ⟨_, rfl⟩, hW, hsame.mono (by decide) (by decide)⟩
              · show Steps p.tables e below (s₁.setTop (mkF m 0 #[.val (.int p0)] [])) _
                refine XS.iloadN X0.here hx rfl (hb hby d2_0) rfl ?_
                show Steps p.tables e below (s₁.setTop (mkF m 1 #[.val (.int p0)] [(.int p0)])) _
                refine XS.sipush X0.here hx rfl (hb hby d2_1) ?_
                show Steps p.tables e below (s₁.setTop (mkF m 4 #[.val (.int p0)] [(.int (160 : Int32)), (.int p0)])) _
                refine X0.ldcInt hx hown (mvT hZ (hw _ (List.mem_of_getElem? (i := 1) rfl))) (g := (mkF m 4 #[.val (.int p0)] [(.int (160 : Int32)), (.int p0)])) rfl (hb hby d2_4) _ ?_
                show Steps p.tables e below (s₁.setTop (mkF m 6 #[.val (.int p0)] [(.int (55295 : Int32)), (.int (160 : Int32)), (.int p0)])) _
                refine st53 _ ?_
                show Steps p.tables e below (T53.setTop (mkF m 9 #[.val (.int p0)] [(.int (F3 p0 (160 : Int32) (55295 : Int32)))])) _
                refine XS.ifNo X53.here hx rfl (hb hby d2_9) rfl ((if0 _ _).trans (teq c54).2) ?_
                show Steps p.tables e below (T53.setTop (mkF m 12 #[.val (.int p0)] [])) _
                refine XS.iloadN X53.here hx rfl (hb hby d2_12) rfl ?_
                show Steps p.tables e below (T53.setTop (mkF m 13 #[.val (.int p0)] [(.int p0)])) _
                refine X53.ldcInt hx hown (mvT hZ (hw _ (List.mem_of_getElem? (i := 2) rfl))) (g := (mkF m 13 #[.val (.int p0)] [(.int p0)])) rfl (hb hby d2_13) _ ?_
                show Steps p.tables e below (T53.setTop (mkF m 15 #[.val (.int p0)] [(.int (63744 : Int32)), (.int p0)])) _
                refine X53.ldcInt hx hown (mvT hZ (hw _ (List.mem_of_getElem? (i := 3) rfl))) (g := (mkF m 15 #[.val (.int p0)] [(.int (63744 : Int32)), (.int p0)])) rfl (hb hby d2_15) _ ?_
                show Steps p.tables e below (T53.setTop (mkF m 17 #[.val (.int p0)] [(.int (64975 : Int32)), (.int (63744 : Int32)), (.int p0)])) _
                refine st55 _ ?_
                show Steps p.tables e below (T55.setTop (mkF m 20 #[.val (.int p0)] [(.int (F3 p0 (63744 : Int32) (64975 : Int32)))])) _
                refine XS.ifNo X55.here hx rfl (hb hby d2_20) rfl ((if0 _ _).trans (teq c56).2) ?_
                show Steps p.tables e below (T55.setTop (mkF m 23 #[.val (.int p0)] [])) _
                refine XS.iloadN X55.here hx rfl (hb hby d2_23) rfl ?_
                show Steps p.tables e below (T55.setTop (mkF m 24 #[.val (.int p0)] [(.int p0)])) _
                refine X55.ldcInt hx hown (mvT hZ (hw _ (List.mem_of_getElem? (i := 4) rfl))) (g := (mkF m 24 #[.val (.int p0)] [(.int p0)])) rfl (hb hby d2_24) _ ?_
                show Steps p.tables e below (T55.setTop (mkF m 26 #[.val (.int p0)] [(.int (65008 : Int32)), (.int p0)])) _
                refine X55.ldcInt hx hown (mvT hZ (hw _ (List.mem_of_getElem? (i := 5) rfl))) (g := (mkF m 26 #[.val (.int p0)] [(.int (65008 : Int32)), (.int p0)])) rfl (hb hby d2_26) _ ?_
                show Steps p.tables e below (T55.setTop (mkF m 28 #[.val (.int p0)] [(.int (65519 : Int32)), (.int (65008 : Int32)), (.int p0)])) _
                refine st57 _ ?_
                show Steps p.tables e below (T57.setTop (mkF m 31 #[.val (.int p0)] [(.int (F3 p0 (65008 : Int32) (65519 : Int32)))])) _
                refine XS.ifNo X57.here hx rfl (hb hby d2_31) rfl ((if0 _ _).trans (teq c58).2) ?_
                show Steps p.tables e below (T57.setTop (mkF m 34 #[.val (.int p0)] [])) _
                refine XS.iloadN X57.here hx rfl (hb hby d2_34) rfl ?_
                show Steps p.tables e below (T57.setTop (mkF m 35 #[.val (.int p0)] [(.int p0)])) _
                refine X57.ldcInt hx hown (mvT hZ (hw _ (List.mem_of_getElem? (i := 6) rfl))) (g := (mkF m 35 #[.val (.int p0)] [(.int p0)])) rfl (hb hby d2_35) _ ?_
                show Steps p.tables e below (T57.setTop (mkF m 37 #[.val (.int p0)] [(.int (65536 : Int32)), (.int p0)])) _
                refine X57.ldcInt hx hown (mvT hZ (hw _ (List.mem_of_getElem? (i := 7) rfl))) (g := (mkF m 37 #[.val (.int p0)] [(.int (65536 : Int32)), (.int p0)])) rfl (hb hby d2_37) _ ?_
                show Steps p.tables e below (T57.setTop (mkF m 39 #[.val (.int p0)] [(.int (131069 : Int32)), (.int (65536 : Int32)), (.int p0)])) _
                refine st59 _ ?_
                show Steps p.tables e below (T59.setTop (mkF m 42 #[.val (.int p0)] [(.int (F3 p0 (65536 : Int32) (131069 : Int32)))])) _
                refine XS.ifNo X59.here hx rfl (hb hby d2_42) rfl ((if0 _ _).trans (teq c60).2) ?_
                show Steps p.tables e below (T59.setTop (mkF m 45 #[.val (.int p0)] [])) _
                refine XS.iloadN X59.here hx rfl (hb hby d2_45) rfl ?_
                show Steps p.tables e below (T59.setTop (mkF m 46 #[.val (.int p0)] [(.int p0)])) _
                refine X59.ldcInt hx hown (mvT hZ (hw _ (List.mem_of_getElem? (i := 35) rfl))) (g := (mkF m 46 #[.val (.int p0)] [(.int p0)])) rfl (hb hby d2_46) _ ?_
                show Steps p.tables e below (T59.setTop (mkF m 48 #[.val (.int p0)] [(.int (131072 : Int32)), (.int p0)])) _
                refine X59.ldcInt hx hown (mvT hZ (hw _ (List.mem_of_getElem? (i := 36) rfl))) (g := (mkF m 48 #[.val (.int p0)] [(.int (131072 : Int32)), (.int p0)])) rfl (hb hby d2_48) _ ?_
                show Steps p.tables e below (T59.setTop (mkF m 50 #[.val (.int p0)] [(.int (196605 : Int32)), (.int (131072 : Int32)), (.int p0)])) _
                refine st61 _ ?_
                show Steps p.tables e below (T61.setTop (mkF m 53 #[.val (.int p0)] [(.int (F3 p0 (131072 : Int32) (196605 : Int32)))])) _
                refine XS.ifNo X61.here hx rfl (hb hby d2_53) rfl ((if0 _ _).trans (teq c62).2) ?_
                show Steps p.tables e below (T61.setTop (mkF m 56 #[.val (.int p0)] [])) _
                refine XS.iloadN X61.here hx rfl (hb hby d2_56) rfl ?_
                show Steps p.tables e below (T61.setTop (mkF m 57 #[.val (.int p0)] [(.int p0)])) _
                refine X61.ldcInt hx hown (mvT hZ (hw _ (List.mem_of_getElem? (i := 37) rfl))) (g := (mkF m 57 #[.val (.int p0)] [(.int p0)])) rfl (hb hby d2_57) _ ?_
                show Steps p.tables e below (T61.setTop (mkF m 59 #[.val (.int p0)] [(.int (196608 : Int32)), (.int p0)])) _
                refine X61.ldcInt hx hown (mvT hZ (hw _ (List.mem_of_getElem? (i := 38) rfl))) (g := (mkF m 59 #[.val (.int p0)] [(.int (196608 : Int32)), (.int p0)])) rfl (hb hby d2_59) _ ?_
                show Steps p.tables e below (T61.setTop (mkF m 61 #[.val (.int p0)] [(.int (262141 : Int32)), (.int (196608 : Int32)), (.int p0)])) _
                refine st63 _ ?_
                show Steps p.tables e below (T63.setTop (mkF m 64 #[.val (.int p0)] [(.int (F3 p0 (196608 : Int32) (262141 : Int32)))])) _
                refine XS.ifYes X63.here hx rfl (pc0 := 64) (pc' := 188) rfl (hb hby d2_64) rfl ((if0 _ _).trans (feq c64).2) (by decide) (by decide) ?_
                show Steps p.tables e below (T63.setTop (mkF m 188 #[.val (.int p0)] [])) _
                refine XS.iconst X63.here hx rfl (hb hby d2_188) ?_
                show Steps p.tables e below (T63.setTop (mkF m 189 #[.val (.int p0)] [(.int (1 : Int32))])) _
                refine XS.goto X63.here hx rfl (pc0 := 189) (pc' := 193) rfl (hb hby d2_189) (by decide) (by decide) ?_
                show Steps p.tables e below (T63.setTop (mkF m 193 #[.val (.int p0)] [(.int (1 : Int32))])) _
                exact retN X63 hx (t := .boolean) Bd.returns (by simp) (hb hby d2_193) hr
              · show Q2 Z p0 h0 n0 _ T63.heap _
                rw [e63]
                exact ⟨(congrArg (fun z => some (Value.int z)) ((if_pos c54).trans ((if_pos c56).trans ((if_pos c58).trans ((if_pos c60).trans ((if_pos c62).trans ((if_neg c64).trans rfl)))))).symm), N63, rfl⟩
          · obtain ⟨fs, hr, hrun, hended, hW, hsame⟩ := X61.leave (v := some (.int (1 : Int32))) (fun h => by rw [Bd.returns] at h; cases h)
            refine ⟨_, _, pre0 _ ?_, hrun, hended, _, _, rfl, ?_, ⟨_, rfl⟩, hW, hsame.mono (by decide) (by decide)⟩
            · show Steps p.tables e below (s₁.setTop (mkF m 0 #[.val (.int p0)] [])) _
              refine XS.iloadN X0.here hx rfl (hb hby d2_0) rfl ?_
              show Steps p.tables e below (s₁.setTop (mkF m 1 #[.val (.int p0)] [(.int p0)])) _
              refine XS.sipush X0.here hx rfl (hb hby d2_1) ?_
              show Steps p.tables e below (s₁.setTop (mkF m 4 #[.val (.int p0)] [(.int (160 : Int32)), (.int p0)])) _
              refine X0.ldcInt hx hown (mvT hZ (hw _ (List.mem_of_getElem? (i := 1) rfl))) (g := (mkF m 4 #[.val (.int p0)] [(.int (160 : Int32)), (.int p0)])) rfl (hb hby d2_4) _ ?_
              show Steps p.tables e below (s₁.setTop (mkF m 6 #[.val (.int p0)] [(.int (55295 : Int32)), (.int (160 : Int32)), (.int p0)])) _
              refine st53 _ ?_
              show Steps p.tables e below (T53.setTop (mkF m 9 #[.val (.int p0)] [(.int (F3 p0 (160 : Int32) (55295 : Int32)))])) _
              refine XS.ifNo X53.here hx rfl (hb hby d2_9) rfl ((if0 _ _).trans (teq c54).2) ?_
              show Steps p.tables e below (T53.setTop (mkF m 12 #[.val (.int p0)] [])) _
              refine XS.iloadN X53.here hx rfl (hb hby d2_12) rfl ?_
              show Steps p.tables e below (T53.setTop (mkF m 13 #[.val (.int p0)] [(.int p0)])) _
              refine X53.ldcInt hx hown (mvT hZ (hw _ (List.mem_of_getElem? (i := 2) rfl))) (g := (mkF m 13 #[.val (.int p0)] [(.int p0)])) rfl (hb hby d2_13) _ ?_
              show Steps p.tables e below (T53.setTop (mkF m 15 #[.val (.int p0)] [(.int (63744 : Int32)), (.int p0)])) _
              refine X53.ldcInt hx hown (mvT hZ (hw _ (List.mem_of_getElem? (i := 3) rfl))) (g := (mkF m 15 #[.val (.int p0)] [(.int (63744 : Int32)), (.int p0)])) rfl (hb hby d2_15) _ ?_
              show Steps p.tables e below (T53.setTop (mkF m 17 #[.val (.int p0)] [(.int (64975 : Int32)), (.int (63744 : Int32)), (.int p0)])) _
              refine st55 _ ?_
              show Steps p.tables e below (T55.setTop (mkF m 20 #[.val (.int p0)] [(.int (F3 p0 (63744 : Int32) (64975 : Int32)))])) _
              refine XS.ifNo X55.here hx rfl (hb hby d2_20) rfl ((if0 _ _).trans (teq c56).2) ?_
              show Steps p.tables e below (T55.setTop (mkF m 23 #[.val (.int p0)] [])) _
              refine XS.iloadN X55.here hx rfl (hb hby d2_23) rfl ?_
              show Steps p.tables e below (T55.setTop (mkF m 24 #[.val (.int p0)] [(.int p0)])) _
              refine X55.ldcInt hx hown (mvT hZ (hw _ (List.mem_of_getElem? (i := 4) rfl))) (g := (mkF m 24 #[.val (.int p0)] [(.int p0)])) rfl (hb hby d2_24) _ ?_
              show Steps p.tables e below (T55.setTop (mkF m 26 #[.val (.int p0)] [(.int (65008 : Int32)), (.int p0)])) _
              refine X55.ldcInt hx hown (mvT hZ (hw _ (List.mem_of_getElem? (i := 5) rfl))) (g := (mkF m 26 #[.val (.int p0)] [(.int (65008 : Int32)), (.int p0)])) rfl (hb hby d2_26) _ ?_
              show Steps p.tables e below (T55.setTop (mkF m 28 #[.val (.int p0)] [(.int (65519 : Int32)), (.int (65008 : Int32)), (.int p0)])) _
              refine st57 _ ?_
              show Steps p.tables e below (T57.setTop (mkF m 31 #[.val (.int p0)] [(.int (F3 p0 (65008 : Int32) (65519 : Int32)))])) _
              refine XS.ifNo X57.here hx rfl (hb hby d2_31) rfl ((if0 _ _).trans (teq c58).2) ?_
              show Steps p.tables e below (T57.setTop (mkF m 34 #[.val (.int p0)] [])) _
              refine XS.iloadN X57.here hx rfl (hb hby d2_34) rfl ?_
              show Steps p.tables e below (T57.setTop (mkF m 35 #[.val (.int p0)] [(.int p0)])) _
              refine X57.ldcInt hx hown (mvT hZ (hw _ (List.mem_of_getElem? (i := 6) rfl))) (g := (mkF m 35 #[.val (.int p0)] [(.int p0)])) rfl (hb hby d2_35) _ ?_
              show Steps p.tables e below (T57.setTop (mkF m 37 #[.val (.int p0)] [(.int (65536 : Int32)), (.int p0)])) _
              refine X57.ldcInt hx hown (mvT hZ (hw _ (List.mem_of_getElem? (i := 7) rfl))) (g := (mkF m 37 #[.val (.int p0)] [(.int (65536 : Int32)), (.int p0)])) rfl (hb hby d2_37) _ ?_
              show Steps p.tables e below (T57.setTop (mkF m 39 #[.val (.int p0)] [(.int (131069 : Int32)), (.int (65536 : Int32)), (.int p0)])) _
              refine st59 _ ?_
              show Steps p.tables e below (T59.setTop (mkF m 42 #[.val (.int p0)] [(.int (F3 p0 (65536 : Int32) (131069 : Int32)))])) _
              refine XS.ifNo X59.here hx rfl (hb hby d2_42) rfl ((if0 _ _).trans (teq c60).2) ?_
              show Steps p.tables e below (T59.setTop (mkF m 45 #[.val (.int p0)] [])) _
              refine XS.iloadN X59.here hx rfl (hb hby d2_45) rfl ?_
              show Steps p.tables e below (T59.setTop (mkF m 46 #[.val (.int p0)] [(.int p0)])) _
              refine X59.ldcInt hx hown (mvT hZ (hw _ (List.mem_of_getElem? (i := 35) rfl))) (g := (mkF m 46 #[.val (.int p0)] [(.int p0)])) rfl (hb hby d2_46) _ ?_
              show Steps p.tables e below (T59.setTop (mkF m 48 #[.val (.int p0)] [(.int (131072 : Int32)), (.int p0)])) _
              refine X59.ldcInt hx hown (mvT hZ (hw _ (List.mem_of_getElem? (i := 36) rfl))) (g := (mkF m 48 #[.val (.int p0)] [(.int (131072 : Int32)), (.int p0)])) rfl (hb hby d2_48) _ ?_
              show Steps p.tables e below (T59.setTop (mkF m 50 #[.val (.int p0)] [(.int (196605 : Int32)), (.int (131072 : Int32)), (.int p0)])) _
              refine st61 _ ?_
              show Steps p.tables e below (T61.setTop (mkF m 53 #[.val (.int p0)] [(.int (F3 p0 (131072 : Int32) (196605 : Int32)))])) _
              refine XS.ifYes X61.here hx rfl (pc0 := 53) (pc' := 188) rfl (hb hby d2_53) rfl ((if0 _ _).trans (feq c62).2) (by decide) (by decide) ?_
              show Steps p.tables e below (T61.setTop (mkF m 188 #[.val (.int p0)] [])) _
              refine XS.iconst X61.here hx rfl (hb hby d2_188) ?_
              show Steps p.tables e below (T61.setTop (mkF m 189 #[.val (.int p0)] [(.int (1 : Int32))])) _
              refine XS.goto X61.here hx rfl (pc0 := 189) (pc' := 193) rfl (hb hby d2_189) (by decide) (by decide) ?_
              show Steps p.tables e below (T61.setTop (mkF m 193 #[.val (.int p0)] [(.int (1 : Int32))])) _
              exact retN X61 hx (t := .boolean) Bd.returns (by simp) (hb hby d2_193) hr
            · show Q2 Z p0 h0 n0 _ T61.heap _
              rw [e61]
              exact ⟨(congrArg (fun z => some (Value.int z)) ((if_pos c54).trans ((if_pos c56).trans ((if_pos c58).trans ((if_pos c60).trans ((if_neg c62).trans rfl))))).symm), N61, rfl⟩
        · obtain ⟨fs, hr, hrun, hended, hW, hsame⟩ := X59.leave (v := some (.int (1 : Int32))) (fun h => by rw [Bd.returns] at h; cases h)
          refine ⟨_, _, pre0 _ ?_, hrun, hended, _, _, rfl, ?_, ⟨_, rfl⟩, hW, hsame.mono (by decide) (by decide)⟩
          · show Steps p.tables e below (s₁.setTop (mkF m 0 #[.val (.int p0)] [])) _
            refine XS.iloadN X0.here hx rfl (hb hby d2_0) rfl ?_
            show Steps p.tables e below (s₁.setTop (mkF m 1 #[.val (.int p0)] [(.int p0)])) _
            refine XS.sipush X0.here hx rfl (hb hby d2_1) ?_
            show Steps p.tables e below (s₁.setTop (mkF m 4 #[.val (.int p0)] [(.int (160 : Int32)), (.int p0)])) _
            refine X0.ldcInt hx hown (mvT hZ (hw _ (List.mem_of_getElem? (i := 1) rfl))) (g := (mkF m 4 #[.val (.int p0)] [(.int (160 : Int32)), (.int p0)])) rfl (hb hby d2_4) _ ?_
            show Steps p.tables e below (s₁.setTop (mkF m 6 #[.val (.int p0)] [(.int (55295 : Int32)), (.int (160 : Int32)), (.int p0)])) _
            refine st53 _ ?_
            show Steps p.tables e below (T53.setTop (mkF m 9 #[.val (.int p0)] [(.int (F3 p0 (160 : Int32) (55295 : Int32)))])) _
            refine XS.ifNo X53.here hx rfl (hb hby d2_9) rfl ((if0 _ _).trans (teq c54).2) ?_
            show Steps p.tables e below (T53.setTop (mkF m 12 #[.val (.int p0)] [])) _
            refine XS.iloadN X53.here hx rfl (hb hby d2_12) rfl ?_
            show Steps p.tables e below (T53.setTop (mkF m 13 #[.val (.int p0)] [(.int p0)])) _
            refine X53.ldcInt hx hown (mvT hZ (hw _ (List.mem_of_getElem? (i := 2) rfl))) (g := (mkF m 13 #[.val (.int p0)] [(.int p0)])) rfl (hb hby d2_13) _ ?_
            show Steps p.tables e below (T53.setTop (mkF m 15 #[.val (.int p0)] [(.int (63744 : Int32)), (.int p0)])) _
            refine X53.ldcInt hx hown (mvT hZ (hw _ (List.mem_of_getElem? (i := 3) rfl))) (g := (mkF m 15 #[.val (.int p0)] [(.int (63744 : Int32)), (.int p0)])) rfl (hb hby d2_15) _ ?_
            show Steps p.tables e below (T53.setTop (mkF m 17 #[.val (.int p0)] [(.int (64975 : Int32)), (.int (63744 : Int32)), (.int p0)])) _
            refine st55 _ ?_
            show Steps p.tables e below (T55.setTop (mkF m 20 #[.val (.int p0)] [(.int (F3 p0 (63744 : Int32) (64975 : Int32)))])) _
            refine XS.ifNo X55.here hx rfl (hb hby d2_20) rfl ((if0 _ _).trans (teq c56).2) ?_
            show Steps p.tables e below (T55.setTop (mkF m 23 #[.val (.int p0)] [])) _
            refine XS.iloadN X55.here hx rfl (hb hby d2_23) rfl ?_
            show Steps p.tables e below (T55.setTop (mkF m 24 #[.val (.int p0)] [(.int p0)])) _
            refine X55.ldcInt hx hown (mvT hZ (hw _ (List.mem_of_getElem? (i := 4) rfl))) (g := (mkF m 24 #[.val (.int p0)] [(.int p0)])) rfl (hb hby d2_24) _ ?_
            show Steps p.tables e below (T55.setTop (mkF m 26 #[.val (.int p0)] [(.int (65008 : Int32)), (.int p0)])) _
            refine X55.ldcInt hx hown (mvT hZ (hw _ (List.mem_of_getElem? (i := 5) rfl))) (g := (mkF m 26 #[.val (.int p0)] [(.int (65008 : Int32)), (.int p0)])) rfl (hb hby d2_26) _ ?_
            show Steps p.tables e below (T55.setTop (mkF m 28 #[.val (.int p0)] [(.int (65519 : Int32)), (.int (65008 : Int32)), (.int p0)])) _
            refine st57 _ ?_
            show Steps p.tables e below (T57.setTop (mkF m 31 #[.val (.int p0)] [(.int (F3 p0 (65008 : Int32) (65519 : Int32)))])) _
            refine XS.ifNo X57.here hx rfl (hb hby d2_31) rfl ((if0 _ _).trans (teq c58).2) ?_
            show Steps p.tables e below (T57.setTop (mkF m 34 #[.val (.int p0)] [])) _
            refine XS.iloadN X57.here hx rfl (hb hby d2_34) rfl ?_
            show Steps p.tables e below (T57.setTop (mkF m 35 #[.val (.int p0)] [(.int p0)])) _
            refine X57.ldcInt hx hown (mvT hZ (hw _ (List.mem_of_getElem? (i := 6) rfl))) (g := (mkF m 35 #[.val (.int p0)] [(.int p0)])) rfl (hb hby d2_35) _ ?_
            show Steps p.tables e below (T57.setTop (mkF m 37 #[.val (.int p0)] [(.int (65536 : Int32)), (.int p0)])) _
            refine X57.ldcInt hx hown (mvT hZ (hw _ (List.mem_of_getElem? (i := 7) rfl))) (g := (mkF m 37 #[.val (.int p0)] [(.int (65536 : Int32)), (.int p0)])) rfl (hb hby d2_37) _ ?_
            show Steps p.tables e below (T57.setTop (mkF m 39 #[.val (.int p0)] [(.int (131069 : Int32)), (.int (65536 : Int32)), (.int p0)])) _
            refine st59 _ ?_
            show Steps p.tables e below (T59.setTop (mkF m 42 #[.val (.int p0)] [(.int (F3 p0 (65536 : Int32) (131069 : Int32)))])) _
            refine XS.ifYes X59.here hx rfl (pc0 := 42) (pc' := 188) rfl (hb hby d2_42) rfl ((if0 _ _).trans (feq c60).2) (by decide) (by decide) ?_
            show Steps p.tables e below (T59.setTop (mkF m 188 #[.val (.int p0)] [])) _
            refine XS.iconst X59.here hx rfl (hb hby d2_188) ?_
            show Steps p.tables e below (T59.setTop (mkF m 189 #[.val (.int p0)] [(.int (1 : Int32))])) _
            refine XS.goto X59.here hx rfl (pc0 := 189) (pc' := 193) rfl (hb hby d2_189) (by decide) (by decide) ?_
            show Steps p.tables e below (T59.setTop (mkF m 193 #[.val (.int p0)] [(.int (1 : Int32))])) _
            exact retN X59 hx (t := .boolean) Bd.returns (by simp) (hb hby d2_193) hr
          · show Q2 Z p0 h0 n0 _ T59.heap _
            rw [e59]
            exact ⟨(congrArg (fun z => some (Value.int z)) ((if_pos c54).trans ((if_pos c56).trans ((if_pos c58).trans ((if_neg c60).trans rfl)))).symm), N59, rfl⟩
      · obtain ⟨fs, hr, hrun, hended, hW, hsame⟩ := X57.leave (v := some (.int (1 : Int32))) (fun h => by rw [Bd.returns] at h; cases h)
        refine ⟨_, _, pre0 _ ?_, hrun, hended, _, _, rfl, ?_, ⟨_, rfl⟩, hW, hsame.mono (by decide) (by decide)⟩
        · show Steps p.tables e below (s₁.setTop (mkF m 0 #[.val (.int p0)] [])) _
          refine XS.iloadN X0.here hx rfl (hb hby d2_0) rfl ?_
          show Steps p.tables e below (s₁.setTop (mkF m 1 #[.val (.int p0)] [(.int p0)])) _
          refine XS.sipush X0.here hx rfl (hb hby d2_1) ?_
          show Steps p.tables e below (s₁.setTop (mkF m 4 #[.val (.int p0)] [(.int (160 : Int32)), (.int p0)])) _
          refine X0.ldcInt hx hown (mvT hZ (hw _ (List.mem_of_getElem? (i := 1) rfl))) (g := (mkF m 4 #[.val (.int p0)] [(.int (160 : Int32)), (.int p0)])) rfl (hb hby d2_4) _ ?_
          show Steps p.tables e below (s₁.setTop (mkF m 6 #[.val (.int p0)] [(.int (55295 : Int32)), (.int (160 : Int32)), (.int p0)])) _
          refine st53 _ ?_
          show Steps p.tables e below (T53.setTop (mkF m 9 #[.val (.int p0)] [(.int (F3 p0 (160 : Int32) (55295 : Int32)))])) _
          refine XS.ifNo X53.here hx rfl (hb hby d2_9) rfl ((if0 _ _).trans (teq c54).2) ?_
          show Steps p.tables e below (T53.setTop (mkF m 12 #[.val (.int p0)] [])) _
          refine XS.iloadN X53.here hx rfl (hb hby d2_12) rfl ?_
          show Steps p.tables e below (T53.setTop (mkF m 13 #[.val (.int p0)] [(.int p0)])) _
          refine X53.ldcInt hx hown (mvT hZ (hw _ (List.mem_of_getElem? (i := 2) rfl))) (g := (mkF m 13 #[.val (.int p0)] [(.int p0)])) rfl (hb hby d2_13) _ ?_
          show Steps p.tables e below (T53.setTop (mkF m 15 #[.val (.int p0)] [(.int (63744 : Int32)), (.int p0)])) _
          refine X53.ldcInt hx hown (mvT hZ (hw _ (List.mem_of_getElem? (i := 3) rfl))) (g := (mkF m 15 #[.val (.int p0)] [(.int (63744 : Int32)), (.int p0)])) rfl (hb hby d2_15) _ ?_
          show Steps p.tables e below (T53.setTop (mkF m 17 #[.val (.int p0)] [(.int (64975 : Int32)), (.int (63744 : Int32)), (.int p0)])) _
          refine st55 _ ?_
          show Steps p.tables e below (T55.setTop (mkF m 20 #[.val (.int p0)] [(.int (F3 p0 (63744 : Int32) (64975 : Int32)))])) _
          refine XS.ifNo X55.here hx rfl (hb hby d2_20) rfl ((if0 _ _).trans (teq c56).2) ?_
          show Steps p.tables e below (T55.setTop (mkF m 23 #[.val (.int p0)] [])) _
          refine XS.iloadN X55.here hx rfl (hb hby d2_23) rfl ?_
          show Steps p.tables e below (T55.setTop (mkF m 24 #[.val (.int p0)] [(.int p0)])) _
          refine X55.ldcInt hx hown (mvT hZ (hw _ (List.mem_of_getElem? (i := 4) rfl))) (g := (mkF m 24 #[.val (.int p0)] [(.int p0)])) rfl (hb hby d2_24) _ ?_
          show Steps p.tables e below (T55.setTop (mkF m 26 #[.val (.int p0)] [(.int (65008 : Int32)), (.int p0)])) _
          refine X55.ldcInt hx hown (mvT hZ (hw _ (List.mem_of_getElem? (i := 5) rfl))) (g := (mkF m 26 #[.val (.int p0)] [(.int (65008 : Int32)), (.int p0)])) rfl (hb hby d2_26) _ ?_
          show Steps p.tables e below (T55.setTop (mkF m 28 #[.val (.int p0)] [(.int (65519 : Int32)), (.int (65008 : Int32)), (.int p0)])) _
          refine st57 _ ?_
          show Steps p.tables e below (T57.setTop (mkF m 31 #[.val (.int p0)] [(.int (F3 p0 (65008 : Int32) (65519 : Int32)))])) _
          refine XS.ifYes X57.here hx rfl (pc0 := 31) (pc' := 188) rfl (hb hby d2_31) rfl ((if0 _ _).trans (feq c58).2) (by decide) (by decide) ?_
          show Steps p.tables e below (T57.setTop (mkF m 188 #[.val (.int p0)] [])) _
          refine XS.iconst X57.here hx rfl (hb hby d2_188) ?_
          show Steps p.tables e below (T57.setTop (mkF m 189 #[.val (.int p0)] [(.int (1 : Int32))])) _
          refine XS.goto X57.here hx rfl (pc0 := 189) (pc' := 193) rfl (hb hby d2_189) (by decide) (by decide) ?_
          show Steps p.tables e below (T57.setTop (mkF m 193 #[.val (.int p0)] [(.int (1 : Int32))])) _
          exact retN X57 hx (t := .boolean) Bd.returns (by simp) (hb hby d2_193) hr
        · show Q2 Z p0 h0 n0 _ T57.heap _
          rw [e57]
          exact ⟨(congrArg (fun z => some (Value.int z)) ((if_pos c54).trans ((if_pos c56).trans ((if_neg c58).trans rfl))).symm), N57, rfl⟩
    · obtain ⟨fs, hr, hrun, hended, hW, hsame⟩ := X55.leave (v := some (.int (1 : Int32))) (fun h => by rw [Bd.returns] at h; cases h)
      refine ⟨_, _, pre0 _ ?_, hrun, hended, _, _, rfl, ?_, ⟨_, rfl⟩, hW, hsame.mono (by decide) (by decide)⟩
      · show Steps p.tables e below (s₁.setTop (mkF m 0 #[.val (.int p0)] [])) _
        refine XS.iloadN X0.here hx rfl (hb hby d2_0) rfl ?_
        show Steps p.tables e below (s₁.setTop (mkF m 1 #[.val (.int p0)] [(.int p0)])) _
        refine XS.sipush X0.here hx rfl (hb hby d2_1) ?_
        show Steps p.tables e below (s₁.setTop (mkF m 4 #[.val (.int p0)] [(.int (160 : Int32)), (.int p0)])) _
        refine X0.ldcInt hx hown (mvT hZ (hw _ (List.mem_of_getElem? (i := 1) rfl))) (g := (mkF m 4 #[.val (.int p0)] [(.int (160 : Int32)), (.int p0)])) rfl (hb hby d2_4) _ ?_
        show Steps p.tables e below (s₁.setTop (mkF m 6 #[.val (.int p0)] [(.int (55295 : Int32)), (.int (160 : Int32)), (.int p0)])) _
        refine st53 _ ?_
        show Steps p.tables e below (T53.setTop (mkF m 9 #[.val (.int p0)] [(.int (F3 p0 (160 : Int32) (55295 : Int32)))])) _
        refine XS.ifNo X53.here hx rfl (hb hby d2_9) rfl ((if0 _ _).trans (teq c54).2) ?_
        show Steps p.tables e below (T53.setTop (mkF m 12 #[.val (.int p0)] [])) _
        refine XS.iloadN X53.here hx rfl (hb hby d2_12) rfl ?_
        show Steps p.tables e below (T53.setTop (mkF m 13 #[.val (.int p0)] [(.int p0)])) _
        refine X53.ldcInt hx hown (mvT hZ (hw _ (List.mem_of_getElem? (i := 2) rfl))) (g := (mkF m 13 #[.val (.int p0)] [(.int p0)])) rfl (hb hby d2_13) _ ?_
        show Steps p.tables e below (T53.setTop (mkF m 15 #[.val (.int p0)] [(.int (63744 : Int32)), (.int p0)])) _
        refine X53.ldcInt hx hown (mvT hZ (hw _ (List.mem_of_getElem? (i := 3) rfl))) (g := (mkF m 15 #[.val (.int p0)] [(.int (63744 : Int32)), (.int p0)])) rfl (hb hby d2_15) _ ?_
        show Steps p.tables e below (T53.setTop (mkF m 17 #[.val (.int p0)] [(.int (64975 : Int32)), (.int (63744 : Int32)), (.int p0)])) _
        refine st55 _ ?_
        show Steps p.tables e below (T55.setTop (mkF m 20 #[.val (.int p0)] [(.int (F3 p0 (63744 : Int32) (64975 : Int32)))])) _
        refine XS.ifYes X55.here hx rfl (pc0 := 20) (pc' := 188) rfl (hb hby d2_20) rfl ((if0 _ _).trans (feq c56).2) (by decide) (by decide) ?_
        show Steps p.tables e below (T55.setTop (mkF m 188 #[.val (.int p0)] [])) _
        refine XS.iconst X55.here hx rfl (hb hby d2_188) ?_
        show Steps p.tables e below (T55.setTop (mkF m 189 #[.val (.int p0)] [(.int (1 : Int32))])) _
        refine XS.goto X55.here hx rfl (pc0 := 189) (pc' := 193) rfl (hb hby d2_189) (by decide) (by decide) ?_
        show Steps p.tables e below (T55.setTop (mkF m 193 #[.val (.int p0)] [(.int (1 : Int32))])) _
        exact retN X55 hx (t := .boolean) Bd.returns (by simp) (hb hby d2_193) hr
      · show Q2 Z p0 h0 n0 _ T55.heap _
        rw [e55]
        exact ⟨(congrArg (fun z => some (Value.int z)) ((if_pos c54).trans ((if_neg c56).trans rfl)).symm), N55, rfl⟩
  · obtain ⟨fs, hr, hrun, hended, hW, hsame⟩ := X53.leave (v := some (.int (1 : Int32))) (fun h => by rw [Bd.returns] at h; cases h)
    refine ⟨_, _, pre0 _ ?_, hrun, hended, _, _, rfl, ?_, ⟨_, rfl⟩, hW, hsame.mono (by decide) (by decide)⟩
    · show Steps p.tables e below (s₁.setTop (mkF m 0 #[.val (.int p0)] [])) _
      refine XS.iloadN X0.here hx rfl (hb hby d2_0) rfl ?_
      show Steps p.tables e below (s₁.setTop (mkF m 1 #[.val (.int p0)] [(.int p0)])) _
      refine XS.sipush X0.here hx rfl (hb hby d2_1) ?_
      show Steps p.tables e below (s₁.setTop (mkF m 4 #[.val (.int p0)] [(.int (160 : Int32)), (.int p0)])) _
      refine X0.ldcInt hx hown (mvT hZ (hw _ (List.mem_of_getElem? (i := 1) rfl))) (g := (mkF m 4 #[.val (.int p0)] [(.int (160 : Int32)), (.int p0)])) rfl (hb hby d2_4) _ ?_
      show Steps p.tables e below (s₁.setTop (mkF m 6 #[.val (.int p0)] [(.int (55295 : Int32)), (.int (160 : Int32)), (.int p0)])) _
      refine st53 _ ?_
      show Steps p.tables e below (T53.setTop (mkF m 9 #[.val (.int p0)] [(.int (F3 p0 (160 : Int32) (55295 : Int32)))])) _
      refine XS.ifYes X53.here hx rfl (pc0 := 9) (pc' := 188) rfl (hb hby d2_9) rfl ((if0 _ _).trans (feq c54).2) (by decide) (by decide) ?_
      show Steps p.tables e below (T53.setTop (mkF m 188 #[.val (.int p0)] [])) _
      refine XS.iconst X53.here hx rfl (hb hby d2_188) ?_
      show Steps p.tables e below (T53.setTop (mkF m 189 #[.val (.int p0)] [(.int (1 : Int32))])) _
      refine XS.goto X53.here hx rfl (pc0 := 189) (pc' := 193) rfl (hb hby d2_189) (by decide) (by decide) ?_
      show Steps p.tables e below (T53.setTop (mkF m 193 #[.val (.int p0)] [(.int (1 : Int32))])) _
      exact retN X53 hx (t := .boolean) Bd.returns (by simp) (hb hby d2_193) hr
    · show Q2 Z p0 h0 n0 _ T53.heap _
      rw [e53]
      exact ⟨(congrArg (fun z => some (Value.int z)) ((if_neg c54).trans rfl).symm), N53, rfl⟩
theorem pd_1 : parseMethodDescriptor "(I)Z" = some ⟨[.int], some .boolean⟩ := by decide +kernel
theorem pn_0 : plainName "com/example/rels_from_records/relsfromrecords/uri/PercentEncodingIsUcscharPinLaw" = true := by first | (simp [plainName, overriddenIn]; done) | decide +kernel
theorem ef_0 (m : MethodId) (p0 : Int32) (p1 : Int32) (p2 : Int32) (p3 : Int32) : entryFrame m #[(.int p0), (.int p1), (.int p2), (.int p3)] maxLocals = mkF m 0 #[.val (.int p0), .val (.int p1), .val (.int p2), .val (.int p3), .unset, .unset, .unset, .unset] [] := by first | (simp [entryFrame, mkF, argsToLocals, Value.category, maxLocals]; done) | rfl
def Q0 (Z : State) (p0 : Int32) (p1 : Int32) (p2 : Int32) (p3 : Int32) (h0 : Heap) (n0 : Nat) (v : Option Value) (h : Heap) (L : List Loc) : Prop := v = some (.int (1 : Int32)) ∧ Fr n0 L
theorem own_in (c lo hi : Int32) (a b : Int) (ha : lo.toInt = a) (hb : hi.toInt = b) : (F3 c lo hi = 0) ↔ ¬ (a ≤ c.toInt ∧ c.toInt ≤ b) := by
  subst ha hb
  unfold F3
  simp only [Int32.lt_iff_toInt_lt]
  by_cases h1 : c.toInt < lo.toInt
  · rw [if_pos h1]; exact ⟨fun _ q => by omega, fun _ => rfl⟩
  · rw [if_neg h1]
    by_cases h2 : hi.toInt < c.toInt
    · rw [if_pos h2]; exact ⟨fun _ q => by omega, fun _ => rfl⟩
    · rw [if_neg h2]; exact ⟨fun q => absurd q (by decide), fun q => absurd (And.intro (by omega) (by omega)) q⟩
theorem own_F2 (c : Int32) : (own_P c.toInt ∧ F2 c = 1) ∨ (¬ own_P c.toInt ∧ F2 c = 0) := own_step (own_in c 160 55295 160 55295 rfl rfl) (own_step (own_in c 63744 64975 63744 64975 rfl rfl) (own_step (own_in c 65008 65519 65008 65519 rfl rfl) (own_step (own_in c 65536 131069 65536 131069 rfl rfl) (own_step (own_in c 131072 196605 131072 196605 rfl rfl) (own_step (own_in c 196608 262141 196608 262141 rfl rfl) (own_step (own_in c 262144 327677 262144 327677 rfl rfl) (own_step (own_in c 327680 393213 327680 393213 rfl rfl) (own_step (own_in c 393216 458749 393216 458749 rfl rfl) (own_step (own_in c 458752 524285 458752 524285 rfl rfl) (own_step (own_in c 524288 589821 524288 589821 rfl rfl) (own_step (own_in c 589824 655357 589824 655357 rfl rfl) (own_step (own_in c 655360 720893 655360 720893 rfl rfl) (own_step (own_in c 720896 786429 720896 786429 rfl rfl) (own_step (own_in c 786432 851965 786432 851965 rfl rfl) (own_step (own_in c 851968 917501 851968 917501 rfl rfl) (own_last (own_in c 921600 983037 921600 983037 rfl rfl)))))))))))))))))
theorem own_F1 (c : Int32) : (own_P c.toInt ∧ F1 c = 1) ∨ (¬ own_P c.toInt ∧ F1 c = 0) := by
  have k160 : (160 : Int32).toInt = 160 := rfl
  have k55295 : (55295 : Int32).toInt = 55295 := rfl
  have k63744 : (63744 : Int32).toInt = 63744 := rfl
  have k64975 : (64975 : Int32).toInt = 64975 := rfl
  have k65008 : (65008 : Int32).toInt = 65008 := rfl
  have k65519 : (65519 : Int32).toInt = 65519 := rfl
  have k65536 : (65536 : Int32).toInt = 65536 := rfl
  have k917504 : (917504 : Int32).toInt = 917504 := rfl
  have k921600 : (921600 : Int32).toInt = 921600 := rfl
  have k983040 : (983040 : Int32).toInt = 983040 := rfl
  have k65533 : (65533 : Int32).toInt = 65533 := rfl
  have e : (c &&& (65535 : Int32)).toInt = c.toInt % 2 ^ 16 := Jvm.Kit.i32_mask c 65535 (k := 16) (by decide) (by decide)
  unfold F1
  simp only [Int32.lt_iff_toInt_lt, e, k160, k55295, k63744, k64975, k65008, k65519, k65536, k917504, k921600, k983040, k65533]
  clear e
  generalize c.toInt = n
  repeat' split
  all_goals first
    | exact Or.inr ⟨fun h => by unfold own_P at h; omega, rfl⟩
    | exact Or.inl ⟨own_plane (by omega) (by omega) (by omega) (by omega), rfl⟩
    | exact Or.inl ⟨by unfold own_P; omega, rfl⟩
theorem own_fin (c : Int32) : F1 c = F2 c := by
  rcases own_F1 c with ⟨a, b⟩ | ⟨a, b⟩ <;> rcases own_F2 c with ⟨a', b'⟩ | ⟨a', b'⟩ <;> first | exact absurd a a' | exact absurd a' a | exact b.trans b'.symm
set_option maxRecDepth 65536 in
set_option maxHeartbeats 40000000 in
theorem rm0 (l : Launch) (Z : State) (a0 : Array Value) (hw : ∀ d ∈ tables_1, d.before a0 Z = true) (ws : List Jvm.Cond) (p0 : Int32) (p1 : Int32) (p2 : Int32) (p3 : Int32) (h0 : Heap) (n0 : Nat) (Z0 : n0 ≤ h0.size)  :
    MetFree l x (head1 (Jvm.Cond.code x code maxLocals ret :: ws) room_1) (fun a U => a = #[(.int p0), (.int p1), (.int p2), (.int p3)] ∧ Z.Warmed39 U.vm ∧ U.heap = h0) (fun _ _ _ _ _ => True) (fun _ U o U' => ∃ v L, o = .returned v ∧ Q0 Z p0 p1 p2 p3 h0 n0 v U'.heap L ∧ FrameEnd U o U' L room_1.cells room_1.slots) := by
  refine MetFree.of_bodySF (plainFor_of_name pn_0) hisR ?_
  intro p e s m args below meth c s₁ Bd hml0 hP hK
  obtain ⟨rfl, hZ, hh⟩ := hP
  have hx := Bd.exec
  have hby := Bd.bytes
  have hml : c.maxLocals = 8 := hml0
  have hown : s.vm.findClass "com/example/rels_from_records/relsfromrecords/uri/PercentEncodingIsUcscharPinLaw" = some m.cls := findClass_of_methodNamed Bd.named
  have X0 : Stand p l e room_1 s m #[(.int p0), (.int p1), (.int p2), (.int p3)] below meth c s₁ [] 0 0 := Stand.of_body Bd
  have e0 : s₁.heap = h0 := by rw [← hh, Bd.state]; rfl
  have N0 := Fr.nil n0
  have pre0 : ∀ t, Steps p.tables e below (s₁.setTop (mkF m 0 #[.val (.int p0), .val (.int p1), .val (.int p2), .val (.int p3), .unset, .unset, .unset, .unset] [])) t → Steps p.tables e below (s₁.setTop (entryFrame m #[(.int p0), (.int p1), (.int p2), (.int p3)] maxLocals)) t := fun t k => castTop (ef_0 m p0 p1 p2 p3) k
  by_cases c105 : (p1 &&& (3 : Int32)) = (0 : Int32)
  · obtain ⟨_, _, ⟨T106, L106, k106, n106⟩, -, X106, ⟨Lc106, hQ106, l106, y106, z106⟩, st106⟩ := Jvm.LawKit.callS X0 hx (y := (⟨"com/example/rels_from_records/relsfromrecords/uri/PercentEncoding", "isUcschar", "(I)Z"⟩ : MethodName)) hown (mvT hZ (hw _ (List.mem_of_getElem? (i := 17) rfl))) (mvT hZ (hw _ (List.mem_of_getElem? (i := 18) rfl))) (mvT hZ (hw _ (List.mem_of_getElem? (i := 19) rfl))) (mvT hZ (hw _ (List.mem_of_getElem? (i := 20) rfl))) (by decide) (backOf (W := 0) (rm1 l Z a0 hw [] p0 h0 n0 Z0 ) hZ (hw _ (List.mem_of_getElem? (i := 20) rfl)) (hw _ (List.mem_of_getElem? (i := 19) rfl)) (by decide) (by decide)) (g := (mkF m 188 #[.val (.int p0), .val (.int p1), .val (.int p2), .val (.int p3), .val (.int (p2 &&& (31 : Int32))), .val (.int (p1 &&& (3 : Int32))), .val (.int p0), .unset] [(.int p0)])) rfl (by rw [hml]; rfl) (argsL := [(.int p0)]) (rest := []) (lenOf pd_1 rfl) rfl (by show 2 * 0 + _ ≤ _; exact Nat.le_of_eq rfl) (hb hby at_188) (fun _ _ => ⟨rfl, e0, (by decide : 0 + 0 ≤ _), (by decide : 0 + 0 ≤ _)⟩)
    dsimp only [Pt.U, Pt.locs, Pt.cells, Pt.slots] at X106 l106 y106 z106 st106 hQ106
    subst l106 y106 z106
    obtain ⟨rfl, N106q, e106⟩ := hQ106
    have N106 := Fr.app N0 N106q
    obtain ⟨_, _, ⟨T107, L107, k107, n107⟩, -, X107, ⟨Lc107, hQ107, l107, y107, z107⟩, st107⟩ := Jvm.LawKit.callS X106 hx (y := (⟨"com/example/rels_from_records/relsfromrecords/uri/PercentEncodingIsUcscharPinLaw", "ref", "(I)Z"⟩ : MethodName)) hown (mvT hZ (hw _ (List.mem_of_getElem? (i := 23) rfl))) (mvT hZ (hw _ (List.mem_of_getElem? (i := 24) rfl))) (mvT hZ (hw _ (List.mem_of_getElem? (i := 25) rfl))) (mvT hZ (hw _ (List.mem_of_getElem? (i := 26) rfl))) (by decide) (backOf (W := 1) (rm2 l Z a0 hw [] p0 h0 n0 Z0 ) hZ (hw _ (List.mem_of_getElem? (i := 26) rfl)) (hw _ (List.mem_of_getElem? (i := 25) rfl)) (by decide) (by decide)) (g := (mkF m 193 #[.val (.int p0), .val (.int p1), .val (.int p2), .val (.int p3), .val (.int (p2 &&& (31 : Int32))), .val (.int (p1 &&& (3 : Int32))), .val (.int p0), .unset] [(.int p0), (.int (F1 p0))])) rfl (by rw [hml]; rfl) (argsL := [(.int p0)]) (rest := [(.int (F1 p0))]) (lenOf pd_1 rfl) rfl (by show 2 * 0 + _ ≤ _; exact Nat.le_of_eq rfl) (hb hby at_193) (fun _ _ => ⟨rfl, e106, (by decide : 0 + 0 ≤ _), (by decide : 0 + 0 ≤ _)⟩)
    dsimp only [Pt.U, Pt.locs, Pt.cells, Pt.slots] at X107 l107 y107 z107 st107 hQ107
    subst l107 y107 z107
    obtain ⟨rfl, N107q, e107⟩ := hQ107
    have N107 := Fr.app N106 N107q
    obtain ⟨fs, hr, hrun, hended, hW, hsame⟩ := X107.leave (v := some (.int (1 : Int32))) (fun h => by rw [Bd.returns] at h; cases h)
    refine ⟨_, _, pre0 _ ?_, hrun, hended, _, _, rfl, ?_, ⟨_, rfl⟩, hW, hsame.mono (by decide) (by decide)⟩
    · show Steps p.tables e below (s₁.setTop (mkF m 0 #[.val (.int p0), .val (.int p1), .val (.int p2), .val (.int p3), .unset, .unset, .unset, .unset] [])) _
      refine XS.iloadN X0.here hx rfl (hb hby at_0) rfl ?_
      show Steps p.tables e below (s₁.setTop (mkF m 1 #[.val (.int p0), .val (.int p1), .val (.int p2), .val (.int p3), .unset, .unset, .unset, .unset] [(.int p2)])) _
      refine XS.bipush X0.here hx rfl (hb hby at_1) ?_
      show Steps p.tables e below (s₁.setTop (mkF m 3 #[.val (.int p0), .val (.int p1), .val (.int p2), .val (.int p3), .unset, .unset, .unset, .unset] [(.int (31 : Int32)), (.int p2)])) _
      refine XS.iand X0.here hx rfl (hb hby at_3) rfl ?_
      show Steps p.tables e below (s₁.setTop (mkF m 4 #[.val (.int p0), .val (.int p1), .val (.int p2), .val (.int p3), .unset, .unset, .unset, .unset] [(.int (p2 &&& (31 : Int32)))])) _
      refine XS.istore X0.here hx rfl (hb hby at_4) rfl (l' := #[.val (.int p0), .val (.int p1), .val (.int p2), .val (.int p3), .val (.int (p2 &&& (31 : Int32))), .unset, .unset, .unset]) rfl ?_
      show Steps p.tables e below (s₁.setTop (mkF m 6 #[.val (.int p0), .val (.int p1), .val (.int p2), .val (.int p3), .val (.int (p2 &&& (31 : Int32))), .unset, .unset, .unset] [])) _
      refine XS.iloadN X0.here hx rfl (hb hby at_6) rfl ?_
      show Steps p.tables e below (s₁.setTop (mkF m 7 #[.val (.int p0), .val (.int p1), .val (.int p2), .val (.int p3), .val (.int (p2 &&& (31 : Int32))), .unset, .unset, .unset] [(.int p1)])) _
      refine XS.iconst X0.here hx rfl (hb hby at_7) ?_
      show Steps p.tables e below (s₁.setTop (mkF m 8 #[.val (.int p0), .val (.int p1), .val (.int p2), .val (.int p3), .val (.int (p2 &&& (31 : Int32))), .unset, .unset, .unset] [(.int (3 : Int32)), (.int p1)])) _
      refine XS.iand X0.here hx rfl (hb hby at_8) rfl ?_
      show Steps p.tables e below (s₁.setTop (mkF m 9 #[.val (.int p0), .val (.int p1), .val (.int p2), .val (.int p3), .val (.int (p2 &&& (31 : Int32))), .unset, .unset, .unset] [(.int (p1 &&& (3 : Int32)))])) _
      refine XS.istore X0.here hx rfl (hb hby at_9) rfl (l' := #[.val (.int p0), .val (.int p1), .val (.int p2), .val (.int p3), .val (.int (p2 &&& (31 : Int32))), .val (.int (p1 &&& (3 : Int32))), .unset, .unset]) rfl ?_
      show Steps p.tables e below (s₁.setTop (mkF m 11 #[.val (.int p0), .val (.int p1), .val (.int p2), .val (.int p3), .val (.int (p2 &&& (31 : Int32))), .val (.int (p1 &&& (3 : Int32))), .unset, .unset] [])) _
      refine XS.iload X0.here hx rfl (hb hby at_11) rfl ?_
      show Steps p.tables e below (s₁.setTop (mkF m 13 #[.val (.int p0), .val (.int p1), .val (.int p2), .val (.int p3), .val (.int (p2 &&& (31 : Int32))), .val (.int (p1 &&& (3 : Int32))), .unset, .unset] [(.int (p1 &&& (3 : Int32)))])) _
      refine XS.ifNo X0.here hx rfl (hb hby at_13) rfl ((if0 _ _).trans (teq c105).2) ?_
      show Steps p.tables e below (s₁.setTop (mkF m 16 #[.val (.int p0), .val (.int p1), .val (.int p2), .val (.int p3), .val (.int (p2 &&& (31 : Int32))), .val (.int (p1 &&& (3 : Int32))), .unset, .unset] [])) _
      refine XS.iloadN X0.here hx rfl (hb hby at_16) rfl ?_
      show Steps p.tables e below (s₁.setTop (mkF m 17 #[.val (.int p0), .val (.int p1), .val (.int p2), .val (.int p3), .val (.int (p2 &&& (31 : Int32))), .val (.int (p1 &&& (3 : Int32))), .unset, .unset] [(.int p0)])) _
      refine XS.istore X0.here hx rfl (hb hby at_17) rfl (l' := #[.val (.int p0), .val (.int p1), .val (.int p2), .val (.int p3), .val (.int (p2 &&& (31 : Int32))), .val (.int (p1 &&& (3 : Int32))), .val (.int p0), .unset]) rfl ?_
      show Steps p.tables e below (s₁.setTop (mkF m 19 #[.val (.int p0), .val (.int p1), .val (.int p2), .val (.int p3), .val (.int (p2 &&& (31 : Int32))), .val (.int (p1 &&& (3 : Int32))), .val (.int p0), .unset] [])) _
      refine XS.goto X0.here hx rfl (pc0 := 19) (pc' := 186) rfl (hb hby at_19) (by decide) (by decide) ?_
      show Steps p.tables e below (s₁.setTop (mkF m 186 #[.val (.int p0), .val (.int p1), .val (.int p2), .val (.int p3), .val (.int (p2 &&& (31 : Int32))), .val (.int (p1 &&& (3 : Int32))), .val (.int p0), .unset] [])) _
      refine XS.iload X0.here hx rfl (hb hby at_186) rfl ?_
      show Steps p.tables e below (s₁.setTop (mkF m 188 #[.val (.int p0), .val (.int p1), .val (.int p2), .val (.int p3), .val (.int (p2 &&& (31 : Int32))), .val (.int (p1 &&& (3 : Int32))), .val (.int p0), .unset] [(.int p0)])) _
      refine st106 _ ?_
      show Steps p.tables e below (T106.setTop (mkF m 191 #[.val (.int p0), .val (.int p1), .val (.int p2), .val (.int p3), .val (.int (p2 &&& (31 : Int32))), .val (.int (p1 &&& (3 : Int32))), .val (.int p0), .unset] [(.int (F1 p0))])) _
      refine XS.iload X106.here hx rfl (hb hby at_191) rfl ?_
      show Steps p.tables e below (T106.setTop (mkF m 193 #[.val (.int p0), .val (.int p1), .val (.int p2), .val (.int p3), .val (.int (p2 &&& (31 : Int32))), .val (.int (p1 &&& (3 : Int32))), .val (.int p0), .unset] [(.int p0), (.int (F1 p0))])) _
      refine st107 _ ?_
      show Steps p.tables e below (T107.setTop (mkF m 196 #[.val (.int p0), .val (.int p1), .val (.int p2), .val (.int p3), .val (.int (p2 &&& (31 : Int32))), .val (.int (p1 &&& (3 : Int32))), .val (.int p0), .unset] [(.int (F2 p0)), (.int (F1 p0))])) _
      refine XS.icmpNo X107.here hx rfl (hb hby at_196) rfl (teq (own_fin _ : (F1 p0) = (F2 p0))).2 ?_
      show Steps p.tables e below (T107.setTop (mkF m 199 #[.val (.int p0), .val (.int p1), .val (.int p2), .val (.int p3), .val (.int (p2 &&& (31 : Int32))), .val (.int (p1 &&& (3 : Int32))), .val (.int p0), .unset] [])) _
      refine XS.iconst X107.here hx rfl (hb hby at_199) ?_
      show Steps p.tables e below (T107.setTop (mkF m 200 #[.val (.int p0), .val (.int p1), .val (.int p2), .val (.int p3), .val (.int (p2 &&& (31 : Int32))), .val (.int (p1 &&& (3 : Int32))), .val (.int p0), .unset] [(.int (1 : Int32))])) _
      refine XS.goto X107.here hx rfl (pc0 := 200) (pc' := 204) rfl (hb hby at_200) (by decide) (by decide) ?_
      show Steps p.tables e below (T107.setTop (mkF m 204 #[.val (.int p0), .val (.int p1), .val (.int p2), .val (.int p3), .val (.int (p2 &&& (31 : Int32))), .val (.int (p1 &&& (3 : Int32))), .val (.int p0), .unset] [(.int (1 : Int32))])) _
      exact retN X107 hx (t := .boolean) Bd.returns (by simp) (hb hby at_204) hr
    · exact ⟨rfl, N107⟩
  · by_cases c109 : (p1 &&& (3 : Int32)) = (1 : Int32)
    · obtain ⟨_, _, ⟨T110, L110, k110, n110⟩, -, X110, ⟨Lc110, hQ110, l110, y110, z110⟩, st110⟩ := Jvm.LawKit.callS X0 hx (y := (⟨"com/example/rels_from_records/relsfromrecords/uri/PercentEncoding", "isUcschar", "(I)Z"⟩ : MethodName)) hown (mvT hZ (hw _ (List.mem_of_getElem? (i := 17) rfl))) (mvT hZ (hw _ (List.mem_of_getElem? (i := 18) rfl))) (mvT hZ (hw _ (List.mem_of_getElem? (i := 19) rfl))) (mvT hZ (hw _ (List.mem_of_getElem? (i := 20) rfl))) (by decide) (backOf (W := 0) (rm1 l Z a0 hw [] (((p2 &&& (31 : Int32)) <<< ((16 : Int32) &&& 31)) ||| (p3 &&& (65535 : Int32))) h0 n0 Z0 ) hZ (hw _ (List.mem_of_getElem? (i := 20) rfl)) (hw _ (List.mem_of_getElem? (i := 19) rfl)) (by decide) (by decide)) (g := (mkF m 188 #[.val (.int p0), .val (.int p1), .val (.int p2), .val (.int p3), .val (.int (p2 &&& (31 : Int32))), .val (.int (p1 &&& (3 : Int32))), .val (.int (((p2 &&& (31 : Int32)) <<< ((16 : Int32) &&& 31)) ||| (p3 &&& (65535 : Int32)))), .unset] [(.int (((p2 &&& (31 : Int32)) <<< ((16 : Int32) &&& 31)) ||| (p3 &&& (65535 : Int32))))])) rfl (by rw [hml]; rfl) (argsL := [(.int (((p2 &&& (31 : Int32)) <<< ((16 : Int32) &&& 31)) ||| (p3 &&& (65535 : Int32))))]) (rest := []) (lenOf pd_1 rfl) rfl (by show 2 * 0 + _ ≤ _; exact Nat.le_of_eq rfl) (hb hby at_188) (fun _ _ => ⟨rfl, e0, (by decide : 0 + 0 ≤ _), (by decide : 0 + 0 ≤ _)⟩)
      dsimp only [Pt.U, Pt.locs, Pt.cells, Pt.slots] at X110 l110 y110 z110 st110 hQ110
      subst l110 y110 z110
      obtain ⟨rfl, N110q, e110⟩ := hQ110
      have N110 := Fr.app N0 N110q
      obtain ⟨_, _, ⟨T111, L111, k111, n111⟩, -, X111, ⟨Lc111, hQ111, l111, y111, z111⟩, st111⟩ := Jvm.LawKit.callS X110 hx (y := (⟨"com/example/rels_from_records/relsfromrecords/uri/PercentEncodingIsUcscharPinLaw", "ref", "(I)Z"⟩ : MethodName)) hown (mvT hZ (hw _ (List.mem_of_getElem? (i := 23) rfl))) (mvT hZ (hw _ (List.mem_of_getElem? (i := 24) rfl))) (mvT hZ (hw _ (List.mem_of_getElem? (i := 25) rfl))) (mvT hZ (hw _ (List.mem_of_getElem? (i := 26) rfl))) (by decide) (backOf (W := 1) (rm2 l Z a0 hw [] (((p2 &&& (31 : Int32)) <<< ((16 : Int32) &&& 31)) ||| (p3 &&& (65535 : Int32))) h0 n0 Z0 ) hZ (hw _ (List.mem_of_getElem? (i := 26) rfl)) (hw _ (List.mem_of_getElem? (i := 25) rfl)) (by decide) (by decide)) (g := (mkF m 193 #[.val (.int p0), .val (.int p1), .val (.int p2), .val (.int p3), .val (.int (p2 &&& (31 : Int32))), .val (.int (p1 &&& (3 : Int32))), .val (.int (((p2 &&& (31 : Int32)) <<< ((16 : Int32) &&& 31)) ||| (p3 &&& (65535 : Int32)))), .unset] [(.int (((p2 &&& (31 : Int32)) <<< ((16 : Int32) &&& 31)) ||| (p3 &&& (65535 : Int32)))), (.int (F1 (((p2 &&& (31 : Int32)) <<< ((16 : Int32) &&& 31)) ||| (p3 &&& (65535 : Int32)))))])) rfl (by rw [hml]; rfl) (argsL := [(.int (((p2 &&& (31 : Int32)) <<< ((16 : Int32) &&& 31)) ||| (p3 &&& (65535 : Int32))))]) (rest := [(.int (F1 (((p2 &&& (31 : Int32)) <<< ((16 : Int32) &&& 31)) ||| (p3 &&& (65535 : Int32)))))]) (lenOf pd_1 rfl) rfl (by show 2 * 0 + _ ≤ _; exact Nat.le_of_eq rfl) (hb hby at_193) (fun _ _ => ⟨rfl, e110, (by decide : 0 + 0 ≤ _), (by decide : 0 + 0 ≤ _)⟩)
      dsimp only [Pt.U, Pt.locs, Pt.cells, Pt.slots] at X111 l111 y111 z111 st111 hQ111
      subst l111 y111 z111
      obtain ⟨rfl, N111q, e111⟩ := hQ111
      have N111 := Fr.app N110 N111q
      obtain ⟨fs, hr, hrun, hended, hW, hsame⟩ := X111.leave (v := some (.int (1 : Int32))) (fun h => by rw [Bd.returns] at h; cases h)
      refine ⟨_, _, pre0 _ ?_, hrun, hended, _, _, rfl, ?_, ⟨_, rfl⟩, hW, hsame.mono (by decide) (by decide)⟩
      · show Steps p.tables e below (s₁.setTop (mkF m 0 #[.val (.int p0), .val (.int p1), .val (.int p2), .val (.int p3), .unset, .unset, .unset, .unset] [])) _
        refine XS.iloadN X0.here hx rfl (hb hby at_0) rfl ?_
        show Steps p.tables e below (s₁.setTop (mkF m 1 #[.val (.int p0), .val (.int p1), .val (.int p2), .val (.int p3), .unset, .unset, .unset, .unset] [(.int p2)])) _
        refine XS.bipush X0.here hx rfl (hb hby at_1) ?_
        show Steps p.tables e below (s₁.setTop (mkF m 3 #[.val (.int p0), .val (.int p1), .val (.int p2), .val (.int p3), .unset, .unset, .unset, .unset] [(.int (31 : Int32)), (.int p2)])) _
        refine XS.iand X0.here hx rfl (hb hby at_3) rfl ?_
        show Steps p.tables e below (s₁.setTop (mkF m 4 #[.val (.int p0), .val (.int p1), .val (.int p2), .val (.int p3), .unset, .unset, .unset, .unset] [(.int (p2 &&& (31 : Int32)))])) _
        refine XS.istore X0.here hx rfl (hb hby at_4) rfl (l' := #[.val (.int p0), .val (.int p1), .val (.int p2), .val (.int p3), .val (.int (p2 &&& (31 : Int32))), .unset, .unset, .unset]) rfl ?_
        show Steps p.tables e below (s₁.setTop (mkF m 6 #[.val (.int p0), .val (.int p1), .val (.int p2), .val (.int p3), .val (.int (p2 &&& (31 : Int32))), .unset, .unset, .unset] [])) _
        refine XS.iloadN X0.here hx rfl (hb hby at_6) rfl ?_
        show Steps p.tables e below (s₁.setTop (mkF m 7 #[.val (.int p0), .val (.int p1), .val (.int p2), .val (.int p3), .val (.int (p2 &&& (31 : Int32))), .unset, .unset, .unset] [(.int p1)])) _
        refine XS.iconst X0.here hx rfl (hb hby at_7) ?_
        show Steps p.tables e below (s₁.setTop (mkF m 8 #[.val (.int p0), .val (.int p1), .val (.int p2), .val (.int p3), .val (.int (p2 &&& (31 : Int32))), .unset, .unset, .unset] [(.int (3 : Int32)), (.int p1)])) _
        refine XS.iand X0.here hx rfl (hb hby at_8) rfl ?_
        show Steps p.tables e below (s₁.setTop (mkF m 9 #[.val (.int p0), .val (.int p1), .val (.int p2), .val (.int p3), .val (.int (p2 &&& (31 : Int32))), .unset, .unset, .unset] [(.int (p1 &&& (3 : Int32)))])) _
        refine XS.istore X0.here hx rfl (hb hby at_9) rfl (l' := #[.val (.int p0), .val (.int p1), .val (.int p2), .val (.int p3), .val (.int (p2 &&& (31 : Int32))), .val (.int (p1 &&& (3 : Int32))), .unset, .unset]) rfl ?_
        show Steps p.tables e below (s₁.setTop (mkF m 11 #[.val (.int p0), .val (.int p1), .val (.int p2), .val (.int p3), .val (.int (p2 &&& (31 : Int32))), .val (.int (p1 &&& (3 : Int32))), .unset, .unset] [])) _
        refine XS.iload X0.here hx rfl (hb hby at_11) rfl ?_
        show Steps p.tables e below (s₁.setTop (mkF m 13 #[.val (.int p0), .val (.int p1), .val (.int p2), .val (.int p3), .val (.int (p2 &&& (31 : Int32))), .val (.int (p1 &&& (3 : Int32))), .unset, .unset] [(.int (p1 &&& (3 : Int32)))])) _
        refine XS.ifYes X0.here hx rfl (pc0 := 13) (pc' := 22) rfl (hb hby at_13) rfl ((if0 _ _).trans (feq c105).2) (by decide) (by decide) ?_
        show Steps p.tables e below (s₁.setTop (mkF m 22 #[.val (.int p0), .val (.int p1), .val (.int p2), .val (.int p3), .val (.int (p2 &&& (31 : Int32))), .val (.int (p1 &&& (3 : Int32))), .unset, .unset] [])) _
        refine XS.iload X0.here hx rfl (hb hby at_22) rfl ?_
        show Steps p.tables e below (s₁.setTop (mkF m 24 #[.val (.int p0), .val (.int p1), .val (.int p2), .val (.int p3), .val (.int (p2 &&& (31 : Int32))), .val (.int (p1 &&& (3 : Int32))), .unset, .unset] [(.int (p1 &&& (3 : Int32)))])) _
        refine XS.iconst X0.here hx rfl (hb hby at_24) ?_
        show Steps p.tables e below (s₁.setTop (mkF m 25 #[.val (.int p0), .val (.int p1), .val (.int p2), .val (.int p3), .val (.int (p2 &&& (31 : Int32))), .val (.int (p1 &&& (3 : Int32))), .unset, .unset] [(.int (1 : Int32)), (.int (p1 &&& (3 : Int32)))])) _
        refine XS.icmpNo X0.here hx rfl (hb hby at_25) rfl (teq c109).2 ?_
        show Steps p.tables e below (s₁.setTop (mkF m 28 #[.val (.int p0), .val (.int p1), .val (.int p2), .val (.int p3), .val (.int (p2 &&& (31 : Int32))), .val (.int (p1 &&& (3 : Int32))), .unset, .unset] [])) _
        refine XS.iload X0.here hx rfl (hb hby at_28) rfl ?_
        show Steps p.tables e below (s₁.setTop (mkF m 30 #[.val (.int p0), .val (.int p1), .val (.int p2), .val (.int p3), .val (.int (p2 &&& (31 : Int32))), .val (.int (p1 &&& (3 : Int32))), .unset, .unset] [(.int (p2 &&& (31 : Int32)))])) _
        refine XS.bipush X0.here hx rfl (hb hby at_30) ?_
        show Steps p.tables e below (s₁.setTop (mkF m 32 #[.val (.int p0), .val (.int p1), .val (.int p2), .val (.int p3), .val (.int (p2 &&& (31 : Int32))), .val (.int (p1 &&& (3 : Int32))), .unset, .unset] [(.int (16 : Int32)), (.int (p2 &&& (31 : Int32)))])) _
        refine XS.ishl X0.here hx rfl (hb hby at_32) rfl ?_
        show Steps p.tables e below (s₁.setTop (mkF m 33 #[.val (.int p0), .val (.int p1), .val (.int p2), .val (.int p3), .val (.int (p2 &&& (31 : Int32))), .val (.int (p1 &&& (3 : Int32))), .unset, .unset] [(.int ((p2 &&& (31 : Int32)) <<< ((16 : Int32) &&& 31)))])) _
        refine XS.iloadN X0.here hx rfl (hb hby at_33) rfl ?_
        show Steps p.tables e below (s₁.setTop (mkF m 34 #[.val (.int p0), .val (.int p1), .val (.int p2), .val (.int p3), .val (.int (p2 &&& (31 : Int32))), .val (.int (p1 &&& (3 : Int32))), .unset, .unset] [(.int p3), (.int ((p2 &&& (31 : Int32)) <<< ((16 : Int32) &&& 31)))])) _
        refine X0.ldcInt hx hown (mvT hZ (hw _ (List.mem_of_getElem? (i := 62) rfl))) (g := (mkF m 34 #[.val (.int p0), .val (.int p1), .val (.int p2), .val (.int p3), .val (.int (p2 &&& (31 : Int32))), .val (.int (p1 &&& (3 : Int32))), .unset, .unset] [(.int p3), (.int ((p2 &&& (31 : Int32)) <<< ((16 : Int32) &&& 31)))])) rfl (hb hby at_34) _ ?_
        show Steps p.tables e below (s₁.setTop (mkF m 36 #[.val (.int p0), .val (.int p1), .val (.int p2), .val (.int p3), .val (.int (p2 &&& (31 : Int32))), .val (.int (p1 &&& (3 : Int32))), .unset, .unset] [(.int (65535 : Int32)), (.int p3), (.int ((p2 &&& (31 : Int32)) <<< ((16 : Int32) &&& 31)))])) _
        refine XS.iand X0.here hx rfl (hb hby at_36) rfl ?_
        show Steps p.tables e below (s₁.setTop (mkF m 37 #[.val (.int p0), .val (.int p1), .val (.int p2), .val (.int p3), .val (.int (p2 &&& (31 : Int32))), .val (.int (p1 &&& (3 : Int32))), .unset, .unset] [(.int (p3 &&& (65535 : Int32))), (.int ((p2 &&& (31 : Int32)) <<< ((16 : Int32) &&& 31)))])) _
        refine XS.ior X0.here hx rfl (hb hby at_37) rfl ?_
        show Steps p.tables e below (s₁.setTop (mkF m 38 #[.val (.int p0), .val (.int p1), .val (.int p2), .val (.int p3), .val (.int (p2 &&& (31 : Int32))), .val (.int (p1 &&& (3 : Int32))), .unset, .unset] [(.int (((p2 &&& (31 : Int32)) <<< ((16 : Int32) &&& 31)) ||| (p3 &&& (65535 : Int32))))])) _
        refine XS.istore X0.here hx rfl (hb hby at_38) rfl (l' := #[.val (.int p0), .val (.int p1), .val (.int p2), .val (.int p3), .val (.int (p2 &&& (31 : Int32))), .val (.int (p1 &&& (3 : Int32))), .val (.int (((p2 &&& (31 : Int32)) <<< ((16 : Int32) &&& 31)) ||| (p3 &&& (65535 : Int32)))), .unset]) rfl ?_
        show Steps p.tables e below (s₁.setTop (mkF m 40 #[.val (.int p0), .val (.int p1), .val (.int p2), .val (.int p3), .val (.int (p2 &&& (31 : Int32))), .val (.int (p1 &&& (3 : Int32))), .val (.int (((p2 &&& (31 : Int32)) <<< ((16 : Int32) &&& 31)) ||| (p3 &&& (65535 : Int32)))), .unset] [])) _
        refine XS.goto X0.here hx rfl (pc0 := 40) (pc' := 186) rfl (hb hby at_40) (by decide) (by decide) ?_
        show Steps p.tables e below (s₁.setTop (mkF m 186 #[.val (.int p0), .val (.int p1), .val (.int p2), .val (.int p3), .val (.int (p2 &&& (31 : Int32))), .val (.int (p1 &&& (3 : Int32))), .val (.int (((p2 &&& (31 : Int32)) <<< ((16 : Int32) &&& 31)) ||| (p3 &&& (65535 : Int32)))), .unset] [])) _
        refine XS.iload X0.here hx rfl (hb hby at_186) rfl ?_
        show Steps p.tables e below (s₁.setTop (mkF m 188 #[.val (.int p0), .val (.int p1), .val (.int p2), .val (.int p3), .val (.int (p2 &&& (31 : Int32))), .val (.int (p1 &&& (3 : Int32))), .val (.int (((p2 &&& (31 : Int32)) <<< ((16 : Int32) &&& 31)) ||| (p3 &&& (65535 : Int32)))), .unset] [(.int (((p2 &&& (31 : Int32)) <<< ((16 : Int32) &&& 31)) ||| (p3 &&& (65535 : Int32))))])) _
        refine st110 _ ?_
        show Steps p.tables e below (T110.setTop (mkF m 191 #[.val (.int p0), .val (.int p1), .val (.int p2), .val (.int p3), .val (.int (p2 &&& (31 : Int32))), .val (.int (p1 &&& (3 : Int32))), .val (.int (((p2 &&& (31 : Int32)) <<< ((16 : Int32) &&& 31)) ||| (p3 &&& (65535 : Int32)))), .unset] [(.int (F1 (((p2 &&& (31 : Int32)) <<< ((16 : Int32) &&& 31)) ||| (p3 &&& (65535 : Int32)))))])) _
        refine XS.iload X110.here hx rfl (hb hby at_191) rfl ?_
        show Steps p.tables e below (T110.setTop (mkF m 193 #[.val (.int p0), .val (.int p1), .val (.int p2), .val (.int p3), .val (.int (p2 &&& (31 : Int32))), .val (.int (p1 &&& (3 : Int32))), .val (.int (((p2 &&& (31 : Int32)) <<< ((16 : Int32) &&& 31)) ||| (p3 &&& (65535 : Int32)))), .unset] [(.int (((p2 &&& (31 : Int32)) <<< ((16 : Int32) &&& 31)) ||| (p3 &&& (65535 : Int32)))), (.int (F1 (((p2 &&& (31 : Int32)) <<< ((16 : Int32) &&& 31)) ||| (p3 &&& (65535 : Int32)))))])) _
        refine st111 _ ?_
        show Steps p.tables e below (T111.setTop (mkF m 196 #[.val (.int p0), .val (.int p1), .val (.int p2), .val (.int p3), .val (.int (p2 &&& (31 : Int32))), .val (.int (p1 &&& (3 : Int32))), .val (.int (((p2 &&& (31 : Int32)) <<< ((16 : Int32) &&& 31)) ||| (p3 &&& (65535 : Int32)))), .unset] [(.int (F2 (((p2 &&& (31 : Int32)) <<< ((16 : Int32) &&& 31)) ||| (p3 &&& (65535 : Int32))))), (.int (F1 (((p2 &&& (31 : Int32)) <<< ((16 : Int32) &&& 31)) ||| (p3 &&& (65535 : Int32)))))])) _
        refine XS.icmpNo X111.here hx rfl (hb hby at_196) rfl (teq (own_fin _ : (F1 (((p2 &&& (31 : Int32)) <<< ((16 : Int32) &&& 31)) ||| (p3 &&& (65535 : Int32)))) = (F2 (((p2 &&& (31 : Int32)) <<< ((16 : Int32) &&& 31)) ||| (p3 &&& (65535 : Int32)))))).2 ?_
        show Steps p.tables e below (T111.setTop (mkF m 199 #[.val (.int p0), .val (.int p1), .val (.int p2), .val (.int p3), .val (.int (p2 &&& (31 : Int32))), .val (.int (p1 &&& (3 : Int32))), .val (.int (((p2 &&& (31 : Int32)) <<< ((16 : Int32) &&& 31)) ||| (p3 &&& (65535 : Int32)))), .unset] [])) _
        refine XS.iconst X111.here hx rfl (hb hby at_199) ?_
        show Steps p.tables e below (T111.setTop (mkF m 200 #[.val (.int p0), .val (.int p1), .val (.int p2), .val (.int p3), .val (.int (p2 &&& (31 : Int32))), .val (.int (p1 &&& (3 : Int32))), .val (.int (((p2 &&& (31 : Int32)) <<< ((16 : Int32) &&& 31)) ||| (p3 &&& (65535 : Int32)))), .unset] [(.int (1 : Int32))])) _
        refine XS.goto X111.here hx rfl (pc0 := 200) (pc' := 204) rfl (hb hby at_200) (by decide) (by decide) ?_
        show Steps p.tables e below (T111.setTop (mkF m 204 #[.val (.int p0), .val (.int p1), .val (.int p2), .val (.int p3), .val (.int (p2 &&& (31 : Int32))), .val (.int (p1 &&& (3 : Int32))), .val (.int (((p2 &&& (31 : Int32)) <<< ((16 : Int32) &&& 31)) ||| (p3 &&& (65535 : Int32)))), .unset] [(.int (1 : Int32))])) _
        exact retN X111 hx (t := .boolean) Bd.returns (by simp) (hb hby at_204) hr
      · exact ⟨rfl, N111⟩
    · by_cases c113 : (p1 &&& (3 : Int32)) = (2 : Int32)
      · obtain ⟨_, _, ⟨T114, L114, k114, n114⟩, -, X114, ⟨Lc114, hQ114, l114, y114, z114⟩, st114⟩ := Jvm.LawKit.callS X0 hx (y := (⟨"com/example/rels_from_records/relsfromrecords/uri/PercentEncoding", "isUcschar", "(I)Z"⟩ : MethodName)) hown (mvT hZ (hw _ (List.mem_of_getElem? (i := 17) rfl))) (mvT hZ (hw _ (List.mem_of_getElem? (i := 18) rfl))) (mvT hZ (hw _ (List.mem_of_getElem? (i := 19) rfl))) (mvT hZ (hw _ (List.mem_of_getElem? (i := 20) rfl))) (by decide) (backOf (W := 0) (rm1 l Z a0 hw [] ((((p2 &&& (31 : Int32)) <<< ((16 : Int32) &&& 31)) ||| (65520 : Int32)) ||| (p3 &&& (15 : Int32))) h0 n0 Z0 ) hZ (hw _ (List.mem_of_getElem? (i := 20) rfl)) (hw _ (List.mem_of_getElem? (i := 19) rfl)) (by decide) (by decide)) (g := (mkF m 188 #[.val (.int p0), .val (.int p1), .val (.int p2), .val (.int p3), .val (.int (p2 &&& (31 : Int32))), .val (.int (p1 &&& (3 : Int32))), .val (.int ((((p2 &&& (31 : Int32)) <<< ((16 : Int32) &&& 31)) ||| (65520 : Int32)) ||| (p3 &&& (15 : Int32)))), .unset] [(.int ((((p2 &&& (31 : Int32)) <<< ((16 : Int32) &&& 31)) ||| (65520 : Int32)) ||| (p3 &&& (15 : Int32))))])) rfl (by rw [hml]; rfl) (argsL := [(.int ((((p2 &&& (31 : Int32)) <<< ((16 : Int32) &&& 31)) ||| (65520 : Int32)) ||| (p3 &&& (15 : Int32))))]) (rest := []) (lenOf pd_1 rfl) rfl (by show 2 * 0 + _ ≤ _; exact Nat.le_of_eq rfl) (hb hby at_188) (fun _ _ => ⟨rfl, e0, (by decide : 0 + 0 ≤ _), (by decide : 0 + 0 ≤ _)⟩)
        dsimp only [Pt.U, Pt.locs, Pt.cells, Pt.slots] at X114 l114 y114 z114 st114 hQ114
        subst l114 y114 z114
        obtain ⟨rfl, N114q, e114⟩ := hQ114
        have N114 := Fr.app N0 N114q
        obtain ⟨_, _, ⟨T115, L115, k115, n115⟩, -, X115, ⟨Lc115, hQ115, l115, y115, z115⟩, st115⟩ := Jvm.LawKit.callS X114 hx (y := (⟨"com/example/rels_from_records/relsfromrecords/uri/PercentEncodingIsUcscharPinLaw", "ref", "(I)Z"⟩ : MethodName)) hown (mvT hZ (hw _ (List.mem_of_getElem? (i := 23) rfl))) (mvT hZ (hw _ (List.mem_of_getElem? (i := 24) rfl))) (mvT hZ (hw _ (List.mem_of_getElem? (i := 25) rfl))) (mvT hZ (hw _ (List.mem_of_getElem? (i := 26) rfl))) (by decide) (backOf (W := 1) (rm2 l Z a0 hw [] ((((p2 &&& (31 : Int32)) <<< ((16 : Int32) &&& 31)) ||| (65520 : Int32)) ||| (p3 &&& (15 : Int32))) h0 n0 Z0 ) hZ (hw _ (List.mem_of_getElem? (i := 26) rfl)) (hw _ (List.mem_of_getElem? (i := 25) rfl)) (by decide) (by decide)) (g := (mkF m 193 #[.val (.int p0), .val (.int p1), .val (.int p2), .val (.int p3), .val (.int (p2 &&& (31 : Int32))), .val (.int (p1 &&& (3 : Int32))), .val (.int ((((p2 &&& (31 : Int32)) <<< ((16 : Int32) &&& 31)) ||| (65520 : Int32)) ||| (p3 &&& (15 : Int32)))), .unset] [(.int ((((p2 &&& (31 : Int32)) <<< ((16 : Int32) &&& 31)) ||| (65520 : Int32)) ||| (p3 &&& (15 : Int32)))), (.int (F1 ((((p2 &&& (31 : Int32)) <<< ((16 : Int32) &&& 31)) ||| (65520 : Int32)) ||| (p3 &&& (15 : Int32)))))])) rfl (by rw [hml]; rfl) (argsL := [(.int ((((p2 &&& (31 : Int32)) <<< ((16 : Int32) &&& 31)) ||| (65520 : Int32)) ||| (p3 &&& (15 : Int32))))]) (rest := [(.int (F1 ((((p2 &&& (31 : Int32)) <<< ((16 : Int32) &&& 31)) ||| (65520 : Int32)) ||| (p3 &&& (15 : Int32)))))]) (lenOf pd_1 rfl) rfl (by show 2 * 0 + _ ≤ _; exact Nat.le_of_eq rfl) (hb hby at_193) (fun _ _ => ⟨rfl, e114, (by decide : 0 + 0 ≤ _), (by decide : 0 + 0 ≤ _)⟩)
        dsimp only [Pt.U, Pt.locs, Pt.cells, Pt.slots] at X115 l115 y115 z115 st115 hQ115
        subst l115 y115 z115
        obtain ⟨rfl, N115q, e115⟩ := hQ115
        have N115 := Fr.app N114 N115q
        obtain ⟨fs, hr, hrun, hended, hW, hsame⟩ := X115.leave (v := some (.int (1 : Int32))) (fun h => by rw [Bd.returns] at h; cases h)
        refine ⟨_, _, pre0 _ ?_, hrun, hended, _, _, rfl, ?_, ⟨_, rfl⟩, hW, hsame.mono (by decide) (by decide)⟩
        · show Steps p.tables e below (s₁.setTop (mkF m 0 #[.val (.int p0), .val (.int p1), .val (.int p2), .val (.int p3), .unset, .unset, .unset, .unset] [])) _
          refine XS.iloadN X0.here hx rfl (hb hby at_0) rfl ?_
          show Steps p.tables e below (s₁.setTop (mkF m 1 #[.val (.int p0), .val (.int p1), .val (.int p2), .val (.int p3), .unset, .unset, .unset, .unset] [(.int p2)])) _
          refine XS.bipush X0.here hx rfl (hb hby at_1) ?_
          show Steps p.tables e below (s₁.setTop (mkF m 3 #[.val (.int p0), .val (.int p1), .val (.int p2), .val (.int p3), .unset, .unset, .unset, .unset] [(.int (31 : Int32)), (.int p2)])) _
          refine XS.iand X0.here hx rfl (hb hby at_3) rfl ?_
          show Steps p.tables e below (s₁.setTop (mkF m 4 #[.val (.int p0), .val (.int p1), .val (.int p2), .val (.int p3), .unset, .unset, .unset, .unset] [(.int (p2 &&& (31 : Int32)))])) _
          refine XS.istore X0.here hx rfl (hb hby at_4) rfl (l' := #[.val (.int p0), .val (.int p1), .val (.int p2), .val (.int p3), .val (.int (p2 &&& (31 : Int32))), .unset, .unset, .unset]) rfl ?_
          show Steps p.tables e below (s₁.setTop (mkF m 6 #[.val (.int p0), .val (.int p1), .val (.int p2), .val (.int p3), .val (.int (p2 &&& (31 : Int32))), .unset, .unset, .unset] [])) _
          refine XS.iloadN X0.here hx rfl (hb hby at_6) rfl ?_
          show Steps p.tables e below (s₁.setTop (mkF m 7 #[.val (.int p0), .val (.int p1), .val (.int p2), .val (.int p3), .val (.int (p2 &&& (31 : Int32))), .unset, .unset, .unset] [(.int p1)])) _
          refine XS.iconst X0.here hx rfl (hb hby at_7) ?_
          show Steps p.tables e below (s₁.setTop (mkF m 8 #[.val (.int p0), .val (.int p1), .val (.int p2), .val (.int p3), .val (.int (p2 &&& (31 : Int32))), .unset, .unset, .unset] [(.int (3 : Int32)), (.int p1)])) _
          refine XS.iand X0.here hx rfl (hb hby at_8) rfl ?_
          show Steps p.tables e below (s₁.setTop (mkF m 9 #[.val (.int p0), .val (.int p1), .val (.int p2), .val (.int p3), .val (.int (p2 &&& (31 : Int32))), .unset, .unset, .unset] [(.int (p1 &&& (3 : Int32)))])) _
          refine XS.istore X0.here hx rfl (hb hby at_9) rfl (l' := #[.val (.int p0), .val (.int p1), .val (.int p2), .val (.int p3), .val (.int (p2 &&& (31 : Int32))), .val (.int (p1 &&& (3 : Int32))), .unset, .unset]) rfl ?_
          show Steps p.tables e below (s₁.setTop (mkF m 11 #[.val (.int p0), .val (.int p1), .val (.int p2), .val (.int p3), .val (.int (p2 &&& (31 : Int32))), .val (.int (p1 &&& (3 : Int32))), .unset, .unset] [])) _
          refine XS.iload X0.here hx rfl (hb hby at_11) rfl ?_
          show Steps p.tables e below (s₁.setTop (mkF m 13 #[.val (.int p0), .val (.int p1), .val (.int p2), .val (.int p3), .val (.int (p2 &&& (31 : Int32))), .val (.int (p1 &&& (3 : Int32))), .unset, .unset] [(.int (p1 &&& (3 : Int32)))])) _
          refine XS.ifYes X0.here hx rfl (pc0 := 13) (pc' := 22) rfl (hb hby at_13) rfl ((if0 _ _).trans (feq c105).2) (by decide) (by decide) ?_
          show Steps p.tables e below (s₁.setTop (mkF m 22 #[.val (.int p0), .val (.int p1), .val (.int p2), .val (.int p3), .val (.int (p2 &&& (31 : Int32))), .val (.int (p1 &&& (3 : Int32))), .unset, .unset] [])) _
          refine XS.iload X0.here hx rfl (hb hby at_22) rfl ?_
          show Steps p.tables e below (s₁.setTop (mkF m 24 #[.val (.int p0), .val (.int p1), .val (.int p2), .val (.int p3), .val (.int (p2 &&& (31 : Int32))), .val (.int (p1 &&& (3 : Int32))), .unset, .unset] [(.int (p1 &&& (3 : Int32)))])) _
          refine XS.iconst X0.here hx rfl (hb hby at_24) ?_
          show Steps p.tables e below (s₁.setTop (mkF m 25 #[.val (.int p0), .val (.int p1), .val (.int p2), .val (.int p3), .val (.int (p2 &&& (31 : Int32))), .val (.int (p1 &&& (3 : Int32))), .unset, .unset] [(.int (1 : Int32)), (.int (p1 &&& (3 : Int32)))])) _
          refine XS.icmpYes X0.here hx rfl (pc0 := 25) (pc' := 43) rfl (hb hby at_25) rfl (feq c109).2 (by decide) (by decide) ?_
          show Steps p.tables e below (s₁.setTop (mkF m 43 #[.val (.int p0), .val (.int p1), .val (.int p2), .val (.int p3), .val (.int (p2 &&& (31 : Int32))), .val (.int (p1 &&& (3 : Int32))), .unset, .unset] [])) _
          refine XS.iload X0.here hx rfl (hb hby at_43) rfl ?_
          show Steps p.tables e below (s₁.setTop (mkF m 45 #[.val (.int p0), .val (.int p1), .val (.int p2), .val (.int p3), .val (.int (p2 &&& (31 : Int32))), .val (.int (p1 &&& (3 : Int32))), .unset, .unset] [(.int (p1 &&& (3 : Int32)))])) _
          refine XS.iconst X0.here hx rfl (hb hby at_45) ?_
          show Steps p.tables e below (s₁.setTop (mkF m 46 #[.val (.int p0), .val (.int p1), .val (.int p2), .val (.int p3), .val (.int (p2 &&& (31 : Int32))), .val (.int (p1 &&& (3 : Int32))), .unset, .unset] [(.int (2 : Int32)), (.int (p1 &&& (3 : Int32)))])) _
          refine XS.icmpNo X0.here hx rfl (hb hby at_46) rfl (teq c113).2 ?_
          show Steps p.tables e below (s₁.setTop (mkF m 49 #[.val (.int p0), .val (.int p1), .val (.int p2), .val (.int p3), .val (.int (p2 &&& (31 : Int32))), .val (.int (p1 &&& (3 : Int32))), .unset, .unset] [])) _
          refine XS.iload X0.here hx rfl (hb hby at_49) rfl ?_
          show Steps p.tables e below (s₁.setTop (mkF m 51 #[.val (.int p0), .val (.int p1), .val (.int p2), .val (.int p3), .val (.int (p2 &&& (31 : Int32))), .val (.int (p1 &&& (3 : Int32))), .unset, .unset] [(.int (p2 &&& (31 : Int32)))])) _
          refine XS.bipush X0.here hx rfl (hb hby at_51) ?_
          show Steps p.tables e below (s₁.setTop (mkF m 53 #[.val (.int p0), .val (.int p1), .val (.int p2), .val (.int p3), .val (.int (p2 &&& (31 : Int32))), .val (.int (p1 &&& (3 : Int32))), .unset, .unset] [(.int (16 : Int32)), (.int (p2 &&& (31 : Int32)))])) _
          refine XS.ishl X0.here hx rfl (hb hby at_53) rfl ?_
          show Steps p.tables e below (s₁.setTop (mkF m 54 #[.val (.int p0), .val (.int p1), .val (.int p2), .val (.int p3), .val (.int (p2 &&& (31 : Int32))), .val (.int (p1 &&& (3 : Int32))), .unset, .unset] [(.int ((p2 &&& (31 : Int32)) <<< ((16 : Int32) &&& 31)))])) _
          refine X0.ldcInt hx hown (mvT hZ (hw _ (List.mem_of_getElem? (i := 60) rfl))) (g := (mkF m 54 #[.val (.int p0), .val (.int p1), .val (.int p2), .val (.int p3), .val (.int (p2 &&& (31 : Int32))), .val (.int (p1 &&& (3 : Int32))), .unset, .unset] [(.int ((p2 &&& (31 : Int32)) <<< ((16 : Int32) &&& 31)))])) rfl (hb hby at_54) _ ?_
          show Steps p.tables e below (s₁.setTop (mkF m 56 #[.val (.int p0), .val (.int p1), .val (.int p2), .val (.int p3), .val (.int (p2 &&& (31 : Int32))), .val (.int (p1 &&& (3 : Int32))), .unset, .unset] [(.int (65520 : Int32)), (.int ((p2 &&& (31 : Int32)) <<< ((16 : Int32) &&& 31)))])) _
          refine XS.ior X0.here hx rfl (hb hby at_56) rfl ?_
          show Steps p.tables e below (s₁.setTop (mkF m 57 #[.val (.int p0), .val (.int p1), .val (.int p2), .val (.int p3), .val (.int (p2 &&& (31 : Int32))), .val (.int (p1 &&& (3 : Int32))), .unset, .unset] [(.int (((p2 &&& (31 : Int32)) <<< ((16 : Int32) &&& 31)) ||| (65520 : Int32)))])) _
          refine XS.iloadN X0.here hx rfl (hb hby at_57) rfl ?_
          show Steps p.tables e below (s₁.setTop (mkF m 58 #[.val (.int p0), .val (.int p1), .val (.int p2), .val (.int p3), .val (.int (p2 &&& (31 : Int32))), .val (.int (p1 &&& (3 : Int32))), .unset, .unset] [(.int p3), (.int (((p2 &&& (31 : Int32)) <<< ((16 : Int32) &&& 31)) ||| (65520 : Int32)))])) _
          refine XS.bipush X0.here hx rfl (hb hby at_58) ?_
          show Steps p.tables e below (s₁.setTop (mkF m 60 #[.val (.int p0), .val (.int p1), .val (.int p2), .val (.int p3), .val (.int (p2 &&& (31 : Int32))), .val (.int (p1 &&& (3 : Int32))), .unset, .unset] [(.int (15 : Int32)), (.int p3), (.int (((p2 &&& (31 : Int32)) <<< ((16 : Int32) &&& 31)) ||| (65520 : Int32)))])) _
          refine XS.iand X0.here hx rfl (hb hby at_60) rfl ?_
          show Steps p.tables e below (s₁.setTop (mkF m 61 #[.val (.int p0), .val (.int p1), .val (.int p2), .val (.int p3), .val (.int (p2 &&& (31 : Int32))), .val (.int (p1 &&& (3 : Int32))), .unset, .unset] [(.int (p3 &&& (15 : Int32))), (.int (((p2 &&& (31 : Int32)) <<< ((16 : Int32) &&& 31)) ||| (65520 : Int32)))])) _
          refine XS.ior X0.here hx rfl (hb hby at_61) rfl ?_
          show Steps p.tables e below (s₁.setTop (mkF m 62 #[.val (.int p0), .val (.int p1), .val (.int p2), .val (.int p3), .val (.int (p2 &&& (31 : Int32))), .val (.int (p1 &&& (3 : Int32))), .unset, .unset] [(.int ((((p2 &&& (31 : Int32)) <<< ((16 : Int32) &&& 31)) ||| (65520 : Int32)) ||| (p3 &&& (15 : Int32))))])) _
          refine XS.istore X0.here hx rfl (hb hby at_62) rfl (l' := #[.val (.int p0), .val (.int p1), .val (.int p2), .val (.int p3), .val (.int (p2 &&& (31 : Int32))), .val (.int (p1 &&& (3 : Int32))), .val (.int ((((p2 &&& (31 : Int32)) <<< ((16 : Int32) &&& 31)) ||| (65520 : Int32)) ||| (p3 &&& (15 : Int32)))), .unset]) rfl ?_
          show Steps p.tables e below (s₁.setTop (mkF m 64 #[.val (.int p0), .val (.int p1), .val (.int p2), .val (.int p3), .val (.int (p2 &&& (31 : Int32))), .val (.int (p1 &&& (3 : Int32))), .val (.int ((((p2 &&& (31 : Int32)) <<< ((16 : Int32) &&& 31)) ||| (65520 : Int32)) ||| (p3 &&& (15 : Int32)))), .unset] [])) _
          refine XS.goto X0.here hx rfl (pc0 := 64) (pc' := 186) rfl (hb hby at_64) (by decide) (by decide) ?_
          show Steps p.tables e below (s₁.setTop (mkF m 186 #[.val (.int p0), .val (.int p1), .val (.int p2), .val (.int p3), .val (.int (p2 &&& (31 : Int32))), .val (.int (p1 &&& (3 : Int32))), .val (.int ((((p2 &&& (31 : Int32)) <<< ((16 : Int32) &&& 31)) ||| (65520 : Int32)) ||| (p3 &&& (15 : Int32)))), .unset] [])) _
          refine XS.iload X0.here hx rfl (hb hby at_186) rfl ?_
          show Steps p.tables e below (s₁.setTop (mkF m 188 #[.val (.int p0), .val (.int p1), .val (.int p2), .val (.int p3), .val (.int (p2 &&& (31 : Int32))), .val (.int (p1 &&& (3 : Int32))), .val (.int ((((p2 &&& (31 : Int32)) <<< ((16 : Int32) &&& 31)) ||| (65520 : Int32)) ||| (p3 &&& (15 : Int32)))), .unset] [(.int ((((p2 &&& (31 : Int32)) <<< ((16 : Int32) &&& 31)) ||| (65520 : Int32)) ||| (p3 &&& (15 : Int32))))])) _
          refine st114 _ ?_
          show Steps p.tables e below (T114.setTop (mkF m 191 #[.val (.int p0), .val (.int p1), .val (.int p2), .val (.int p3), .val (.int (p2 &&& (31 : Int32))), .val (.int (p1 &&& (3 : Int32))), .val (.int ((((p2 &&& (31 : Int32)) <<< ((16 : Int32) &&& 31)) ||| (65520 : Int32)) ||| (p3 &&& (15 : Int32)))), .unset] [(.int (F1 ((((p2 &&& (31 : Int32)) <<< ((16 : Int32) &&& 31)) ||| (65520 : Int32)) ||| (p3 &&& (15 : Int32)))))])) _
          refine XS.iload X114.here hx rfl (hb hby at_191) rfl ?_
          show Steps p.tables e below (T114.setTop (mkF m 193 #[.val (.int p0), .val (.int p1), .val (.int p2), .val (.int p3), .val (.int (p2 &&& (31 : Int32))), .val (.int (p1 &&& (3 : Int32))), .val (.int ((((p2 &&& (31 : Int32)) <<< ((16 : Int32) &&& 31)) ||| (65520 : Int32)) ||| (p3 &&& (15 : Int32)))), .unset] [(.int ((((p2 &&& (31 : Int32)) <<< ((16 : Int32) &&& 31)) ||| (65520 : Int32)) ||| (p3 &&& (15 : Int32)))), (.int (F1 ((((p2 &&& (31 : Int32)) <<< ((16 : Int32) &&& 31)) ||| (65520 : Int32)) ||| (p3 &&& (15 : Int32)))))])) _
          refine st115 _ ?_
          show Steps p.tables e below (T115.setTop (mkF m 196 #[.val (.int p0), .val (.int p1), .val (.int p2), .val (.int p3), .val (.int (p2 &&& (31 : Int32))), .val (.int (p1 &&& (3 : Int32))), .val (.int ((((p2 &&& (31 : Int32)) <<< ((16 : Int32) &&& 31)) ||| (65520 : Int32)) ||| (p3 &&& (15 : Int32)))), .unset] [(.int (F2 ((((p2 &&& (31 : Int32)) <<< ((16 : Int32) &&& 31)) ||| (65520 : Int32)) ||| (p3 &&& (15 : Int32))))), (.int (F1 ((((p2 &&& (31 : Int32)) <<< ((16 : Int32) &&& 31)) ||| (65520 : Int32)) ||| (p3 &&& (15 : Int32)))))])) _
          refine XS.icmpNo X115.here hx rfl (hb hby at_196) rfl (teq (own_fin _ : (F1 ((((p2 &&& (31 : Int32)) <<< ((16 : Int32) &&& 31)) ||| (65520 : Int32)) ||| (p3 &&& (15 : Int32)))) = (F2 ((((p2 &&& (31 : Int32)) <<< ((16 : Int32) &&& 31)) ||| (65520 : Int32)) ||| (p3 &&& (15 : Int32)))))).2 ?_
          show Steps p.tables e below (T115.setTop (mkF m 199 #[.val (.int p0), .val (.int p1), .val (.int p2), .val (.int p3), .val (.int (p2 &&& (31 : Int32))), .val (.int (p1 &&& (3 : Int32))), .val (.int ((((p2 &&& (31 : Int32)) <<< ((16 : Int32) &&& 31)) ||| (65520 : Int32)) ||| (p3 &&& (15 : Int32)))), .unset] [])) _
          refine XS.iconst X115.here hx rfl (hb hby at_199) ?_
          show Steps p.tables e below (T115.setTop (mkF m 200 #[.val (.int p0), .val (.int p1), .val (.int p2), .val (.int p3), .val (.int (p2 &&& (31 : Int32))), .val (.int (p1 &&& (3 : Int32))), .val (.int ((((p2 &&& (31 : Int32)) <<< ((16 : Int32) &&& 31)) ||| (65520 : Int32)) ||| (p3 &&& (15 : Int32)))), .unset] [(.int (1 : Int32))])) _
          refine XS.goto X115.here hx rfl (pc0 := 200) (pc' := 204) rfl (hb hby at_200) (by decide) (by decide) ?_
          show Steps p.tables e below (T115.setTop (mkF m 204 #[.val (.int p0), .val (.int p1), .val (.int p2), .val (.int p3), .val (.int (p2 &&& (31 : Int32))), .val (.int (p1 &&& (3 : Int32))), .val (.int ((((p2 &&& (31 : Int32)) <<< ((16 : Int32) &&& 31)) ||| (65520 : Int32)) ||| (p3 &&& (15 : Int32)))), .unset] [(.int (1 : Int32))])) _
          exact retN X115 hx (t := .boolean) Bd.returns (by simp) (hb hby at_204) hr
        · exact ⟨rfl, N115⟩
      · obtain ⟨T117, h117, k117, X117, e117, E117, A117, st117⟩ := newP X0 hx hZ (hw _ (List.mem_of_getElem? (i := 0) rfl)) e0 (g := (mkF m 69 #[.val (.int p0), .val (.int p1), .val (.int p2), .val (.int p3), .val (.int (p2 &&& (31 : Int32))), .val (.int (p1 &&& (3 : Int32))), .unset, .unset] [(.int (16 : Int32))])) rfl (hb hby at_69) rfl (by decide) (cap := 16) (by decide) (by decide) (by decide) (by decide)
        obtain ⟨ar117, g117⟩ : ∃ z, z = h0.size := ⟨_, rfl⟩
        rw [← g117] at A117 st117
        have V117 : Arv Z h117 ar117 k117 .int (16 : Int32) [(.int (0 : Int32)), (.int (0 : Int32)), (.int (0 : Int32)), (.int (0 : Int32)), (.int (0 : Int32)), (.int (0 : Int32)), (.int (0 : Int32)), (.int (0 : Int32)), (.int (0 : Int32)), (.int (0 : Int32)), (.int (0 : Int32)), (.int (0 : Int32)), (.int (0 : Int32)), (.int (0 : Int32)), (.int (0 : Int32)), (.int (0 : Int32))] (.int (0 : Int32)) := (Arv.new A117 (by decide)).pad (pad_rep [] (.int (0 : Int32)) 16)
        have gn117 : n0 ≤ ar117 := Nat.le_trans Z0 (Nat.le_of_eq g117.symm)
        have sz117 : h0.size ≤ ar117 := Nat.le_trans (Keep.refl h0 []).1 (Nat.le_of_eq g117.symm)
        have K117 : Keep h0 h117 [] := (Keep.refl h0 []).ext E117
        obtain ⟨cl118, Ar118, q118, S118, M118, H118, G118⟩ := V117
        have hin118 : ¬ ((0 : Int32) < 0 ∨ cl118.slots.size ≤ ((0 : Int32)).toNatClampNeg) := inb_of S118 ⟨by decide, by decide⟩
        obtain ⟨T118, h118, X118, e118, W118, st118⟩ := stI X117 hx hZ e117 Ar118 (j := (0 : Int32)) hin118 (g := (mkF m 76 #[.val (.int p0), .val (.int p1), .val (.int p2), .val (.int p3), .val (.int (p2 &&& (31 : Int32))), .val (.int (p1 &&& (3 : Int32))), .unset, .unset] [(.int (160 : Int32)), (.int (0 : Int32)), (.ref ar117), (.ref ar117)])) rfl rfl (hb hby at_76)
        have V118 := Arv.set Ar118 q118 S118 M118 H118 G118 rfl W118 0 rfl (Nat.le_of_ble_eq_true rfl)
        have K118 : Keep h0 h118 [] := K117.wr W118 (Or.inr sz117)
        have N118 := Fr.snoc X118 N0 gn117
        obtain ⟨cl119, Ar119, q119, S119, M119, H119, G119⟩ := V118
        have hin119 : ¬ ((1 : Int32) < 0 ∨ cl119.slots.size ≤ ((1 : Int32)).toNatClampNeg) := inb_of S119 ⟨by decide, by decide⟩
        obtain ⟨T119, h119, X119, e119, W119, st119⟩ := stI X118 hx hZ e118 Ar119 (j := (1 : Int32)) hin119 (g := (mkF m 81 #[.val (.int p0), .val (.int p1), .val (.int p2), .val (.int p3), .val (.int (p2 &&& (31 : Int32))), .val (.int (p1 &&& (3 : Int32))), .unset, .unset] [(.int (55295 : Int32)), (.int (1 : Int32)), (.ref ar117), (.ref ar117)])) rfl rfl (hb hby at_81)
        have V119 := Arv.set Ar119 q119 S119 M119 H119 G119 rfl W119 1 rfl (Nat.le_of_ble_eq_true rfl)
        have K119 : Keep h0 h119 [] := K118.wr W119 (Or.inr sz117)
        have N119 := Fr.snoc X119 N118 gn117
        obtain ⟨cl120, Ar120, q120, S120, M120, H120, G120⟩ := V119
        have hin120 : ¬ ((2 : Int32) < 0 ∨ cl120.slots.size ≤ ((2 : Int32)).toNatClampNeg) := inb_of S120 ⟨by decide, by decide⟩
        obtain ⟨T120, h120, X120, e120, W120, st120⟩ := stI X119 hx hZ e119 Ar120 (j := (2 : Int32)) hin120 (g := (mkF m 86 #[.val (.int p0), .val (.int p1), .val (.int p2), .val (.int p3), .val (.int (p2 &&& (31 : Int32))), .val (.int (p1 &&& (3 : Int32))), .unset, .unset] [(.int (63744 : Int32)), (.int (2 : Int32)), (.ref ar117), (.ref ar117)])) rfl rfl (hb hby at_86)
        have V120 := Arv.set Ar120 q120 S120 M120 H120 G120 rfl W120 2 rfl (Nat.le_of_ble_eq_true rfl)
        have K120 : Keep h0 h120 [] := K119.wr W120 (Or.inr sz117)
        have N120 := Fr.snoc X120 N119 gn117
        obtain ⟨cl121, Ar121, q121, S121, M121, H121, G121⟩ := V120
        have hin121 : ¬ ((3 : Int32) < 0 ∨ cl121.slots.size ≤ ((3 : Int32)).toNatClampNeg) := inb_of S121 ⟨by decide, by decide⟩
        obtain ⟨T121, h121, X121, e121, W121, st121⟩ := stI X120 hx hZ e120 Ar121 (j := (3 : Int32)) hin121 (g := (mkF m 91 #[.val (.int p0), .val (.int p1), .val (.int p2), .val (.int p3), .val (.int (p2 &&& (31 : Int32))), .val (.int (p1 &&& (3 : Int32))), .unset, .unset] [(.int (64975 : Int32)), (.int (3 : Int32)), (.ref ar117), (.ref ar117)])) rfl rfl (hb hby at_91)
        have V121 := Arv.set Ar121 q121 S121 M121 H121 G121 rfl W121 3 rfl (Nat.le_of_ble_eq_true rfl)
        have K121 : Keep h0 h121 [] := K120.wr W121 (Or.inr sz117)
        have N121 := Fr.snoc X121 N120 gn117
        obtain ⟨cl122, Ar122, q122, S122, M122, H122, G122⟩ := V121
        have hin122 : ¬ ((4 : Int32) < 0 ∨ cl122.slots.size ≤ ((4 : Int32)).toNatClampNeg) := inb_of S122 ⟨by decide, by decide⟩
        obtain ⟨T122, h122, X122, e122, W122, st122⟩ := stI X121 hx hZ e121 Ar122 (j := (4 : Int32)) hin122 (g := (mkF m 96 #[.val (.int p0), .val (.int p1), .val (.int p2), .val (.int p3), .val (.int (p2 &&& (31 : Int32))), .val (.int (p1 &&& (3 : Int32))), .unset, .unset] [(.int (65008 : Int32)), (.int (4 : Int32)), (.ref ar117), (.ref ar117)])) rfl rfl (hb hby at_96)
        have V122 := Arv.set Ar122 q122 S122 M122 H122 G122 rfl W122 4 rfl (Nat.le_of_ble_eq_true rfl)
        have K122 : Keep h0 h122 [] := K121.wr W122 (Or.inr sz117)
        have N122 := Fr.snoc X122 N121 gn117
        obtain ⟨cl123, Ar123, q123, S123, M123, H123, G123⟩ := V122
        have hin123 : ¬ ((5 : Int32) < 0 ∨ cl123.slots.size ≤ ((5 : Int32)).toNatClampNeg) := inb_of S123 ⟨by decide, by decide⟩
        obtain ⟨T123, h123, X123, e123, W123, st123⟩ := stI X122 hx hZ e122 Ar123 (j := (5 : Int32)) hin123 (g := (mkF m 101 #[.val (.int p0), .val (.int p1), .val (.int p2), .val (.int p3), .val (.int (p2 &&& (31 : Int32))), .val (.int (p1 &&& (3 : Int32))), .unset, .unset] [(.int (65519 : Int32)), (.int (5 : Int32)), (.ref ar117), (.ref ar117)])) rfl rfl (hb hby at_101)
        have V123 := Arv.set Ar123 q123 S123 M123 H123 G123 rfl W123 5 rfl (Nat.le_of_ble_eq_true rfl)
        have K123 : Keep h0 h123 [] := K122.wr W123 (Or.inr sz117)
        have N123 := Fr.snoc X123 N122 gn117
        obtain ⟨cl124, Ar124, q124, S124, M124, H124, G124⟩ := V123
        have hin124 : ¬ ((6 : Int32) < 0 ∨ cl124.slots.size ≤ ((6 : Int32)).toNatClampNeg) := inb_of S124 ⟨by decide, by decide⟩
        obtain ⟨T124, h124, X124, e124, W124, st124⟩ := stI X123 hx hZ e123 Ar124 (j := (6 : Int32)) hin124 (g := (mkF m 107 #[.val (.int p0), .val (.int p1), .val (.int p2), .val (.int p3), .val (.int (p2 &&& (31 : Int32))), .val (.int (p1 &&& (3 : Int32))), .unset, .unset] [(.int (65536 : Int32)), (.int (6 : Int32)), (.ref ar117), (.ref ar117)])) rfl rfl (hb hby at_107)
        have V124 := Arv.set Ar124 q124 S124 M124 H124 G124 rfl W124 6 rfl (Nat.le_of_ble_eq_true rfl)
        have K124 : Keep h0 h124 [] := K123.wr W124 (Or.inr sz117)
        have N124 := Fr.snoc X124 N123 gn117
        obtain ⟨cl125, Ar125, q125, S125, M125, H125, G125⟩ := V124
        have hin125 : ¬ ((7 : Int32) < 0 ∨ cl125.slots.size ≤ ((7 : Int32)).toNatClampNeg) := inb_of S125 ⟨by decide, by decide⟩
        obtain ⟨T125, h125, X125, e125, W125, st125⟩ := stI X124 hx hZ e124 Ar125 (j := (7 : Int32)) hin125 (g := (mkF m 113 #[.val (.int p0), .val (.int p1), .val (.int p2), .val (.int p3), .val (.int (p2 &&& (31 : Int32))), .val (.int (p1 &&& (3 : Int32))), .unset, .unset] [(.int (131069 : Int32)), (.int (7 : Int32)), (.ref ar117), (.ref ar117)])) rfl rfl (hb hby at_113)
        have V125 := Arv.set Ar125 q125 S125 M125 H125 G125 rfl W125 7 rfl (Nat.le_of_ble_eq_true rfl)
        have K125 : Keep h0 h125 [] := K124.wr W125 (Or.inr sz117)
        have N125 := Fr.snoc X125 N124 gn117
        obtain ⟨cl126, Ar126, q126, S126, M126, H126, G126⟩ := V125
        have hin126 : ¬ ((8 : Int32) < 0 ∨ cl126.slots.size ≤ ((8 : Int32)).toNatClampNeg) := inb_of S126 ⟨by decide, by decide⟩
        obtain ⟨T126, h126, X126, e126, W126, st126⟩ := stI X125 hx hZ e125 Ar126 (j := (8 : Int32)) hin126 (g := (mkF m 119 #[.val (.int p0), .val (.int p1), .val (.int p2), .val (.int p3), .val (.int (p2 &&& (31 : Int32))), .val (.int (p1 &&& (3 : Int32))), .unset, .unset] [(.int (917501 : Int32)), (.int (8 : Int32)), (.ref ar117), (.ref ar117)])) rfl rfl (hb hby at_119)
        have V126 := Arv.set Ar126 q126 S126 M126 H126 G126 rfl W126 8 rfl (Nat.le_of_ble_eq_true rfl)
        have K126 : Keep h0 h126 [] := K125.wr W126 (Or.inr sz117)
        have N126 := Fr.snoc X126 N125 gn117
        obtain ⟨cl127, Ar127, q127, S127, M127, H127, G127⟩ := V126
        have hin127 : ¬ ((9 : Int32) < 0 ∨ cl127.slots.size ≤ ((9 : Int32)).toNatClampNeg) := inb_of S127 ⟨by decide, by decide⟩
        obtain ⟨T127, h127, X127, e127, W127, st127⟩ := stI X126 hx hZ e126 Ar127 (j := (9 : Int32)) hin127 (g := (mkF m 125 #[.val (.int p0), .val (.int p1), .val (.int p2), .val (.int p3), .val (.int (p2 &&& (31 : Int32))), .val (.int (p1 &&& (3 : Int32))), .unset, .unset] [(.int (917504 : Int32)), (.int (9 : Int32)), (.ref ar117), (.ref ar117)])) rfl rfl (hb hby at_125)
        have V127 := Arv.set Ar127 q127 S127 M127 H127 G127 rfl W127 9 rfl (Nat.le_of_ble_eq_true rfl)
        have K127 : Keep h0 h127 [] := K126.wr W127 (Or.inr sz117)
        have N127 := Fr.snoc X127 N126 gn117
        obtain ⟨cl128, Ar128, q128, S128, M128, H128, G128⟩ := V127
        have hin128 : ¬ ((10 : Int32) < 0 ∨ cl128.slots.size ≤ ((10 : Int32)).toNatClampNeg) := inb_of S128 ⟨by decide, by decide⟩
        obtain ⟨T128, h128, X128, e128, W128, st128⟩ := stI X127 hx hZ e127 Ar128 (j := (10 : Int32)) hin128 (g := (mkF m 131 #[.val (.int p0), .val (.int p1), .val (.int p2), .val (.int p3), .val (.int (p2 &&& (31 : Int32))), .val (.int (p1 &&& (3 : Int32))), .unset, .unset] [(.int (921600 : Int32)), (.int (10 : Int32)), (.ref ar117), (.ref ar117)])) rfl rfl (hb hby at_131)
        have V128 := Arv.set Ar128 q128 S128 M128 H128 G128 rfl W128 10 rfl (Nat.le_of_ble_eq_true rfl)
        have K128 : Keep h0 h128 [] := K127.wr W128 (Or.inr sz117)
        have N128 := Fr.snoc X128 N127 gn117
        obtain ⟨cl129, Ar129, q129, S129, M129, H129, G129⟩ := V128
        have hin129 : ¬ ((11 : Int32) < 0 ∨ cl129.slots.size ≤ ((11 : Int32)).toNatClampNeg) := inb_of S129 ⟨by decide, by decide⟩
        obtain ⟨T129, h129, X129, e129, W129, st129⟩ := stI X128 hx hZ e128 Ar129 (j := (11 : Int32)) hin129 (g := (mkF m 137 #[.val (.int p0), .val (.int p1), .val (.int p2), .val (.int p3), .val (.int (p2 &&& (31 : Int32))), .val (.int (p1 &&& (3 : Int32))), .unset, .unset] [(.int (983037 : Int32)), (.int (11 : Int32)), (.ref ar117), (.ref ar117)])) rfl rfl (hb hby at_137)
        have V129 := Arv.set Ar129 q129 S129 M129 H129 G129 rfl W129 11 rfl (Nat.le_of_ble_eq_true rfl)
        have K129 : Keep h0 h129 [] := K128.wr W129 (Or.inr sz117)
        have N129 := Fr.snoc X129 N128 gn117
        obtain ⟨cl130, Ar130, q130, S130, M130, H130, G130⟩ := V129
        have hin130 : ¬ ((12 : Int32) < 0 ∨ cl130.slots.size ≤ ((12 : Int32)).toNatClampNeg) := inb_of S130 ⟨by decide, by decide⟩
        obtain ⟨T130, h130, X130, e130, W130, st130⟩ := stI X129 hx hZ e129 Ar130 (j := (12 : Int32)) hin130 (g := (mkF m 143 #[.val (.int p0), .val (.int p1), .val (.int p2), .val (.int p3), .val (.int (p2 &&& (31 : Int32))), .val (.int (p1 &&& (3 : Int32))), .unset, .unset] [(.int (983040 : Int32)), (.int (12 : Int32)), (.ref ar117), (.ref ar117)])) rfl rfl (hb hby at_143)
        have V130 := Arv.set Ar130 q130 S130 M130 H130 G130 rfl W130 12 rfl (Nat.le_of_ble_eq_true rfl)
        have K130 : Keep h0 h130 [] := K129.wr W130 (Or.inr sz117)
        have N130 := Fr.snoc X130 N129 gn117
        obtain ⟨cl131, Ar131, q131, S131, M131, H131, G131⟩ := V130
        have hin131 : ¬ ((13 : Int32) < 0 ∨ cl131.slots.size ≤ ((13 : Int32)).toNatClampNeg) := inb_of S131 ⟨by decide, by decide⟩
        obtain ⟨T131, h131, X131, e131, W131, st131⟩ := stI X130 hx hZ e130 Ar131 (j := (13 : Int32)) hin131 (g := (mkF m 149 #[.val (.int p0), .val (.int p1), .val (.int p2), .val (.int p3), .val (.int (p2 &&& (31 : Int32))), .val (.int (p1 &&& (3 : Int32))), .unset, .unset] [(.int (1048573 : Int32)), (.int (13 : Int32)), (.ref ar117), (.ref ar117)])) rfl rfl (hb hby at_149)
        have V131 := Arv.set Ar131 q131 S131 M131 H131 G131 rfl W131 13 rfl (Nat.le_of_ble_eq_true rfl)
        have K131 : Keep h0 h131 [] := K130.wr W131 (Or.inr sz117)
        have N131 := Fr.snoc X131 N130 gn117
        obtain ⟨cl132, Ar132, q132, S132, M132, H132, G132⟩ := V131
        have hin132 : ¬ ((14 : Int32) < 0 ∨ cl132.slots.size ≤ ((14 : Int32)).toNatClampNeg) := inb_of S132 ⟨by decide, by decide⟩
        obtain ⟨T132, h132, X132, e132, W132, st132⟩ := stI X131 hx hZ e131 Ar132 (j := (14 : Int32)) hin132 (g := (mkF m 155 #[.val (.int p0), .val (.int p1), .val (.int p2), .val (.int p3), .val (.int (p2 &&& (31 : Int32))), .val (.int (p1 &&& (3 : Int32))), .unset, .unset] [(.int (1114109 : Int32)), (.int (14 : Int32)), (.ref ar117), (.ref ar117)])) rfl rfl (hb hby at_155)
        have V132 := Arv.set Ar132 q132 S132 M132 H132 G132 rfl W132 14 rfl (Nat.le_of_ble_eq_true rfl)
        have K132 : Keep h0 h132 [] := K131.wr W132 (Or.inr sz117)
        have N132 := Fr.snoc X132 N131 gn117
        obtain ⟨cl133, Ar133, q133, S133, M133, H133, G133⟩ := V132
        have hin133 : ¬ ((15 : Int32) < 0 ∨ cl133.slots.size ≤ ((15 : Int32)).toNatClampNeg) := inb_of S133 ⟨by decide, by decide⟩
        obtain ⟨T133, h133, X133, e133, W133, st133⟩ := stI X132 hx hZ e132 Ar133 (j := (15 : Int32)) hin133 (g := (mkF m 161 #[.val (.int p0), .val (.int p1), .val (.int p2), .val (.int p3), .val (.int (p2 &&& (31 : Int32))), .val (.int (p1 &&& (3 : Int32))), .unset, .unset] [(.int (1114112 : Int32)), (.int (15 : Int32)), (.ref ar117), (.ref ar117)])) rfl rfl (hb hby at_161)
        have V133 := Arv.set Ar133 q133 S133 M133 H133 G133 rfl W133 15 rfl (Nat.le_of_ble_eq_true rfl)
        have K133 : Keep h0 h133 [] := K132.wr W133 (Or.inr sz117)
        have N133 := Fr.snoc X133 N132 gn117
        obtain ⟨cl134, Ar134, -, S134, M134, H134, G134⟩ := V133
        have hin135 : ¬ (((p3 &&& (2147483647 : Int32)) % (16 : Int32)) < 0 ∨ cl134.slots.size ≤ (((p3 &&& (2147483647 : Int32)) % (16 : Int32))).toNatClampNeg) := inb_of S134 (own_at16 p3)
        obtain ⟨z135, hz135⟩ : ∃ z, cl134.slots[(((p3 &&& (2147483647 : Int32)) % (16 : Int32))).toNatClampNeg]? = some (.int z) := own_some H134 G134 (Nat.lt_of_not_le fun y => hin135 (Or.inr y))
        obtain ⟨_, _, ⟨T136, L136, k136, n136⟩, -, X136, ⟨Lc136, hQ136, l136, y136, z136⟩, st136⟩ := Jvm.LawKit.callS X133 hx (y := (⟨"com/example/rels_from_records/relsfromrecords/uri/PercentEncoding", "isUcschar", "(I)Z"⟩ : MethodName)) hown (mvT hZ (hw _ (List.mem_of_getElem? (i := 17) rfl))) (mvT hZ (hw _ (List.mem_of_getElem? (i := 18) rfl))) (mvT hZ (hw _ (List.mem_of_getElem? (i := 19) rfl))) (mvT hZ (hw _ (List.mem_of_getElem? (i := 20) rfl))) (by decide) (backOf (W := 0) (rm1 l Z a0 hw [] ((z135 + ((p0 &&& (2147483647 : Int32)) % (5 : Int32))) - (2 : Int32)) h133 n0 (Nat.le_trans Z0 K133.1) ) hZ (hw _ (List.mem_of_getElem? (i := 20) rfl)) (hw _ (List.mem_of_getElem? (i := 19) rfl)) (by decide) (by decide)) (g := (mkF m 188 #[.val (.int p0), .val (.int p1), .val (.int p2), .val (.int p3), .val (.int (p2 &&& (31 : Int32))), .val (.int (p1 &&& (3 : Int32))), .val (.int ((z135 + ((p0 &&& (2147483647 : Int32)) % (5 : Int32))) - (2 : Int32))), .val (.ref ar117)] [(.int ((z135 + ((p0 &&& (2147483647 : Int32)) % (5 : Int32))) - (2 : Int32)))])) rfl (by rw [hml]; rfl) (argsL := [(.int ((z135 + ((p0 &&& (2147483647 : Int32)) % (5 : Int32))) - (2 : Int32)))]) (rest := []) (lenOf pd_1 rfl) rfl (by show 2 * 0 + _ ≤ _; exact Nat.le_of_eq rfl) (hb hby at_188) (fun _ _ => ⟨rfl, e133, (by decide : 1 + 0 ≤ _), (by decide : 16 + 0 ≤ _)⟩)
        dsimp only [Pt.U, Pt.locs, Pt.cells, Pt.slots] at X136 l136 y136 z136 st136 hQ136
        subst l136 y136 z136
        obtain ⟨rfl, N136q, e136⟩ := hQ136
        have N136 := Fr.app N133 N136q
        obtain ⟨_, _, ⟨T137, L137, k137, n137⟩, -, X137, ⟨Lc137, hQ137, l137, y137, z137⟩, st137⟩ := Jvm.LawKit.callS X136 hx (y := (⟨"com/example/rels_from_records/relsfromrecords/uri/PercentEncodingIsUcscharPinLaw", "ref", "(I)Z"⟩ : MethodName)) hown (mvT hZ (hw _ (List.mem_of_getElem? (i := 23) rfl))) (mvT hZ (hw _ (List.mem_of_getElem? (i := 24) rfl))) (mvT hZ (hw _ (List.mem_of_getElem? (i := 25) rfl))) (mvT hZ (hw _ (List.mem_of_getElem? (i := 26) rfl))) (by decide) (backOf (W := 1) (rm2 l Z a0 hw [] ((z135 + ((p0 &&& (2147483647 : Int32)) % (5 : Int32))) - (2 : Int32)) h133 n0 (Nat.le_trans Z0 K133.1) ) hZ (hw _ (List.mem_of_getElem? (i := 26) rfl)) (hw _ (List.mem_of_getElem? (i := 25) rfl)) (by decide) (by decide)) (g := (mkF m 193 #[.val (.int p0), .val (.int p1), .val (.int p2), .val (.int p3), .val (.int (p2 &&& (31 : Int32))), .val (.int (p1 &&& (3 : Int32))), .val (.int ((z135 + ((p0 &&& (2147483647 : Int32)) % (5 : Int32))) - (2 : Int32))), .val (.ref ar117)] [(.int ((z135 + ((p0 &&& (2147483647 : Int32)) % (5 : Int32))) - (2 : Int32))), (.int (F1 ((z135 + ((p0 &&& (2147483647 : Int32)) % (5 : Int32))) - (2 : Int32))))])) rfl (by rw [hml]; rfl) (argsL := [(.int ((z135 + ((p0 &&& (2147483647 : Int32)) % (5 : Int32))) - (2 : Int32)))]) (rest := [(.int (F1 ((z135 + ((p0 &&& (2147483647 : Int32)) % (5 : Int32))) - (2 : Int32))))]) (lenOf pd_1 rfl) rfl (by show 2 * 0 + _ ≤ _; exact Nat.le_of_eq rfl) (hb hby at_193) (fun _ _ => ⟨rfl, e136, (by decide : 1 + 0 ≤ _), (by decide : 16 + 0 ≤ _)⟩)
        dsimp only [Pt.U, Pt.locs, Pt.cells, Pt.slots] at X137 l137 y137 z137 st137 hQ137
        subst l137 y137 z137
        obtain ⟨rfl, N137q, e137⟩ := hQ137
        have N137 := Fr.app N136 N137q
        obtain ⟨fs, hr, hrun, hended, hW, hsame⟩ := X137.leave (v := some (.int (1 : Int32))) (fun h => by rw [Bd.returns] at h; cases h)
        refine ⟨_, _, pre0 _ ?_, hrun, hended, _, _, rfl, ?_, ⟨_, rfl⟩, hW, hsame.mono (by decide) (by decide)⟩
        · show Steps p.tables e below (s₁.setTop (mkF m 0 #[.val (.int p0), .val (.int p1), .val (.int p2), .val (.int p3), .unset, .unset, .unset, .unset] [])) _
          refine XS.iloadN X0.here hx rfl (hb hby at_0) rfl ?_
          show Steps p.tables e below (s₁.setTop (mkF m 1 #[.val (.int p0), .val (.int p1), .val (.int p2), .val (.int p3), .unset, .unset, .unset, .unset] [(.int p2)])) _
          refine XS.bipush X0.here hx rfl (hb hby at_1) ?_
          show Steps p.tables e below (s₁.setTop (mkF m 3 #[.val (.int p0), .val (.int p1), .val (.int p2), .val (.int p3), .unset, .unset, .unset, .unset] [(.int (31 : Int32)), (.int p2)])) _
          refine XS.iand X0.here hx rfl (hb hby at_3) rfl ?_
          show Steps p.tables e below (s₁.setTop (mkF m 4 #[.val (.int p0), .val (.int p1), .val (.int p2), .val (.int p3), .unset, .unset, .unset, .unset] [(.int (p2 &&& (31 : Int32)))])) _
          refine XS.istore X0.here hx rfl (hb hby at_4) rfl (l' := #[.val (.int p0), .val (.int p1), .val (.int p2), .val (.int p3), .val (.int (p2 &&& (31 : Int32))), .unset, .unset, .unset]) rfl ?_
          show Steps p.tables e below (s₁.setTop (mkF m 6 #[.val (.int p0), .val (.int p1), .val (.int p2), .val (.int p3), .val (.int (p2 &&& (31 : Int32))), .unset, .unset, .unset] [])) _
          refine XS.iloadN X0.here hx rfl (hb hby at_6) rfl ?_
          show Steps p.tables e below (s₁.setTop (mkF m 7 #[.val (.int p0), .val (.int p1), .val (.int p2), .val (.int p3), .val (.int (p2 &&& (31 : Int32))), .unset, .unset, .unset] [(.int p1)])) _
          refine XS.iconst X0.here hx rfl (hb hby at_7) ?_
          show Steps p.tables e below (s₁.setTop (mkF m 8 #[.val (.int p0), .val (.int p1), .val (.int p2), .val (.int p3), .val (.int (p2 &&& (31 : Int32))), .unset, .unset, .unset] [(.int (3 : Int32)), (.int p1)])) _
          refine XS.iand X0.here hx rfl (hb hby at_8) rfl ?_
          show Steps p.tables e below (s₁.setTop (mkF m 9 #[.val (.int p0), .val (.int p1), .val (.int p2), .val (.int p3), .val (.int (p2 &&& (31 : Int32))), .unset, .unset, .unset] [(.int (p1 &&& (3 : Int32)))])) _
          refine XS.istore X0.here hx rfl (hb hby at_9) rfl (l' := #[.val (.int p0), .val (.int p1), .val (.int p2), .val (.int p3), .val (.int (p2 &&& (31 : Int32))), .val (.int (p1 &&& (3 : Int32))), .unset, .unset]) rfl ?_
          show Steps p.tables e below (s₁.setTop (mkF m 11 #[.val (.int p0), .val (.int p1), .val (.int p2), .val (.int p3), .val (.int (p2 &&& (31 : Int32))), .val (.int (p1 &&& (3 : Int32))), .unset, .unset] [])) _
          refine XS.iload X0.here hx rfl (hb hby at_11) rfl ?_
          show Steps p.tables e below (s₁.setTop (mkF m 13 #[.val (.int p0), .val (.int p1), .val (.int p2), .val (.int p3), .val (.int (p2 &&& (31 : Int32))), .val (.int (p1 &&& (3 : Int32))), .unset, .unset] [(.int (p1 &&& (3 : Int32)))])) _
          refine XS.ifYes X0.here hx rfl (pc0 := 13) (pc' := 22) rfl (hb hby at_13) rfl ((if0 _ _).trans (feq c105).2) (by decide) (by decide) ?_
          show Steps p.tables e below (s₁.setTop (mkF m 22 #[.val (.int p0), .val (.int p1), .val (.int p2), .val (.int p3), .val (.int (p2 &&& (31 : Int32))), .val (.int (p1 &&& (3 : Int32))), .unset, .unset] [])) _
          refine XS.iload X0.here hx rfl (hb hby at_22) rfl ?_
          show Steps p.tables e below (s₁.setTop (mkF m 24 #[.val (.int p0), .val (.int p1), .val (.int p2), .val (.int p3), .val (.int (p2 &&& (31 : Int32))), .val (.int (p1 &&& (3 : Int32))), .unset, .unset] [(.int (p1 &&& (3 : Int32)))])) _
          refine XS.iconst X0.here hx rfl (hb hby at_24) ?_
          show Steps p.tables e below (s₁.setTop (mkF m 25 #[.val (.int p0), .val (.int p1), .val (.int p2), .val (.int p3), .val (.int (p2 &&& (31 : Int32))), .val (.int (p1 &&& (3 : Int32))), .unset, .unset] [(.int (1 : Int32)), (.int (p1 &&& (3 : Int32)))])) _
          refine XS.icmpYes X0.here hx rfl (pc0 := 25) (pc' := 43) rfl (hb hby at_25) rfl (feq c109).2 (by decide) (by decide) ?_
          show Steps p.tables e below (s₁.setTop (mkF m 43 #[.val (.int p0), .val (.int p1), .val (.int p2), .val (.int p3), .val (.int (p2 &&& (31 : Int32))), .val (.int (p1 &&& (3 : Int32))), .unset, .unset] [])) _
          refine XS.iload X0.here hx rfl (hb hby at_43) rfl ?_
          show Steps p.tables e below (s₁.setTop (mkF m 45 #[.val (.int p0), .val (.int p1), .val (.int p2), .val (.int p3), .val (.int (p2 &&& (31 : Int32))), .val (.int (p1 &&& (3 : Int32))), .unset, .unset] [(.int (p1 &&& (3 : Int32)))])) _
          refine XS.iconst X0.here hx rfl (hb hby at_45) ?_
          show Steps p.tables e below (s₁.setTop (mkF m 46 #[.val (.int p0), .val (.int p1), .val (.int p2), .val (.int p3), .val (.int (p2 &&& (31 : Int32))), .val (.int (p1 &&& (3 : Int32))), .unset, .unset] [(.int (2 : Int32)), (.int (p1 &&& (3 : Int32)))])) _
          refine XS.icmpYes X0.here hx rfl (pc0 := 46) (pc' := 67) rfl (hb hby at_46) rfl (feq c113).2 (by decide) (by decide) ?_
          show Steps p.tables e below (s₁.setTop (mkF m 67 #[.val (.int p0), .val (.int p1), .val (.int p2), .val (.int p3), .val (.int (p2 &&& (31 : Int32))), .val (.int (p1 &&& (3 : Int32))), .unset, .unset] [])) _
          refine XS.bipush X0.here hx rfl (hb hby at_67) ?_
          show Steps p.tables e below (s₁.setTop (mkF m 69 #[.val (.int p0), .val (.int p1), .val (.int p2), .val (.int p3), .val (.int (p2 &&& (31 : Int32))), .val (.int (p1 &&& (3 : Int32))), .unset, .unset] [(.int (16 : Int32))])) _
          refine st117 _ ?_
          show Steps p.tables e below (T117.setTop (mkF m 71 #[.val (.int p0), .val (.int p1), .val (.int p2), .val (.int p3), .val (.int (p2 &&& (31 : Int32))), .val (.int (p1 &&& (3 : Int32))), .unset, .unset] [(.ref ar117)])) _
          refine XS.dup X117.here hx rfl (hb hby at_71) rfl rfl ?_
          show Steps p.tables e below (T117.setTop (mkF m 72 #[.val (.int p0), .val (.int p1), .val (.int p2), .val (.int p3), .val (.int (p2 &&& (31 : Int32))), .val (.int (p1 &&& (3 : Int32))), .unset, .unset] [(.ref ar117), (.ref ar117)])) _
          refine XS.iconst X117.here hx rfl (hb hby at_72) ?_
          show Steps p.tables e below (T117.setTop (mkF m 73 #[.val (.int p0), .val (.int p1), .val (.int p2), .val (.int p3), .val (.int (p2 &&& (31 : Int32))), .val (.int (p1 &&& (3 : Int32))), .unset, .unset] [(.int (0 : Int32)), (.ref ar117), (.ref ar117)])) _
          refine XS.sipush X117.here hx rfl (hb hby at_73) ?_
          show Steps p.tables e below (T117.setTop (mkF m 76 #[.val (.int p0), .val (.int p1), .val (.int p2), .val (.int p3), .val (.int (p2 &&& (31 : Int32))), .val (.int (p1 &&& (3 : Int32))), .unset, .unset] [(.int (160 : Int32)), (.int (0 : Int32)), (.ref ar117), (.ref ar117)])) _
          refine st118 _ ?_
          show Steps p.tables e below (T118.setTop (mkF m 77 #[.val (.int p0), .val (.int p1), .val (.int p2), .val (.int p3), .val (.int (p2 &&& (31 : Int32))), .val (.int (p1 &&& (3 : Int32))), .unset, .unset] [(.ref ar117)])) _
          refine XS.dup X118.here hx rfl (hb hby at_77) rfl rfl ?_
          show Steps p.tables e below (T118.setTop (mkF m 78 #[.val (.int p0), .val (.int p1), .val (.int p2), .val (.int p3), .val (.int (p2 &&& (31 : Int32))), .val (.int (p1 &&& (3 : Int32))), .unset, .unset] [(.ref ar117), (.ref ar117)])) _
          refine XS.iconst X118.here hx rfl (hb hby at_78) ?_
          show Steps p.tables e below (T118.setTop (mkF m 79 #[.val (.int p0), .val (.int p1), .val (.int p2), .val (.int p3), .val (.int (p2 &&& (31 : Int32))), .val (.int (p1 &&& (3 : Int32))), .unset, .unset] [(.int (1 : Int32)), (.ref ar117), (.ref ar117)])) _
          refine X118.ldcInt hx hown (mvT hZ (hw _ (List.mem_of_getElem? (i := 1) rfl))) (g := (mkF m 79 #[.val (.int p0), .val (.int p1), .val (.int p2), .val (.int p3), .val (.int (p2 &&& (31 : Int32))), .val (.int (p1 &&& (3 : Int32))), .unset, .unset] [(.int (1 : Int32)), (.ref ar117), (.ref ar117)])) rfl (hb hby at_79) _ ?_
          show Steps p.tables e below (T118.setTop (mkF m 81 #[.val (.int p0), .val (.int p1), .val (.int p2), .val (.int p3), .val (.int (p2 &&& (31 : Int32))), .val (.int (p1 &&& (3 : Int32))), .unset, .unset] [(.int (55295 : Int32)), (.int (1 : Int32)), (.ref ar117), (.ref ar117)])) _
          refine st119 _ ?_
          show Steps p.tables e below (T119.setTop (mkF m 82 #[.val (.int p0), .val (.int p1), .val (.int p2), .val (.int p3), .val (.int (p2 &&& (31 : Int32))), .val (.int (p1 &&& (3 : Int32))), .unset, .unset] [(.ref ar117)])) _
          refine XS.dup X119.here hx rfl (hb hby at_82) rfl rfl ?_
          show Steps p.tables e below (T119.setTop (mkF m 83 #[.val (.int p0), .val (.int p1), .val (.int p2), .val (.int p3), .val (.int (p2 &&& (31 : Int32))), .val (.int (p1 &&& (3 : Int32))), .unset, .unset] [(.ref ar117), (.ref ar117)])) _
          refine XS.iconst X119.here hx rfl (hb hby at_83) ?_
          show Steps p.tables e below (T119.setTop (mkF m 84 #[.val (.int p0), .val (.int p1), .val (.int p2), .val (.int p3), .val (.int (p2 &&& (31 : Int32))), .val (.int (p1 &&& (3 : Int32))), .unset, .unset] [(.int (2 : Int32)), (.ref ar117), (.ref ar117)])) _
          refine X119.ldcInt hx hown (mvT hZ (hw _ (List.mem_of_getElem? (i := 2) rfl))) (g := (mkF m 84 #[.val (.int p0), .val (.int p1), .val (.int p2), .val (.int p3), .val (.int (p2 &&& (31 : Int32))), .val (.int (p1 &&& (3 : Int32))), .unset, .unset] [(.int (2 : Int32)), (.ref ar117), (.ref ar117)])) rfl (hb hby at_84) _ ?_
          show Steps p.tables e below (T119.setTop (mkF m 86 #[.val (.int p0), .val (.int p1), .val (.int p2), .val (.int p3), .val (.int (p2 &&& (31 : Int32))), .val (.int (p1 &&& (3 : Int32))), .unset, .unset] [(.int (63744 : Int32)), (.int (2 : Int32)), (.ref ar117), (.ref ar117)])) _
          refine st120 _ ?_
          show Steps p.tables e below (T120.setTop (mkF m 87 #[.val (.int p0), .val (.int p1), .val (.int p2), .val (.int p3), .val (.int (p2 &&& (31 : Int32))), .val (.int (p1 &&& (3 : Int32))), .unset, .unset] [(.ref ar117)])) _
          refine XS.dup X120.here hx rfl (hb hby at_87) rfl rfl ?_
          show Steps p.tables e below (T120.setTop (mkF m 88 #[.val (.int p0), .val (.int p1), .val (.int p2), .val (.int p3), .val (.int (p2 &&& (31 : Int32))), .val (.int (p1 &&& (3 : Int32))), .unset, .unset] [(.ref ar117), (.ref ar117)])) _
          refine XS.iconst X120.here hx rfl (hb hby at_88) ?_
          show Steps p.tables e below (T120.setTop (mkF m 89 #[.val (.int p0), .val (.int p1), .val (.int p2), .val (.int p3), .val (.int (p2 &&& (31 : Int32))), .val (.int (p1 &&& (3 : Int32))), .unset, .unset] [(.int (3 : Int32)), (.ref ar117), (.ref ar117)])) _
          refine X120.ldcInt hx hown (mvT hZ (hw _ (List.mem_of_getElem? (i := 3) rfl))) (g := (mkF m 89 #[.val (.int p0), .val (.int p1), .val (.int p2), .val (.int p3), .val (.int (p2 &&& (31 : Int32))), .val (.int (p1 &&& (3 : Int32))), .unset, .unset] [(.int (3 : Int32)), (.ref ar117), (.ref ar117)])) rfl (hb hby at_89) _ ?_
          show Steps p.tables e below (T120.setTop (mkF m 91 #[.val (.int p0), .val (.int p1), .val (.int p2), .val (.int p3), .val (.int (p2 &&& (31 : Int32))), .val (.int (p1 &&& (3 : Int32))), .unset, .unset] [(.int (64975 : Int32)), (.int (3 : Int32)), (.ref ar117), (.ref ar117)])) _
          refine st121 _ ?_
          show Steps p.tables e below (T121.setTop (mkF m 92 #[.val (.int p0), .val (.int p1), .val (.int p2), .val (.int p3), .val (.int (p2 &&& (31 : Int32))), .val (.int (p1 &&& (3 : Int32))), .unset, .unset] [(.ref ar117)])) _
          refine XS.dup X121.here hx rfl (hb hby at_92) rfl rfl ?_
          show Steps p.tables e below (T121.setTop (mkF m 93 #[.val (.int p0), .val (.int p1), .val (.int p2), .val (.int p3), .val (.int (p2 &&& (31 : Int32))), .val (.int (p1 &&& (3 : Int32))), .unset, .unset] [(.ref ar117), (.ref ar117)])) _
          refine XS.iconst X121.here hx rfl (hb hby at_93) ?_
          show Steps p.tables e below (T121.setTop (mkF m 94 #[.val (.int p0), .val (.int p1), .val (.int p2), .val (.int p3), .val (.int (p2 &&& (31 : Int32))), .val (.int (p1 &&& (3 : Int32))), .unset, .unset] [(.int (4 : Int32)), (.ref ar117), (.ref ar117)])) _
          refine X121.ldcInt hx hown (mvT hZ (hw _ (List.mem_of_getElem? (i := 4) rfl))) (g := (mkF m 94 #[.val (.int p0), .val (.int p1), .val (.int p2), .val (.int p3), .val (.int (p2 &&& (31 : Int32))), .val (.int (p1 &&& (3 : Int32))), .unset, .unset] [(.int (4 : Int32)), (.ref ar117), (.ref ar117)])) rfl (hb hby at_94) _ ?_
          show Steps p.tables e below (T121.setTop (mkF m 96 #[.val (.int p0), .val (.int p1), .val (.int p2), .val (.int p3), .val (.int (p2 &&& (31 : Int32))), .val (.int (p1 &&& (3 : Int32))), .unset, .unset] [(.int (65008 : Int32)), (.int (4 : Int32)), (.ref ar117), (.ref ar117)])) _
          refine st122 _ ?_
          show Steps p.tables e below (T122.setTop (mkF m 97 #[.val (.int p0), .val (.int p1), .val (.int p2), .val (.int p3), .val (.int (p2 &&& (31 : Int32))), .val (.int (p1 &&& (3 : Int32))), .unset, .unset] [(.ref ar117)])) _
          refine XS.dup X122.here hx rfl (hb hby at_97) rfl rfl ?_
          show Steps p.tables e below (T122.setTop (mkF m 98 #[.val (.int p0), .val (.int p1), .val (.int p2), .val (.int p3), .val (.int (p2 &&& (31 : Int32))), .val (.int (p1 &&& (3 : Int32))), .unset, .unset] [(.ref ar117), (.ref ar117)])) _
          refine XS.iconst X122.here hx rfl (hb hby at_98) ?_
          show Steps p.tables e below (T122.setTop (mkF m 99 #[.val (.int p0), .val (.int p1), .val (.int p2), .val (.int p3), .val (.int (p2 &&& (31 : Int32))), .val (.int (p1 &&& (3 : Int32))), .unset, .unset] [(.int (5 : Int32)), (.ref ar117), (.ref ar117)])) _
          refine X122.ldcInt hx hown (mvT hZ (hw _ (List.mem_of_getElem? (i := 5) rfl))) (g := (mkF m 99 #[.val (.int p0), .val (.int p1), .val (.int p2), .val (.int p3), .val (.int (p2 &&& (31 : Int32))), .val (.int (p1 &&& (3 : Int32))), .unset, .unset] [(.int (5 : Int32)), (.ref ar117), (.ref ar117)])) rfl (hb hby at_99) _ ?_
          show Steps p.tables e below (T122.setTop (mkF m 101 #[.val (.int p0), .val (.int p1), .val (.int p2), .val (.int p3), .val (.int (p2 &&& (31 : Int32))), .val (.int (p1 &&& (3 : Int32))), .unset, .unset] [(.int (65519 : Int32)), (.int (5 : Int32)), (.ref ar117), (.ref ar117)])) _
          refine st123 _ ?_
          show Steps p.tables e below (T123.setTop (mkF m 102 #[.val (.int p0), .val (.int p1), .val (.int p2), .val (.int p3), .val (.int (p2 &&& (31 : Int32))), .val (.int (p1 &&& (3 : Int32))), .unset, .unset] [(.ref ar117)])) _
          refine XS.dup X123.here hx rfl (hb hby at_102) rfl rfl ?_
          show Steps p.tables e below (T123.setTop (mkF m 103 #[.val (.int p0), .val (.int p1), .val (.int p2), .val (.int p3), .val (.int (p2 &&& (31 : Int32))), .val (.int (p1 &&& (3 : Int32))), .unset, .unset] [(.ref ar117), (.ref ar117)])) _
          refine XS.bipush X123.here hx rfl (hb hby at_103) ?_
          show Steps p.tables e below (T123.setTop (mkF m 105 #[.val (.int p0), .val (.int p1), .val (.int p2), .val (.int p3), .val (.int (p2 &&& (31 : Int32))), .val (.int (p1 &&& (3 : Int32))), .unset, .unset] [(.int (6 : Int32)), (.ref ar117), (.ref ar117)])) _
          refine X123.ldcInt hx hown (mvT hZ (hw _ (List.mem_of_getElem? (i := 6) rfl))) (g := (mkF m 105 #[.val (.int p0), .val (.int p1), .val (.int p2), .val (.int p3), .val (.int (p2 &&& (31 : Int32))), .val (.int (p1 &&& (3 : Int32))), .unset, .unset] [(.int (6 : Int32)), (.ref ar117), (.ref ar117)])) rfl (hb hby at_105) _ ?_
          show Steps p.tables e below (T123.setTop (mkF m 107 #[.val (.int p0), .val (.int p1), .val (.int p2), .val (.int p3), .val (.int (p2 &&& (31 : Int32))), .val (.int (p1 &&& (3 : Int32))), .unset, .unset] [(.int (65536 : Int32)), (.int (6 : Int32)), (.ref ar117), (.ref ar117)])) _
          refine st124 _ ?_
          show Steps p.tables e below (T124.setTop (mkF m 108 #[.val (.int p0), .val (.int p1), .val (.int p2), .val (.int p3), .val (.int (p2 &&& (31 : Int32))), .val (.int (p1 &&& (3 : Int32))), .unset, .unset] [(.ref ar117)])) _
          refine XS.dup X124.here hx rfl (hb hby at_108) rfl rfl ?_
          show Steps p.tables e below (T124.setTop (mkF m 109 #[.val (.int p0), .val (.int p1), .val (.int p2), .val (.int p3), .val (.int (p2 &&& (31 : Int32))), .val (.int (p1 &&& (3 : Int32))), .unset, .unset] [(.ref ar117), (.ref ar117)])) _
          refine XS.bipush X124.here hx rfl (hb hby at_109) ?_
          show Steps p.tables e below (T124.setTop (mkF m 111 #[.val (.int p0), .val (.int p1), .val (.int p2), .val (.int p3), .val (.int (p2 &&& (31 : Int32))), .val (.int (p1 &&& (3 : Int32))), .unset, .unset] [(.int (7 : Int32)), (.ref ar117), (.ref ar117)])) _
          refine X124.ldcInt hx hown (mvT hZ (hw _ (List.mem_of_getElem? (i := 7) rfl))) (g := (mkF m 111 #[.val (.int p0), .val (.int p1), .val (.int p2), .val (.int p3), .val (.int (p2 &&& (31 : Int32))), .val (.int (p1 &&& (3 : Int32))), .unset, .unset] [(.int (7 : Int32)), (.ref ar117), (.ref ar117)])) rfl (hb hby at_111) _ ?_
          show Steps p.tables e below (T124.setTop (mkF m 113 #[.val (.int p0), .val (.int p1), .val (.int p2), .val (.int p3), .val (.int (p2 &&& (31 : Int32))), .val (.int (p1 &&& (3 : Int32))), .unset, .unset] [(.int (131069 : Int32)), (.int (7 : Int32)), (.ref ar117), (.ref ar117)])) _
          refine st125 _ ?_
          show Steps p.tables e below (T125.setTop (mkF m 114 #[.val (.int p0), .val (.int p1), .val (.int p2), .val (.int p3), .val (.int (p2 &&& (31 : Int32))), .val (.int (p1 &&& (3 : Int32))), .unset, .unset] [(.ref ar117)])) _
          refine XS.dup X125.here hx rfl (hb hby at_114) rfl rfl ?_
          show Steps p.tables e below (T125.setTop (mkF m 115 #[.val (.int p0), .val (.int p1), .val (.int p2), .val (.int p3), .val (.int (p2 &&& (31 : Int32))), .val (.int (p1 &&& (3 : Int32))), .unset, .unset] [(.ref ar117), (.ref ar117)])) _
          refine XS.bipush X125.here hx rfl (hb hby at_115) ?_
          show Steps p.tables e below (T125.setTop (mkF m 117 #[.val (.int p0), .val (.int p1), .val (.int p2), .val (.int p3), .val (.int (p2 &&& (31 : Int32))), .val (.int (p1 &&& (3 : Int32))), .unset, .unset] [(.int (8 : Int32)), (.ref ar117), (.ref ar117)])) _
          refine X125.ldcInt hx hown (mvT hZ (hw _ (List.mem_of_getElem? (i := 8) rfl))) (g := (mkF m 117 #[.val (.int p0), .val (.int p1), .val (.int p2), .val (.int p3), .val (.int (p2 &&& (31 : Int32))), .val (.int (p1 &&& (3 : Int32))), .unset, .unset] [(.int (8 : Int32)), (.ref ar117), (.ref ar117)])) rfl (hb hby at_117) _ ?_
          show Steps p.tables e below (T125.setTop (mkF m 119 #[.val (.int p0), .val (.int p1), .val (.int p2), .val (.int p3), .val (.int (p2 &&& (31 : Int32))), .val (.int (p1 &&& (3 : Int32))), .unset, .unset] [(.int (917501 : Int32)), (.int (8 : Int32)), (.ref ar117), (.ref ar117)])) _
          refine st126 _ ?_
          show Steps p.tables e below (T126.setTop (mkF m 120 #[.val (.int p0), .val (.int p1), .val (.int p2), .val (.int p3), .val (.int (p2 &&& (31 : Int32))), .val (.int (p1 &&& (3 : Int32))), .unset, .unset] [(.ref ar117)])) _
          refine XS.dup X126.here hx rfl (hb hby at_120) rfl rfl ?_
          show Steps p.tables e below (T126.setTop (mkF m 121 #[.val (.int p0), .val (.int p1), .val (.int p2), .val (.int p3), .val (.int (p2 &&& (31 : Int32))), .val (.int (p1 &&& (3 : Int32))), .unset, .unset] [(.ref ar117), (.ref ar117)])) _
          refine XS.bipush X126.here hx rfl (hb hby at_121) ?_
          show Steps p.tables e below (T126.setTop (mkF m 123 #[.val (.int p0), .val (.int p1), .val (.int p2), .val (.int p3), .val (.int (p2 &&& (31 : Int32))), .val (.int (p1 &&& (3 : Int32))), .unset, .unset] [(.int (9 : Int32)), (.ref ar117), (.ref ar117)])) _
          refine X126.ldcInt hx hown (mvT hZ (hw _ (List.mem_of_getElem? (i := 9) rfl))) (g := (mkF m 123 #[.val (.int p0), .val (.int p1), .val (.int p2), .val (.int p3), .val (.int (p2 &&& (31 : Int32))), .val (.int (p1 &&& (3 : Int32))), .unset, .unset] [(.int (9 : Int32)), (.ref ar117), (.ref ar117)])) rfl (hb hby at_123) _ ?_
          show Steps p.tables e below (T126.setTop (mkF m 125 #[.val (.int p0), .val (.int p1), .val (.int p2), .val (.int p3), .val (.int (p2 &&& (31 : Int32))), .val (.int (p1 &&& (3 : Int32))), .unset, .unset] [(.int (917504 : Int32)), (.int (9 : Int32)), (.ref ar117), (.ref ar117)])) _
          refine st127 _ ?_
          show Steps p.tables e below (T127.setTop (mkF m 126 #[.val (.int p0), .val (.int p1), .val (.int p2), .val (.int p3), .val (.int (p2 &&& (31 : Int32))), .val (.int (p1 &&& (3 : Int32))), .unset, .unset] [(.ref ar117)])) _
          refine XS.dup X127.here hx rfl (hb hby at_126) rfl rfl ?_
          show Steps p.tables e below (T127.setTop (mkF m 127 #[.val (.int p0), .val (.int p1), .val (.int p2), .val (.int p3), .val (.int (p2 &&& (31 : Int32))), .val (.int (p1 &&& (3 : Int32))), .unset, .unset] [(.ref ar117), (.ref ar117)])) _
          refine XS.bipush X127.here hx rfl (hb hby at_127) ?_
          show Steps p.tables e below (T127.setTop (mkF m 129 #[.val (.int p0), .val (.int p1), .val (.int p2), .val (.int p3), .val (.int (p2 &&& (31 : Int32))), .val (.int (p1 &&& (3 : Int32))), .unset, .unset] [(.int (10 : Int32)), (.ref ar117), (.ref ar117)])) _
          refine X127.ldcInt hx hown (mvT hZ (hw _ (List.mem_of_getElem? (i := 10) rfl))) (g := (mkF m 129 #[.val (.int p0), .val (.int p1), .val (.int p2), .val (.int p3), .val (.int (p2 &&& (31 : Int32))), .val (.int (p1 &&& (3 : Int32))), .unset, .unset] [(.int (10 : Int32)), (.ref ar117), (.ref ar117)])) rfl (hb hby at_129) _ ?_
          show Steps p.tables e below (T127.setTop (mkF m 131 #[.val (.int p0), .val (.int p1), .val (.int p2), .val (.int p3), .val (.int (p2 &&& (31 : Int32))), .val (.int (p1 &&& (3 : Int32))), .unset, .unset] [(.int (921600 : Int32)), (.int (10 : Int32)), (.ref ar117), (.ref ar117)])) _
          refine st128 _ ?_
          show Steps p.tables e below (T128.setTop (mkF m 132 #[.val (.int p0), .val (.int p1), .val (.int p2), .val (.int p3), .val (.int (p2 &&& (31 : Int32))), .val (.int (p1 &&& (3 : Int32))), .unset, .unset] [(.ref ar117)])) _
          refine XS.dup X128.here hx rfl (hb hby at_132) rfl rfl ?_
          show Steps p.tables e below (T128.setTop (mkF m 133 #[.val (.int p0), .val (.int p1), .val (.int p2), .val (.int p3), .val (.int (p2 &&& (31 : Int32))), .val (.int (p1 &&& (3 : Int32))), .unset, .unset] [(.ref ar117), (.ref ar117)])) _
          refine XS.bipush X128.here hx rfl (hb hby at_133) ?_
          show Steps p.tables e below (T128.setTop (mkF m 135 #[.val (.int p0), .val (.int p1), .val (.int p2), .val (.int p3), .val (.int (p2 &&& (31 : Int32))), .val (.int (p1 &&& (3 : Int32))), .unset, .unset] [(.int (11 : Int32)), (.ref ar117), (.ref ar117)])) _
          refine X128.ldcInt hx hown (mvT hZ (hw _ (List.mem_of_getElem? (i := 11) rfl))) (g := (mkF m 135 #[.val (.int p0), .val (.int p1), .val (.int p2), .val (.int p3), .val (.int (p2 &&& (31 : Int32))), .val (.int (p1 &&& (3 : Int32))), .unset, .unset] [(.int (11 : Int32)), (.ref ar117), (.ref ar117)])) rfl (hb hby at_135) _ ?_
          show Steps p.tables e below (T128.setTop (mkF m 137 #[.val (.int p0), .val (.int p1), .val (.int p2), .val (.int p3), .val (.int (p2 &&& (31 : Int32))), .val (.int (p1 &&& (3 : Int32))), .unset, .unset] [(.int (983037 : Int32)), (.int (11 : Int32)), (.ref ar117), (.ref ar117)])) _
          refine st129 _ ?_
          show Steps p.tables e below (T129.setTop (mkF m 138 #[.val (.int p0), .val (.int p1), .val (.int p2), .val (.int p3), .val (.int (p2 &&& (31 : Int32))), .val (.int (p1 &&& (3 : Int32))), .unset, .unset] [(.ref ar117)])) _
          refine XS.dup X129.here hx rfl (hb hby at_138) rfl rfl ?_
          show Steps p.tables e below (T129.setTop (mkF m 139 #[.val (.int p0), .val (.int p1), .val (.int p2), .val (.int p3), .val (.int (p2 &&& (31 : Int32))), .val (.int (p1 &&& (3 : Int32))), .unset, .unset] [(.ref ar117), (.ref ar117)])) _
          refine XS.bipush X129.here hx rfl (hb hby at_139) ?_
          show Steps p.tables e below (T129.setTop (mkF m 141 #[.val (.int p0), .val (.int p1), .val (.int p2), .val (.int p3), .val (.int (p2 &&& (31 : Int32))), .val (.int (p1 &&& (3 : Int32))), .unset, .unset] [(.int (12 : Int32)), (.ref ar117), (.ref ar117)])) _
          refine X129.ldcInt hx hown (mvT hZ (hw _ (List.mem_of_getElem? (i := 12) rfl))) (g := (mkF m 141 #[.val (.int p0), .val (.int p1), .val (.int p2), .val (.int p3), .val (.int (p2 &&& (31 : Int32))), .val (.int (p1 &&& (3 : Int32))), .unset, .unset] [(.int (12 : Int32)), (.ref ar117), (.ref ar117)])) rfl (hb hby at_141) _ ?_
          show Steps p.tables e below (T129.setTop (mkF m 143 #[.val (.int p0), .val (.int p1), .val (.int p2), .val (.int p3), .val (.int (p2 &&& (31 : Int32))), .val (.int (p1 &&& (3 : Int32))), .unset, .unset] [(.int (983040 : Int32)), (.int (12 : Int32)), (.ref ar117), (.ref ar117)])) _
          refine st130 _ ?_
          show Steps p.tables e below (T130.setTop (mkF m 144 #[.val (.int p0), .val (.int p1), .val (.int p2), .val (.int p3), .val (.int (p2 &&& (31 : Int32))), .val (.int (p1 &&& (3 : Int32))), .unset, .unset] [(.ref ar117)])) _
          refine XS.dup X130.here hx rfl (hb hby at_144) rfl rfl ?_
          show Steps p.tables e below (T130.setTop (mkF m 145 #[.val (.int p0), .val (.int p1), .val (.int p2), .val (.int p3), .val (.int (p2 &&& (31 : Int32))), .val (.int (p1 &&& (3 : Int32))), .unset, .unset] [(.ref ar117), (.ref ar117)])) _
          refine XS.bipush X130.here hx rfl (hb hby at_145) ?_
          show Steps p.tables e below (T130.setTop (mkF m 147 #[.val (.int p0), .val (.int p1), .val (.int p2), .val (.int p3), .val (.int (p2 &&& (31 : Int32))), .val (.int (p1 &&& (3 : Int32))), .unset, .unset] [(.int (13 : Int32)), (.ref ar117), (.ref ar117)])) _
          refine X130.ldcInt hx hown (mvT hZ (hw _ (List.mem_of_getElem? (i := 13) rfl))) (g := (mkF m 147 #[.val (.int p0), .val (.int p1), .val (.int p2), .val (.int p3), .val (.int (p2 &&& (31 : Int32))), .val (.int (p1 &&& (3 : Int32))), .unset, .unset] [(.int (13 : Int32)), (.ref ar117), (.ref ar117)])) rfl (hb hby at_147) _ ?_
          show Steps p.tables e below (T130.setTop (mkF m 149 #[.val (.int p0), .val (.int p1), .val (.int p2), .val (.int p3), .val (.int (p2 &&& (31 : Int32))), .val (.int (p1 &&& (3 : Int32))), .unset, .unset] [(.int (1048573 : Int32)), (.int (13 : Int32)), (.ref ar117), (.ref ar117)])) _
          refine st131 _ ?_
          show Steps p.tables e below (T131.setTop (mkF m 150 #[.val (.int p0), .val (.int p1), .val (.int p2), .val (.int p3), .val (.int (p2 &&& (31 : Int32))), .val (.int (p1 &&& (3 : Int32))), .unset, .unset] [(.ref ar117)])) _
          refine XS.dup X131.here hx rfl (hb hby at_150) rfl rfl ?_
          show Steps p.tables e below (T131.setTop (mkF m 151 #[.val (.int p0), .val (.int p1), .val (.int p2), .val (.int p3), .val (.int (p2 &&& (31 : Int32))), .val (.int (p1 &&& (3 : Int32))), .unset, .unset] [(.ref ar117), (.ref ar117)])) _
          refine XS.bipush X131.here hx rfl (hb hby at_151) ?_
          show Steps p.tables e below (T131.setTop (mkF m 153 #[.val (.int p0), .val (.int p1), .val (.int p2), .val (.int p3), .val (.int (p2 &&& (31 : Int32))), .val (.int (p1 &&& (3 : Int32))), .unset, .unset] [(.int (14 : Int32)), (.ref ar117), (.ref ar117)])) _
          refine X131.ldcInt hx hown (mvT hZ (hw _ (List.mem_of_getElem? (i := 14) rfl))) (g := (mkF m 153 #[.val (.int p0), .val (.int p1), .val (.int p2), .val (.int p3), .val (.int (p2 &&& (31 : Int32))), .val (.int (p1 &&& (3 : Int32))), .unset, .unset] [(.int (14 : Int32)), (.ref ar117), (.ref ar117)])) rfl (hb hby at_153) _ ?_
          show Steps p.tables e below (T131.setTop (mkF m 155 #[.val (.int p0), .val (.int p1), .val (.int p2), .val (.int p3), .val (.int (p2 &&& (31 : Int32))), .val (.int (p1 &&& (3 : Int32))), .unset, .unset] [(.int (1114109 : Int32)), (.int (14 : Int32)), (.ref ar117), (.ref ar117)])) _
          refine st132 _ ?_
          show Steps p.tables e below (T132.setTop (mkF m 156 #[.val (.int p0), .val (.int p1), .val (.int p2), .val (.int p3), .val (.int (p2 &&& (31 : Int32))), .val (.int (p1 &&& (3 : Int32))), .unset, .unset] [(.ref ar117)])) _
          refine XS.dup X132.here hx rfl (hb hby at_156) rfl rfl ?_
          show Steps p.tables e below (T132.setTop (mkF m 157 #[.val (.int p0), .val (.int p1), .val (.int p2), .val (.int p3), .val (.int (p2 &&& (31 : Int32))), .val (.int (p1 &&& (3 : Int32))), .unset, .unset] [(.ref ar117), (.ref ar117)])) _
          refine XS.bipush X132.here hx rfl (hb hby at_157) ?_
          show Steps p.tables e below (T132.setTop (mkF m 159 #[.val (.int p0), .val (.int p1), .val (.int p2), .val (.int p3), .val (.int (p2 &&& (31 : Int32))), .val (.int (p1 &&& (3 : Int32))), .unset, .unset] [(.int (15 : Int32)), (.ref ar117), (.ref ar117)])) _
          refine X132.ldcInt hx hown (mvT hZ (hw _ (List.mem_of_getElem? (i := 15) rfl))) (g := (mkF m 159 #[.val (.int p0), .val (.int p1), .val (.int p2), .val (.int p3), .val (.int (p2 &&& (31 : Int32))), .val (.int (p1 &&& (3 : Int32))), .unset, .unset] [(.int (15 : Int32)), (.ref ar117), (.ref ar117)])) rfl (hb hby at_159) _ ?_
          show Steps p.tables e below (T132.setTop (mkF m 161 #[.val (.int p0), .val (.int p1), .val (.int p2), .val (.int p3), .val (.int (p2 &&& (31 : Int32))), .val (.int (p1 &&& (3 : Int32))), .unset, .unset] [(.int (1114112 : Int32)), (.int (15 : Int32)), (.ref ar117), (.ref ar117)])) _
          refine st133 _ ?_
          show Steps p.tables e below (T133.setTop (mkF m 162 #[.val (.int p0), .val (.int p1), .val (.int p2), .val (.int p3), .val (.int (p2 &&& (31 : Int32))), .val (.int (p1 &&& (3 : Int32))), .unset, .unset] [(.ref ar117)])) _
          refine XS.astore X133.here hx rfl (hb hby at_162) rfl rfl (l' := #[.val (.int p0), .val (.int p1), .val (.int p2), .val (.int p3), .val (.int (p2 &&& (31 : Int32))), .val (.int (p1 &&& (3 : Int32))), .unset, .val (.ref ar117)]) rfl ?_
          show Steps p.tables e below (T133.setTop (mkF m 164 #[.val (.int p0), .val (.int p1), .val (.int p2), .val (.int p3), .val (.int (p2 &&& (31 : Int32))), .val (.int (p1 &&& (3 : Int32))), .unset, .val (.ref ar117)] [])) _
          refine XS.aload X133.here hx rfl (hb hby at_164) rfl rfl ?_
          show Steps p.tables e below (T133.setTop (mkF m 166 #[.val (.int p0), .val (.int p1), .val (.int p2), .val (.int p3), .val (.int (p2 &&& (31 : Int32))), .val (.int (p1 &&& (3 : Int32))), .unset, .val (.ref ar117)] [(.ref ar117)])) _
          refine XS.iloadN X133.here hx rfl (hb hby at_166) rfl ?_
          show Steps p.tables e below (T133.setTop (mkF m 167 #[.val (.int p0), .val (.int p1), .val (.int p2), .val (.int p3), .val (.int (p2 &&& (31 : Int32))), .val (.int (p1 &&& (3 : Int32))), .unset, .val (.ref ar117)] [(.int p3), (.ref ar117)])) _
          refine X133.ldcInt hx hown (mvT hZ (hw _ (List.mem_of_getElem? (i := 16) rfl))) (g := (mkF m 167 #[.val (.int p0), .val (.int p1), .val (.int p2), .val (.int p3), .val (.int (p2 &&& (31 : Int32))), .val (.int (p1 &&& (3 : Int32))), .unset, .val (.ref ar117)] [(.int p3), (.ref ar117)])) rfl (hb hby at_167) _ ?_
          show Steps p.tables e below (T133.setTop (mkF m 169 #[.val (.int p0), .val (.int p1), .val (.int p2), .val (.int p3), .val (.int (p2 &&& (31 : Int32))), .val (.int (p1 &&& (3 : Int32))), .unset, .val (.ref ar117)] [(.int (2147483647 : Int32)), (.int p3), (.ref ar117)])) _
          refine XS.iand X133.here hx rfl (hb hby at_169) rfl ?_
          show Steps p.tables e below (T133.setTop (mkF m 170 #[.val (.int p0), .val (.int p1), .val (.int p2), .val (.int p3), .val (.int (p2 &&& (31 : Int32))), .val (.int (p1 &&& (3 : Int32))), .unset, .val (.ref ar117)] [(.int (p3 &&& (2147483647 : Int32))), (.ref ar117)])) _
          refine XS.aload X133.here hx rfl (hb hby at_170) rfl rfl ?_
          show Steps p.tables e below (T133.setTop (mkF m 172 #[.val (.int p0), .val (.int p1), .val (.int p2), .val (.int p3), .val (.int (p2 &&& (31 : Int32))), .val (.int (p1 &&& (3 : Int32))), .unset, .val (.ref ar117)] [(.ref ar117), (.int (p3 &&& (2147483647 : Int32))), (.ref ar117)])) _
          refine X133.arraylength hx (by rw [e133]; exact Ar134.1) (State.isArrayOf_alike hZ.alike Ar134.2.1) (g := (mkF m 172 #[.val (.int p0), .val (.int p1), .val (.int p2), .val (.int p3), .val (.int (p2 &&& (31 : Int32))), .val (.int (p1 &&& (3 : Int32))), .unset, .val (.ref ar117)] [(.ref ar117), (.int (p3 &&& (2147483647 : Int32))), (.ref ar117)])) rfl rfl (hb hby at_172) _ ?_
          rw [len_of S134 M134]
          show Steps p.tables e below (T133.setTop (mkF m 173 #[.val (.int p0), .val (.int p1), .val (.int p2), .val (.int p3), .val (.int (p2 &&& (31 : Int32))), .val (.int (p1 &&& (3 : Int32))), .unset, .val (.ref ar117)] [(.int (16 : Int32)), (.int (p3 &&& (2147483647 : Int32))), (.ref ar117)])) _
          refine iremM (g := (mkF m 173 #[.val (.int p0), .val (.int p1), .val (.int p2), .val (.int p3), .val (.int (p2 &&& (31 : Int32))), .val (.int (p1 &&& (3 : Int32))), .unset, .val (.ref ar117)] [(.int (16 : Int32)), (.int (p3 &&& (2147483647 : Int32))), (.ref ar117)])) X133 hx rfl (hb hby at_173) rfl (by decide) ?_
          show Steps p.tables e below (T133.setTop (mkF m 174 #[.val (.int p0), .val (.int p1), .val (.int p2), .val (.int p3), .val (.int (p2 &&& (31 : Int32))), .val (.int (p1 &&& (3 : Int32))), .unset, .val (.ref ar117)] [(.int ((p3 &&& (2147483647 : Int32)) % (16 : Int32))), (.ref ar117)])) _
          refine X133.iaload hx (j := ((p3 &&& (2147483647 : Int32)) % (16 : Int32))) (v := (.int z135)) (by rw [e133]; exact Ar134.1) (State.isArrayOf_alike hZ.alike Ar134.2.1) Ar134.2.2 hin135 hz135 (g := (mkF m 174 #[.val (.int p0), .val (.int p1), .val (.int p2), .val (.int p3), .val (.int (p2 &&& (31 : Int32))), .val (.int (p1 &&& (3 : Int32))), .unset, .val (.ref ar117)] [(.int ((p3 &&& (2147483647 : Int32)) % (16 : Int32))), (.ref ar117)])) rfl rfl (hb hby at_174) _ ?_
          show Steps p.tables e below (T133.setTop (mkF m 175 #[.val (.int p0), .val (.int p1), .val (.int p2), .val (.int p3), .val (.int (p2 &&& (31 : Int32))), .val (.int (p1 &&& (3 : Int32))), .unset, .val (.ref ar117)] [(.int z135)])) _
          refine XS.iloadN X133.here hx rfl (hb hby at_175) rfl ?_
          show Steps p.tables e below (T133.setTop (mkF m 176 #[.val (.int p0), .val (.int p1), .val (.int p2), .val (.int p3), .val (.int (p2 &&& (31 : Int32))), .val (.int (p1 &&& (3 : Int32))), .unset, .val (.ref ar117)] [(.int p0), (.int z135)])) _
          refine X133.ldcInt hx hown (mvT hZ (hw _ (List.mem_of_getElem? (i := 16) rfl))) (g := (mkF m 176 #[.val (.int p0), .val (.int p1), .val (.int p2), .val (.int p3), .val (.int (p2 &&& (31 : Int32))), .val (.int (p1 &&& (3 : Int32))), .unset, .val (.ref ar117)] [(.int p0), (.int z135)])) rfl (hb hby at_176) _ ?_
          show Steps p.tables e below (T133.setTop (mkF m 178 #[.val (.int p0), .val (.int p1), .val (.int p2), .val (.int p3), .val (.int (p2 &&& (31 : Int32))), .val (.int (p1 &&& (3 : Int32))), .unset, .val (.ref ar117)] [(.int (2147483647 : Int32)), (.int p0), (.int z135)])) _
          refine XS.iand X133.here hx rfl (hb hby at_178) rfl ?_
          show Steps p.tables e below (T133.setTop (mkF m 179 #[.val (.int p0), .val (.int p1), .val (.int p2), .val (.int p3), .val (.int (p2 &&& (31 : Int32))), .val (.int (p1 &&& (3 : Int32))), .unset, .val (.ref ar117)] [(.int (p0 &&& (2147483647 : Int32))), (.int z135)])) _
          refine XS.iconst X133.here hx rfl (hb hby at_179) ?_
          show Steps p.tables e below (T133.setTop (mkF m 180 #[.val (.int p0), .val (.int p1), .val (.int p2), .val (.int p3), .val (.int (p2 &&& (31 : Int32))), .val (.int (p1 &&& (3 : Int32))), .unset, .val (.ref ar117)] [(.int (5 : Int32)), (.int (p0 &&& (2147483647 : Int32))), (.int z135)])) _
          refine iremM (g := (mkF m 180 #[.val (.int p0), .val (.int p1), .val (.int p2), .val (.int p3), .val (.int (p2 &&& (31 : Int32))), .val (.int (p1 &&& (3 : Int32))), .unset, .val (.ref ar117)] [(.int (5 : Int32)), (.int (p0 &&& (2147483647 : Int32))), (.int z135)])) X133 hx rfl (hb hby at_180) rfl (by decide) ?_
          show Steps p.tables e below (T133.setTop (mkF m 181 #[.val (.int p0), .val (.int p1), .val (.int p2), .val (.int p3), .val (.int (p2 &&& (31 : Int32))), .val (.int (p1 &&& (3 : Int32))), .unset, .val (.ref ar117)] [(.int ((p0 &&& (2147483647 : Int32)) % (5 : Int32))), (.int z135)])) _
          refine XS.iadd X133.here hx rfl (hb hby at_181) rfl ?_
          show Steps p.tables e below (T133.setTop (mkF m 182 #[.val (.int p0), .val (.int p1), .val (.int p2), .val (.int p3), .val (.int (p2 &&& (31 : Int32))), .val (.int (p1 &&& (3 : Int32))), .unset, .val (.ref ar117)] [(.int (z135 + ((p0 &&& (2147483647 : Int32)) % (5 : Int32))))])) _
          refine XS.iconst X133.here hx rfl (hb hby at_182) ?_
          show Steps p.tables e below (T133.setTop (mkF m 183 #[.val (.int p0), .val (.int p1), .val (.int p2), .val (.int p3), .val (.int (p2 &&& (31 : Int32))), .val (.int (p1 &&& (3 : Int32))), .unset, .val (.ref ar117)] [(.int (2 : Int32)), (.int (z135 + ((p0 &&& (2147483647 : Int32)) % (5 : Int32))))])) _
          refine XS.isub X133.here hx rfl (hb hby at_183) rfl ?_
          show Steps p.tables e below (T133.setTop (mkF m 184 #[.val (.int p0), .val (.int p1), .val (.int p2), .val (.int p3), .val (.int (p2 &&& (31 : Int32))), .val (.int (p1 &&& (3 : Int32))), .unset, .val (.ref ar117)] [(.int ((z135 + ((p0 &&& (2147483647 : Int32)) % (5 : Int32))) - (2 : Int32)))])) _
          refine XS.istore X133.here hx rfl (hb hby at_184) rfl (l' := #[.val (.int p0), .val (.int p1), .val (.int p2), .val (.int p3), .val (.int (p2 &&& (31 : Int32))), .val (.int (p1 &&& (3 : Int32))), .val (.int ((z135 + ((p0 &&& (2147483647 : Int32)) % (5 : Int32))) - (2 : Int32))), .val (.ref ar117)]) rfl ?_
          show Steps p.tables e below (T133.setTop (mkF m 186 #[.val (.int p0), .val (.int p1), .val (.int p2), .val (.int p3), .val (.int (p2 &&& (31 : Int32))), .val (.int (p1 &&& (3 : Int32))), .val (.int ((z135 + ((p0 &&& (2147483647 : Int32)) % (5 : Int32))) - (2 : Int32))), .val (.ref ar117)] [])) _
          refine XS.iload X133.here hx rfl (hb hby at_186) rfl ?_
          show Steps p.tables e below (T133.setTop (mkF m 188 #[.val (.int p0), .val (.int p1), .val (.int p2), .val (.int p3), .val (.int (p2 &&& (31 : Int32))), .val (.int (p1 &&& (3 : Int32))), .val (.int ((z135 + ((p0 &&& (2147483647 : Int32)) % (5 : Int32))) - (2 : Int32))), .val (.ref ar117)] [(.int ((z135 + ((p0 &&& (2147483647 : Int32)) % (5 : Int32))) - (2 : Int32)))])) _
          refine st136 _ ?_
          show Steps p.tables e below (T136.setTop (mkF m 191 #[.val (.int p0), .val (.int p1), .val (.int p2), .val (.int p3), .val (.int (p2 &&& (31 : Int32))), .val (.int (p1 &&& (3 : Int32))), .val (.int ((z135 + ((p0 &&& (2147483647 : Int32)) % (5 : Int32))) - (2 : Int32))), .val (.ref ar117)] [(.int (F1 ((z135 + ((p0 &&& (2147483647 : Int32)) % (5 : Int32))) - (2 : Int32))))])) _
          refine XS.iload X136.here hx rfl (hb hby at_191) rfl ?_
          show Steps p.tables e below (T136.setTop (mkF m 193 #[.val (.int p0), .val (.int p1), .val (.int p2), .val (.int p3), .val (.int (p2 &&& (31 : Int32))), .val (.int (p1 &&& (3 : Int32))), .val (.int ((z135 + ((p0 &&& (2147483647 : Int32)) % (5 : Int32))) - (2 : Int32))), .val (.ref ar117)] [(.int ((z135 + ((p0 &&& (2147483647 : Int32)) % (5 : Int32))) - (2 : Int32))), (.int (F1 ((z135 + ((p0 &&& (2147483647 : Int32)) % (5 : Int32))) - (2 : Int32))))])) _
          refine st137 _ ?_
          show Steps p.tables e below (T137.setTop (mkF m 196 #[.val (.int p0), .val (.int p1), .val (.int p2), .val (.int p3), .val (.int (p2 &&& (31 : Int32))), .val (.int (p1 &&& (3 : Int32))), .val (.int ((z135 + ((p0 &&& (2147483647 : Int32)) % (5 : Int32))) - (2 : Int32))), .val (.ref ar117)] [(.int (F2 ((z135 + ((p0 &&& (2147483647 : Int32)) % (5 : Int32))) - (2 : Int32)))), (.int (F1 ((z135 + ((p0 &&& (2147483647 : Int32)) % (5 : Int32))) - (2 : Int32))))])) _
          refine XS.icmpNo X137.here hx rfl (hb hby at_196) rfl (teq (own_fin _ : (F1 ((z135 + ((p0 &&& (2147483647 : Int32)) % (5 : Int32))) - (2 : Int32))) = (F2 ((z135 + ((p0 &&& (2147483647 : Int32)) % (5 : Int32))) - (2 : Int32))))).2 ?_
          show Steps p.tables e below (T137.setTop (mkF m 199 #[.val (.int p0), .val (.int p1), .val (.int p2), .val (.int p3), .val (.int (p2 &&& (31 : Int32))), .val (.int (p1 &&& (3 : Int32))), .val (.int ((z135 + ((p0 &&& (2147483647 : Int32)) % (5 : Int32))) - (2 : Int32))), .val (.ref ar117)] [])) _
          refine XS.iconst X137.here hx rfl (hb hby at_199) ?_
          show Steps p.tables e below (T137.setTop (mkF m 200 #[.val (.int p0), .val (.int p1), .val (.int p2), .val (.int p3), .val (.int (p2 &&& (31 : Int32))), .val (.int (p1 &&& (3 : Int32))), .val (.int ((z135 + ((p0 &&& (2147483647 : Int32)) % (5 : Int32))) - (2 : Int32))), .val (.ref ar117)] [(.int (1 : Int32))])) _
          refine XS.goto X137.here hx rfl (pc0 := 200) (pc' := 204) rfl (hb hby at_200) (by decide) (by decide) ?_
          show Steps p.tables e below (T137.setTop (mkF m 204 #[.val (.int p0), .val (.int p1), .val (.int p2), .val (.int p3), .val (.int (p2 &&& (31 : Int32))), .val (.int (p1 &&& (3 : Int32))), .val (.int ((z135 + ((p0 &&& (2147483647 : Int32)) % (5 : Int32))) - (2 : Int32))), .val (.ref ar117)] [(.int (1 : Int32))])) _
          exact retN X137 hx (t := .boolean) Bd.returns (by simp) (hb hby at_204) hr
        · exact ⟨rfl, N137⟩
set_option maxRecDepth 65536 in
set_option maxHeartbeats 40000000 in
theorem comes_1 {Post : Tables → Env → Array Value → State → Outcome → State → Prop} (hpost : ∀ tb e args s v u, (limb_1_1.after args s (.returned v) u = true ∧ limb_1_2.after args s (.returned v) u = true ∧ True) → FrameEnd s (.returned v) u (Jvm.fieldLocs frame_1_writes args s ++ Jvm.arrayLocs frame_1_arrays args s ++ Jvm.staticLocs frame_1_statics s) 16 128 → Post tb e args s (.returned v) u) :
    ArmFor flags0 classFile x code maxLocals ret World_1 tables_1 room_1 Calls_1 rest_1 Pre_1 Post := by
  intro l hfl _ _ p e ha hc hk s m args below hf hA hF happ hP
  obtain ⟨hcalls, hrest, hpre⟩ := hP
  obtain ⟨-, -, -, hnamed, -, -, -, hat⟩ := (Spec.applies_iff hf).mp happ
  obtain ⟨hg, hn⟩ := and_e (Cond.before_iff.mp (show (Jvm.Cond.and given_1 narrow_1).before args s = true from hpre))
  obtain ⟨g0, r0⟩ := and_e hg
  obtain ⟨g1, r1⟩ := and_e r0
  obtain ⟨g2, r2⟩ := and_e r1
  obtain ⟨g3, r3⟩ := and_e r2
  obtain ⟨w0, w1, w2, w3, rfl⟩ : ∃ w0 w1 w2 w3 : Value, args = #[w0, w1, w2, w3] := by
    have hs : args.size = 4 := by simpa [Cond.value, given_1] using g0
    obtain ⟨L⟩ := args
    match L, hs with
    | [w0, w1, w2, w3], _ => exact ⟨w0, w1, w2, w3, rfl⟩
  have hw := fun d (hd : d ∈ tables_1) => atoms_spec (ws := Jvm.Cond.code x code maxLocals ret :: tables_1) hat d (List.mem_cons_of_mem _ hd)
  obtain ⟨i0, ei0⟩ := is_v g1
  obtain rfl : w0 = (.int i0) := Option.some.inj ei0
  obtain ⟨i1, ei1⟩ := is_v g2
  obtain rfl : w1 = (.int i1) := Option.some.inj ei1
  obtain ⟨i2, ei2⟩ := is_v g3
  obtain rfl : w2 = (.int i2) := Option.some.inj ei2
  obtain ⟨i3, ei3⟩ := is_v r3
  obtain rfl : w3 = (.int i3) := Option.some.inj ei3
  obtain ⟨n, o, h1, h2, h3, _, L, rfl, ⟨rfl, N⟩, hq⟩ := rm0 l s _ hw tables_1 i0 i1 i2 i3 s.heap s.heap.size (Nat.le_refl _)  p e ha hc hk s m _ below hf ((Spec.applies_iff_loose hf).mp happ).1 ⟨rfl, State.Warmed39.refl s, rfl⟩ trivial
  refine ⟨n, _, h1, h2, h3, hpost _ _ _ _ _ _ ⟨Cond.after_iff.mpr rfl, Cond.after_iff.mpr (eq_i res_at (Term.int_eval (1)) rfl), trivial⟩ ⟨hq.1, hq.2.1, (hq.2.2.sift fun y hy => Or.inr (N y hy)).mono (by decide) (by decide)⟩⟩
theorem main_1_1 : Claimed_1_1 := comes_1 fun _ _ _ _ _ _ h hF => ⟨h.1, hF⟩
theorem main_1_2 : Claimed_1_2 := comes_1 fun _ _ _ _ _ _ h hF => ⟨h.2.1, hF⟩
end Jvm.Pilot.@@N@@
namespace Jvm.Pilot.@@N@@
open Jvm Jvm.ClassFile Sem Op Lib Jvm.Free Jvm.Stand Jvm.Pilot.@@N@@.Jvm.D
/-! MADE BY PROGRAM (witnessworld.py) out of the Statement's table words and the real class files: 9 classes; the members and pool entries that the words name. The judged class is class 1, her method 3. -/
namespace start1
open Jvm.ClassFile
def u (s : String) : CpInfo := .utf8 (stringToUtf16 s)
/-- a pool by its gaps: so many unusable entries, then the entry; so many at the end -/
def gap : Nat → List CpInfo → List CpInfo
  | 0, r => r
  | n + 1, r => .unusable :: gap n r
def poolList (es : List (Nat × CpInfo)) (last : Nat) : List CpInfo := es.foldr (fun e r => gap e.1 (e.2 :: r)) (gap last [])
def pool (es : List (Nat × CpInfo)) (last : Nat) : Array CpInfo := ⟨poolList es last⟩
def fileOf (pool : Array CpInfo) (this : Nat) (attrs : Array Attribute := #[]) (ms : Array MethodInfo := #[]) (fl : Nat := 33) (sup : Nat := 0) (ifs : Array Nat := #[]) (fds : Array FieldInfo := #[]) : ClassFile where
  minorVersion := 0
  majorVersion := 65
  constantPool := pool
  accessFlags := fl
  thisClass := this
  superClass := sup
  interfaces := ifs
  fields := fds
  methods := ms
  attributes := attrs
def plain (name : String) (sup : Option ClassId) : Class where
  name := name
  kind := .ordinary
  loader := none
  accessFlags := 33
  super := sup
  interfaces := #[]
  cf := none
  fields := #[]
  methods := #[]
  instanceTypes := #[]
  staticTypes := #[]
  resolved := #[]
  callSites := []
  init := .initialized
  statics := none
  mirror := none

def pool0 : Array CpInfo := pool [(5, u "<init>"), (0, u "()V"), (1, .class_ 10), (1, u "java/lang/Object")] 113

def k0m0 : Method := { name := "<init>", desc := "()V", sig := { parameters := [], returnType := none }, accessFlags := 1, code := none }
/-- java/lang/Object -/
def k0 : Class := { plain "java/lang/Object" none with
  accessFlags := 33
  interfaces := #[]
  cf := some (fileOf pool0 8 #[] #[{ accessFlags := 1, nameIndex := 5, descriptorIndex := 6, attributes := #[] }] 33 0 #[] #[])
  fields := #[]
  methods := #[k0m0]
  instanceTypes := #[]
  staticTypes := #[]
  resolved := Array.replicate 124 none
  statics := none }

def pool1 : Array CpInfo := pool [(2, .class_ 4), (1, u "java/lang/Object"), (0, u "<init>"), (0, u "()V"), (0, .integer 55295), (0, .methodref 9 10), (0, .class_ 11), (0, .nameAndType 12 13), (0, u "com/example/rels_from_records/relsfromrecords/uri/PercentEncodingIsUcscharPinLaw"), (0, u "in"), (0, u "(III)Z"), (0, .integer 63744), (0, .integer 64975), (0, .integer 65008), (0, .integer 65519), (0, .integer 65536), (0, .integer 131069), (0, .integer 131072), (0, .integer 196605), (0, .integer 196608), (0, .integer 262141), (0, .integer 262144), (0, .integer 327677), (0, .integer 327680), (0, .integer 393213), (0, .integer 393216), (0, .integer 458749), (0, .integer 458752), (0, .integer 524285), (0, .integer 524288), (0, .integer 589821), (0, .integer 589824), (0, .integer 655357), (0, .integer 655360), (0, .integer 720893), (0, .integer 720896), (0, .integer 786429), (0, .integer 786432), (0, .integer 851965), (0, .integer 851968), (0, .integer 917501), (0, .integer 921600), (0, .integer 983037), (0, .integer 65535), (0, .integer 65520), (0, .integer 917504), (0, .integer 983040), (0, .integer 1048573), (0, .integer 1114109), (0, .integer 1114112), (0, .integer 2147483647), (0, .methodref 55 56), (0, .class_ 57), (0, .nameAndType 58 59), (0, u "com/example/rels_from_records/relsfromrecords/uri/PercentEncoding"), (0, u "isUcschar"), (0, u "(I)Z"), (0, .methodref 9 61), (0, .nameAndType 62 59), (0, u "ref"), (3, u "law"), (0, u "(IIII)Z")] 2

def k1m0 : Method := { name := "<init>", desc := "()V", sig := { parameters := [], returnType := none }, accessFlags := 2, code := none }
def k1c1 : Code := { maxStack := 2, maxLocals := 3, code := method_2_code, exceptionTable := #[], attributes := #[] }
def k1m1 : Method := { name := "in", desc := "(III)Z", sig := { parameters := [.int, .int, .int], returnType := some .boolean }, accessFlags := 10, code := some k1c1 }
def k1c2 : Code := { maxStack := 3, maxLocals := 1, code := method_3_code, exceptionTable := #[], attributes := #[] }
def k1m2 : Method := { name := "ref", desc := "(I)Z", sig := { parameters := [.int], returnType := some .boolean }, accessFlags := 10, code := some k1c2 }
def k1c3 : Code := { maxStack := 4, maxLocals := 8, code := code, exceptionTable := #[], attributes := #[] }
def k1m3 : Method := { name := "law", desc := "(IIII)Z", sig := { parameters := [.int, .int, .int, .int], returnType := some .boolean }, accessFlags := 9, code := some k1c3 }
/-- com/example/rels_from_records/relsfromrecords/uri/PercentEncodingIsUcscharPinLaw -/
def k1 : Class := { plain "com/example/rels_from_records/relsfromrecords/uri/PercentEncodingIsUcscharPinLaw" (some 0) with
  accessFlags := 49
  interfaces := #[]
  cf := some (fileOf pool1 9 #[] #[{ accessFlags := 2, nameIndex := 5, descriptorIndex := 6, attributes := #[] }, { accessFlags := 10, nameIndex := 12, descriptorIndex := 13, attributes := #[] }, { accessFlags := 10, nameIndex := 62, descriptorIndex := 59, attributes := #[] }, { accessFlags := 9, nameIndex := 66, descriptorIndex := 67, attributes := #[] }] 49 2 #[] #[])
  fields := #[]
  methods := #[k1m0, k1m1, k1m2, k1m3]
  instanceTypes := #[]
  staticTypes := #[]
  resolved := Array.replicate 70 none
  statics := none }

def pool2 : Array CpInfo := pool [(2, .class_ 4), (1, u "java/lang/Object"), (0, u "<init>"), (0, u "()V"), (1, .class_ 10), (1, u "com/example/rels_from_records/relsfromrecords/uri/PercentEncoding"), (125, u "(I)Z"), (9, .integer 65536), (0, .integer 917504), (0, .integer 921600), (0, .integer 983040), (0, .integer 65535), (0, .integer 65533), (0, .integer 55295), (0, .integer 63744), (0, .integer 64975), (0, .integer 65008), (0, .integer 65519), (5, u "GEN_DELIMS"), (0, u "Ljava/lang/String;"), (1, u "SUB_DELIMS"), (0, u "UNRESERVED_PUNCTUATION"), (0, u "HEX_DIGITS"), (12, u "isUcschar")] 3

def k2m0 : Method := { name := "<init>", desc := "()V", sig := { parameters := [], returnType := none }, accessFlags := 2, code := none }
def k2c1 : Code := { maxStack := 2, maxLocals := 2, code := prog_93_method_9_code, exceptionTable := #[], attributes := #[] }
def k2m1 : Method := { name := "isUcschar", desc := "(I)Z", sig := { parameters := [.int], returnType := some .boolean }, accessFlags := 9, code := some k2c1 }
/-- com/example/rels_from_records/relsfromrecords/uri/PercentEncoding -/
def k2 : Class := { plain "com/example/rels_from_records/relsfromrecords/uri/PercentEncoding" (some 0) with
  accessFlags := 49
  interfaces := #[]
  cf := some (fileOf pool2 8 #[] #[{ accessFlags := 2, nameIndex := 5, descriptorIndex := 6, attributes := #[] }, { accessFlags := 9, nameIndex := 180, descriptorIndex := 136, attributes := #[] }] 49 2 #[] #[{ accessFlags := 24, nameIndex := 162, descriptorIndex := 163, attributes := #[] }, { accessFlags := 24, nameIndex := 165, descriptorIndex := 163, attributes := #[] }, { accessFlags := 24, nameIndex := 166, descriptorIndex := 163, attributes := #[] }, { accessFlags := 26, nameIndex := 167, descriptorIndex := 163, attributes := #[] }])
  fields := #[{ name := "GEN_DELIMS", type := (.object "java/lang/String"), accessFlags := 24, slot := 0, constantValue := 0 }, { name := "SUB_DELIMS", type := (.object "java/lang/String"), accessFlags := 24, slot := 1, constantValue := 0 }, { name := "UNRESERVED_PUNCTUATION", type := (.object "java/lang/String"), accessFlags := 24, slot := 2, constantValue := 0 }, { name := "HEX_DIGITS", type := (.object "java/lang/String"), accessFlags := 26, slot := 3, constantValue := 0 }]
  methods := #[k2m0, k2m1]
  instanceTypes := #[]
  staticTypes := #[(.object "java/lang/String"), (.object "java/lang/String"), (.object "java/lang/String"), (.object "java/lang/String")]
  resolved := Array.replicate 184 none
  statics := none }

def pool3 : Array CpInfo := pool [(1, u "java/lang/Cloneable"), (0, .class_ 1), (0, u "java/lang/Object"), (0, .class_ 3)] 3

/-- java/lang/Cloneable -/
def k3 : Class := { plain "java/lang/Cloneable" (some 0) with
  accessFlags := 1537
  interfaces := #[]
  cf := some (fileOf pool3 2 #[] #[] 1537 4 #[] #[])
  fields := #[]
  methods := #[]
  instanceTypes := #[]
  staticTypes := #[]
  resolved := Array.replicate 8 none
  statics := none }

def pool4 : Array CpInfo := pool [(1, u "java/io/Serializable"), (0, .class_ 1), (0, u "java/lang/Object"), (0, .class_ 3)] 3

/-- java/io/Serializable -/
def k4 : Class := { plain "java/io/Serializable" (some 0) with
  accessFlags := 1537
  interfaces := #[]
  cf := some (fileOf pool4 2 #[] #[] 1537 4 #[] #[])
  fields := #[]
  methods := #[]
  instanceTypes := #[]
  staticTypes := #[]
  resolved := Array.replicate 8 none
  statics := none }

/-- the primitive byte -/
def k5 : Class := { plain "byte" none with kind := .primitive 'B', accessFlags := 0x411 }
/-- [B -/
def k6 : Class := { plain "[B" (some 0) with kind := .array 5 .byte, interfaces := #[3, 4], accessFlags := 1041 }

/-- the primitive int -/
def k7 : Class := { plain "int" none with kind := .primitive 'I', accessFlags := 0x411 }
/-- [I -/
def k8 : Class := { plain "[I" (some 0) with kind := .array 7 .int, interfaces := #[3, 4], accessFlags := 1041 }

def heap : Heap := #[]
def classes : Array Class := #[k0, k1, k2, k3, k4, k5, k6, k7, k8]
def interned : List (Array UInt16 × Addr) := []
def slotsUsed : Nat := 0
def theMethod : MethodId := ⟨1, 3⟩
def args0 : Array Value := #[.int 5, .int 5, .int 5, .int 5]
def aboutOver (below : List Frame) : State where
  vm := { classes := classes, interned := interned.toArray }
  heap := heap
  slotsUsed := slotsUsed
  threads := #[{ frames := .invoking theMethod args0 :: below }]
def below0 : List Frame := [.native { method := ⟨0, 0⟩, args := #[] }]
def about1 : State := aboutOver below0
def p0 : Program := .bare "" "" ""
def e0 : Env := launch0.env 0 0 0
theorem w_frames : about1.frames = Frame.invoking theMethod args0 :: below0 := rfl
set_option maxRecDepth 65536 in
theorem w_args : argsFit about1.vm theMethod args0 = true := by decide +kernel
set_option maxRecDepth 65536 in
theorem w_heap : heapFits about1 = true := by decide +kernel
set_option maxRecDepth 65536 in
theorem w_runnable : about1.curStatus? = some .runnable := by decide +kernel
set_option maxRecDepth 65536 in
theorem w_alone : about1.alone = true := by decide +kernel
set_option maxRecDepth 65536 in
theorem w_named : about1.methodNamed? x = some theMethod := by decide +kernel
set_option maxRecDepth 65536 in
theorem w_hears : about1.hears theMethod below0 = true := by decide +kernel
set_option maxRecDepth 65536 in
theorem w_ripe : about1.ripe theMethod args0 below0 = true := by decide +kernel
theorem w_running : about1.status = .running := rfl
set_option maxRecDepth 65536 in
theorem w_room : about1.hasRoom e0.platform room_1 = true :=
  launch0.hasRoom_least _ room_1 (by decide +kernel) (by decide +kernel) (by decide +kernel) (by decide +kernel) (by decide +kernel) (by decide +kernel)
theorem allAtoms_all (ts : List Jvm.Cond) (a : Array Jvm.Value) (st : Jvm.State) : (allAtoms ts).before a st = ts.all (fun c => c.before a st) := by
  induction ts with
  | nil => rfl
  | cons c t ih =>
    show (Jvm.Cond.and c (allAtoms t)).before a st = _
    rw [Jvm.Cond.before_and, ih, List.all_cons]
def words1 : List Jvm.Cond := Jvm.Cond.code x code maxLocals ret :: tables_1
/-- a 'code' word, met by the world's own term for the bytes: nothing is compared byte by byte -/
theorem code_word {y : MethodName} {bytes : ByteArray} {mx : Nat} {rt : Option FieldType} {a : Array Value} {s : State} {m : MethodId} {meth : Method} {c : Code} (h1 : s.methodNamed? y = some m) (h2 : s.vm.method? m = some meth) (h3 : meth.code = some c) (h4 : c.code = bytes)
    (h5 : (c.maxLocals == mx && c.exceptionTable.isEmpty && decide (c.maxStack ≤ mostOperands) && decide (meth.sig.returnType = rt) && !meth.locks && decide (parseMethodDescriptor y.desc = some meth.sig)) = true) : (Jvm.Cond.code y bytes mx rt).before a s = true := by
  simp only [Bool.and_eq_true, beq_iff_eq, Bool.not_eq_true', decide_eq_true_eq] at h5
  obtain ⟨⟨⟨⟨⟨g1, g2⟩, g3⟩, g4⟩, g5⟩, g6⟩ := h5
  simp [Cond.before, Cond.holds, Cond.value, h1, h2, h3, h4, g1, g2, g3, g4, g5, g6]
def isCode : Jvm.Cond → Bool
  | .code _ _ _ _ => true
  | _ => false
theorem all_split {L : List Jvm.Cond} {P : Jvm.Cond → Bool} (h1 : L.all (fun c => isCode c || P c) = true) (h2 : ∀ c ∈ L.filter isCode, P c = true) : L.all P = true := by
  refine List.all_eq_true.mpr fun c hc => ?_
  have h := List.all_eq_true.mp h1 c hc
  rcases Bool.eq_false_or_eq_true (isCode c) with hi | hi
  · exact h2 c (List.mem_filter.mpr ⟨hc, hi⟩)
  · simpa [hi] using h
set_option maxRecDepth 65536 in
theorem w_c0 : (Jvm.Cond.code x code maxLocals ret).before args0 about1 = true := code_word (m := ⟨1, 3⟩) (meth := k1m3) (c := k1c3) (by decide +kernel) rfl rfl rfl (by decide +kernel)
set_option maxRecDepth 65536 in
theorem w_c1 : (Jvm.Cond.code ({ cls := "com/example/rels_from_records/relsfromrecords/uri/PercentEncoding", name := "isUcschar", desc := "(I)Z" } : Jvm.MethodName) prog_93_method_9_code (2 : Nat) (Option.some Jvm.ClassFile.FieldType.boolean)).before args0 about1 = true := code_word (m := ⟨2, 1⟩) (meth := k2m1) (c := k2c1) (by decide +kernel) rfl rfl rfl (by decide +kernel)
set_option maxRecDepth 65536 in
theorem w_c2 : (Jvm.Cond.code ({ cls := "com/example/rels_from_records/relsfromrecords/uri/PercentEncodingIsUcscharPinLaw", name := "ref", desc := "(I)Z" } : Jvm.MethodName) method_3_code (1 : Nat) (Option.some Jvm.ClassFile.FieldType.boolean)).before args0 about1 = true := code_word (m := ⟨1, 2⟩) (meth := k1m2) (c := k1c2) (by decide +kernel) rfl rfl rfl (by decide +kernel)
set_option maxRecDepth 65536 in
theorem w_c3 : (Jvm.Cond.code ({ cls := "com/example/rels_from_records/relsfromrecords/uri/PercentEncodingIsUcscharPinLaw", name := "in", desc := "(III)Z" } : Jvm.MethodName) method_2_code (3 : Nat) (Option.some Jvm.ClassFile.FieldType.boolean)).before args0 about1 = true := code_word (m := ⟨1, 1⟩) (meth := k1m1) (c := k1c1) (by decide +kernel) rfl rfl rfl (by decide +kernel)
def codes1 : List Jvm.Cond := [Jvm.Cond.code x code maxLocals ret, Jvm.Cond.code ({ cls := "com/example/rels_from_records/relsfromrecords/uri/PercentEncoding", name := "isUcschar", desc := "(I)Z" } : Jvm.MethodName) prog_93_method_9_code (2 : Nat) (Option.some Jvm.ClassFile.FieldType.boolean), Jvm.Cond.code ({ cls := "com/example/rels_from_records/relsfromrecords/uri/PercentEncodingIsUcscharPinLaw", name := "ref", desc := "(I)Z" } : Jvm.MethodName) method_3_code (1 : Nat) (Option.some Jvm.ClassFile.FieldType.boolean), Jvm.Cond.code ({ cls := "com/example/rels_from_records/relsfromrecords/uri/PercentEncodingIsUcscharPinLaw", name := "in", desc := "(III)Z" } : Jvm.MethodName) method_2_code (3 : Nat) (Option.some Jvm.ClassFile.FieldType.boolean)]
set_option maxRecDepth 65536 in
theorem codes_eq : words1.filter isCode = codes1 := rfl
theorem w_codes : ∀ c ∈ words1.filter isCode, c.before args0 about1 = true := by
  rw [codes_eq]
  intro c hc
  simp only [codes1, List.mem_cons, List.not_mem_nil, or_false] at hc
  rcases hc with rfl | rfl | rfl | rfl
  · exact w_c0
  · exact w_c1
  · exact w_c2
  · exact w_c3
set_option maxRecDepth 65536 in
theorem w_t1 : (words1.take 24).all (fun c => isCode c || c.before args0 about1) = true := by decide +kernel
set_option maxRecDepth 65536 in
theorem w_t2 : ((words1.drop 24).take 24).all (fun c => isCode c || c.before args0 about1) = true := by decide +kernel
set_option maxRecDepth 65536 in
theorem w_t3 : ((words1.drop 24).drop 24).all (fun c => isCode c || c.before args0 about1) = true := by decide +kernel
theorem w_tables : (allAtoms (Jvm.Cond.code x code maxLocals ret :: tables_1)).before args0 about1 = true := by
  rw [allAtoms_all]
  show words1.all (fun c => c.before args0 about1) = true
  refine all_split ?_ w_codes
  rw [← List.take_append_drop 24 words1, List.all_append, w_t1, ← List.take_append_drop 24 (words1.drop 24), List.all_append, w_t2, w_t3]
  rfl
set_option maxRecDepth 65536 in
theorem w_case : (Jvm.Cond.and given_1 narrow_1).before args0 about1 = true := by decide +kernel
theorem w_applies : (headSpec (Jvm.Cond.code x code maxLocals ret :: tables_1) room_1).applies x e0.platform about1 = true :=
  (Spec.applies_iff w_frames).mpr ⟨w_running, w_runnable, w_alone, w_named, w_hears, w_ripe, w_room, w_tables⟩
theorem atStart : AtStart classFile x code maxLocals ret World_1 tables_1 room_1 Calls_1 rest_1 Pre_1 launch0 p0 e0 about1 theMethod args0 below0 :=
  ⟨lists_1, trivial, launch0.admits_env _ _ _, launch0.least_env, fairChoices_fair.cas, fairChoices_fair.clock, w_frames, w_args, w_heap, w_applies, trivial, trivial, w_case⟩
end start1
theorem witness_1 : WitnessClaimed_1 := ⟨start1.p0, start1.e0, start1.about1, start1.theMethod, start1.args0, start1.below0, start1.atStart⟩
end Jvm.Pilot.@@N@@
