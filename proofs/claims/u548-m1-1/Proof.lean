import JvmDerived
import JvmDerived.Pilot.@@N@@Statement
import JvmDerived.Pilot.@@N@@Code
set_option linter.unusedVariables false
set_option linter.unusedSimpArgs false
namespace Jvm.Pilot.@@N@@
open Jvm Jvm.ClassFile Sem Op Lib Jvm.Free Jvm.Stand Jvm.LawKit Jvm.RoadKit Bundle Jvm.Pilot.@@N@@.Jvm.D
/-- one of the two ints says whether P -/
def own_says (P : Prop) (v : Int32) : Prop := (P ∧ v = 1) ∨ (¬ P ∧ v = 0)
theorem own_says_eq {P Q : Prop} {v w : Int32} (h : own_says P v) (k : own_says Q w) (e : P ↔ Q) : v = w := by
  rcases h with ⟨a, rfl⟩ | ⟨a, rfl⟩ <;> rcases k with ⟨b, rfl⟩ | ⟨b, rfl⟩
  · rfl
  · exact absurd (e.mp a) b
  · exact absurd (e.mpr b) a
  · rfl
theorem own_says_ne {P : Prop} {v : Int32} (h : own_says P v) : (v = 0 ↔ ¬ P) := by
  rcases h with ⟨a, rfl⟩ | ⟨a, rfl⟩
  · simp [a]
  · simp [a]
def own_X (x : Int32) : Prop := x.toInt = 9 ∨ x.toInt = 10 ∨ x.toInt = 13 ∨ (32 ≤ x.toInt ∧ x.toInt ≤ 55295) ∨ (57344 ≤ x.toInt ∧ x.toInt ≤ 65533) ∨ (65536 ≤ x.toInt ∧ x.toInt ≤ 1114111)
theorem own_idx (q : Int32) : ¬ ((q.toUInt32 >>> ((1 : Int32) &&& 31).toUInt32).toInt32 % 12) < 0 ∧ ((q.toUInt32 >>> ((1 : Int32) &&& 31).toUInt32).toInt32 % 12) < 12 := by
  have h := Jvm.RoadKit.c_iushr q 1 1 (by decide) (by decide)
  have k := Jvm.RoadKit.c_irem (q.toUInt32 >>> ((1 : Int32) &&& 31).toUInt32).toInt32 12 12 (by decide)
  have s := Jvm.RoadKit.rng32 q
  simp only [Int32.lt_iff_toInt_lt, Int32.reduceToInt]
  omega
theorem d1_0 : decode prog_44_method_4_code 0 = .ok (.iload_n 0, 1) := by decide +kernel
theorem d1_1 : decode prog_44_method_4_code 1 = .ok (.bipush 9, 2) := by decide +kernel
theorem d1_3 : decode prog_44_method_4_code 3 = .ok (.if_icmp .eq 51, 3) := by decide +kernel
theorem d1_6 : decode prog_44_method_4_code 6 = .ok (.iload_n 0, 1) := by decide +kernel
theorem d1_7 : decode prog_44_method_4_code 7 = .ok (.bipush 10, 2) := by decide +kernel
theorem d1_9 : decode prog_44_method_4_code 9 = .ok (.if_icmp .eq 45, 3) := by decide +kernel
theorem d1_12 : decode prog_44_method_4_code 12 = .ok (.iload_n 0, 1) := by decide +kernel
theorem d1_13 : decode prog_44_method_4_code 13 = .ok (.bipush 13, 2) := by decide +kernel
theorem d1_15 : decode prog_44_method_4_code 15 = .ok (.if_icmp .eq 39, 3) := by decide +kernel
theorem d1_18 : decode prog_44_method_4_code 18 = .ok (.iload_n 0, 1) := by decide +kernel
theorem d1_19 : decode prog_44_method_4_code 19 = .ok (.bipush 32, 2) := by decide +kernel
theorem d1_21 : decode prog_44_method_4_code 21 = .ok (.if_icmp .lt 9, 3) := by decide +kernel
theorem d1_24 : decode prog_44_method_4_code 24 = .ok (.iload_n 0, 1) := by decide +kernel
theorem d1_25 : decode prog_44_method_4_code 25 = .ok (.ldc 116, 2) := by decide +kernel
theorem d1_27 : decode prog_44_method_4_code 27 = .ok (.if_icmp .le 27, 3) := by decide +kernel
theorem d1_30 : decode prog_44_method_4_code 30 = .ok (.iload_n 0, 1) := by decide +kernel
theorem d1_31 : decode prog_44_method_4_code 31 = .ok (.ldc 117, 2) := by decide +kernel
theorem d1_33 : decode prog_44_method_4_code 33 = .ok (.if_icmp .lt 9, 3) := by decide +kernel
theorem d1_36 : decode prog_44_method_4_code 36 = .ok (.iload_n 0, 1) := by decide +kernel
theorem d1_37 : decode prog_44_method_4_code 37 = .ok (.ldc 118, 2) := by decide +kernel
theorem d1_39 : decode prog_44_method_4_code 39 = .ok (.if_icmp .le 15, 3) := by decide +kernel
theorem d1_42 : decode prog_44_method_4_code 42 = .ok (.iload_n 0, 1) := by decide +kernel
theorem d1_43 : decode prog_44_method_4_code 43 = .ok (.ldc 119, 2) := by decide +kernel
theorem d1_45 : decode prog_44_method_4_code 45 = .ok (.if_icmp .lt 13, 3) := by decide +kernel
theorem d1_48 : decode prog_44_method_4_code 48 = .ok (.iload_n 0, 1) := by decide +kernel
theorem d1_49 : decode prog_44_method_4_code 49 = .ok (.ldc 94, 2) := by decide +kernel
theorem d1_51 : decode prog_44_method_4_code 51 = .ok (.if_icmp .gt 7, 3) := by decide +kernel
theorem d1_54 : decode prog_44_method_4_code 54 = .ok (.iconst 1, 1) := by decide +kernel
theorem d1_55 : decode prog_44_method_4_code 55 = .ok (.goto 4, 3) := by decide +kernel
theorem d1_58 : decode prog_44_method_4_code 58 = .ok (.iconst 0, 1) := by decide +kernel
theorem d1_59 : decode prog_44_method_4_code 59 = .ok (.ireturn, 1) := by decide +kernel
theorem pn_1 : plainName "com/example/libnetlay/libnetlay/io/Entities" = true := by first | (simp [plainName, overriddenIn]; done) | decide +kernel
theorem ef_1 (m : MethodId) (p0 : Int32) : entryFrame m #[(.int p0)] 1 = mkF m 0 #[.val (.int p0)] [] := by first | (simp [entryFrame, mkF, argsToLocals, Value.category]; done) | rfl
def Q1 (Z : State) (st0 : Int32)  (h0 : Heap) (n0 : Nat) (v : Option Value) (h : Heap) (L : List Loc) : Prop := ∃ z : Int32, v = some (.int z) ∧ own_says (own_X st0) z ∧ Fr n0 L ∧ h = h0
set_option maxRecDepth 65536 in
set_option maxHeartbeats 40000000 in
theorem rm1 (l : Launch) (Z : State) (a0 : Array Value) (hw : ∀ d ∈ tables_1, d.before a0 Z = true) (ws : List Jvm.Cond) (st0 : Int32)  (h0 : Heap) (n0 : Nat) (Z0 : n0 ≤ h0.size)  :
    MetFree l (⟨"com/example/libnetlay/libnetlay/io/Entities", "isXmlCharacter", "(I)Z"⟩ : MethodName) (head1 (Jvm.Cond.code (⟨"com/example/libnetlay/libnetlay/io/Entities", "isXmlCharacter", "(I)Z"⟩ : MethodName) prog_44_method_4_code 1 (some .boolean) :: ws) ({ frames := 0, cells := 0, slots := 0, locals := 0 } : Room)) (fun a U => a = #[(.int st0)] ∧ Z.Warmed39 U.vm ∧ U.heap = h0) (fun _ _ _ _ _ => True) (fun _ U o U' => ∃ v L, o = .returned v ∧ Q1 Z st0 h0 n0 v U'.heap L ∧ FrameEnd U o U' L ({ frames := 0, cells := 0, slots := 0, locals := 0 } : Room).cells ({ frames := 0, cells := 0, slots := 0, locals := 0 } : Room).slots) := by
  refine MetFree.of_bodySF (plainFor_of_name pn_1) hisR ?_
  intro p e s m args below meth c s₁ Bd hml0 hP hK
  obtain ⟨rfl, hZ, hh⟩ := hP
  have hx := Bd.exec
  have hby := Bd.bytes
  have hml : c.maxLocals = 1 := hml0
  have hown : s.vm.findClass "com/example/libnetlay/libnetlay/io/Entities" = some m.cls := findClass_of_methodNamed Bd.named
  have hnm := (name_of_methodNamed Bd.named Bd.method).1
  have X0 : Stand p l e ({ frames := 0, cells := 0, slots := 0, locals := 0 } : Room) s m #[(.int st0)] below meth c s₁ [] 0 0 := Stand.of_body Bd
  have e0 : s₁.heap = h0 := by rw [← hh, Bd.state]; rfl
  have N0 := Fr.nil n0
  have pre0 : ∀ t, Steps p.tables e below (s₁.setTop (mkF m 0 #[.val (.int st0)] [])) t → Steps p.tables e below (s₁.setTop (entryFrame m #[(.int st0)] 1)) t := fun t k => castTop (ef_1 m st0) k
  have pre1 : ∀ t, Steps p.tables e below (s₁.setTop (mkF m 3 #[.val (.int st0)] [(.int (9 : Int32)), (.int st0)])) t → Steps p.tables e below (s₁.setTop (entryFrame m #[(.int st0)] 1)) t := fun t k => pre0 t (by
      show Steps p.tables e below (s₁.setTop (mkF m 0 #[.val (.int st0)] [])) _
      refine XS.iloadN X0.here hx rfl (hb hby d1_0) rfl ?_
      show Steps p.tables e below (s₁.setTop (mkF m 1 #[.val (.int st0)] [(.int st0)])) _
      refine XS.bipush X0.here hx rfl (hb hby d1_1) ?_
      exact k)
  by_cases hc3 : st0 = (9 : Int32)
  · skip
    have pre2 : ∀ t, Steps p.tables e below (s₁.setTop (mkF m 59 #[.val (.int st0)] [(.int (1 : Int32))])) t → Steps p.tables e below (s₁.setTop (entryFrame m #[(.int st0)] 1)) t := fun t k => pre1 t (by
        show Steps p.tables e below (s₁.setTop (mkF m 3 #[.val (.int st0)] [(.int (9 : Int32)), (.int st0)])) _
        refine XS.icmpYes X0.here hx rfl (pc0 := 3) (pc' := 54) rfl (hb hby d1_3) rfl (teq hc3).1 (by decide) (by decide) ?_
        show Steps p.tables e below (s₁.setTop (mkF m 54 #[.val (.int st0)] [])) _
        refine XS.iconst X0.here hx rfl (hb hby d1_54) ?_
        show Steps p.tables e below (s₁.setTop (mkF m 55 #[.val (.int st0)] [(.int (1 : Int32))])) _
        refine XS.goto X0.here hx rfl (pc0 := 55) (pc' := 59) rfl (hb hby d1_55) (by decide) (by decide) ?_
        exact k)
    obtain ⟨fs, hr, hrun, hended, hW, hsame⟩ := X0.leave (v := some (.int (1 : Int32))) (fun h => by rw [Bd.returns] at h; cases h)
    refine ⟨_, _, pre2 _ ?_, hrun, hended, _, _, rfl, ?_, ⟨_, rfl⟩, hW, hsame.mono (by decide) (by decide)⟩
    · show Steps p.tables e below (s₁.setTop (mkF m 59 #[.val (.int st0)] [(.int (1 : Int32))])) _
      exact retN X0 hx (t := .boolean) Bd.returns (by simp) (hb hby d1_59) hr
    · show Q1 Z st0 h0 n0 _ s₁.heap _
      rw [e0]
      exact ⟨(1 : Int32), rfl, (Or.inl ⟨(by simp only [own_X, Int32.lt_iff_toInt_lt, ← Int32.toInt_inj, Int32.reduceToInt] at hc3 ⊢; omega), rfl⟩), N0, rfl⟩
  · skip
    have pre3 : ∀ t, Steps p.tables e below (s₁.setTop (mkF m 9 #[.val (.int st0)] [(.int (10 : Int32)), (.int st0)])) t → Steps p.tables e below (s₁.setTop (entryFrame m #[(.int st0)] 1)) t := fun t k => pre1 t (by
        show Steps p.tables e below (s₁.setTop (mkF m 3 #[.val (.int st0)] [(.int (9 : Int32)), (.int st0)])) _
        refine XS.icmpNo X0.here hx rfl (hb hby d1_3) rfl (feq hc3).1 ?_
        show Steps p.tables e below (s₁.setTop (mkF m 6 #[.val (.int st0)] [])) _
        refine XS.iloadN X0.here hx rfl (hb hby d1_6) rfl ?_
        show Steps p.tables e below (s₁.setTop (mkF m 7 #[.val (.int st0)] [(.int st0)])) _
        refine XS.bipush X0.here hx rfl (hb hby d1_7) ?_
        exact k)
    by_cases hc9 : st0 = (10 : Int32)
    · skip
      have pre4 : ∀ t, Steps p.tables e below (s₁.setTop (mkF m 59 #[.val (.int st0)] [(.int (1 : Int32))])) t → Steps p.tables e below (s₁.setTop (entryFrame m #[(.int st0)] 1)) t := fun t k => pre3 t (by
          show Steps p.tables e below (s₁.setTop (mkF m 9 #[.val (.int st0)] [(.int (10 : Int32)), (.int st0)])) _
          refine XS.icmpYes X0.here hx rfl (pc0 := 9) (pc' := 54) rfl (hb hby d1_9) rfl (teq hc9).1 (by decide) (by decide) ?_
          show Steps p.tables e below (s₁.setTop (mkF m 54 #[.val (.int st0)] [])) _
          refine XS.iconst X0.here hx rfl (hb hby d1_54) ?_
          show Steps p.tables e below (s₁.setTop (mkF m 55 #[.val (.int st0)] [(.int (1 : Int32))])) _
          refine XS.goto X0.here hx rfl (pc0 := 55) (pc' := 59) rfl (hb hby d1_55) (by decide) (by decide) ?_
          exact k)
      obtain ⟨fs, hr, hrun, hended, hW, hsame⟩ := X0.leave (v := some (.int (1 : Int32))) (fun h => by rw [Bd.returns] at h; cases h)
      refine ⟨_, _, pre4 _ ?_, hrun, hended, _, _, rfl, ?_, ⟨_, rfl⟩, hW, hsame.mono (by decide) (by decide)⟩
      · show Steps p.tables e below (s₁.setTop (mkF m 59 #[.val (.int st0)] [(.int (1 : Int32))])) _
        exact retN X0 hx (t := .boolean) Bd.returns (by simp) (hb hby d1_59) hr
      · show Q1 Z st0 h0 n0 _ s₁.heap _
        rw [e0]
        exact ⟨(1 : Int32), rfl, (Or.inl ⟨(by simp only [own_X, Int32.lt_iff_toInt_lt, ← Int32.toInt_inj, Int32.reduceToInt] at hc3 hc9 ⊢; omega), rfl⟩), N0, rfl⟩
    · skip
      have pre5 : ∀ t, Steps p.tables e below (s₁.setTop (mkF m 15 #[.val (.int st0)] [(.int (13 : Int32)), (.int st0)])) t → Steps p.tables e below (s₁.setTop (entryFrame m #[(.int st0)] 1)) t := fun t k => pre3 t (by
          show Steps p.tables e below (s₁.setTop (mkF m 9 #[.val (.int st0)] [(.int (10 : Int32)), (.int st0)])) _
          refine XS.icmpNo X0.here hx rfl (hb hby d1_9) rfl (feq hc9).1 ?_
          show Steps p.tables e below (s₁.setTop (mkF m 12 #[.val (.int st0)] [])) _
          refine XS.iloadN X0.here hx rfl (hb hby d1_12) rfl ?_
          show Steps p.tables e below (s₁.setTop (mkF m 13 #[.val (.int st0)] [(.int st0)])) _
          refine XS.bipush X0.here hx rfl (hb hby d1_13) ?_
          exact k)
      by_cases hc15 : st0 = (13 : Int32)
      · skip
        have pre6 : ∀ t, Steps p.tables e below (s₁.setTop (mkF m 59 #[.val (.int st0)] [(.int (1 : Int32))])) t → Steps p.tables e below (s₁.setTop (entryFrame m #[(.int st0)] 1)) t := fun t k => pre5 t (by
            show Steps p.tables e below (s₁.setTop (mkF m 15 #[.val (.int st0)] [(.int (13 : Int32)), (.int st0)])) _
            refine XS.icmpYes X0.here hx rfl (pc0 := 15) (pc' := 54) rfl (hb hby d1_15) rfl (teq hc15).1 (by decide) (by decide) ?_
            show Steps p.tables e below (s₁.setTop (mkF m 54 #[.val (.int st0)] [])) _
            refine XS.iconst X0.here hx rfl (hb hby d1_54) ?_
            show Steps p.tables e below (s₁.setTop (mkF m 55 #[.val (.int st0)] [(.int (1 : Int32))])) _
            refine XS.goto X0.here hx rfl (pc0 := 55) (pc' := 59) rfl (hb hby d1_55) (by decide) (by decide) ?_
            exact k)
        obtain ⟨fs, hr, hrun, hended, hW, hsame⟩ := X0.leave (v := some (.int (1 : Int32))) (fun h => by rw [Bd.returns] at h; cases h)
        refine ⟨_, _, pre6 _ ?_, hrun, hended, _, _, rfl, ?_, ⟨_, rfl⟩, hW, hsame.mono (by decide) (by decide)⟩
        · show Steps p.tables e below (s₁.setTop (mkF m 59 #[.val (.int st0)] [(.int (1 : Int32))])) _
          exact retN X0 hx (t := .boolean) Bd.returns (by simp) (hb hby d1_59) hr
        · show Q1 Z st0 h0 n0 _ s₁.heap _
          rw [e0]
          exact ⟨(1 : Int32), rfl, (Or.inl ⟨(by simp only [own_X, Int32.lt_iff_toInt_lt, ← Int32.toInt_inj, Int32.reduceToInt] at hc3 hc9 hc15 ⊢; omega), rfl⟩), N0, rfl⟩
      · skip
        have pre7 : ∀ t, Steps p.tables e below (s₁.setTop (mkF m 21 #[.val (.int st0)] [(.int (32 : Int32)), (.int st0)])) t → Steps p.tables e below (s₁.setTop (entryFrame m #[(.int st0)] 1)) t := fun t k => pre5 t (by
            show Steps p.tables e below (s₁.setTop (mkF m 15 #[.val (.int st0)] [(.int (13 : Int32)), (.int st0)])) _
            refine XS.icmpNo X0.here hx rfl (hb hby d1_15) rfl (feq hc15).1 ?_
            show Steps p.tables e below (s₁.setTop (mkF m 18 #[.val (.int st0)] [])) _
            refine XS.iloadN X0.here hx rfl (hb hby d1_18) rfl ?_
            show Steps p.tables e below (s₁.setTop (mkF m 19 #[.val (.int st0)] [(.int st0)])) _
            refine XS.bipush X0.here hx rfl (hb hby d1_19) ?_
            exact k)
        by_cases hc21 : st0 < (32 : Int32)
        · skip
          have pre8 : ∀ t, Steps p.tables e below (s₁.setTop (mkF m 33 #[.val (.int st0)] [(.int (57344 : Int32)), (.int st0)])) t → Steps p.tables e below (s₁.setTop (entryFrame m #[(.int st0)] 1)) t := fun t k => pre7 t (by
              show Steps p.tables e below (s₁.setTop (mkF m 21 #[.val (.int st0)] [(.int (32 : Int32)), (.int st0)])) _
              refine XS.icmpYes X0.here hx rfl (pc0 := 21) (pc' := 30) rfl (hb hby d1_21) rfl (tlt hc21).1 (by decide) (by decide) ?_
              show Steps p.tables e below (s₁.setTop (mkF m 30 #[.val (.int st0)] [])) _
              refine XS.iloadN X0.here hx rfl (hb hby d1_30) rfl ?_
              show Steps p.tables e below (s₁.setTop (mkF m 31 #[.val (.int st0)] [(.int st0)])) _
              refine X0.ldcInt hx hown (mvT hZ (hw _ (List.mem_of_getElem? (i := 12) rfl))) (g := (mkF m 31 #[.val (.int st0)] [(.int st0)])) rfl (hb hby d1_31) _ ?_
              exact k)
          by_cases hc33 : st0 < (57344 : Int32)
          · skip
            have pre9 : ∀ t, Steps p.tables e below (s₁.setTop (mkF m 45 #[.val (.int st0)] [(.int (65536 : Int32)), (.int st0)])) t → Steps p.tables e below (s₁.setTop (entryFrame m #[(.int st0)] 1)) t := fun t k => pre8 t (by
                show Steps p.tables e below (s₁.setTop (mkF m 33 #[.val (.int st0)] [(.int (57344 : Int32)), (.int st0)])) _
                refine XS.icmpYes X0.here hx rfl (pc0 := 33) (pc' := 42) rfl (hb hby d1_33) rfl (tlt hc33).1 (by decide) (by decide) ?_
                show Steps p.tables e below (s₁.setTop (mkF m 42 #[.val (.int st0)] [])) _
                refine XS.iloadN X0.here hx rfl (hb hby d1_42) rfl ?_
                show Steps p.tables e below (s₁.setTop (mkF m 43 #[.val (.int st0)] [(.int st0)])) _
                refine X0.ldcInt hx hown (mvT hZ (hw _ (List.mem_of_getElem? (i := 13) rfl))) (g := (mkF m 43 #[.val (.int st0)] [(.int st0)])) rfl (hb hby d1_43) _ ?_
                exact k)
            by_cases hc45 : st0 < (65536 : Int32)
            · skip
              have pre10 : ∀ t, Steps p.tables e below (s₁.setTop (mkF m 59 #[.val (.int st0)] [(.int (0 : Int32))])) t → Steps p.tables e below (s₁.setTop (entryFrame m #[(.int st0)] 1)) t := fun t k => pre9 t (by
                  show Steps p.tables e below (s₁.setTop (mkF m 45 #[.val (.int st0)] [(.int (65536 : Int32)), (.int st0)])) _
                  refine XS.icmpYes X0.here hx rfl (pc0 := 45) (pc' := 58) rfl (hb hby d1_45) rfl (tlt hc45).1 (by decide) (by decide) ?_
                  show Steps p.tables e below (s₁.setTop (mkF m 58 #[.val (.int st0)] [])) _
                  refine XS.iconst X0.here hx rfl (hb hby d1_58) ?_
                  exact k)
              obtain ⟨fs, hr, hrun, hended, hW, hsame⟩ := X0.leave (v := some (.int (0 : Int32))) (fun h => by rw [Bd.returns] at h; cases h)
              refine ⟨_, _, pre10 _ ?_, hrun, hended, _, _, rfl, ?_, ⟨_, rfl⟩, hW, hsame.mono (by decide) (by decide)⟩
              · show Steps p.tables e below (s₁.setTop (mkF m 59 #[.val (.int st0)] [(.int (0 : Int32))])) _
                exact retN X0 hx (t := .boolean) Bd.returns (by simp) (hb hby d1_59) hr
              · show Q1 Z st0 h0 n0 _ s₁.heap _
                rw [e0]
                exact ⟨(0 : Int32), rfl, (Or.inr ⟨(by simp only [own_X, Int32.lt_iff_toInt_lt, ← Int32.toInt_inj, Int32.reduceToInt] at hc3 hc9 hc15 hc21 hc33 hc45 ⊢; omega), rfl⟩), N0, rfl⟩
            · skip
              have pre11 : ∀ t, Steps p.tables e below (s₁.setTop (mkF m 51 #[.val (.int st0)] [(.int (1114111 : Int32)), (.int st0)])) t → Steps p.tables e below (s₁.setTop (entryFrame m #[(.int st0)] 1)) t := fun t k => pre9 t (by
                  show Steps p.tables e below (s₁.setTop (mkF m 45 #[.val (.int st0)] [(.int (65536 : Int32)), (.int st0)])) _
                  refine XS.icmpNo X0.here hx rfl (hb hby d1_45) rfl (flt hc45).1 ?_
                  show Steps p.tables e below (s₁.setTop (mkF m 48 #[.val (.int st0)] [])) _
                  refine XS.iloadN X0.here hx rfl (hb hby d1_48) rfl ?_
                  show Steps p.tables e below (s₁.setTop (mkF m 49 #[.val (.int st0)] [(.int st0)])) _
                  refine X0.ldcInt hx hown (mvT hZ (hw _ (List.mem_of_getElem? (i := 22) rfl))) (g := (mkF m 49 #[.val (.int st0)] [(.int st0)])) rfl (hb hby d1_49) _ ?_
                  exact k)
              by_cases hc51 : (1114111 : Int32) < st0
              · skip
                have pre12 : ∀ t, Steps p.tables e below (s₁.setTop (mkF m 59 #[.val (.int st0)] [(.int (0 : Int32))])) t → Steps p.tables e below (s₁.setTop (entryFrame m #[(.int st0)] 1)) t := fun t k => pre11 t (by
                    show Steps p.tables e below (s₁.setTop (mkF m 51 #[.val (.int st0)] [(.int (1114111 : Int32)), (.int st0)])) _
                    refine XS.icmpYes X0.here hx rfl (pc0 := 51) (pc' := 58) rfl (hb hby d1_51) rfl (tlt hc51).2.2.1 (by decide) (by decide) ?_
                    show Steps p.tables e below (s₁.setTop (mkF m 58 #[.val (.int st0)] [])) _
                    refine XS.iconst X0.here hx rfl (hb hby d1_58) ?_
                    exact k)
                obtain ⟨fs, hr, hrun, hended, hW, hsame⟩ := X0.leave (v := some (.int (0 : Int32))) (fun h => by rw [Bd.returns] at h; cases h)
                refine ⟨_, _, pre12 _ ?_, hrun, hended, _, _, rfl, ?_, ⟨_, rfl⟩, hW, hsame.mono (by decide) (by decide)⟩
                · show Steps p.tables e below (s₁.setTop (mkF m 59 #[.val (.int st0)] [(.int (0 : Int32))])) _
                  exact retN X0 hx (t := .boolean) Bd.returns (by simp) (hb hby d1_59) hr
                · show Q1 Z st0 h0 n0 _ s₁.heap _
                  rw [e0]
                  exact ⟨(0 : Int32), rfl, (Or.inr ⟨(by simp only [own_X, Int32.lt_iff_toInt_lt, ← Int32.toInt_inj, Int32.reduceToInt] at hc3 hc9 hc15 hc21 hc33 hc45 hc51 ⊢; omega), rfl⟩), N0, rfl⟩
              · skip
                have pre13 : ∀ t, Steps p.tables e below (s₁.setTop (mkF m 59 #[.val (.int st0)] [(.int (1 : Int32))])) t → Steps p.tables e below (s₁.setTop (entryFrame m #[(.int st0)] 1)) t := fun t k => pre11 t (by
                    show Steps p.tables e below (s₁.setTop (mkF m 51 #[.val (.int st0)] [(.int (1114111 : Int32)), (.int st0)])) _
                    refine XS.icmpNo X0.here hx rfl (hb hby d1_51) rfl (flt hc51).2.2.1 ?_
                    show Steps p.tables e below (s₁.setTop (mkF m 54 #[.val (.int st0)] [])) _
                    refine XS.iconst X0.here hx rfl (hb hby d1_54) ?_
                    show Steps p.tables e below (s₁.setTop (mkF m 55 #[.val (.int st0)] [(.int (1 : Int32))])) _
                    refine XS.goto X0.here hx rfl (pc0 := 55) (pc' := 59) rfl (hb hby d1_55) (by decide) (by decide) ?_
                    exact k)
                obtain ⟨fs, hr, hrun, hended, hW, hsame⟩ := X0.leave (v := some (.int (1 : Int32))) (fun h => by rw [Bd.returns] at h; cases h)
                refine ⟨_, _, pre13 _ ?_, hrun, hended, _, _, rfl, ?_, ⟨_, rfl⟩, hW, hsame.mono (by decide) (by decide)⟩
                · show Steps p.tables e below (s₁.setTop (mkF m 59 #[.val (.int st0)] [(.int (1 : Int32))])) _
                  exact retN X0 hx (t := .boolean) Bd.returns (by simp) (hb hby d1_59) hr
                · show Q1 Z st0 h0 n0 _ s₁.heap _
                  rw [e0]
                  exact ⟨(1 : Int32), rfl, (Or.inl ⟨(by simp only [own_X, Int32.lt_iff_toInt_lt, ← Int32.toInt_inj, Int32.reduceToInt] at hc3 hc9 hc15 hc21 hc33 hc45 hc51 ⊢; omega), rfl⟩), N0, rfl⟩
          · skip
            have pre14 : ∀ t, Steps p.tables e below (s₁.setTop (mkF m 39 #[.val (.int st0)] [(.int (65533 : Int32)), (.int st0)])) t → Steps p.tables e below (s₁.setTop (entryFrame m #[(.int st0)] 1)) t := fun t k => pre8 t (by
                show Steps p.tables e below (s₁.setTop (mkF m 33 #[.val (.int st0)] [(.int (57344 : Int32)), (.int st0)])) _
                refine XS.icmpNo X0.here hx rfl (hb hby d1_33) rfl (flt hc33).1 ?_
                show Steps p.tables e below (s₁.setTop (mkF m 36 #[.val (.int st0)] [])) _
                refine XS.iloadN X0.here hx rfl (hb hby d1_36) rfl ?_
                show Steps p.tables e below (s₁.setTop (mkF m 37 #[.val (.int st0)] [(.int st0)])) _
                refine X0.ldcInt hx hown (mvT hZ (hw _ (List.mem_of_getElem? (i := 21) rfl))) (g := (mkF m 37 #[.val (.int st0)] [(.int st0)])) rfl (hb hby d1_37) _ ?_
                exact k)
            by_cases hc39 : (65533 : Int32) < st0
            · skip
              have pre15 : ∀ t, Steps p.tables e below (s₁.setTop (mkF m 45 #[.val (.int st0)] [(.int (65536 : Int32)), (.int st0)])) t → Steps p.tables e below (s₁.setTop (entryFrame m #[(.int st0)] 1)) t := fun t k => pre14 t (by
                  show Steps p.tables e below (s₁.setTop (mkF m 39 #[.val (.int st0)] [(.int (65533 : Int32)), (.int st0)])) _
                  refine XS.icmpNo X0.here hx rfl (hb hby d1_39) rfl (tlt hc39).2.2.2 ?_
                  show Steps p.tables e below (s₁.setTop (mkF m 42 #[.val (.int st0)] [])) _
                  refine XS.iloadN X0.here hx rfl (hb hby d1_42) rfl ?_
                  show Steps p.tables e below (s₁.setTop (mkF m 43 #[.val (.int st0)] [(.int st0)])) _
                  refine X0.ldcInt hx hown (mvT hZ (hw _ (List.mem_of_getElem? (i := 13) rfl))) (g := (mkF m 43 #[.val (.int st0)] [(.int st0)])) rfl (hb hby d1_43) _ ?_
                  exact k)
              by_cases hc45 : st0 < (65536 : Int32)
              · skip
                have pre16 : ∀ t, Steps p.tables e below (s₁.setTop (mkF m 59 #[.val (.int st0)] [(.int (0 : Int32))])) t → Steps p.tables e below (s₁.setTop (entryFrame m #[(.int st0)] 1)) t := fun t k => pre15 t (by
                    show Steps p.tables e below (s₁.setTop (mkF m 45 #[.val (.int st0)] [(.int (65536 : Int32)), (.int st0)])) _
                    refine XS.icmpYes X0.here hx rfl (pc0 := 45) (pc' := 58) rfl (hb hby d1_45) rfl (tlt hc45).1 (by decide) (by decide) ?_
                    show Steps p.tables e below (s₁.setTop (mkF m 58 #[.val (.int st0)] [])) _
                    refine XS.iconst X0.here hx rfl (hb hby d1_58) ?_
                    exact k)
                obtain ⟨fs, hr, hrun, hended, hW, hsame⟩ := X0.leave (v := some (.int (0 : Int32))) (fun h => by rw [Bd.returns] at h; cases h)
                refine ⟨_, _, pre16 _ ?_, hrun, hended, _, _, rfl, ?_, ⟨_, rfl⟩, hW, hsame.mono (by decide) (by decide)⟩
                · show Steps p.tables e below (s₁.setTop (mkF m 59 #[.val (.int st0)] [(.int (0 : Int32))])) _
                  exact retN X0 hx (t := .boolean) Bd.returns (by simp) (hb hby d1_59) hr
                · show Q1 Z st0 h0 n0 _ s₁.heap _
                  rw [e0]
                  exact ⟨(0 : Int32), rfl, (Or.inr ⟨(by simp only [own_X, Int32.lt_iff_toInt_lt, ← Int32.toInt_inj, Int32.reduceToInt] at hc3 hc9 hc15 hc21 hc33 hc39 hc45 ⊢; omega), rfl⟩), N0, rfl⟩
              · skip
                have pre17 : ∀ t, Steps p.tables e below (s₁.setTop (mkF m 51 #[.val (.int st0)] [(.int (1114111 : Int32)), (.int st0)])) t → Steps p.tables e below (s₁.setTop (entryFrame m #[(.int st0)] 1)) t := fun t k => pre15 t (by
                    show Steps p.tables e below (s₁.setTop (mkF m 45 #[.val (.int st0)] [(.int (65536 : Int32)), (.int st0)])) _
                    refine XS.icmpNo X0.here hx rfl (hb hby d1_45) rfl (flt hc45).1 ?_
                    show Steps p.tables e below (s₁.setTop (mkF m 48 #[.val (.int st0)] [])) _
                    refine XS.iloadN X0.here hx rfl (hb hby d1_48) rfl ?_
                    show Steps p.tables e below (s₁.setTop (mkF m 49 #[.val (.int st0)] [(.int st0)])) _
                    refine X0.ldcInt hx hown (mvT hZ (hw _ (List.mem_of_getElem? (i := 22) rfl))) (g := (mkF m 49 #[.val (.int st0)] [(.int st0)])) rfl (hb hby d1_49) _ ?_
                    exact k)
                by_cases hc51 : (1114111 : Int32) < st0
                · skip
                  have pre18 : ∀ t, Steps p.tables e below (s₁.setTop (mkF m 59 #[.val (.int st0)] [(.int (0 : Int32))])) t → Steps p.tables e below (s₁.setTop (entryFrame m #[(.int st0)] 1)) t := fun t k => pre17 t (by
                      show Steps p.tables e below (s₁.setTop (mkF m 51 #[.val (.int st0)] [(.int (1114111 : Int32)), (.int st0)])) _
                      refine XS.icmpYes X0.here hx rfl (pc0 := 51) (pc' := 58) rfl (hb hby d1_51) rfl (tlt hc51).2.2.1 (by decide) (by decide) ?_
                      show Steps p.tables e below (s₁.setTop (mkF m 58 #[.val (.int st0)] [])) _
                      refine XS.iconst X0.here hx rfl (hb hby d1_58) ?_
                      exact k)
                  obtain ⟨fs, hr, hrun, hended, hW, hsame⟩ := X0.leave (v := some (.int (0 : Int32))) (fun h => by rw [Bd.returns] at h; cases h)
                  refine ⟨_, _, pre18 _ ?_, hrun, hended, _, _, rfl, ?_, ⟨_, rfl⟩, hW, hsame.mono (by decide) (by decide)⟩
                  · show Steps p.tables e below (s₁.setTop (mkF m 59 #[.val (.int st0)] [(.int (0 : Int32))])) _
                    exact retN X0 hx (t := .boolean) Bd.returns (by simp) (hb hby d1_59) hr
                  · show Q1 Z st0 h0 n0 _ s₁.heap _
                    rw [e0]
                    exact ⟨(0 : Int32), rfl, (Or.inr ⟨(by simp only [own_X, Int32.lt_iff_toInt_lt, ← Int32.toInt_inj, Int32.reduceToInt] at hc3 hc9 hc15 hc21 hc33 hc39 hc45 hc51 ⊢; omega), rfl⟩), N0, rfl⟩
                · skip
                  have pre19 : ∀ t, Steps p.tables e below (s₁.setTop (mkF m 59 #[.val (.int st0)] [(.int (1 : Int32))])) t → Steps p.tables e below (s₁.setTop (entryFrame m #[(.int st0)] 1)) t := fun t k => pre17 t (by
                      show Steps p.tables e below (s₁.setTop (mkF m 51 #[.val (.int st0)] [(.int (1114111 : Int32)), (.int st0)])) _
                      refine XS.icmpNo X0.here hx rfl (hb hby d1_51) rfl (flt hc51).2.2.1 ?_
                      show Steps p.tables e below (s₁.setTop (mkF m 54 #[.val (.int st0)] [])) _
                      refine XS.iconst X0.here hx rfl (hb hby d1_54) ?_
                      show Steps p.tables e below (s₁.setTop (mkF m 55 #[.val (.int st0)] [(.int (1 : Int32))])) _
                      refine XS.goto X0.here hx rfl (pc0 := 55) (pc' := 59) rfl (hb hby d1_55) (by decide) (by decide) ?_
                      exact k)
                  obtain ⟨fs, hr, hrun, hended, hW, hsame⟩ := X0.leave (v := some (.int (1 : Int32))) (fun h => by rw [Bd.returns] at h; cases h)
                  refine ⟨_, _, pre19 _ ?_, hrun, hended, _, _, rfl, ?_, ⟨_, rfl⟩, hW, hsame.mono (by decide) (by decide)⟩
                  · show Steps p.tables e below (s₁.setTop (mkF m 59 #[.val (.int st0)] [(.int (1 : Int32))])) _
                    exact retN X0 hx (t := .boolean) Bd.returns (by simp) (hb hby d1_59) hr
                  · show Q1 Z st0 h0 n0 _ s₁.heap _
                    rw [e0]
                    exact ⟨(1 : Int32), rfl, (Or.inl ⟨(by simp only [own_X, Int32.lt_iff_toInt_lt, ← Int32.toInt_inj, Int32.reduceToInt] at hc3 hc9 hc15 hc21 hc33 hc39 hc45 hc51 ⊢; omega), rfl⟩), N0, rfl⟩
            · skip
              have pre20 : ∀ t, Steps p.tables e below (s₁.setTop (mkF m 59 #[.val (.int st0)] [(.int (1 : Int32))])) t → Steps p.tables e below (s₁.setTop (entryFrame m #[(.int st0)] 1)) t := fun t k => pre14 t (by
                  show Steps p.tables e below (s₁.setTop (mkF m 39 #[.val (.int st0)] [(.int (65533 : Int32)), (.int st0)])) _
                  refine XS.icmpYes X0.here hx rfl (pc0 := 39) (pc' := 54) rfl (hb hby d1_39) rfl (flt hc39).2.2.2 (by decide) (by decide) ?_
                  show Steps p.tables e below (s₁.setTop (mkF m 54 #[.val (.int st0)] [])) _
                  refine XS.iconst X0.here hx rfl (hb hby d1_54) ?_
                  show Steps p.tables e below (s₁.setTop (mkF m 55 #[.val (.int st0)] [(.int (1 : Int32))])) _
                  refine XS.goto X0.here hx rfl (pc0 := 55) (pc' := 59) rfl (hb hby d1_55) (by decide) (by decide) ?_
                  exact k)
              obtain ⟨fs, hr, hrun, hended, hW, hsame⟩ := X0.leave (v := some (.int (1 : Int32))) (fun h => by rw [Bd.returns] at h; cases h)
              refine ⟨_, _, pre20 _ ?_, hrun, hended, _, _, rfl, ?_, ⟨_, rfl⟩, hW, hsame.mono (by decide) (by decide)⟩
              · show Steps p.tables e below (s₁.setTop (mkF m 59 #[.val (.int st0)] [(.int (1 : Int32))])) _
                exact retN X0 hx (t := .boolean) Bd.returns (by simp) (hb hby d1_59) hr
              · show Q1 Z st0 h0 n0 _ s₁.heap _
                rw [e0]
                exact ⟨(1 : Int32), rfl, (Or.inl ⟨(by simp only [own_X, Int32.lt_iff_toInt_lt, ← Int32.toInt_inj, Int32.reduceToInt] at hc3 hc9 hc15 hc21 hc33 hc39 ⊢; omega), rfl⟩), N0, rfl⟩
        · skip
          have pre21 : ∀ t, Steps p.tables e below (s₁.setTop (mkF m 27 #[.val (.int st0)] [(.int (55295 : Int32)), (.int st0)])) t → Steps p.tables e below (s₁.setTop (entryFrame m #[(.int st0)] 1)) t := fun t k => pre7 t (by
              show Steps p.tables e below (s₁.setTop (mkF m 21 #[.val (.int st0)] [(.int (32 : Int32)), (.int st0)])) _
              refine XS.icmpNo X0.here hx rfl (hb hby d1_21) rfl (flt hc21).1 ?_
              show Steps p.tables e below (s₁.setTop (mkF m 24 #[.val (.int st0)] [])) _
              refine XS.iloadN X0.here hx rfl (hb hby d1_24) rfl ?_
              show Steps p.tables e below (s₁.setTop (mkF m 25 #[.val (.int st0)] [(.int st0)])) _
              refine X0.ldcInt hx hown (mvT hZ (hw _ (List.mem_of_getElem? (i := 19) rfl))) (g := (mkF m 25 #[.val (.int st0)] [(.int st0)])) rfl (hb hby d1_25) _ ?_
              exact k)
          by_cases hc27 : (55295 : Int32) < st0
          · skip
            have pre22 : ∀ t, Steps p.tables e below (s₁.setTop (mkF m 33 #[.val (.int st0)] [(.int (57344 : Int32)), (.int st0)])) t → Steps p.tables e below (s₁.setTop (entryFrame m #[(.int st0)] 1)) t := fun t k => pre21 t (by
                show Steps p.tables e below (s₁.setTop (mkF m 27 #[.val (.int st0)] [(.int (55295 : Int32)), (.int st0)])) _
                refine XS.icmpNo X0.here hx rfl (hb hby d1_27) rfl (tlt hc27).2.2.2 ?_
                show Steps p.tables e below (s₁.setTop (mkF m 30 #[.val (.int st0)] [])) _
                refine XS.iloadN X0.here hx rfl (hb hby d1_30) rfl ?_
                show Steps p.tables e below (s₁.setTop (mkF m 31 #[.val (.int st0)] [(.int st0)])) _
                refine X0.ldcInt hx hown (mvT hZ (hw _ (List.mem_of_getElem? (i := 12) rfl))) (g := (mkF m 31 #[.val (.int st0)] [(.int st0)])) rfl (hb hby d1_31) _ ?_
                exact k)
            by_cases hc33 : st0 < (57344 : Int32)
            · skip
              have pre23 : ∀ t, Steps p.tables e below (s₁.setTop (mkF m 45 #[.val (.int st0)] [(.int (65536 : Int32)), (.int st0)])) t → Steps p.tables e below (s₁.setTop (entryFrame m #[(.int st0)] 1)) t := fun t k => pre22 t (by
                  show Steps p.tables e below (s₁.setTop (mkF m 33 #[.val (.int st0)] [(.int (57344 : Int32)), (.int st0)])) _
                  refine XS.icmpYes X0.here hx rfl (pc0 := 33) (pc' := 42) rfl (hb hby d1_33) rfl (tlt hc33).1 (by decide) (by decide) ?_
                  show Steps p.tables e below (s₁.setTop (mkF m 42 #[.val (.int st0)] [])) _
                  refine XS.iloadN X0.here hx rfl (hb hby d1_42) rfl ?_
                  show Steps p.tables e below (s₁.setTop (mkF m 43 #[.val (.int st0)] [(.int st0)])) _
                  refine X0.ldcInt hx hown (mvT hZ (hw _ (List.mem_of_getElem? (i := 13) rfl))) (g := (mkF m 43 #[.val (.int st0)] [(.int st0)])) rfl (hb hby d1_43) _ ?_
                  exact k)
              by_cases hc45 : st0 < (65536 : Int32)
              · skip
                have pre24 : ∀ t, Steps p.tables e below (s₁.setTop (mkF m 59 #[.val (.int st0)] [(.int (0 : Int32))])) t → Steps p.tables e below (s₁.setTop (entryFrame m #[(.int st0)] 1)) t := fun t k => pre23 t (by
                    show Steps p.tables e below (s₁.setTop (mkF m 45 #[.val (.int st0)] [(.int (65536 : Int32)), (.int st0)])) _
                    refine XS.icmpYes X0.here hx rfl (pc0 := 45) (pc' := 58) rfl (hb hby d1_45) rfl (tlt hc45).1 (by decide) (by decide) ?_
                    show Steps p.tables e below (s₁.setTop (mkF m 58 #[.val (.int st0)] [])) _
                    refine XS.iconst X0.here hx rfl (hb hby d1_58) ?_
                    exact k)
                obtain ⟨fs, hr, hrun, hended, hW, hsame⟩ := X0.leave (v := some (.int (0 : Int32))) (fun h => by rw [Bd.returns] at h; cases h)
                refine ⟨_, _, pre24 _ ?_, hrun, hended, _, _, rfl, ?_, ⟨_, rfl⟩, hW, hsame.mono (by decide) (by decide)⟩
                · show Steps p.tables e below (s₁.setTop (mkF m 59 #[.val (.int st0)] [(.int (0 : Int32))])) _
                  exact retN X0 hx (t := .boolean) Bd.returns (by simp) (hb hby d1_59) hr
                · show Q1 Z st0 h0 n0 _ s₁.heap _
                  rw [e0]
                  exact ⟨(0 : Int32), rfl, (Or.inr ⟨(by simp only [own_X, Int32.lt_iff_toInt_lt, ← Int32.toInt_inj, Int32.reduceToInt] at hc3 hc9 hc15 hc21 hc27 hc33 hc45 ⊢; omega), rfl⟩), N0, rfl⟩
              · skip
                have pre25 : ∀ t, Steps p.tables e below (s₁.setTop (mkF m 51 #[.val (.int st0)] [(.int (1114111 : Int32)), (.int st0)])) t → Steps p.tables e below (s₁.setTop (entryFrame m #[(.int st0)] 1)) t := fun t k => pre23 t (by
                    show Steps p.tables e below (s₁.setTop (mkF m 45 #[.val (.int st0)] [(.int (65536 : Int32)), (.int st0)])) _
                    refine XS.icmpNo X0.here hx rfl (hb hby d1_45) rfl (flt hc45).1 ?_
                    show Steps p.tables e below (s₁.setTop (mkF m 48 #[.val (.int st0)] [])) _
                    refine XS.iloadN X0.here hx rfl (hb hby d1_48) rfl ?_
                    show Steps p.tables e below (s₁.setTop (mkF m 49 #[.val (.int st0)] [(.int st0)])) _
                    refine X0.ldcInt hx hown (mvT hZ (hw _ (List.mem_of_getElem? (i := 22) rfl))) (g := (mkF m 49 #[.val (.int st0)] [(.int st0)])) rfl (hb hby d1_49) _ ?_
                    exact k)
                by_cases hc51 : (1114111 : Int32) < st0
                · skip
                  have pre26 : ∀ t, Steps p.tables e below (s₁.setTop (mkF m 59 #[.val (.int st0)] [(.int (0 : Int32))])) t → Steps p.tables e below (s₁.setTop (entryFrame m #[(.int st0)] 1)) t := fun t k => pre25 t (by
                      show Steps p.tables e below (s₁.setTop (mkF m 51 #[.val (.int st0)] [(.int (1114111 : Int32)), (.int st0)])) _
                      refine XS.icmpYes X0.here hx rfl (pc0 := 51) (pc' := 58) rfl (hb hby d1_51) rfl (tlt hc51).2.2.1 (by decide) (by decide) ?_
                      show Steps p.tables e below (s₁.setTop (mkF m 58 #[.val (.int st0)] [])) _
                      refine XS.iconst X0.here hx rfl (hb hby d1_58) ?_
                      exact k)
                  obtain ⟨fs, hr, hrun, hended, hW, hsame⟩ := X0.leave (v := some (.int (0 : Int32))) (fun h => by rw [Bd.returns] at h; cases h)
                  refine ⟨_, _, pre26 _ ?_, hrun, hended, _, _, rfl, ?_, ⟨_, rfl⟩, hW, hsame.mono (by decide) (by decide)⟩
                  · show Steps p.tables e below (s₁.setTop (mkF m 59 #[.val (.int st0)] [(.int (0 : Int32))])) _
                    exact retN X0 hx (t := .boolean) Bd.returns (by simp) (hb hby d1_59) hr
                  · show Q1 Z st0 h0 n0 _ s₁.heap _
                    rw [e0]
                    exact ⟨(0 : Int32), rfl, (Or.inr ⟨(by simp only [own_X, Int32.lt_iff_toInt_lt, ← Int32.toInt_inj, Int32.reduceToInt] at hc3 hc9 hc15 hc21 hc27 hc33 hc45 hc51 ⊢; omega), rfl⟩), N0, rfl⟩
                · skip
                  have pre27 : ∀ t, Steps p.tables e below (s₁.setTop (mkF m 59 #[.val (.int st0)] [(.int (1 : Int32))])) t → Steps p.tables e below (s₁.setTop (entryFrame m #[(.int st0)] 1)) t := fun t k => pre25 t (by
                      show Steps p.tables e below (s₁.setTop (mkF m 51 #[.val (.int st0)] [(.int (1114111 : Int32)), (.int st0)])) _
                      refine XS.icmpNo X0.here hx rfl (hb hby d1_51) rfl (flt hc51).2.2.1 ?_
                      show Steps p.tables e below (s₁.setTop (mkF m 54 #[.val (.int st0)] [])) _
                      refine XS.iconst X0.here hx rfl (hb hby d1_54) ?_
                      show Steps p.tables e below (s₁.setTop (mkF m 55 #[.val (.int st0)] [(.int (1 : Int32))])) _
                      refine XS.goto X0.here hx rfl (pc0 := 55) (pc' := 59) rfl (hb hby d1_55) (by decide) (by decide) ?_
                      exact k)
                  obtain ⟨fs, hr, hrun, hended, hW, hsame⟩ := X0.leave (v := some (.int (1 : Int32))) (fun h => by rw [Bd.returns] at h; cases h)
                  refine ⟨_, _, pre27 _ ?_, hrun, hended, _, _, rfl, ?_, ⟨_, rfl⟩, hW, hsame.mono (by decide) (by decide)⟩
                  · show Steps p.tables e below (s₁.setTop (mkF m 59 #[.val (.int st0)] [(.int (1 : Int32))])) _
                    exact retN X0 hx (t := .boolean) Bd.returns (by simp) (hb hby d1_59) hr
                  · show Q1 Z st0 h0 n0 _ s₁.heap _
                    rw [e0]
                    exact ⟨(1 : Int32), rfl, (Or.inl ⟨(by simp only [own_X, Int32.lt_iff_toInt_lt, ← Int32.toInt_inj, Int32.reduceToInt] at hc3 hc9 hc15 hc21 hc27 hc33 hc45 hc51 ⊢; omega), rfl⟩), N0, rfl⟩
            · skip
              have pre28 : ∀ t, Steps p.tables e below (s₁.setTop (mkF m 39 #[.val (.int st0)] [(.int (65533 : Int32)), (.int st0)])) t → Steps p.tables e below (s₁.setTop (entryFrame m #[(.int st0)] 1)) t := fun t k => pre22 t (by
                  show Steps p.tables e below (s₁.setTop (mkF m 33 #[.val (.int st0)] [(.int (57344 : Int32)), (.int st0)])) _
                  refine XS.icmpNo X0.here hx rfl (hb hby d1_33) rfl (flt hc33).1 ?_
                  show Steps p.tables e below (s₁.setTop (mkF m 36 #[.val (.int st0)] [])) _
                  refine XS.iloadN X0.here hx rfl (hb hby d1_36) rfl ?_
                  show Steps p.tables e below (s₁.setTop (mkF m 37 #[.val (.int st0)] [(.int st0)])) _
                  refine X0.ldcInt hx hown (mvT hZ (hw _ (List.mem_of_getElem? (i := 21) rfl))) (g := (mkF m 37 #[.val (.int st0)] [(.int st0)])) rfl (hb hby d1_37) _ ?_
                  exact k)
              by_cases hc39 : (65533 : Int32) < st0
              · skip
                have pre29 : ∀ t, Steps p.tables e below (s₁.setTop (mkF m 45 #[.val (.int st0)] [(.int (65536 : Int32)), (.int st0)])) t → Steps p.tables e below (s₁.setTop (entryFrame m #[(.int st0)] 1)) t := fun t k => pre28 t (by
                    show Steps p.tables e below (s₁.setTop (mkF m 39 #[.val (.int st0)] [(.int (65533 : Int32)), (.int st0)])) _
                    refine XS.icmpNo X0.here hx rfl (hb hby d1_39) rfl (tlt hc39).2.2.2 ?_
                    show Steps p.tables e below (s₁.setTop (mkF m 42 #[.val (.int st0)] [])) _
                    refine XS.iloadN X0.here hx rfl (hb hby d1_42) rfl ?_
                    show Steps p.tables e below (s₁.setTop (mkF m 43 #[.val (.int st0)] [(.int st0)])) _
                    refine X0.ldcInt hx hown (mvT hZ (hw _ (List.mem_of_getElem? (i := 13) rfl))) (g := (mkF m 43 #[.val (.int st0)] [(.int st0)])) rfl (hb hby d1_43) _ ?_
                    exact k)
                by_cases hc45 : st0 < (65536 : Int32)
                · skip
                  have pre30 : ∀ t, Steps p.tables e below (s₁.setTop (mkF m 59 #[.val (.int st0)] [(.int (0 : Int32))])) t → Steps p.tables e below (s₁.setTop (entryFrame m #[(.int st0)] 1)) t := fun t k => pre29 t (by
                      show Steps p.tables e below (s₁.setTop (mkF m 45 #[.val (.int st0)] [(.int (65536 : Int32)), (.int st0)])) _
                      refine XS.icmpYes X0.here hx rfl (pc0 := 45) (pc' := 58) rfl (hb hby d1_45) rfl (tlt hc45).1 (by decide) (by decide) ?_
                      show Steps p.tables e below (s₁.setTop (mkF m 58 #[.val (.int st0)] [])) _
                      refine XS.iconst X0.here hx rfl (hb hby d1_58) ?_
                      exact k)
                  obtain ⟨fs, hr, hrun, hended, hW, hsame⟩ := X0.leave (v := some (.int (0 : Int32))) (fun h => by rw [Bd.returns] at h; cases h)
                  refine ⟨_, _, pre30 _ ?_, hrun, hended, _, _, rfl, ?_, ⟨_, rfl⟩, hW, hsame.mono (by decide) (by decide)⟩
                  · show Steps p.tables e below (s₁.setTop (mkF m 59 #[.val (.int st0)] [(.int (0 : Int32))])) _
                    exact retN X0 hx (t := .boolean) Bd.returns (by simp) (hb hby d1_59) hr
                  · show Q1 Z st0 h0 n0 _ s₁.heap _
                    rw [e0]
                    exact ⟨(0 : Int32), rfl, (Or.inr ⟨(by simp only [own_X, Int32.lt_iff_toInt_lt, ← Int32.toInt_inj, Int32.reduceToInt] at hc3 hc9 hc15 hc21 hc27 hc33 hc39 hc45 ⊢; omega), rfl⟩), N0, rfl⟩
                · skip
                  have pre31 : ∀ t, Steps p.tables e below (s₁.setTop (mkF m 51 #[.val (.int st0)] [(.int (1114111 : Int32)), (.int st0)])) t → Steps p.tables e below (s₁.setTop (entryFrame m #[(.int st0)] 1)) t := fun t k => pre29 t (by
                      show Steps p.tables e below (s₁.setTop (mkF m 45 #[.val (.int st0)] [(.int (65536 : Int32)), (.int st0)])) _
                      refine XS.icmpNo X0.here hx rfl (hb hby d1_45) rfl (flt hc45).1 ?_
                      show Steps p.tables e below (s₁.setTop (mkF m 48 #[.val (.int st0)] [])) _
                      refine XS.iloadN X0.here hx rfl (hb hby d1_48) rfl ?_
                      show Steps p.tables e below (s₁.setTop (mkF m 49 #[.val (.int st0)] [(.int st0)])) _
                      refine X0.ldcInt hx hown (mvT hZ (hw _ (List.mem_of_getElem? (i := 22) rfl))) (g := (mkF m 49 #[.val (.int st0)] [(.int st0)])) rfl (hb hby d1_49) _ ?_
                      exact k)
                  by_cases hc51 : (1114111 : Int32) < st0
                  · skip
                    have pre32 : ∀ t, Steps p.tables e below (s₁.setTop (mkF m 59 #[.val (.int st0)] [(.int (0 : Int32))])) t → Steps p.tables e below (s₁.setTop (entryFrame m #[(.int st0)] 1)) t := fun t k => pre31 t (by
                        show Steps p.tables e below (s₁.setTop (mkF m 51 #[.val (.int st0)] [(.int (1114111 : Int32)), (.int st0)])) _
                        refine XS.icmpYes X0.here hx rfl (pc0 := 51) (pc' := 58) rfl (hb hby d1_51) rfl (tlt hc51).2.2.1 (by decide) (by decide) ?_
                        show Steps p.tables e below (s₁.setTop (mkF m 58 #[.val (.int st0)] [])) _
                        refine XS.iconst X0.here hx rfl (hb hby d1_58) ?_
                        exact k)
                    obtain ⟨fs, hr, hrun, hended, hW, hsame⟩ := X0.leave (v := some (.int (0 : Int32))) (fun h => by rw [Bd.returns] at h; cases h)
                    refine ⟨_, _, pre32 _ ?_, hrun, hended, _, _, rfl, ?_, ⟨_, rfl⟩, hW, hsame.mono (by decide) (by decide)⟩
                    · show Steps p.tables e below (s₁.setTop (mkF m 59 #[.val (.int st0)] [(.int (0 : Int32))])) _
                      exact retN X0 hx (t := .boolean) Bd.returns (by simp) (hb hby d1_59) hr
                    · show Q1 Z st0 h0 n0 _ s₁.heap _
                      rw [e0]
                      exact ⟨(0 : Int32), rfl, (Or.inr ⟨(by simp only [own_X, Int32.lt_iff_toInt_lt, ← Int32.toInt_inj, Int32.reduceToInt] at hc3 hc9 hc15 hc21 hc27 hc33 hc39 hc45 hc51 ⊢; omega), rfl⟩), N0, rfl⟩
                  · skip
                    have pre33 : ∀ t, Steps p.tables e below (s₁.setTop (mkF m 59 #[.val (.int st0)] [(.int (1 : Int32))])) t → Steps p.tables e below (s₁.setTop (entryFrame m #[(.int st0)] 1)) t := fun t k => pre31 t (by
                        show Steps p.tables e below (s₁.setTop (mkF m 51 #[.val (.int st0)] [(.int (1114111 : Int32)), (.int st0)])) _
                        refine XS.icmpNo X0.here hx rfl (hb hby d1_51) rfl (flt hc51).2.2.1 ?_
                        show Steps p.tables e below (s₁.setTop (mkF m 54 #[.val (.int st0)] [])) _
                        refine XS.iconst X0.here hx rfl (hb hby d1_54) ?_
                        show Steps p.tables e below (s₁.setTop (mkF m 55 #[.val (.int st0)] [(.int (1 : Int32))])) _
                        refine XS.goto X0.here hx rfl (pc0 := 55) (pc' := 59) rfl (hb hby d1_55) (by decide) (by decide) ?_
                        exact k)
                    obtain ⟨fs, hr, hrun, hended, hW, hsame⟩ := X0.leave (v := some (.int (1 : Int32))) (fun h => by rw [Bd.returns] at h; cases h)
                    refine ⟨_, _, pre33 _ ?_, hrun, hended, _, _, rfl, ?_, ⟨_, rfl⟩, hW, hsame.mono (by decide) (by decide)⟩
                    · show Steps p.tables e below (s₁.setTop (mkF m 59 #[.val (.int st0)] [(.int (1 : Int32))])) _
                      exact retN X0 hx (t := .boolean) Bd.returns (by simp) (hb hby d1_59) hr
                    · show Q1 Z st0 h0 n0 _ s₁.heap _
                      rw [e0]
                      exact ⟨(1 : Int32), rfl, (Or.inl ⟨(by simp only [own_X, Int32.lt_iff_toInt_lt, ← Int32.toInt_inj, Int32.reduceToInt] at hc3 hc9 hc15 hc21 hc27 hc33 hc39 hc45 hc51 ⊢; omega), rfl⟩), N0, rfl⟩
              · skip
                have pre34 : ∀ t, Steps p.tables e below (s₁.setTop (mkF m 59 #[.val (.int st0)] [(.int (1 : Int32))])) t → Steps p.tables e below (s₁.setTop (entryFrame m #[(.int st0)] 1)) t := fun t k => pre28 t (by
                    show Steps p.tables e below (s₁.setTop (mkF m 39 #[.val (.int st0)] [(.int (65533 : Int32)), (.int st0)])) _
                    refine XS.icmpYes X0.here hx rfl (pc0 := 39) (pc' := 54) rfl (hb hby d1_39) rfl (flt hc39).2.2.2 (by decide) (by decide) ?_
                    show Steps p.tables e below (s₁.setTop (mkF m 54 #[.val (.int st0)] [])) _
                    refine XS.iconst X0.here hx rfl (hb hby d1_54) ?_
                    show Steps p.tables e below (s₁.setTop (mkF m 55 #[.val (.int st0)] [(.int (1 : Int32))])) _
                    refine XS.goto X0.here hx rfl (pc0 := 55) (pc' := 59) rfl (hb hby d1_55) (by decide) (by decide) ?_
                    exact k)
                obtain ⟨fs, hr, hrun, hended, hW, hsame⟩ := X0.leave (v := some (.int (1 : Int32))) (fun h => by rw [Bd.returns] at h; cases h)
                refine ⟨_, _, pre34 _ ?_, hrun, hended, _, _, rfl, ?_, ⟨_, rfl⟩, hW, hsame.mono (by decide) (by decide)⟩
                · show Steps p.tables e below (s₁.setTop (mkF m 59 #[.val (.int st0)] [(.int (1 : Int32))])) _
                  exact retN X0 hx (t := .boolean) Bd.returns (by simp) (hb hby d1_59) hr
                · show Q1 Z st0 h0 n0 _ s₁.heap _
                  rw [e0]
                  exact ⟨(1 : Int32), rfl, (Or.inl ⟨(by simp only [own_X, Int32.lt_iff_toInt_lt, ← Int32.toInt_inj, Int32.reduceToInt] at hc3 hc9 hc15 hc21 hc27 hc33 hc39 ⊢; omega), rfl⟩), N0, rfl⟩
          · skip
            have pre35 : ∀ t, Steps p.tables e below (s₁.setTop (mkF m 59 #[.val (.int st0)] [(.int (1 : Int32))])) t → Steps p.tables e below (s₁.setTop (entryFrame m #[(.int st0)] 1)) t := fun t k => pre21 t (by
                show Steps p.tables e below (s₁.setTop (mkF m 27 #[.val (.int st0)] [(.int (55295 : Int32)), (.int st0)])) _
                refine XS.icmpYes X0.here hx rfl (pc0 := 27) (pc' := 54) rfl (hb hby d1_27) rfl (flt hc27).2.2.2 (by decide) (by decide) ?_
                show Steps p.tables e below (s₁.setTop (mkF m 54 #[.val (.int st0)] [])) _
                refine XS.iconst X0.here hx rfl (hb hby d1_54) ?_
                show Steps p.tables e below (s₁.setTop (mkF m 55 #[.val (.int st0)] [(.int (1 : Int32))])) _
                refine XS.goto X0.here hx rfl (pc0 := 55) (pc' := 59) rfl (hb hby d1_55) (by decide) (by decide) ?_
                exact k)
            obtain ⟨fs, hr, hrun, hended, hW, hsame⟩ := X0.leave (v := some (.int (1 : Int32))) (fun h => by rw [Bd.returns] at h; cases h)
            refine ⟨_, _, pre35 _ ?_, hrun, hended, _, _, rfl, ?_, ⟨_, rfl⟩, hW, hsame.mono (by decide) (by decide)⟩
            · show Steps p.tables e below (s₁.setTop (mkF m 59 #[.val (.int st0)] [(.int (1 : Int32))])) _
              exact retN X0 hx (t := .boolean) Bd.returns (by simp) (hb hby d1_59) hr
            · show Q1 Z st0 h0 n0 _ s₁.heap _
              rw [e0]
              exact ⟨(1 : Int32), rfl, (Or.inl ⟨(by simp only [own_X, Int32.lt_iff_toInt_lt, ← Int32.toInt_inj, Int32.reduceToInt] at hc3 hc9 hc15 hc21 hc27 ⊢; omega), rfl⟩), N0, rfl⟩
theorem d2_0 : decode method_3_code 0 = .ok (.iload_n 0, 1) := by decide +kernel
theorem d2_1 : decode method_3_code 1 = .ok (.ifCond .lt 9, 3) := by decide +kernel
theorem d2_4 : decode method_3_code 4 = .ok (.iload_n 0, 1) := by decide +kernel
theorem d2_5 : decode method_3_code 5 = .ok (.ldc 27, 2) := by decide +kernel
theorem d2_7 : decode method_3_code 7 = .ok (.if_icmp .le 5, 3) := by decide +kernel
theorem d2_10 : decode method_3_code 10 = .ok (.iconst 0, 1) := by decide +kernel
theorem d2_11 : decode method_3_code 11 = .ok (.ireturn, 1) := by decide +kernel
theorem d2_12 : decode method_3_code 12 = .ok (.iload_n 0, 1) := by decide +kernel
theorem d2_13 : decode method_3_code 13 = .ok (.bipush 32, 2) := by decide +kernel
theorem d2_15 : decode method_3_code 15 = .ok (.if_icmp .ge 27, 3) := by decide +kernel
theorem d2_18 : decode method_3_code 18 = .ok (.iload_n 0, 1) := by decide +kernel
theorem d2_19 : decode method_3_code 19 = .ok (.bipush 9, 2) := by decide +kernel
theorem d2_21 : decode method_3_code 21 = .ok (.if_icmp .eq 15, 3) := by decide +kernel
theorem d2_24 : decode method_3_code 24 = .ok (.iload_n 0, 1) := by decide +kernel
theorem d2_25 : decode method_3_code 25 = .ok (.bipush 10, 2) := by decide +kernel
theorem d2_27 : decode method_3_code 27 = .ok (.if_icmp .eq 9, 3) := by decide +kernel
theorem d2_30 : decode method_3_code 30 = .ok (.iload_n 0, 1) := by decide +kernel
theorem d2_31 : decode method_3_code 31 = .ok (.bipush 13, 2) := by decide +kernel
theorem d2_33 : decode method_3_code 33 = .ok (.if_icmp .ne 7, 3) := by decide +kernel
theorem d2_36 : decode method_3_code 36 = .ok (.iconst 1, 1) := by decide +kernel
theorem d2_37 : decode method_3_code 37 = .ok (.goto 4, 3) := by decide +kernel
theorem d2_40 : decode method_3_code 40 = .ok (.iconst 0, 1) := by decide +kernel
theorem d2_41 : decode method_3_code 41 = .ok (.ireturn, 1) := by decide +kernel
theorem d2_42 : decode method_3_code 42 = .ok (.iload_n 0, 1) := by decide +kernel
theorem d2_43 : decode method_3_code 43 = .ok (.ldc 7, 2) := by decide +kernel
theorem d2_45 : decode method_3_code 45 = .ok (.if_icmp .lt 11, 3) := by decide +kernel
theorem d2_48 : decode method_3_code 48 = .ok (.iload_n 0, 1) := by decide +kernel
theorem d2_49 : decode method_3_code 49 = .ok (.ldc 28, 2) := by decide +kernel
theorem d2_51 : decode method_3_code 51 = .ok (.if_icmp .gt 5, 3) := by decide +kernel
theorem d2_54 : decode method_3_code 54 = .ok (.iconst 0, 1) := by decide +kernel
theorem d2_55 : decode method_3_code 55 = .ok (.ireturn, 1) := by decide +kernel
theorem d2_56 : decode method_3_code 56 = .ok (.iload_n 0, 1) := by decide +kernel
theorem d2_57 : decode method_3_code 57 = .ok (.ldc 9, 2) := by decide +kernel
theorem d2_59 : decode method_3_code 59 = .ok (.if_icmp .eq 9, 3) := by decide +kernel
theorem d2_62 : decode method_3_code 62 = .ok (.iload_n 0, 1) := by decide +kernel
theorem d2_63 : decode method_3_code 63 = .ok (.ldc 29, 2) := by decide +kernel
theorem d2_65 : decode method_3_code 65 = .ok (.if_icmp .ne 5, 3) := by decide +kernel
theorem d2_68 : decode method_3_code 68 = .ok (.iconst 0, 1) := by decide +kernel
theorem d2_69 : decode method_3_code 69 = .ok (.ireturn, 1) := by decide +kernel
theorem d2_70 : decode method_3_code 70 = .ok (.iconst 1, 1) := by decide +kernel
theorem d2_71 : decode method_3_code 71 = .ok (.ireturn, 1) := by decide +kernel
theorem pn_2 : plainName "com/example/libnetlay/libnetlay/io/EntitiesIsXmlCharacterPinLaw" = true := by first | (simp [plainName, overriddenIn]; done) | decide +kernel
theorem ef_2 (m : MethodId) (p0 : Int32) : entryFrame m #[(.int p0)] 1 = mkF m 0 #[.val (.int p0)] [] := by first | (simp [entryFrame, mkF, argsToLocals, Value.category]; done) | rfl
def Q2 (Z : State) (st0 : Int32)  (h0 : Heap) (n0 : Nat) (v : Option Value) (h : Heap) (L : List Loc) : Prop := ∃ z : Int32, v = some (.int z) ∧ own_says (own_X st0) z ∧ Fr n0 L ∧ h = h0
set_option maxRecDepth 65536 in
set_option maxHeartbeats 40000000 in
theorem rm2 (l : Launch) (Z : State) (a0 : Array Value) (hw : ∀ d ∈ tables_1, d.before a0 Z = true) (ws : List Jvm.Cond) (st0 : Int32)  (h0 : Heap) (n0 : Nat) (Z0 : n0 ≤ h0.size)  :
    MetFree l (⟨"com/example/libnetlay/libnetlay/io/EntitiesIsXmlCharacterPinLaw", "expected", "(I)Z"⟩ : MethodName) (head1 (Jvm.Cond.code (⟨"com/example/libnetlay/libnetlay/io/EntitiesIsXmlCharacterPinLaw", "expected", "(I)Z"⟩ : MethodName) method_3_code 1 (some .boolean) :: ws) ({ frames := 0, cells := 0, slots := 0, locals := 0 } : Room)) (fun a U => a = #[(.int st0)] ∧ Z.Warmed39 U.vm ∧ U.heap = h0) (fun _ _ _ _ _ => True) (fun _ U o U' => ∃ v L, o = .returned v ∧ Q2 Z st0 h0 n0 v U'.heap L ∧ FrameEnd U o U' L ({ frames := 0, cells := 0, slots := 0, locals := 0 } : Room).cells ({ frames := 0, cells := 0, slots := 0, locals := 0 } : Room).slots) := by
  refine MetFree.of_bodySF (plainFor_of_name pn_2) hisR ?_
  intro p e s m args below meth c s₁ Bd hml0 hP hK
  obtain ⟨rfl, hZ, hh⟩ := hP
  have hx := Bd.exec
  have hby := Bd.bytes
  have hml : c.maxLocals = 1 := hml0
  have hown : s.vm.findClass "com/example/libnetlay/libnetlay/io/EntitiesIsXmlCharacterPinLaw" = some m.cls := findClass_of_methodNamed Bd.named
  have hnm := (name_of_methodNamed Bd.named Bd.method).1
  have X0 : Stand p l e ({ frames := 0, cells := 0, slots := 0, locals := 0 } : Room) s m #[(.int st0)] below meth c s₁ [] 0 0 := Stand.of_body Bd
  have e0 : s₁.heap = h0 := by rw [← hh, Bd.state]; rfl
  have N0 := Fr.nil n0
  have pre0 : ∀ t, Steps p.tables e below (s₁.setTop (mkF m 0 #[.val (.int st0)] [])) t → Steps p.tables e below (s₁.setTop (entryFrame m #[(.int st0)] 1)) t := fun t k => castTop (ef_2 m st0) k
  have pre36 : ∀ t, Steps p.tables e below (s₁.setTop (mkF m 1 #[.val (.int st0)] [(.int st0)])) t → Steps p.tables e below (s₁.setTop (entryFrame m #[(.int st0)] 1)) t := fun t k => pre0 t (by
      show Steps p.tables e below (s₁.setTop (mkF m 0 #[.val (.int st0)] [])) _
      refine XS.iloadN X0.here hx rfl (hb hby d2_0) rfl ?_
      exact k)
  by_cases hc1 : st0 < (0 : Int32)
  · skip
    have pre37 : ∀ t, Steps p.tables e below (s₁.setTop (mkF m 11 #[.val (.int st0)] [(.int (0 : Int32))])) t → Steps p.tables e below (s₁.setTop (entryFrame m #[(.int st0)] 1)) t := fun t k => pre36 t (by
        show Steps p.tables e below (s₁.setTop (mkF m 1 #[.val (.int st0)] [(.int st0)])) _
        refine XS.ifYes X0.here hx rfl (pc0 := 1) (pc' := 10) rfl (hb hby d2_1) rfl ((if0 _ _).trans (tlt hc1).1) (by decide) (by decide) ?_
        show Steps p.tables e below (s₁.setTop (mkF m 10 #[.val (.int st0)] [])) _
        refine XS.iconst X0.here hx rfl (hb hby d2_10) ?_
        exact k)
    obtain ⟨fs, hr, hrun, hended, hW, hsame⟩ := X0.leave (v := some (.int (0 : Int32))) (fun h => by rw [Bd.returns] at h; cases h)
    refine ⟨_, _, pre37 _ ?_, hrun, hended, _, _, rfl, ?_, ⟨_, rfl⟩, hW, hsame.mono (by decide) (by decide)⟩
    · show Steps p.tables e below (s₁.setTop (mkF m 11 #[.val (.int st0)] [(.int (0 : Int32))])) _
      exact retN X0 hx (t := .boolean) Bd.returns (by simp) (hb hby d2_11) hr
    · show Q2 Z st0 h0 n0 _ s₁.heap _
      rw [e0]
      exact ⟨(0 : Int32), rfl, (Or.inr ⟨(by simp only [own_X, Int32.lt_iff_toInt_lt, ← Int32.toInt_inj, Int32.reduceToInt] at hc1 ⊢; omega), rfl⟩), N0, rfl⟩
  · skip
    have pre38 : ∀ t, Steps p.tables e below (s₁.setTop (mkF m 7 #[.val (.int st0)] [(.int (1114111 : Int32)), (.int st0)])) t → Steps p.tables e below (s₁.setTop (entryFrame m #[(.int st0)] 1)) t := fun t k => pre36 t (by
        show Steps p.tables e below (s₁.setTop (mkF m 1 #[.val (.int st0)] [(.int st0)])) _
        refine XS.ifNo X0.here hx rfl (hb hby d2_1) rfl ((if0 _ _).trans (flt hc1).1) ?_
        show Steps p.tables e below (s₁.setTop (mkF m 4 #[.val (.int st0)] [])) _
        refine XS.iloadN X0.here hx rfl (hb hby d2_4) rfl ?_
        show Steps p.tables e below (s₁.setTop (mkF m 5 #[.val (.int st0)] [(.int st0)])) _
        refine X0.ldcInt hx hown (mvT hZ (hw _ (List.mem_of_getElem? (i := 18) rfl))) (g := (mkF m 5 #[.val (.int st0)] [(.int st0)])) rfl (hb hby d2_5) _ ?_
        exact k)
    by_cases hc7 : (1114111 : Int32) < st0
    · skip
      have pre39 : ∀ t, Steps p.tables e below (s₁.setTop (mkF m 11 #[.val (.int st0)] [(.int (0 : Int32))])) t → Steps p.tables e below (s₁.setTop (entryFrame m #[(.int st0)] 1)) t := fun t k => pre38 t (by
          show Steps p.tables e below (s₁.setTop (mkF m 7 #[.val (.int st0)] [(.int (1114111 : Int32)), (.int st0)])) _
          refine XS.icmpNo X0.here hx rfl (hb hby d2_7) rfl (tlt hc7).2.2.2 ?_
          show Steps p.tables e below (s₁.setTop (mkF m 10 #[.val (.int st0)] [])) _
          refine XS.iconst X0.here hx rfl (hb hby d2_10) ?_
          exact k)
      obtain ⟨fs, hr, hrun, hended, hW, hsame⟩ := X0.leave (v := some (.int (0 : Int32))) (fun h => by rw [Bd.returns] at h; cases h)
      refine ⟨_, _, pre39 _ ?_, hrun, hended, _, _, rfl, ?_, ⟨_, rfl⟩, hW, hsame.mono (by decide) (by decide)⟩
      · show Steps p.tables e below (s₁.setTop (mkF m 11 #[.val (.int st0)] [(.int (0 : Int32))])) _
        exact retN X0 hx (t := .boolean) Bd.returns (by simp) (hb hby d2_11) hr
      · show Q2 Z st0 h0 n0 _ s₁.heap _
        rw [e0]
        exact ⟨(0 : Int32), rfl, (Or.inr ⟨(by simp only [own_X, Int32.lt_iff_toInt_lt, ← Int32.toInt_inj, Int32.reduceToInt] at hc1 hc7 ⊢; omega), rfl⟩), N0, rfl⟩
    · skip
      have pre40 : ∀ t, Steps p.tables e below (s₁.setTop (mkF m 15 #[.val (.int st0)] [(.int (32 : Int32)), (.int st0)])) t → Steps p.tables e below (s₁.setTop (entryFrame m #[(.int st0)] 1)) t := fun t k => pre38 t (by
          show Steps p.tables e below (s₁.setTop (mkF m 7 #[.val (.int st0)] [(.int (1114111 : Int32)), (.int st0)])) _
          refine XS.icmpYes X0.here hx rfl (pc0 := 7) (pc' := 12) rfl (hb hby d2_7) rfl (flt hc7).2.2.2 (by decide) (by decide) ?_
          show Steps p.tables e below (s₁.setTop (mkF m 12 #[.val (.int st0)] [])) _
          refine XS.iloadN X0.here hx rfl (hb hby d2_12) rfl ?_
          show Steps p.tables e below (s₁.setTop (mkF m 13 #[.val (.int st0)] [(.int st0)])) _
          refine XS.bipush X0.here hx rfl (hb hby d2_13) ?_
          exact k)
      by_cases hc15 : st0 < (32 : Int32)
      · skip
        have pre41 : ∀ t, Steps p.tables e below (s₁.setTop (mkF m 21 #[.val (.int st0)] [(.int (9 : Int32)), (.int st0)])) t → Steps p.tables e below (s₁.setTop (entryFrame m #[(.int st0)] 1)) t := fun t k => pre40 t (by
            show Steps p.tables e below (s₁.setTop (mkF m 15 #[.val (.int st0)] [(.int (32 : Int32)), (.int st0)])) _
            refine XS.icmpNo X0.here hx rfl (hb hby d2_15) rfl (tlt hc15).2.1 ?_
            show Steps p.tables e below (s₁.setTop (mkF m 18 #[.val (.int st0)] [])) _
            refine XS.iloadN X0.here hx rfl (hb hby d2_18) rfl ?_
            show Steps p.tables e below (s₁.setTop (mkF m 19 #[.val (.int st0)] [(.int st0)])) _
            refine XS.bipush X0.here hx rfl (hb hby d2_19) ?_
            exact k)
        by_cases hc21 : st0 = (9 : Int32)
        · skip
          have pre42 : ∀ t, Steps p.tables e below (s₁.setTop (mkF m 41 #[.val (.int st0)] [(.int (1 : Int32))])) t → Steps p.tables e below (s₁.setTop (entryFrame m #[(.int st0)] 1)) t := fun t k => pre41 t (by
              show Steps p.tables e below (s₁.setTop (mkF m 21 #[.val (.int st0)] [(.int (9 : Int32)), (.int st0)])) _
              refine XS.icmpYes X0.here hx rfl (pc0 := 21) (pc' := 36) rfl (hb hby d2_21) rfl (teq hc21).1 (by decide) (by decide) ?_
              show Steps p.tables e below (s₁.setTop (mkF m 36 #[.val (.int st0)] [])) _
              refine XS.iconst X0.here hx rfl (hb hby d2_36) ?_
              show Steps p.tables e below (s₁.setTop (mkF m 37 #[.val (.int st0)] [(.int (1 : Int32))])) _
              refine XS.goto X0.here hx rfl (pc0 := 37) (pc' := 41) rfl (hb hby d2_37) (by decide) (by decide) ?_
              exact k)
          obtain ⟨fs, hr, hrun, hended, hW, hsame⟩ := X0.leave (v := some (.int (1 : Int32))) (fun h => by rw [Bd.returns] at h; cases h)
          refine ⟨_, _, pre42 _ ?_, hrun, hended, _, _, rfl, ?_, ⟨_, rfl⟩, hW, hsame.mono (by decide) (by decide)⟩
          · show Steps p.tables e below (s₁.setTop (mkF m 41 #[.val (.int st0)] [(.int (1 : Int32))])) _
            exact retN X0 hx (t := .boolean) Bd.returns (by simp) (hb hby d2_41) hr
          · show Q2 Z st0 h0 n0 _ s₁.heap _
            rw [e0]
            exact ⟨(1 : Int32), rfl, (Or.inl ⟨(by simp only [own_X, Int32.lt_iff_toInt_lt, ← Int32.toInt_inj, Int32.reduceToInt] at hc1 hc7 hc15 hc21 ⊢; omega), rfl⟩), N0, rfl⟩
        · skip
          have pre43 : ∀ t, Steps p.tables e below (s₁.setTop (mkF m 27 #[.val (.int st0)] [(.int (10 : Int32)), (.int st0)])) t → Steps p.tables e below (s₁.setTop (entryFrame m #[(.int st0)] 1)) t := fun t k => pre41 t (by
              show Steps p.tables e below (s₁.setTop (mkF m 21 #[.val (.int st0)] [(.int (9 : Int32)), (.int st0)])) _
              refine XS.icmpNo X0.here hx rfl (hb hby d2_21) rfl (feq hc21).1 ?_
              show Steps p.tables e below (s₁.setTop (mkF m 24 #[.val (.int st0)] [])) _
              refine XS.iloadN X0.here hx rfl (hb hby d2_24) rfl ?_
              show Steps p.tables e below (s₁.setTop (mkF m 25 #[.val (.int st0)] [(.int st0)])) _
              refine XS.bipush X0.here hx rfl (hb hby d2_25) ?_
              exact k)
          by_cases hc27 : st0 = (10 : Int32)
          · skip
            have pre44 : ∀ t, Steps p.tables e below (s₁.setTop (mkF m 41 #[.val (.int st0)] [(.int (1 : Int32))])) t → Steps p.tables e below (s₁.setTop (entryFrame m #[(.int st0)] 1)) t := fun t k => pre43 t (by
                show Steps p.tables e below (s₁.setTop (mkF m 27 #[.val (.int st0)] [(.int (10 : Int32)), (.int st0)])) _
                refine XS.icmpYes X0.here hx rfl (pc0 := 27) (pc' := 36) rfl (hb hby d2_27) rfl (teq hc27).1 (by decide) (by decide) ?_
                show Steps p.tables e below (s₁.setTop (mkF m 36 #[.val (.int st0)] [])) _
                refine XS.iconst X0.here hx rfl (hb hby d2_36) ?_
                show Steps p.tables e below (s₁.setTop (mkF m 37 #[.val (.int st0)] [(.int (1 : Int32))])) _
                refine XS.goto X0.here hx rfl (pc0 := 37) (pc' := 41) rfl (hb hby d2_37) (by decide) (by decide) ?_
                exact k)
            obtain ⟨fs, hr, hrun, hended, hW, hsame⟩ := X0.leave (v := some (.int (1 : Int32))) (fun h => by rw [Bd.returns] at h; cases h)
            refine ⟨_, _, pre44 _ ?_, hrun, hended, _, _, rfl, ?_, ⟨_, rfl⟩, hW, hsame.mono (by decide) (by decide)⟩
            · show Steps p.tables e below (s₁.setTop (mkF m 41 #[.val (.int st0)] [(.int (1 : Int32))])) _
              exact retN X0 hx (t := .boolean) Bd.returns (by simp) (hb hby d2_41) hr
            · show Q2 Z st0 h0 n0 _ s₁.heap _
              rw [e0]
              exact ⟨(1 : Int32), rfl, (Or.inl ⟨(by simp only [own_X, Int32.lt_iff_toInt_lt, ← Int32.toInt_inj, Int32.reduceToInt] at hc1 hc7 hc15 hc21 hc27 ⊢; omega), rfl⟩), N0, rfl⟩
          · skip
            have pre45 : ∀ t, Steps p.tables e below (s₁.setTop (mkF m 33 #[.val (.int st0)] [(.int (13 : Int32)), (.int st0)])) t → Steps p.tables e below (s₁.setTop (entryFrame m #[(.int st0)] 1)) t := fun t k => pre43 t (by
                show Steps p.tables e below (s₁.setTop (mkF m 27 #[.val (.int st0)] [(.int (10 : Int32)), (.int st0)])) _
                refine XS.icmpNo X0.here hx rfl (hb hby d2_27) rfl (feq hc27).1 ?_
                show Steps p.tables e below (s₁.setTop (mkF m 30 #[.val (.int st0)] [])) _
                refine XS.iloadN X0.here hx rfl (hb hby d2_30) rfl ?_
                show Steps p.tables e below (s₁.setTop (mkF m 31 #[.val (.int st0)] [(.int st0)])) _
                refine XS.bipush X0.here hx rfl (hb hby d2_31) ?_
                exact k)
            by_cases hc33 : st0 = (13 : Int32)
            · skip
              have pre46 : ∀ t, Steps p.tables e below (s₁.setTop (mkF m 41 #[.val (.int st0)] [(.int (1 : Int32))])) t → Steps p.tables e below (s₁.setTop (entryFrame m #[(.int st0)] 1)) t := fun t k => pre45 t (by
                  show Steps p.tables e below (s₁.setTop (mkF m 33 #[.val (.int st0)] [(.int (13 : Int32)), (.int st0)])) _
                  refine XS.icmpNo X0.here hx rfl (hb hby d2_33) rfl (teq hc33).2 ?_
                  show Steps p.tables e below (s₁.setTop (mkF m 36 #[.val (.int st0)] [])) _
                  refine XS.iconst X0.here hx rfl (hb hby d2_36) ?_
                  show Steps p.tables e below (s₁.setTop (mkF m 37 #[.val (.int st0)] [(.int (1 : Int32))])) _
                  refine XS.goto X0.here hx rfl (pc0 := 37) (pc' := 41) rfl (hb hby d2_37) (by decide) (by decide) ?_
                  exact k)
              obtain ⟨fs, hr, hrun, hended, hW, hsame⟩ := X0.leave (v := some (.int (1 : Int32))) (fun h => by rw [Bd.returns] at h; cases h)
              refine ⟨_, _, pre46 _ ?_, hrun, hended, _, _, rfl, ?_, ⟨_, rfl⟩, hW, hsame.mono (by decide) (by decide)⟩
              · show Steps p.tables e below (s₁.setTop (mkF m 41 #[.val (.int st0)] [(.int (1 : Int32))])) _
                exact retN X0 hx (t := .boolean) Bd.returns (by simp) (hb hby d2_41) hr
              · show Q2 Z st0 h0 n0 _ s₁.heap _
                rw [e0]
                exact ⟨(1 : Int32), rfl, (Or.inl ⟨(by simp only [own_X, Int32.lt_iff_toInt_lt, ← Int32.toInt_inj, Int32.reduceToInt] at hc1 hc7 hc15 hc21 hc27 hc33 ⊢; omega), rfl⟩), N0, rfl⟩
            · skip
              have pre47 : ∀ t, Steps p.tables e below (s₁.setTop (mkF m 41 #[.val (.int st0)] [(.int (0 : Int32))])) t → Steps p.tables e below (s₁.setTop (entryFrame m #[(.int st0)] 1)) t := fun t k => pre45 t (by
                  show Steps p.tables e below (s₁.setTop (mkF m 33 #[.val (.int st0)] [(.int (13 : Int32)), (.int st0)])) _
                  refine XS.icmpYes X0.here hx rfl (pc0 := 33) (pc' := 40) rfl (hb hby d2_33) rfl (feq hc33).2 (by decide) (by decide) ?_
                  show Steps p.tables e below (s₁.setTop (mkF m 40 #[.val (.int st0)] [])) _
                  refine XS.iconst X0.here hx rfl (hb hby d2_40) ?_
                  exact k)
              obtain ⟨fs, hr, hrun, hended, hW, hsame⟩ := X0.leave (v := some (.int (0 : Int32))) (fun h => by rw [Bd.returns] at h; cases h)
              refine ⟨_, _, pre47 _ ?_, hrun, hended, _, _, rfl, ?_, ⟨_, rfl⟩, hW, hsame.mono (by decide) (by decide)⟩
              · show Steps p.tables e below (s₁.setTop (mkF m 41 #[.val (.int st0)] [(.int (0 : Int32))])) _
                exact retN X0 hx (t := .boolean) Bd.returns (by simp) (hb hby d2_41) hr
              · show Q2 Z st0 h0 n0 _ s₁.heap _
                rw [e0]
                exact ⟨(0 : Int32), rfl, (Or.inr ⟨(by simp only [own_X, Int32.lt_iff_toInt_lt, ← Int32.toInt_inj, Int32.reduceToInt] at hc1 hc7 hc15 hc21 hc27 hc33 ⊢; omega), rfl⟩), N0, rfl⟩
      · skip
        have pre48 : ∀ t, Steps p.tables e below (s₁.setTop (mkF m 45 #[.val (.int st0)] [(.int (55296 : Int32)), (.int st0)])) t → Steps p.tables e below (s₁.setTop (entryFrame m #[(.int st0)] 1)) t := fun t k => pre40 t (by
            show Steps p.tables e below (s₁.setTop (mkF m 15 #[.val (.int st0)] [(.int (32 : Int32)), (.int st0)])) _
            refine XS.icmpYes X0.here hx rfl (pc0 := 15) (pc' := 42) rfl (hb hby d2_15) rfl (flt hc15).2.1 (by decide) (by decide) ?_
            show Steps p.tables e below (s₁.setTop (mkF m 42 #[.val (.int st0)] [])) _
            refine XS.iloadN X0.here hx rfl (hb hby d2_42) rfl ?_
            show Steps p.tables e below (s₁.setTop (mkF m 43 #[.val (.int st0)] [(.int st0)])) _
            refine X0.ldcInt hx hown (mvT hZ (hw _ (List.mem_of_getElem? (i := 1) rfl))) (g := (mkF m 43 #[.val (.int st0)] [(.int st0)])) rfl (hb hby d2_43) _ ?_
            exact k)
        by_cases hc45 : st0 < (55296 : Int32)
        · skip
          have pre49 : ∀ t, Steps p.tables e below (s₁.setTop (mkF m 59 #[.val (.int st0)] [(.int (65534 : Int32)), (.int st0)])) t → Steps p.tables e below (s₁.setTop (entryFrame m #[(.int st0)] 1)) t := fun t k => pre48 t (by
              show Steps p.tables e below (s₁.setTop (mkF m 45 #[.val (.int st0)] [(.int (55296 : Int32)), (.int st0)])) _
              refine XS.icmpYes X0.here hx rfl (pc0 := 45) (pc' := 56) rfl (hb hby d2_45) rfl (tlt hc45).1 (by decide) (by decide) ?_
              show Steps p.tables e below (s₁.setTop (mkF m 56 #[.val (.int st0)] [])) _
              refine XS.iloadN X0.here hx rfl (hb hby d2_56) rfl ?_
              show Steps p.tables e below (s₁.setTop (mkF m 57 #[.val (.int st0)] [(.int st0)])) _
              refine X0.ldcInt hx hown (mvT hZ (hw _ (List.mem_of_getElem? (i := 3) rfl))) (g := (mkF m 57 #[.val (.int st0)] [(.int st0)])) rfl (hb hby d2_57) _ ?_
              exact k)
          by_cases hc59 : st0 = (65534 : Int32)
          · skip
            have pre50 : ∀ t, Steps p.tables e below (s₁.setTop (mkF m 69 #[.val (.int st0)] [(.int (0 : Int32))])) t → Steps p.tables e below (s₁.setTop (entryFrame m #[(.int st0)] 1)) t := fun t k => pre49 t (by
                show Steps p.tables e below (s₁.setTop (mkF m 59 #[.val (.int st0)] [(.int (65534 : Int32)), (.int st0)])) _
                refine XS.icmpYes X0.here hx rfl (pc0 := 59) (pc' := 68) rfl (hb hby d2_59) rfl (teq hc59).1 (by decide) (by decide) ?_
                show Steps p.tables e below (s₁.setTop (mkF m 68 #[.val (.int st0)] [])) _
                refine XS.iconst X0.here hx rfl (hb hby d2_68) ?_
                exact k)
            obtain ⟨fs, hr, hrun, hended, hW, hsame⟩ := X0.leave (v := some (.int (0 : Int32))) (fun h => by rw [Bd.returns] at h; cases h)
            refine ⟨_, _, pre50 _ ?_, hrun, hended, _, _, rfl, ?_, ⟨_, rfl⟩, hW, hsame.mono (by decide) (by decide)⟩
            · show Steps p.tables e below (s₁.setTop (mkF m 69 #[.val (.int st0)] [(.int (0 : Int32))])) _
              exact retN X0 hx (t := .boolean) Bd.returns (by simp) (hb hby d2_69) hr
            · show Q2 Z st0 h0 n0 _ s₁.heap _
              rw [e0]
              exact ⟨(0 : Int32), rfl, (Or.inr ⟨(by simp only [own_X, Int32.lt_iff_toInt_lt, ← Int32.toInt_inj, Int32.reduceToInt] at hc1 hc7 hc15 hc45 hc59 ⊢; omega), rfl⟩), N0, rfl⟩
          · skip
            have pre51 : ∀ t, Steps p.tables e below (s₁.setTop (mkF m 65 #[.val (.int st0)] [(.int (65535 : Int32)), (.int st0)])) t → Steps p.tables e below (s₁.setTop (entryFrame m #[(.int st0)] 1)) t := fun t k => pre49 t (by
                show Steps p.tables e below (s₁.setTop (mkF m 59 #[.val (.int st0)] [(.int (65534 : Int32)), (.int st0)])) _
                refine XS.icmpNo X0.here hx rfl (hb hby d2_59) rfl (feq hc59).1 ?_
                show Steps p.tables e below (s₁.setTop (mkF m 62 #[.val (.int st0)] [])) _
                refine XS.iloadN X0.here hx rfl (hb hby d2_62) rfl ?_
                show Steps p.tables e below (s₁.setTop (mkF m 63 #[.val (.int st0)] [(.int st0)])) _
                refine X0.ldcInt hx hown (mvT hZ (hw _ (List.mem_of_getElem? (i := 20) rfl))) (g := (mkF m 63 #[.val (.int st0)] [(.int st0)])) rfl (hb hby d2_63) _ ?_
                exact k)
            by_cases hc65 : st0 = (65535 : Int32)
            · skip
              have pre52 : ∀ t, Steps p.tables e below (s₁.setTop (mkF m 69 #[.val (.int st0)] [(.int (0 : Int32))])) t → Steps p.tables e below (s₁.setTop (entryFrame m #[(.int st0)] 1)) t := fun t k => pre51 t (by
                  show Steps p.tables e below (s₁.setTop (mkF m 65 #[.val (.int st0)] [(.int (65535 : Int32)), (.int st0)])) _
                  refine XS.icmpNo X0.here hx rfl (hb hby d2_65) rfl (teq hc65).2 ?_
                  show Steps p.tables e below (s₁.setTop (mkF m 68 #[.val (.int st0)] [])) _
                  refine XS.iconst X0.here hx rfl (hb hby d2_68) ?_
                  exact k)
              obtain ⟨fs, hr, hrun, hended, hW, hsame⟩ := X0.leave (v := some (.int (0 : Int32))) (fun h => by rw [Bd.returns] at h; cases h)
              refine ⟨_, _, pre52 _ ?_, hrun, hended, _, _, rfl, ?_, ⟨_, rfl⟩, hW, hsame.mono (by decide) (by decide)⟩
              · show Steps p.tables e below (s₁.setTop (mkF m 69 #[.val (.int st0)] [(.int (0 : Int32))])) _
                exact retN X0 hx (t := .boolean) Bd.returns (by simp) (hb hby d2_69) hr
              · show Q2 Z st0 h0 n0 _ s₁.heap _
                rw [e0]
                exact ⟨(0 : Int32), rfl, (Or.inr ⟨(by simp only [own_X, Int32.lt_iff_toInt_lt, ← Int32.toInt_inj, Int32.reduceToInt] at hc1 hc7 hc15 hc45 hc59 hc65 ⊢; omega), rfl⟩), N0, rfl⟩
            · skip
              have pre53 : ∀ t, Steps p.tables e below (s₁.setTop (mkF m 71 #[.val (.int st0)] [(.int (1 : Int32))])) t → Steps p.tables e below (s₁.setTop (entryFrame m #[(.int st0)] 1)) t := fun t k => pre51 t (by
                  show Steps p.tables e below (s₁.setTop (mkF m 65 #[.val (.int st0)] [(.int (65535 : Int32)), (.int st0)])) _
                  refine XS.icmpYes X0.here hx rfl (pc0 := 65) (pc' := 70) rfl (hb hby d2_65) rfl (feq hc65).2 (by decide) (by decide) ?_
                  show Steps p.tables e below (s₁.setTop (mkF m 70 #[.val (.int st0)] [])) _
                  refine XS.iconst X0.here hx rfl (hb hby d2_70) ?_
                  exact k)
              obtain ⟨fs, hr, hrun, hended, hW, hsame⟩ := X0.leave (v := some (.int (1 : Int32))) (fun h => by rw [Bd.returns] at h; cases h)
              refine ⟨_, _, pre53 _ ?_, hrun, hended, _, _, rfl, ?_, ⟨_, rfl⟩, hW, hsame.mono (by decide) (by decide)⟩
              · show Steps p.tables e below (s₁.setTop (mkF m 71 #[.val (.int st0)] [(.int (1 : Int32))])) _
                exact retN X0 hx (t := .boolean) Bd.returns (by simp) (hb hby d2_71) hr
              · show Q2 Z st0 h0 n0 _ s₁.heap _
                rw [e0]
                exact ⟨(1 : Int32), rfl, (Or.inl ⟨(by simp only [own_X, Int32.lt_iff_toInt_lt, ← Int32.toInt_inj, Int32.reduceToInt] at hc1 hc7 hc15 hc45 hc59 hc65 ⊢; omega), rfl⟩), N0, rfl⟩
        · skip
          have pre54 : ∀ t, Steps p.tables e below (s₁.setTop (mkF m 51 #[.val (.int st0)] [(.int (57343 : Int32)), (.int st0)])) t → Steps p.tables e below (s₁.setTop (entryFrame m #[(.int st0)] 1)) t := fun t k => pre48 t (by
              show Steps p.tables e below (s₁.setTop (mkF m 45 #[.val (.int st0)] [(.int (55296 : Int32)), (.int st0)])) _
              refine XS.icmpNo X0.here hx rfl (hb hby d2_45) rfl (flt hc45).1 ?_
              show Steps p.tables e below (s₁.setTop (mkF m 48 #[.val (.int st0)] [])) _
              refine XS.iloadN X0.here hx rfl (hb hby d2_48) rfl ?_
              show Steps p.tables e below (s₁.setTop (mkF m 49 #[.val (.int st0)] [(.int st0)])) _
              refine X0.ldcInt hx hown (mvT hZ (hw _ (List.mem_of_getElem? (i := 23) rfl))) (g := (mkF m 49 #[.val (.int st0)] [(.int st0)])) rfl (hb hby d2_49) _ ?_
              exact k)
          by_cases hc51 : (57343 : Int32) < st0
          · skip
            have pre55 : ∀ t, Steps p.tables e below (s₁.setTop (mkF m 59 #[.val (.int st0)] [(.int (65534 : Int32)), (.int st0)])) t → Steps p.tables e below (s₁.setTop (entryFrame m #[(.int st0)] 1)) t := fun t k => pre54 t (by
                show Steps p.tables e below (s₁.setTop (mkF m 51 #[.val (.int st0)] [(.int (57343 : Int32)), (.int st0)])) _
                refine XS.icmpYes X0.here hx rfl (pc0 := 51) (pc' := 56) rfl (hb hby d2_51) rfl (tlt hc51).2.2.1 (by decide) (by decide) ?_
                show Steps p.tables e below (s₁.setTop (mkF m 56 #[.val (.int st0)] [])) _
                refine XS.iloadN X0.here hx rfl (hb hby d2_56) rfl ?_
                show Steps p.tables e below (s₁.setTop (mkF m 57 #[.val (.int st0)] [(.int st0)])) _
                refine X0.ldcInt hx hown (mvT hZ (hw _ (List.mem_of_getElem? (i := 3) rfl))) (g := (mkF m 57 #[.val (.int st0)] [(.int st0)])) rfl (hb hby d2_57) _ ?_
                exact k)
            by_cases hc59 : st0 = (65534 : Int32)
            · skip
              have pre56 : ∀ t, Steps p.tables e below (s₁.setTop (mkF m 69 #[.val (.int st0)] [(.int (0 : Int32))])) t → Steps p.tables e below (s₁.setTop (entryFrame m #[(.int st0)] 1)) t := fun t k => pre55 t (by
                  show Steps p.tables e below (s₁.setTop (mkF m 59 #[.val (.int st0)] [(.int (65534 : Int32)), (.int st0)])) _
                  refine XS.icmpYes X0.here hx rfl (pc0 := 59) (pc' := 68) rfl (hb hby d2_59) rfl (teq hc59).1 (by decide) (by decide) ?_
                  show Steps p.tables e below (s₁.setTop (mkF m 68 #[.val (.int st0)] [])) _
                  refine XS.iconst X0.here hx rfl (hb hby d2_68) ?_
                  exact k)
              obtain ⟨fs, hr, hrun, hended, hW, hsame⟩ := X0.leave (v := some (.int (0 : Int32))) (fun h => by rw [Bd.returns] at h; cases h)
              refine ⟨_, _, pre56 _ ?_, hrun, hended, _, _, rfl, ?_, ⟨_, rfl⟩, hW, hsame.mono (by decide) (by decide)⟩
              · show Steps p.tables e below (s₁.setTop (mkF m 69 #[.val (.int st0)] [(.int (0 : Int32))])) _
                exact retN X0 hx (t := .boolean) Bd.returns (by simp) (hb hby d2_69) hr
              · show Q2 Z st0 h0 n0 _ s₁.heap _
                rw [e0]
                exact ⟨(0 : Int32), rfl, (Or.inr ⟨(by simp only [own_X, Int32.lt_iff_toInt_lt, ← Int32.toInt_inj, Int32.reduceToInt] at hc1 hc7 hc15 hc45 hc51 hc59 ⊢; omega), rfl⟩), N0, rfl⟩
            · skip
              have pre57 : ∀ t, Steps p.tables e below (s₁.setTop (mkF m 65 #[.val (.int st0)] [(.int (65535 : Int32)), (.int st0)])) t → Steps p.tables e below (s₁.setTop (entryFrame m #[(.int st0)] 1)) t := fun t k => pre55 t (by
                  show Steps p.tables e below (s₁.setTop (mkF m 59 #[.val (.int st0)] [(.int (65534 : Int32)), (.int st0)])) _
                  refine XS.icmpNo X0.here hx rfl (hb hby d2_59) rfl (feq hc59).1 ?_
                  show Steps p.tables e below (s₁.setTop (mkF m 62 #[.val (.int st0)] [])) _
                  refine XS.iloadN X0.here hx rfl (hb hby d2_62) rfl ?_
                  show Steps p.tables e below (s₁.setTop (mkF m 63 #[.val (.int st0)] [(.int st0)])) _
                  refine X0.ldcInt hx hown (mvT hZ (hw _ (List.mem_of_getElem? (i := 20) rfl))) (g := (mkF m 63 #[.val (.int st0)] [(.int st0)])) rfl (hb hby d2_63) _ ?_
                  exact k)
              by_cases hc65 : st0 = (65535 : Int32)
              · skip
                have pre58 : ∀ t, Steps p.tables e below (s₁.setTop (mkF m 69 #[.val (.int st0)] [(.int (0 : Int32))])) t → Steps p.tables e below (s₁.setTop (entryFrame m #[(.int st0)] 1)) t := fun t k => pre57 t (by
                    show Steps p.tables e below (s₁.setTop (mkF m 65 #[.val (.int st0)] [(.int (65535 : Int32)), (.int st0)])) _
                    refine XS.icmpNo X0.here hx rfl (hb hby d2_65) rfl (teq hc65).2 ?_
                    show Steps p.tables e below (s₁.setTop (mkF m 68 #[.val (.int st0)] [])) _
                    refine XS.iconst X0.here hx rfl (hb hby d2_68) ?_
                    exact k)
                obtain ⟨fs, hr, hrun, hended, hW, hsame⟩ := X0.leave (v := some (.int (0 : Int32))) (fun h => by rw [Bd.returns] at h; cases h)
                refine ⟨_, _, pre58 _ ?_, hrun, hended, _, _, rfl, ?_, ⟨_, rfl⟩, hW, hsame.mono (by decide) (by decide)⟩
                · show Steps p.tables e below (s₁.setTop (mkF m 69 #[.val (.int st0)] [(.int (0 : Int32))])) _
                  exact retN X0 hx (t := .boolean) Bd.returns (by simp) (hb hby d2_69) hr
                · show Q2 Z st0 h0 n0 _ s₁.heap _
                  rw [e0]
                  exact ⟨(0 : Int32), rfl, (Or.inr ⟨(by simp only [own_X, Int32.lt_iff_toInt_lt, ← Int32.toInt_inj, Int32.reduceToInt] at hc1 hc7 hc15 hc45 hc51 hc59 hc65 ⊢; omega), rfl⟩), N0, rfl⟩
              · skip
                have pre59 : ∀ t, Steps p.tables e below (s₁.setTop (mkF m 71 #[.val (.int st0)] [(.int (1 : Int32))])) t → Steps p.tables e below (s₁.setTop (entryFrame m #[(.int st0)] 1)) t := fun t k => pre57 t (by
                    show Steps p.tables e below (s₁.setTop (mkF m 65 #[.val (.int st0)] [(.int (65535 : Int32)), (.int st0)])) _
                    refine XS.icmpYes X0.here hx rfl (pc0 := 65) (pc' := 70) rfl (hb hby d2_65) rfl (feq hc65).2 (by decide) (by decide) ?_
                    show Steps p.tables e below (s₁.setTop (mkF m 70 #[.val (.int st0)] [])) _
                    refine XS.iconst X0.here hx rfl (hb hby d2_70) ?_
                    exact k)
                obtain ⟨fs, hr, hrun, hended, hW, hsame⟩ := X0.leave (v := some (.int (1 : Int32))) (fun h => by rw [Bd.returns] at h; cases h)
                refine ⟨_, _, pre59 _ ?_, hrun, hended, _, _, rfl, ?_, ⟨_, rfl⟩, hW, hsame.mono (by decide) (by decide)⟩
                · show Steps p.tables e below (s₁.setTop (mkF m 71 #[.val (.int st0)] [(.int (1 : Int32))])) _
                  exact retN X0 hx (t := .boolean) Bd.returns (by simp) (hb hby d2_71) hr
                · show Q2 Z st0 h0 n0 _ s₁.heap _
                  rw [e0]
                  exact ⟨(1 : Int32), rfl, (Or.inl ⟨(by simp only [own_X, Int32.lt_iff_toInt_lt, ← Int32.toInt_inj, Int32.reduceToInt] at hc1 hc7 hc15 hc45 hc51 hc59 hc65 ⊢; omega), rfl⟩), N0, rfl⟩
          · skip
            have pre60 : ∀ t, Steps p.tables e below (s₁.setTop (mkF m 55 #[.val (.int st0)] [(.int (0 : Int32))])) t → Steps p.tables e below (s₁.setTop (entryFrame m #[(.int st0)] 1)) t := fun t k => pre54 t (by
                show Steps p.tables e below (s₁.setTop (mkF m 51 #[.val (.int st0)] [(.int (57343 : Int32)), (.int st0)])) _
                refine XS.icmpNo X0.here hx rfl (hb hby d2_51) rfl (flt hc51).2.2.1 ?_
                show Steps p.tables e below (s₁.setTop (mkF m 54 #[.val (.int st0)] [])) _
                refine XS.iconst X0.here hx rfl (hb hby d2_54) ?_
                exact k)
            obtain ⟨fs, hr, hrun, hended, hW, hsame⟩ := X0.leave (v := some (.int (0 : Int32))) (fun h => by rw [Bd.returns] at h; cases h)
            refine ⟨_, _, pre60 _ ?_, hrun, hended, _, _, rfl, ?_, ⟨_, rfl⟩, hW, hsame.mono (by decide) (by decide)⟩
            · show Steps p.tables e below (s₁.setTop (mkF m 55 #[.val (.int st0)] [(.int (0 : Int32))])) _
              exact retN X0 hx (t := .boolean) Bd.returns (by simp) (hb hby d2_55) hr
            · show Q2 Z st0 h0 n0 _ s₁.heap _
              rw [e0]
              exact ⟨(0 : Int32), rfl, (Or.inr ⟨(by simp only [own_X, Int32.lt_iff_toInt_lt, ← Int32.toInt_inj, Int32.reduceToInt] at hc1 hc7 hc15 hc45 hc51 ⊢; omega), rfl⟩), N0, rfl⟩
theorem own_pd0 : parseMethodDescriptor "(I)Z" = some ⟨[.int], some .boolean⟩ := by decide +kernel
theorem pn_0 : plainName "com/example/libnetlay/libnetlay/io/EntitiesIsXmlCharacterPinLaw" = true := by first | (simp [plainName, overriddenIn]; done) | decide +kernel
theorem ef_0 (m : MethodId) (p0 : Int32) (p1 : Int32) (p2 : Int32) : entryFrame m #[(.int p0), (.int p1), (.int p2)] maxLocals = mkF m 0 #[.val (.int p0), .val (.int p1), .val (.int p2), .unset, .unset, .unset] [] := by first | (simp [entryFrame, mkF, argsToLocals, Value.category, maxLocals]; done) | rfl
def Q0 (Z : State) (raw : Int32) (sel : Int32) (dd : Int32)  (h0 : Heap) (n0 : Nat) (v : Option Value) (h : Heap) (L : List Loc) : Prop := v = some (.int 1) ∧ Fr n0 L
set_option maxRecDepth 65536 in
set_option maxHeartbeats 40000000 in
theorem rm0 (l : Launch) (Z : State) (a0 : Array Value) (hw : ∀ d ∈ tables_1, d.before a0 Z = true) (ws : List Jvm.Cond) (raw : Int32) (sel : Int32) (dd : Int32)  (h0 : Heap) (n0 : Nat) (Z0 : n0 ≤ h0.size)  :
    MetFree l x (head1 (Jvm.Cond.code x code maxLocals ret :: ws) room_1) (fun a U => a = #[(.int raw), (.int sel), (.int dd)] ∧ Z.Warmed39 U.vm ∧ U.heap = h0) (fun _ _ _ _ _ => True) (fun _ U o U' => ∃ v L, o = .returned v ∧ Q0 Z raw sel dd h0 n0 v U'.heap L ∧ FrameEnd U o U' L room_1.cells room_1.slots) := by
  refine MetFree.of_bodySF (plainFor_of_name pn_0) hisR ?_
  intro p e s m args below meth c s₁ Bd hml0 hP hK
  obtain ⟨rfl, hZ, hh⟩ := hP
  have hx := Bd.exec
  have hby := Bd.bytes
  have hml : c.maxLocals = 6 := hml0
  have hown : s.vm.findClass "com/example/libnetlay/libnetlay/io/EntitiesIsXmlCharacterPinLaw" = some m.cls := findClass_of_methodNamed Bd.named
  have hnm := (name_of_methodNamed Bd.named Bd.method).1
  have X0 : Stand p l e room_1 s m #[(.int raw), (.int sel), (.int dd)] below meth c s₁ [] 0 0 := Stand.of_body Bd
  have e0 : s₁.heap = h0 := by rw [← hh, Bd.state]; rfl
  have N0 := Fr.nil n0
  have pre0 : ∀ t, Steps p.tables e below (s₁.setTop (mkF m 0 #[.val (.int raw), .val (.int sel), .val (.int dd), .unset, .unset, .unset] [])) t → Steps p.tables e below (s₁.setTop (entryFrame m #[(.int raw), (.int sel), (.int dd)] maxLocals)) t := fun t k => castTop (ef_0 m raw sel dd) k
  obtain ⟨T61, h61, k61, X61, e61, E61, A61, st61⟩ := newP X0 hx hZ (hw _ (List.mem_of_getElem? (i := 0) rfl)) e0 (g := (mkF m 2 #[.val (.int raw), .val (.int sel), .val (.int dd), .unset, .unset, .unset] [(.int (12 : Int32))])) rfl (hb hby at_2) rfl (by decide) (cap := 12) (by decide) (by decide) (by decide) (by decide)
  obtain ⟨b61, g61⟩ : ∃ z, z = h0.size := ⟨_, rfl⟩
  rw [← g61] at A61 st61
  have V61 : Arv Z h61 b61 k61 .int (12 : Int32) [(.int (0 : Int32)), (.int (0 : Int32)), (.int (0 : Int32)), (.int (0 : Int32)), (.int (0 : Int32)), (.int (0 : Int32)), (.int (0 : Int32)), (.int (0 : Int32)), (.int (0 : Int32)), (.int (0 : Int32)), (.int (0 : Int32)), (.int (0 : Int32))] (.int (0 : Int32)) := (Arv.new A61 (by decide)).pad (pad_rep [] (.int (0 : Int32)) 12)
  have gb61 : n0 ≤ b61 := Nat.le_trans Z0 (Nat.le_of_eq g61.symm)
  have Z61 : n0 ≤ h61.size := Nat.le_trans Z0 E61.1
  obtain ⟨cl62, Ar62, q62, S62, M62, Hs62, G62⟩ := V61
  have hin62 : ¬ ((0 : Int32) < 0 ∨ cl62.slots.size ≤ ((0 : Int32)).toNatClampNeg) := inb_of S62 ⟨by decide, by decide⟩
  obtain ⟨T62, h62, X62, e62, W62, st62⟩ := stI X61 hx hZ e61 Ar62 (j := (0 : Int32)) hin62 (g := (mkF m 7 #[.val (.int raw), .val (.int sel), .val (.int dd), .unset, .unset, .unset] [(.int (0 : Int32)), (.int (0 : Int32)), (.ref b61), (.ref b61)])) rfl rfl (hb hby at_7)
  have V62 := Arv.set Ar62 q62 S62 M62 Hs62 G62 rfl W62 0 rfl (Nat.le_of_ble_eq_true rfl)
  have N62 := Fr.snoc X62 N0 gb61
  have Z62 : n0 ≤ h62.size := Nat.le_trans Z61 (Nat.le_of_eq W62.size.symm)
  obtain ⟨cl63, Ar63, q63, S63, M63, Hs63, G63⟩ := V62
  have hin63 : ¬ ((1 : Int32) < 0 ∨ cl63.slots.size ≤ ((1 : Int32)).toNatClampNeg) := inb_of S63 ⟨by decide, by decide⟩
  obtain ⟨T63, h63, X63, e63, W63, st63⟩ := stI X62 hx hZ e62 Ar63 (j := (1 : Int32)) hin63 (g := (mkF m 12 #[.val (.int raw), .val (.int sel), .val (.int dd), .unset, .unset, .unset] [(.int (9 : Int32)), (.int (1 : Int32)), (.ref b61), (.ref b61)])) rfl rfl (hb hby at_12)
  have V63 := Arv.set Ar63 q63 S63 M63 Hs63 G63 rfl W63 1 rfl (Nat.le_of_ble_eq_true rfl)
  have N63 := Fr.snoc X63 N62 gb61
  have Z63 : n0 ≤ h63.size := Nat.le_trans Z62 (Nat.le_of_eq W63.size.symm)
  obtain ⟨cl64, Ar64, q64, S64, M64, Hs64, G64⟩ := V63
  have hin64 : ¬ ((2 : Int32) < 0 ∨ cl64.slots.size ≤ ((2 : Int32)).toNatClampNeg) := inb_of S64 ⟨by decide, by decide⟩
  obtain ⟨T64, h64, X64, e64, W64, st64⟩ := stI X63 hx hZ e63 Ar64 (j := (2 : Int32)) hin64 (g := (mkF m 17 #[.val (.int raw), .val (.int sel), .val (.int dd), .unset, .unset, .unset] [(.int (10 : Int32)), (.int (2 : Int32)), (.ref b61), (.ref b61)])) rfl rfl (hb hby at_17)
  have V64 := Arv.set Ar64 q64 S64 M64 Hs64 G64 rfl W64 2 rfl (Nat.le_of_ble_eq_true rfl)
  have N64 := Fr.snoc X64 N63 gb61
  have Z64 : n0 ≤ h64.size := Nat.le_trans Z63 (Nat.le_of_eq W64.size.symm)
  obtain ⟨cl65, Ar65, q65, S65, M65, Hs65, G65⟩ := V64
  have hin65 : ¬ ((3 : Int32) < 0 ∨ cl65.slots.size ≤ ((3 : Int32)).toNatClampNeg) := inb_of S65 ⟨by decide, by decide⟩
  obtain ⟨T65, h65, X65, e65, W65, st65⟩ := stI X64 hx hZ e64 Ar65 (j := (3 : Int32)) hin65 (g := (mkF m 22 #[.val (.int raw), .val (.int sel), .val (.int dd), .unset, .unset, .unset] [(.int (13 : Int32)), (.int (3 : Int32)), (.ref b61), (.ref b61)])) rfl rfl (hb hby at_22)
  have V65 := Arv.set Ar65 q65 S65 M65 Hs65 G65 rfl W65 3 rfl (Nat.le_of_ble_eq_true rfl)
  have N65 := Fr.snoc X65 N64 gb61
  have Z65 : n0 ≤ h65.size := Nat.le_trans Z64 (Nat.le_of_eq W65.size.symm)
  obtain ⟨cl66, Ar66, q66, S66, M66, Hs66, G66⟩ := V65
  have hin66 : ¬ ((4 : Int32) < 0 ∨ cl66.slots.size ≤ ((4 : Int32)).toNatClampNeg) := inb_of S66 ⟨by decide, by decide⟩
  obtain ⟨T66, h66, X66, e66, W66, st66⟩ := stI X65 hx hZ e65 Ar66 (j := (4 : Int32)) hin66 (g := (mkF m 27 #[.val (.int raw), .val (.int sel), .val (.int dd), .unset, .unset, .unset] [(.int (32 : Int32)), (.int (4 : Int32)), (.ref b61), (.ref b61)])) rfl rfl (hb hby at_27)
  have V66 := Arv.set Ar66 q66 S66 M66 Hs66 G66 rfl W66 4 rfl (Nat.le_of_ble_eq_true rfl)
  have N66 := Fr.snoc X66 N65 gb61
  have Z66 : n0 ≤ h66.size := Nat.le_trans Z65 (Nat.le_of_eq W66.size.symm)
  obtain ⟨cl67, Ar67, q67, S67, M67, Hs67, G67⟩ := V66
  have hin67 : ¬ ((5 : Int32) < 0 ∨ cl67.slots.size ≤ ((5 : Int32)).toNatClampNeg) := inb_of S67 ⟨by decide, by decide⟩
  obtain ⟨T67, h67, X67, e67, W67, st67⟩ := stI X66 hx hZ e66 Ar67 (j := (5 : Int32)) hin67 (g := (mkF m 32 #[.val (.int raw), .val (.int sel), .val (.int dd), .unset, .unset, .unset] [(.int (55296 : Int32)), (.int (5 : Int32)), (.ref b61), (.ref b61)])) rfl rfl (hb hby at_32)
  have V67 := Arv.set Ar67 q67 S67 M67 Hs67 G67 rfl W67 5 rfl (Nat.le_of_ble_eq_true rfl)
  have N67 := Fr.snoc X67 N66 gb61
  have Z67 : n0 ≤ h67.size := Nat.le_trans Z66 (Nat.le_of_eq W67.size.symm)
  obtain ⟨cl68, Ar68, q68, S68, M68, Hs68, G68⟩ := V67
  have hin68 : ¬ ((6 : Int32) < 0 ∨ cl68.slots.size ≤ ((6 : Int32)).toNatClampNeg) := inb_of S68 ⟨by decide, by decide⟩
  obtain ⟨T68, h68, X68, e68, W68, st68⟩ := stI X67 hx hZ e67 Ar68 (j := (6 : Int32)) hin68 (g := (mkF m 38 #[.val (.int raw), .val (.int sel), .val (.int dd), .unset, .unset, .unset] [(.int (57344 : Int32)), (.int (6 : Int32)), (.ref b61), (.ref b61)])) rfl rfl (hb hby at_38)
  have V68 := Arv.set Ar68 q68 S68 M68 Hs68 G68 rfl W68 6 rfl (Nat.le_of_ble_eq_true rfl)
  have N68 := Fr.snoc X68 N67 gb61
  have Z68 : n0 ≤ h68.size := Nat.le_trans Z67 (Nat.le_of_eq W68.size.symm)
  obtain ⟨cl69, Ar69, q69, S69, M69, Hs69, G69⟩ := V68
  have hin69 : ¬ ((7 : Int32) < 0 ∨ cl69.slots.size ≤ ((7 : Int32)).toNatClampNeg) := inb_of S69 ⟨by decide, by decide⟩
  obtain ⟨T69, h69, X69, e69, W69, st69⟩ := stI X68 hx hZ e68 Ar69 (j := (7 : Int32)) hin69 (g := (mkF m 44 #[.val (.int raw), .val (.int sel), .val (.int dd), .unset, .unset, .unset] [(.int (65534 : Int32)), (.int (7 : Int32)), (.ref b61), (.ref b61)])) rfl rfl (hb hby at_44)
  have V69 := Arv.set Ar69 q69 S69 M69 Hs69 G69 rfl W69 7 rfl (Nat.le_of_ble_eq_true rfl)
  have N69 := Fr.snoc X69 N68 gb61
  have Z69 : n0 ≤ h69.size := Nat.le_trans Z68 (Nat.le_of_eq W69.size.symm)
  obtain ⟨cl70, Ar70, q70, S70, M70, Hs70, G70⟩ := V69
  have hin70 : ¬ ((8 : Int32) < 0 ∨ cl70.slots.size ≤ ((8 : Int32)).toNatClampNeg) := inb_of S70 ⟨by decide, by decide⟩
  obtain ⟨T70, h70, X70, e70, W70, st70⟩ := stI X69 hx hZ e69 Ar70 (j := (8 : Int32)) hin70 (g := (mkF m 50 #[.val (.int raw), .val (.int sel), .val (.int dd), .unset, .unset, .unset] [(.int (65536 : Int32)), (.int (8 : Int32)), (.ref b61), (.ref b61)])) rfl rfl (hb hby at_50)
  have V70 := Arv.set Ar70 q70 S70 M70 Hs70 G70 rfl W70 8 rfl (Nat.le_of_ble_eq_true rfl)
  have N70 := Fr.snoc X70 N69 gb61
  have Z70 : n0 ≤ h70.size := Nat.le_trans Z69 (Nat.le_of_eq W70.size.symm)
  obtain ⟨cl71, Ar71, q71, S71, M71, Hs71, G71⟩ := V70
  have hin71 : ¬ ((9 : Int32) < 0 ∨ cl71.slots.size ≤ ((9 : Int32)).toNatClampNeg) := inb_of S71 ⟨by decide, by decide⟩
  obtain ⟨T71, h71, X71, e71, W71, st71⟩ := stI X70 hx hZ e70 Ar71 (j := (9 : Int32)) hin71 (g := (mkF m 56 #[.val (.int raw), .val (.int sel), .val (.int dd), .unset, .unset, .unset] [(.int (1114112 : Int32)), (.int (9 : Int32)), (.ref b61), (.ref b61)])) rfl rfl (hb hby at_56)
  have V71 := Arv.set Ar71 q71 S71 M71 Hs71 G71 rfl W71 9 rfl (Nat.le_of_ble_eq_true rfl)
  have N71 := Fr.snoc X71 N70 gb61
  have Z71 : n0 ≤ h71.size := Nat.le_trans Z70 (Nat.le_of_eq W71.size.symm)
  obtain ⟨cl72, Ar72, q72, S72, M72, Hs72, G72⟩ := V71
  have hin72 : ¬ ((10 : Int32) < 0 ∨ cl72.slots.size ≤ ((10 : Int32)).toNatClampNeg) := inb_of S72 ⟨by decide, by decide⟩
  obtain ⟨T72, h72, X72, e72, W72, st72⟩ := stI X71 hx hZ e71 Ar72 (j := (10 : Int32)) hin72 (g := (mkF m 62 #[.val (.int raw), .val (.int sel), .val (.int dd), .unset, .unset, .unset] [(.int (-2147483648 : Int32)), (.int (10 : Int32)), (.ref b61), (.ref b61)])) rfl rfl (hb hby at_62)
  have V72 := Arv.set Ar72 q72 S72 M72 Hs72 G72 rfl W72 10 rfl (Nat.le_of_ble_eq_true rfl)
  have N72 := Fr.snoc X72 N71 gb61
  have Z72 : n0 ≤ h72.size := Nat.le_trans Z71 (Nat.le_of_eq W72.size.symm)
  obtain ⟨cl73, Ar73, q73, S73, M73, Hs73, G73⟩ := V72
  have hin73 : ¬ ((11 : Int32) < 0 ∨ cl73.slots.size ≤ ((11 : Int32)).toNatClampNeg) := inb_of S73 ⟨by decide, by decide⟩
  obtain ⟨T73, h73, X73, e73, W73, st73⟩ := stI X72 hx hZ e72 Ar73 (j := (11 : Int32)) hin73 (g := (mkF m 68 #[.val (.int raw), .val (.int sel), .val (.int dd), .unset, .unset, .unset] [(.int (2147483647 : Int32)), (.int (11 : Int32)), (.ref b61), (.ref b61)])) rfl rfl (hb hby at_68)
  have V73 := Arv.set Ar73 q73 S73 M73 Hs73 G73 rfl W73 11 rfl (Nat.le_of_ble_eq_true rfl)
  have N73 := Fr.snoc X73 N72 gb61
  have Z73 : n0 ≤ h73.size := Nat.le_trans Z72 (Nat.le_of_eq W73.size.symm)
  have pre74 : ∀ t, Steps p.tables e below (T73.setTop (mkF m 73 #[.val (.int raw), .val (.int sel), .val (.int dd), .val (.ref b61), .unset, .unset] [(.int (sel &&& (1 : Int32)))])) t → Steps p.tables e below (s₁.setTop (entryFrame m #[(.int raw), (.int sel), (.int dd)] maxLocals)) t := fun t k => pre0 t (by
      show Steps p.tables e below (s₁.setTop (mkF m 0 #[.val (.int raw), .val (.int sel), .val (.int dd), .unset, .unset, .unset] [])) _
      refine XS.bipush X0.here hx rfl (hb hby at_0) ?_
      show Steps p.tables e below (s₁.setTop (mkF m 2 #[.val (.int raw), .val (.int sel), .val (.int dd), .unset, .unset, .unset] [(.int (12 : Int32))])) _
      refine st61 _ ?_
      show Steps p.tables e below (T61.setTop (mkF m 4 #[.val (.int raw), .val (.int sel), .val (.int dd), .unset, .unset, .unset] [(.ref b61)])) _
      refine XS.dup X61.here hx rfl (hb hby at_4) rfl rfl ?_
      show Steps p.tables e below (T61.setTop (mkF m 5 #[.val (.int raw), .val (.int sel), .val (.int dd), .unset, .unset, .unset] [(.ref b61), (.ref b61)])) _
      refine XS.iconst X61.here hx rfl (hb hby at_5) ?_
      show Steps p.tables e below (T61.setTop (mkF m 6 #[.val (.int raw), .val (.int sel), .val (.int dd), .unset, .unset, .unset] [(.int (0 : Int32)), (.ref b61), (.ref b61)])) _
      refine XS.iconst X61.here hx rfl (hb hby at_6) ?_
      show Steps p.tables e below (T61.setTop (mkF m 7 #[.val (.int raw), .val (.int sel), .val (.int dd), .unset, .unset, .unset] [(.int (0 : Int32)), (.int (0 : Int32)), (.ref b61), (.ref b61)])) _
      refine st62 _ ?_
      show Steps p.tables e below (T62.setTop (mkF m 8 #[.val (.int raw), .val (.int sel), .val (.int dd), .unset, .unset, .unset] [(.ref b61)])) _
      refine XS.dup X62.here hx rfl (hb hby at_8) rfl rfl ?_
      show Steps p.tables e below (T62.setTop (mkF m 9 #[.val (.int raw), .val (.int sel), .val (.int dd), .unset, .unset, .unset] [(.ref b61), (.ref b61)])) _
      refine XS.iconst X62.here hx rfl (hb hby at_9) ?_
      show Steps p.tables e below (T62.setTop (mkF m 10 #[.val (.int raw), .val (.int sel), .val (.int dd), .unset, .unset, .unset] [(.int (1 : Int32)), (.ref b61), (.ref b61)])) _
      refine XS.bipush X62.here hx rfl (hb hby at_10) ?_
      show Steps p.tables e below (T62.setTop (mkF m 12 #[.val (.int raw), .val (.int sel), .val (.int dd), .unset, .unset, .unset] [(.int (9 : Int32)), (.int (1 : Int32)), (.ref b61), (.ref b61)])) _
      refine st63 _ ?_
      show Steps p.tables e below (T63.setTop (mkF m 13 #[.val (.int raw), .val (.int sel), .val (.int dd), .unset, .unset, .unset] [(.ref b61)])) _
      refine XS.dup X63.here hx rfl (hb hby at_13) rfl rfl ?_
      show Steps p.tables e below (T63.setTop (mkF m 14 #[.val (.int raw), .val (.int sel), .val (.int dd), .unset, .unset, .unset] [(.ref b61), (.ref b61)])) _
      refine XS.iconst X63.here hx rfl (hb hby at_14) ?_
      show Steps p.tables e below (T63.setTop (mkF m 15 #[.val (.int raw), .val (.int sel), .val (.int dd), .unset, .unset, .unset] [(.int (2 : Int32)), (.ref b61), (.ref b61)])) _
      refine XS.bipush X63.here hx rfl (hb hby at_15) ?_
      show Steps p.tables e below (T63.setTop (mkF m 17 #[.val (.int raw), .val (.int sel), .val (.int dd), .unset, .unset, .unset] [(.int (10 : Int32)), (.int (2 : Int32)), (.ref b61), (.ref b61)])) _
      refine st64 _ ?_
      show Steps p.tables e below (T64.setTop (mkF m 18 #[.val (.int raw), .val (.int sel), .val (.int dd), .unset, .unset, .unset] [(.ref b61)])) _
      refine XS.dup X64.here hx rfl (hb hby at_18) rfl rfl ?_
      show Steps p.tables e below (T64.setTop (mkF m 19 #[.val (.int raw), .val (.int sel), .val (.int dd), .unset, .unset, .unset] [(.ref b61), (.ref b61)])) _
      refine XS.iconst X64.here hx rfl (hb hby at_19) ?_
      show Steps p.tables e below (T64.setTop (mkF m 20 #[.val (.int raw), .val (.int sel), .val (.int dd), .unset, .unset, .unset] [(.int (3 : Int32)), (.ref b61), (.ref b61)])) _
      refine XS.bipush X64.here hx rfl (hb hby at_20) ?_
      show Steps p.tables e below (T64.setTop (mkF m 22 #[.val (.int raw), .val (.int sel), .val (.int dd), .unset, .unset, .unset] [(.int (13 : Int32)), (.int (3 : Int32)), (.ref b61), (.ref b61)])) _
      refine st65 _ ?_
      show Steps p.tables e below (T65.setTop (mkF m 23 #[.val (.int raw), .val (.int sel), .val (.int dd), .unset, .unset, .unset] [(.ref b61)])) _
      refine XS.dup X65.here hx rfl (hb hby at_23) rfl rfl ?_
      show Steps p.tables e below (T65.setTop (mkF m 24 #[.val (.int raw), .val (.int sel), .val (.int dd), .unset, .unset, .unset] [(.ref b61), (.ref b61)])) _
      refine XS.iconst X65.here hx rfl (hb hby at_24) ?_
      show Steps p.tables e below (T65.setTop (mkF m 25 #[.val (.int raw), .val (.int sel), .val (.int dd), .unset, .unset, .unset] [(.int (4 : Int32)), (.ref b61), (.ref b61)])) _
      refine XS.bipush X65.here hx rfl (hb hby at_25) ?_
      show Steps p.tables e below (T65.setTop (mkF m 27 #[.val (.int raw), .val (.int sel), .val (.int dd), .unset, .unset, .unset] [(.int (32 : Int32)), (.int (4 : Int32)), (.ref b61), (.ref b61)])) _
      refine st66 _ ?_
      show Steps p.tables e below (T66.setTop (mkF m 28 #[.val (.int raw), .val (.int sel), .val (.int dd), .unset, .unset, .unset] [(.ref b61)])) _
      refine XS.dup X66.here hx rfl (hb hby at_28) rfl rfl ?_
      show Steps p.tables e below (T66.setTop (mkF m 29 #[.val (.int raw), .val (.int sel), .val (.int dd), .unset, .unset, .unset] [(.ref b61), (.ref b61)])) _
      refine XS.iconst X66.here hx rfl (hb hby at_29) ?_
      show Steps p.tables e below (T66.setTop (mkF m 30 #[.val (.int raw), .val (.int sel), .val (.int dd), .unset, .unset, .unset] [(.int (5 : Int32)), (.ref b61), (.ref b61)])) _
      refine X66.ldcInt hx hown (mvT hZ (hw _ (List.mem_of_getElem? (i := 1) rfl))) (g := (mkF m 30 #[.val (.int raw), .val (.int sel), .val (.int dd), .unset, .unset, .unset] [(.int (5 : Int32)), (.ref b61), (.ref b61)])) rfl (hb hby at_30) _ ?_
      show Steps p.tables e below (T66.setTop (mkF m 32 #[.val (.int raw), .val (.int sel), .val (.int dd), .unset, .unset, .unset] [(.int (55296 : Int32)), (.int (5 : Int32)), (.ref b61), (.ref b61)])) _
      refine st67 _ ?_
      show Steps p.tables e below (T67.setTop (mkF m 33 #[.val (.int raw), .val (.int sel), .val (.int dd), .unset, .unset, .unset] [(.ref b61)])) _
      refine XS.dup X67.here hx rfl (hb hby at_33) rfl rfl ?_
      show Steps p.tables e below (T67.setTop (mkF m 34 #[.val (.int raw), .val (.int sel), .val (.int dd), .unset, .unset, .unset] [(.ref b61), (.ref b61)])) _
      refine XS.bipush X67.here hx rfl (hb hby at_34) ?_
      show Steps p.tables e below (T67.setTop (mkF m 36 #[.val (.int raw), .val (.int sel), .val (.int dd), .unset, .unset, .unset] [(.int (6 : Int32)), (.ref b61), (.ref b61)])) _
      refine X67.ldcInt hx hown (mvT hZ (hw _ (List.mem_of_getElem? (i := 2) rfl))) (g := (mkF m 36 #[.val (.int raw), .val (.int sel), .val (.int dd), .unset, .unset, .unset] [(.int (6 : Int32)), (.ref b61), (.ref b61)])) rfl (hb hby at_36) _ ?_
      show Steps p.tables e below (T67.setTop (mkF m 38 #[.val (.int raw), .val (.int sel), .val (.int dd), .unset, .unset, .unset] [(.int (57344 : Int32)), (.int (6 : Int32)), (.ref b61), (.ref b61)])) _
      refine st68 _ ?_
      show Steps p.tables e below (T68.setTop (mkF m 39 #[.val (.int raw), .val (.int sel), .val (.int dd), .unset, .unset, .unset] [(.ref b61)])) _
      refine XS.dup X68.here hx rfl (hb hby at_39) rfl rfl ?_
      show Steps p.tables e below (T68.setTop (mkF m 40 #[.val (.int raw), .val (.int sel), .val (.int dd), .unset, .unset, .unset] [(.ref b61), (.ref b61)])) _
      refine XS.bipush X68.here hx rfl (hb hby at_40) ?_
      show Steps p.tables e below (T68.setTop (mkF m 42 #[.val (.int raw), .val (.int sel), .val (.int dd), .unset, .unset, .unset] [(.int (7 : Int32)), (.ref b61), (.ref b61)])) _
      refine X68.ldcInt hx hown (mvT hZ (hw _ (List.mem_of_getElem? (i := 3) rfl))) (g := (mkF m 42 #[.val (.int raw), .val (.int sel), .val (.int dd), .unset, .unset, .unset] [(.int (7 : Int32)), (.ref b61), (.ref b61)])) rfl (hb hby at_42) _ ?_
      show Steps p.tables e below (T68.setTop (mkF m 44 #[.val (.int raw), .val (.int sel), .val (.int dd), .unset, .unset, .unset] [(.int (65534 : Int32)), (.int (7 : Int32)), (.ref b61), (.ref b61)])) _
      refine st69 _ ?_
      show Steps p.tables e below (T69.setTop (mkF m 45 #[.val (.int raw), .val (.int sel), .val (.int dd), .unset, .unset, .unset] [(.ref b61)])) _
      refine XS.dup X69.here hx rfl (hb hby at_45) rfl rfl ?_
      show Steps p.tables e below (T69.setTop (mkF m 46 #[.val (.int raw), .val (.int sel), .val (.int dd), .unset, .unset, .unset] [(.ref b61), (.ref b61)])) _
      refine XS.bipush X69.here hx rfl (hb hby at_46) ?_
      show Steps p.tables e below (T69.setTop (mkF m 48 #[.val (.int raw), .val (.int sel), .val (.int dd), .unset, .unset, .unset] [(.int (8 : Int32)), (.ref b61), (.ref b61)])) _
      refine X69.ldcInt hx hown (mvT hZ (hw _ (List.mem_of_getElem? (i := 4) rfl))) (g := (mkF m 48 #[.val (.int raw), .val (.int sel), .val (.int dd), .unset, .unset, .unset] [(.int (8 : Int32)), (.ref b61), (.ref b61)])) rfl (hb hby at_48) _ ?_
      show Steps p.tables e below (T69.setTop (mkF m 50 #[.val (.int raw), .val (.int sel), .val (.int dd), .unset, .unset, .unset] [(.int (65536 : Int32)), (.int (8 : Int32)), (.ref b61), (.ref b61)])) _
      refine st70 _ ?_
      show Steps p.tables e below (T70.setTop (mkF m 51 #[.val (.int raw), .val (.int sel), .val (.int dd), .unset, .unset, .unset] [(.ref b61)])) _
      refine XS.dup X70.here hx rfl (hb hby at_51) rfl rfl ?_
      show Steps p.tables e below (T70.setTop (mkF m 52 #[.val (.int raw), .val (.int sel), .val (.int dd), .unset, .unset, .unset] [(.ref b61), (.ref b61)])) _
      refine XS.bipush X70.here hx rfl (hb hby at_52) ?_
      show Steps p.tables e below (T70.setTop (mkF m 54 #[.val (.int raw), .val (.int sel), .val (.int dd), .unset, .unset, .unset] [(.int (9 : Int32)), (.ref b61), (.ref b61)])) _
      refine X70.ldcInt hx hown (mvT hZ (hw _ (List.mem_of_getElem? (i := 5) rfl))) (g := (mkF m 54 #[.val (.int raw), .val (.int sel), .val (.int dd), .unset, .unset, .unset] [(.int (9 : Int32)), (.ref b61), (.ref b61)])) rfl (hb hby at_54) _ ?_
      show Steps p.tables e below (T70.setTop (mkF m 56 #[.val (.int raw), .val (.int sel), .val (.int dd), .unset, .unset, .unset] [(.int (1114112 : Int32)), (.int (9 : Int32)), (.ref b61), (.ref b61)])) _
      refine st71 _ ?_
      show Steps p.tables e below (T71.setTop (mkF m 57 #[.val (.int raw), .val (.int sel), .val (.int dd), .unset, .unset, .unset] [(.ref b61)])) _
      refine XS.dup X71.here hx rfl (hb hby at_57) rfl rfl ?_
      show Steps p.tables e below (T71.setTop (mkF m 58 #[.val (.int raw), .val (.int sel), .val (.int dd), .unset, .unset, .unset] [(.ref b61), (.ref b61)])) _
      refine XS.bipush X71.here hx rfl (hb hby at_58) ?_
      show Steps p.tables e below (T71.setTop (mkF m 60 #[.val (.int raw), .val (.int sel), .val (.int dd), .unset, .unset, .unset] [(.int (10 : Int32)), (.ref b61), (.ref b61)])) _
      refine X71.ldcInt hx hown (mvT hZ (hw _ (List.mem_of_getElem? (i := 6) rfl))) (g := (mkF m 60 #[.val (.int raw), .val (.int sel), .val (.int dd), .unset, .unset, .unset] [(.int (10 : Int32)), (.ref b61), (.ref b61)])) rfl (hb hby at_60) _ ?_
      show Steps p.tables e below (T71.setTop (mkF m 62 #[.val (.int raw), .val (.int sel), .val (.int dd), .unset, .unset, .unset] [(.int (-2147483648 : Int32)), (.int (10 : Int32)), (.ref b61), (.ref b61)])) _
      refine st72 _ ?_
      show Steps p.tables e below (T72.setTop (mkF m 63 #[.val (.int raw), .val (.int sel), .val (.int dd), .unset, .unset, .unset] [(.ref b61)])) _
      refine XS.dup X72.here hx rfl (hb hby at_63) rfl rfl ?_
      show Steps p.tables e below (T72.setTop (mkF m 64 #[.val (.int raw), .val (.int sel), .val (.int dd), .unset, .unset, .unset] [(.ref b61), (.ref b61)])) _
      refine XS.bipush X72.here hx rfl (hb hby at_64) ?_
      show Steps p.tables e below (T72.setTop (mkF m 66 #[.val (.int raw), .val (.int sel), .val (.int dd), .unset, .unset, .unset] [(.int (11 : Int32)), (.ref b61), (.ref b61)])) _
      refine X72.ldcInt hx hown (mvT hZ (hw _ (List.mem_of_getElem? (i := 7) rfl))) (g := (mkF m 66 #[.val (.int raw), .val (.int sel), .val (.int dd), .unset, .unset, .unset] [(.int (11 : Int32)), (.ref b61), (.ref b61)])) rfl (hb hby at_66) _ ?_
      show Steps p.tables e below (T72.setTop (mkF m 68 #[.val (.int raw), .val (.int sel), .val (.int dd), .unset, .unset, .unset] [(.int (2147483647 : Int32)), (.int (11 : Int32)), (.ref b61), (.ref b61)])) _
      refine st73 _ ?_
      show Steps p.tables e below (T73.setTop (mkF m 69 #[.val (.int raw), .val (.int sel), .val (.int dd), .unset, .unset, .unset] [(.ref b61)])) _
      refine XS.astoreN X73.here hx rfl (hb hby at_69) rfl rfl (l' := #[.val (.int raw), .val (.int sel), .val (.int dd), .val (.ref b61), .unset, .unset]) rfl ?_
      show Steps p.tables e below (T73.setTop (mkF m 70 #[.val (.int raw), .val (.int sel), .val (.int dd), .val (.ref b61), .unset, .unset] [])) _
      refine XS.iloadN X73.here hx rfl (hb hby at_70) rfl ?_
      show Steps p.tables e below (T73.setTop (mkF m 71 #[.val (.int raw), .val (.int sel), .val (.int dd), .val (.ref b61), .unset, .unset] [(.int sel)])) _
      refine XS.iconst X73.here hx rfl (hb hby at_71) ?_
      show Steps p.tables e below (T73.setTop (mkF m 72 #[.val (.int raw), .val (.int sel), .val (.int dd), .val (.ref b61), .unset, .unset] [(.int (1 : Int32)), (.int sel)])) _
      refine XS.iand X73.here hx rfl (hb hby at_72) rfl ?_
      exact k)
  by_cases hc73 : (sel &&& (1 : Int32)) = (0 : Int32)
  · skip
    obtain ⟨_, _, ⟨T75, L75, k75, n75⟩, -, X75, ⟨Lc75, hQ75, l75, y75, z75⟩, st75⟩ := Jvm.LawKit.callS X73 hx (y := (⟨"com/example/libnetlay/libnetlay/io/Entities", "isXmlCharacter", "(I)Z"⟩ : MethodName)) hown (mvT hZ (hw _ (List.mem_of_getElem? (i := 8) rfl))) (mvT hZ (hw _ (List.mem_of_getElem? (i := 9) rfl))) (mvT hZ (hw _ (List.mem_of_getElem? (i := 10) rfl))) (mvT hZ (hw _ (List.mem_of_getElem? (i := 11) rfl))) (by decide) (backOf (W := 0) (rm1 l Z a0 hw [] raw  h73 n0 Z73) hZ (hw _ (List.mem_of_getElem? (i := 11) rfl)) (hw _ (List.mem_of_getElem? (i := 10) rfl)) (by decide) (by decide)) (g := (mkF m 105 #[.val (.int raw), .val (.int sel), .val (.int dd), .val (.ref b61), .val (.int raw), .unset] [(.int raw)])) rfl (by rw [hml]; rfl) (argsL := [(.int raw)]) (rest := []) (lenOf own_pd0 rfl) rfl (by show 2 * 0 + _ ≤ _; exact Nat.le_of_eq rfl) (hb hby at_105) (fun _ _ => ⟨rfl, e73, (by decide : 1 + 0 ≤ _), (by decide : 12 + 0 ≤ _)⟩)
    dsimp only [Pt.U, Pt.locs, Pt.cells, Pt.slots] at X75 l75 y75 z75 st75 hQ75
    subst l75 y75 z75
    obtain ⟨z75, rfl, hz75, N75q, e75⟩ := hQ75
    have N75 := Fr.app N73 N75q
    obtain ⟨_, _, ⟨T76, L76, k76, n76⟩, -, X76, ⟨Lc76, hQ76, l76, y76, z76⟩, st76⟩ := Jvm.LawKit.callS X75 hx (y := (⟨"com/example/libnetlay/libnetlay/io/EntitiesIsXmlCharacterPinLaw", "expected", "(I)Z"⟩ : MethodName)) hown (mvT hZ (hw _ (List.mem_of_getElem? (i := 14) rfl))) (mvT hZ (hw _ (List.mem_of_getElem? (i := 15) rfl))) (mvT hZ (hw _ (List.mem_of_getElem? (i := 16) rfl))) (mvT hZ (hw _ (List.mem_of_getElem? (i := 17) rfl))) (by decide) (backOf (W := 1) (rm2 l Z a0 hw [] raw  h73 n0 Z73) hZ (hw _ (List.mem_of_getElem? (i := 17) rfl)) (hw _ (List.mem_of_getElem? (i := 16) rfl)) (by decide) (by decide)) (g := (mkF m 110 #[.val (.int raw), .val (.int sel), .val (.int dd), .val (.ref b61), .val (.int raw), .unset] [(.int raw), (.int z75)])) rfl (by rw [hml]; rfl) (argsL := [(.int raw)]) (rest := [(.int z75)]) (lenOf own_pd0 rfl) rfl (by show 2 * 0 + _ ≤ _; exact Nat.le_of_eq rfl) (hb hby at_110) (fun _ _ => ⟨rfl, e75, (by decide : 1 + 0 ≤ _), (by decide : 12 + 0 ≤ _)⟩)
    dsimp only [Pt.U, Pt.locs, Pt.cells, Pt.slots] at X76 l76 y76 z76 st76 hQ76
    subst l76 y76 z76
    obtain ⟨z76, rfl, hz76, N76q, e76⟩ := hQ76
    have N76 := Fr.app N75 N76q
    have he : z75 = z76 := own_says_eq hz75 hz76 Iff.rfl
    have pre77 : ∀ t, Steps p.tables e below (T76.setTop (mkF m 121 #[.val (.int raw), .val (.int sel), .val (.int dd), .val (.ref b61), .val (.int raw), .unset] [(.int (1 : Int32))])) t → Steps p.tables e below (s₁.setTop (entryFrame m #[(.int raw), (.int sel), (.int dd)] maxLocals)) t := fun t k => pre74 t (by
        show Steps p.tables e below (T73.setTop (mkF m 73 #[.val (.int raw), .val (.int sel), .val (.int dd), .val (.ref b61), .unset, .unset] [(.int (sel &&& (1 : Int32)))])) _
        refine XS.ifNo X73.here hx rfl (hb hby at_73) rfl ((if0 _ _).trans (teq hc73).2) ?_
        show Steps p.tables e below (T73.setTop (mkF m 76 #[.val (.int raw), .val (.int sel), .val (.int dd), .val (.ref b61), .unset, .unset] [])) _
        refine XS.iloadN X73.here hx rfl (hb hby at_76) rfl ?_
        show Steps p.tables e below (T73.setTop (mkF m 77 #[.val (.int raw), .val (.int sel), .val (.int dd), .val (.ref b61), .unset, .unset] [(.int raw)])) _
        refine XS.istore X73.here hx rfl (hb hby at_77) rfl (l' := #[.val (.int raw), .val (.int sel), .val (.int dd), .val (.ref b61), .val (.int raw), .unset]) rfl ?_
        show Steps p.tables e below (T73.setTop (mkF m 79 #[.val (.int raw), .val (.int sel), .val (.int dd), .val (.ref b61), .val (.int raw), .unset] [])) _
        refine XS.goto X73.here hx rfl (pc0 := 79) (pc' := 103) rfl (hb hby at_79) (by decide) (by decide) ?_
        show Steps p.tables e below (T73.setTop (mkF m 103 #[.val (.int raw), .val (.int sel), .val (.int dd), .val (.ref b61), .val (.int raw), .unset] [])) _
        refine XS.iload X73.here hx rfl (hb hby at_103) rfl ?_
        show Steps p.tables e below (T73.setTop (mkF m 105 #[.val (.int raw), .val (.int sel), .val (.int dd), .val (.ref b61), .val (.int raw), .unset] [(.int raw)])) _
        refine st75 _ ?_
        show Steps p.tables e below (T75.setTop (mkF m 108 #[.val (.int raw), .val (.int sel), .val (.int dd), .val (.ref b61), .val (.int raw), .unset] [(.int z75)])) _
        refine XS.iload X75.here hx rfl (hb hby at_108) rfl ?_
        show Steps p.tables e below (T75.setTop (mkF m 110 #[.val (.int raw), .val (.int sel), .val (.int dd), .val (.ref b61), .val (.int raw), .unset] [(.int raw), (.int z75)])) _
        refine st76 _ ?_
        show Steps p.tables e below (T76.setTop (mkF m 113 #[.val (.int raw), .val (.int sel), .val (.int dd), .val (.ref b61), .val (.int raw), .unset] [(.int z76), (.int z75)])) _
        refine XS.icmpNo X76.here hx rfl (hb hby at_113) rfl (teq he).2 ?_
        show Steps p.tables e below (T76.setTop (mkF m 116 #[.val (.int raw), .val (.int sel), .val (.int dd), .val (.ref b61), .val (.int raw), .unset] [])) _
        refine XS.iconst X76.here hx rfl (hb hby at_116) ?_
        show Steps p.tables e below (T76.setTop (mkF m 117 #[.val (.int raw), .val (.int sel), .val (.int dd), .val (.ref b61), .val (.int raw), .unset] [(.int (1 : Int32))])) _
        refine XS.goto X76.here hx rfl (pc0 := 117) (pc' := 121) rfl (hb hby at_117) (by decide) (by decide) ?_
        exact k)
    obtain ⟨fs, hr, hrun, hended, hW, hsame⟩ := X76.leave (v := some (.int (1 : Int32))) (fun h => by rw [Bd.returns] at h; cases h)
    refine ⟨_, _, pre77 _ ?_, hrun, hended, _, _, rfl, ?_, ⟨_, rfl⟩, hW, hsame.mono (by decide) (by decide)⟩
    · show Steps p.tables e below (T76.setTop (mkF m 121 #[.val (.int raw), .val (.int sel), .val (.int dd), .val (.ref b61), .val (.int raw), .unset] [(.int (1 : Int32))])) _
      exact retN X76 hx (t := .boolean) Bd.returns (by simp) (hb hby at_121) hr
    · show Q0 Z raw sel dd h0 n0 _ T76.heap _
      rw [e76]
      exact ⟨rfl, N76⟩
  · skip
    obtain ⟨cl, Ar, q, S, M, Hs, G⟩ := V73
    have hj : ¬ (((sel.toUInt32 >>> ((1 : Int32) &&& 31).toUInt32).toInt32) % (12 : Int32)) < 0 ∧ (((sel.toUInt32 >>> ((1 : Int32) &&& 31).toUInt32).toInt32) % (12 : Int32)) < 12 := own_idx sel
    have hin : ¬ ((((sel.toUInt32 >>> ((1 : Int32) &&& 31).toUInt32).toInt32) % (12 : Int32)) < 0 ∨ cl.slots.size ≤ ((((sel.toUInt32 >>> ((1 : Int32) &&& 31).toUInt32).toInt32) % (12 : Int32))).toNatClampNeg) := inb_of S hj
    obtain ⟨wv, hwv⟩ := fit_I (G ((((sel.toUInt32 >>> ((1 : Int32) &&& 31).toUInt32).toInt32) % (12 : Int32))).toNatClampNeg (Nat.lt_of_not_le fun z => hin (Or.inr z))) (Or.inl rfl)
    have hat : cl.slots[((((sel.toUInt32 >>> ((1 : Int32) &&& 31).toUInt32).toInt32) % (12 : Int32))).toNatClampNeg]? = some (.int wv) := (Hs _ (Nat.lt_of_not_le fun z => hin (Or.inr z))).trans (congrArg some hwv)
    have pre78 : ∀ t, Steps p.tables e below (T73.setTop (mkF m 103 #[.val (.int raw), .val (.int sel), .val (.int dd), .val (.ref b61), .val (.int (wv + ((dd &&& (7 : Int32)) - (4 : Int32)))), .val (.int wv)] [])) t → Steps p.tables e below (s₁.setTop (entryFrame m #[(.int raw), (.int sel), (.int dd)] maxLocals)) t := fun t k => pre74 t (by
        show Steps p.tables e below (T73.setTop (mkF m 73 #[.val (.int raw), .val (.int sel), .val (.int dd), .val (.ref b61), .unset, .unset] [(.int (sel &&& (1 : Int32)))])) _
        refine XS.ifYes X73.here hx rfl (pc0 := 73) (pc' := 82) rfl (hb hby at_73) rfl ((if0 _ _).trans (feq hc73).2) (by decide) (by decide) ?_
        show Steps p.tables e below (T73.setTop (mkF m 82 #[.val (.int raw), .val (.int sel), .val (.int dd), .val (.ref b61), .unset, .unset] [])) _
        refine XS.aloadN X73.here hx rfl (hb hby at_82) rfl rfl ?_
        show Steps p.tables e below (T73.setTop (mkF m 83 #[.val (.int raw), .val (.int sel), .val (.int dd), .val (.ref b61), .unset, .unset] [(.ref b61)])) _
        refine XS.iloadN X73.here hx rfl (hb hby at_83) rfl ?_
        show Steps p.tables e below (T73.setTop (mkF m 84 #[.val (.int raw), .val (.int sel), .val (.int dd), .val (.ref b61), .unset, .unset] [(.int sel), (.ref b61)])) _
        refine XS.iconst X73.here hx rfl (hb hby at_84) ?_
        show Steps p.tables e below (T73.setTop (mkF m 85 #[.val (.int raw), .val (.int sel), .val (.int dd), .val (.ref b61), .unset, .unset] [(.int (1 : Int32)), (.int sel), (.ref b61)])) _
        refine XS.iushr X73.here hx rfl (hb hby at_85) rfl ?_
        show Steps p.tables e below (T73.setTop (mkF m 86 #[.val (.int raw), .val (.int sel), .val (.int dd), .val (.ref b61), .unset, .unset] [(.int ((sel.toUInt32 >>> ((1 : Int32) &&& 31).toUInt32).toInt32)), (.ref b61)])) _
        refine XS.bipush X73.here hx rfl (hb hby at_86) ?_
        show Steps p.tables e below (T73.setTop (mkF m 88 #[.val (.int raw), .val (.int sel), .val (.int dd), .val (.ref b61), .unset, .unset] [(.int (12 : Int32)), (.int ((sel.toUInt32 >>> ((1 : Int32) &&& 31).toUInt32).toInt32)), (.ref b61)])) _
        refine iremM X73 hx rfl (hb hby at_88) rfl (by decide) ?_
        show Steps p.tables e below (T73.setTop (mkF m 89 #[.val (.int raw), .val (.int sel), .val (.int dd), .val (.ref b61), .unset, .unset] [(.int (((sel.toUInt32 >>> ((1 : Int32) &&& 31).toUInt32).toInt32) % (12 : Int32))), (.ref b61)])) _
        refine X73.iaload hx (j := (((sel.toUInt32 >>> ((1 : Int32) &&& 31).toUInt32).toInt32) % (12 : Int32))) (v := (.int wv)) (by rw [e73]; exact Ar.1) (State.isArrayOf_alike hZ.alike Ar.2.1) Ar.2.2 hin hat (g := (mkF m 89 #[.val (.int raw), .val (.int sel), .val (.int dd), .val (.ref b61), .unset, .unset] [(.int (((sel.toUInt32 >>> ((1 : Int32) &&& 31).toUInt32).toInt32) % (12 : Int32))), (.ref b61)])) rfl rfl (hb hby at_89) _ ?_
        show Steps p.tables e below (T73.setTop (mkF m 90 #[.val (.int raw), .val (.int sel), .val (.int dd), .val (.ref b61), .unset, .unset] [(.int wv)])) _
        refine XS.istore X73.here hx rfl (hb hby at_90) rfl (l' := #[.val (.int raw), .val (.int sel), .val (.int dd), .val (.ref b61), .unset, .val (.int wv)]) rfl ?_
        show Steps p.tables e below (T73.setTop (mkF m 92 #[.val (.int raw), .val (.int sel), .val (.int dd), .val (.ref b61), .unset, .val (.int wv)] [])) _
        refine XS.iload X73.here hx rfl (hb hby at_92) rfl ?_
        show Steps p.tables e below (T73.setTop (mkF m 94 #[.val (.int raw), .val (.int sel), .val (.int dd), .val (.ref b61), .unset, .val (.int wv)] [(.int wv)])) _
        refine XS.iloadN X73.here hx rfl (hb hby at_94) rfl ?_
        show Steps p.tables e below (T73.setTop (mkF m 95 #[.val (.int raw), .val (.int sel), .val (.int dd), .val (.ref b61), .unset, .val (.int wv)] [(.int dd), (.int wv)])) _
        refine XS.bipush X73.here hx rfl (hb hby at_95) ?_
        show Steps p.tables e below (T73.setTop (mkF m 97 #[.val (.int raw), .val (.int sel), .val (.int dd), .val (.ref b61), .unset, .val (.int wv)] [(.int (7 : Int32)), (.int dd), (.int wv)])) _
        refine XS.iand X73.here hx rfl (hb hby at_97) rfl ?_
        show Steps p.tables e below (T73.setTop (mkF m 98 #[.val (.int raw), .val (.int sel), .val (.int dd), .val (.ref b61), .unset, .val (.int wv)] [(.int (dd &&& (7 : Int32))), (.int wv)])) _
        refine XS.iconst X73.here hx rfl (hb hby at_98) ?_
        show Steps p.tables e below (T73.setTop (mkF m 99 #[.val (.int raw), .val (.int sel), .val (.int dd), .val (.ref b61), .unset, .val (.int wv)] [(.int (4 : Int32)), (.int (dd &&& (7 : Int32))), (.int wv)])) _
        refine XS.isub X73.here hx rfl (hb hby at_99) rfl ?_
        show Steps p.tables e below (T73.setTop (mkF m 100 #[.val (.int raw), .val (.int sel), .val (.int dd), .val (.ref b61), .unset, .val (.int wv)] [(.int ((dd &&& (7 : Int32)) - (4 : Int32))), (.int wv)])) _
        refine XS.iadd X73.here hx rfl (hb hby at_100) rfl ?_
        show Steps p.tables e below (T73.setTop (mkF m 101 #[.val (.int raw), .val (.int sel), .val (.int dd), .val (.ref b61), .unset, .val (.int wv)] [(.int (wv + ((dd &&& (7 : Int32)) - (4 : Int32))))])) _
        refine XS.istore X73.here hx rfl (hb hby at_101) rfl (l' := #[.val (.int raw), .val (.int sel), .val (.int dd), .val (.ref b61), .val (.int (wv + ((dd &&& (7 : Int32)) - (4 : Int32)))), .val (.int wv)]) rfl ?_
        exact k)
    obtain ⟨sv, d_sv⟩ : ∃ z, z = (wv + ((dd &&& (7 : Int32)) - (4 : Int32))) := ⟨_, rfl⟩
    rw [← d_sv] at pre78
    obtain ⟨_, _, ⟨T79, L79, k79, n79⟩, -, X79, ⟨Lc79, hQ79, l79, y79, z79⟩, st79⟩ := Jvm.LawKit.callS X73 hx (y := (⟨"com/example/libnetlay/libnetlay/io/Entities", "isXmlCharacter", "(I)Z"⟩ : MethodName)) hown (mvT hZ (hw _ (List.mem_of_getElem? (i := 8) rfl))) (mvT hZ (hw _ (List.mem_of_getElem? (i := 9) rfl))) (mvT hZ (hw _ (List.mem_of_getElem? (i := 10) rfl))) (mvT hZ (hw _ (List.mem_of_getElem? (i := 11) rfl))) (by decide) (backOf (W := 0) (rm1 l Z a0 hw [] sv  h73 n0 Z73) hZ (hw _ (List.mem_of_getElem? (i := 11) rfl)) (hw _ (List.mem_of_getElem? (i := 10) rfl)) (by decide) (by decide)) (g := (mkF m 105 #[.val (.int raw), .val (.int sel), .val (.int dd), .val (.ref b61), .val (.int sv), .val (.int wv)] [(.int sv)])) rfl (by rw [hml]; rfl) (argsL := [(.int sv)]) (rest := []) (lenOf own_pd0 rfl) rfl (by show 2 * 0 + _ ≤ _; exact Nat.le_of_eq rfl) (hb hby at_105) (fun _ _ => ⟨rfl, e73, (by decide : 1 + 0 ≤ _), (by decide : 12 + 0 ≤ _)⟩)
    dsimp only [Pt.U, Pt.locs, Pt.cells, Pt.slots] at X79 l79 y79 z79 st79 hQ79
    subst l79 y79 z79
    obtain ⟨z79, rfl, hz79, N79q, e79⟩ := hQ79
    have N79 := Fr.app N73 N79q
    obtain ⟨_, _, ⟨T80, L80, k80, n80⟩, -, X80, ⟨Lc80, hQ80, l80, y80, z80⟩, st80⟩ := Jvm.LawKit.callS X79 hx (y := (⟨"com/example/libnetlay/libnetlay/io/EntitiesIsXmlCharacterPinLaw", "expected", "(I)Z"⟩ : MethodName)) hown (mvT hZ (hw _ (List.mem_of_getElem? (i := 14) rfl))) (mvT hZ (hw _ (List.mem_of_getElem? (i := 15) rfl))) (mvT hZ (hw _ (List.mem_of_getElem? (i := 16) rfl))) (mvT hZ (hw _ (List.mem_of_getElem? (i := 17) rfl))) (by decide) (backOf (W := 1) (rm2 l Z a0 hw [] sv  h73 n0 Z73) hZ (hw _ (List.mem_of_getElem? (i := 17) rfl)) (hw _ (List.mem_of_getElem? (i := 16) rfl)) (by decide) (by decide)) (g := (mkF m 110 #[.val (.int raw), .val (.int sel), .val (.int dd), .val (.ref b61), .val (.int sv), .val (.int wv)] [(.int sv), (.int z79)])) rfl (by rw [hml]; rfl) (argsL := [(.int sv)]) (rest := [(.int z79)]) (lenOf own_pd0 rfl) rfl (by show 2 * 0 + _ ≤ _; exact Nat.le_of_eq rfl) (hb hby at_110) (fun _ _ => ⟨rfl, e79, (by decide : 1 + 0 ≤ _), (by decide : 12 + 0 ≤ _)⟩)
    dsimp only [Pt.U, Pt.locs, Pt.cells, Pt.slots] at X80 l80 y80 z80 st80 hQ80
    subst l80 y80 z80
    obtain ⟨z80, rfl, hz80, N80q, e80⟩ := hQ80
    have N80 := Fr.app N79 N80q
    have he : z79 = z80 := own_says_eq hz79 hz80 Iff.rfl
    have pre81 : ∀ t, Steps p.tables e below (T80.setTop (mkF m 121 #[.val (.int raw), .val (.int sel), .val (.int dd), .val (.ref b61), .val (.int sv), .val (.int wv)] [(.int (1 : Int32))])) t → Steps p.tables e below (s₁.setTop (entryFrame m #[(.int raw), (.int sel), (.int dd)] maxLocals)) t := fun t k => pre78 t (by
        show Steps p.tables e below (T73.setTop (mkF m 103 #[.val (.int raw), .val (.int sel), .val (.int dd), .val (.ref b61), .val (.int sv), .val (.int wv)] [])) _
        refine XS.iload X73.here hx rfl (hb hby at_103) rfl ?_
        show Steps p.tables e below (T73.setTop (mkF m 105 #[.val (.int raw), .val (.int sel), .val (.int dd), .val (.ref b61), .val (.int sv), .val (.int wv)] [(.int sv)])) _
        refine st79 _ ?_
        show Steps p.tables e below (T79.setTop (mkF m 108 #[.val (.int raw), .val (.int sel), .val (.int dd), .val (.ref b61), .val (.int sv), .val (.int wv)] [(.int z79)])) _
        refine XS.iload X79.here hx rfl (hb hby at_108) rfl ?_
        show Steps p.tables e below (T79.setTop (mkF m 110 #[.val (.int raw), .val (.int sel), .val (.int dd), .val (.ref b61), .val (.int sv), .val (.int wv)] [(.int sv), (.int z79)])) _
        refine st80 _ ?_
        show Steps p.tables e below (T80.setTop (mkF m 113 #[.val (.int raw), .val (.int sel), .val (.int dd), .val (.ref b61), .val (.int sv), .val (.int wv)] [(.int z80), (.int z79)])) _
        refine XS.icmpNo X80.here hx rfl (hb hby at_113) rfl (teq he).2 ?_
        show Steps p.tables e below (T80.setTop (mkF m 116 #[.val (.int raw), .val (.int sel), .val (.int dd), .val (.ref b61), .val (.int sv), .val (.int wv)] [])) _
        refine XS.iconst X80.here hx rfl (hb hby at_116) ?_
        show Steps p.tables e below (T80.setTop (mkF m 117 #[.val (.int raw), .val (.int sel), .val (.int dd), .val (.ref b61), .val (.int sv), .val (.int wv)] [(.int (1 : Int32))])) _
        refine XS.goto X80.here hx rfl (pc0 := 117) (pc' := 121) rfl (hb hby at_117) (by decide) (by decide) ?_
        exact k)
    obtain ⟨fs, hr, hrun, hended, hW, hsame⟩ := X80.leave (v := some (.int (1 : Int32))) (fun h => by rw [Bd.returns] at h; cases h)
    refine ⟨_, _, pre81 _ ?_, hrun, hended, _, _, rfl, ?_, ⟨_, rfl⟩, hW, hsame.mono (by decide) (by decide)⟩
    · show Steps p.tables e below (T80.setTop (mkF m 121 #[.val (.int raw), .val (.int sel), .val (.int dd), .val (.ref b61), .val (.int sv), .val (.int wv)] [(.int (1 : Int32))])) _
      exact retN X80 hx (t := .boolean) Bd.returns (by simp) (hb hby at_121) hr
    · show Q0 Z raw sel dd h0 n0 _ T80.heap _
      rw [e80]
      exact ⟨rfl, N80⟩
set_option maxRecDepth 65536 in
set_option maxHeartbeats 40000000 in
theorem comes_1 {Post : Tables → Env → Array Value → State → Outcome → State → Prop} (hpost : ∀ tb e args s v u, (limb_1_1.after args s (.returned v) u = true ∧ limb_1_2.after args s (.returned v) u = true ∧ True) → FrameEnd s (.returned v) u (Jvm.fieldLocs frame_1_writes args s ++ Jvm.arrayLocs frame_1_arrays args s ++ Jvm.staticLocs frame_1_statics s) 16 128 → Post tb e args s (.returned v) u) :
    ArmFor flags0 classFile x code maxLocals ret World_1 tables_1 room_1 Calls_1 rest_1 Pre_1 Post := by
  intro l hfl _ _ p e ha hc hk s m args below hf hA hF happ hP
  obtain ⟨hcalls, hrest, hpre⟩ := hP
  obtain ⟨-, -, -, hnamed, -, -, -, hat⟩ := (Spec.applies_iff hf).mp happ
  obtain ⟨hg, hn⟩ := and_e (Cond.before_iff.mp (show (Jvm.Cond.and given_1 narrow_1).before args s = true from hpre))
  obtain ⟨h1, g0⟩ := and_e hg
  obtain ⟨w0, w1, w2, rfl⟩ : ∃ w0 w1 w2 : Value, args = #[w0, w1, w2] := by
    have hs : args.size = 3 := by simpa [Cond.value, given_1] using h1
    obtain ⟨L⟩ := args
    match L, hs with
    | [w0, w1, w2], _ => exact ⟨w0, w1, w2, rfl⟩
  have hw := fun d (hd : d ∈ tables_1) => atoms_spec (ws := Jvm.Cond.code x code maxLocals ret :: tables_1) hat d (List.mem_cons_of_mem _ hd)
  obtain ⟨f0, g1⟩ := and_e g0
  obtain ⟨i0, q0⟩ := is_v f0
  obtain rfl : w0 = (.int i0) := Option.some.inj q0
  obtain ⟨f1, g2⟩ := and_e g1
  obtain ⟨i1, q1⟩ := is_v f1
  obtain rfl : w1 = (.int i1) := Option.some.inj q1
  have f2 := g2
  obtain ⟨i2, q2⟩ := is_v f2
  obtain rfl : w2 = (.int i2) := Option.some.inj q2
  obtain ⟨n, o, h1, h2, h3, _, L, rfl, ⟨rfl, N⟩, hq⟩ := rm0 l s _ hw tables_1 i0 i1 i2 s.heap s.heap.size (Nat.le_refl _)  p e ha hc hk s m _ below hf ((Spec.applies_iff_loose hf).mp happ).1 ⟨rfl, State.Warmed39.refl s, rfl⟩ trivial
  refine ⟨n, _, h1, h2, h3, hpost _ _ _ _ _ _ ⟨Cond.after_iff.mpr rfl, Cond.after_iff.mpr (eq_i res_at (Term.int_eval (1)) rfl), trivial⟩ ⟨hq.1, hq.2.1, (hq.2.2.sift fun y hy => Or.inr (N y hy)).mono (by decide) (by decide)⟩⟩
theorem main_1_1 : Claimed_1_1 := comes_1 fun _ _ _ _ _ _ h hF => ⟨h.1, hF⟩
theorem main_1_2 : Claimed_1_2 := comes_1 fun _ _ _ _ _ _ h hF => ⟨h.2.1, hF⟩
end Jvm.Pilot.@@N@@
namespace Jvm.Pilot.@@N@@
open Jvm Jvm.ClassFile Sem Op Lib Jvm.Free Jvm.Stand Jvm.Pilot.@@N@@.Jvm.D
/-! MADE BY PROGRAM (witnessworld.py) out of the Statement's table words and the real class files: 9 classes; the members and pool entries that the words name. The judged class is class 1, her method 1. -/
namespace start1
open Jvm.ClassFile
def u (s : String) : CpInfo := .utf8 (stringToUtf16 s)
/-- a pool by its gaps: so many unusable entries, then the entry; so many at the end -/
def gap : Nat → List CpInfo → List CpInfo
  | 0, r => r
  | n + 1, r => .unusable :: gap n r
def poolList (es : List (Nat × CpInfo)) (last : Nat) : List CpInfo := es.foldr (fun e r => gap e.1 (e.2 :: r)) (gap last [])
def pool (es : List (Nat × CpInfo)) (last : Nat) : Array CpInfo := ⟨poolList es last⟩
def fileOf (pool : Array CpInfo) (this : Nat) (attrs : Array Attribute := #[]) (ms : Array MethodInfo := #[]) (fl : Nat := 33) (sup : Nat := 0) (ifs : Array Nat := #[]) (fds : Array FieldInfo := #[]) : ClassFile where
  minorVersion := 0
  majorVersion := 65
  constantPool := pool
  accessFlags := fl
  thisClass := this
  superClass := sup
  interfaces := ifs
  fields := fds
  methods := ms
  attributes := attrs
def plain (name : String) (sup : Option ClassId) : Class where
  name := name
  kind := .ordinary
  loader := none
  accessFlags := 33
  super := sup
  interfaces := #[]
  cf := none
  fields := #[]
  methods := #[]
  instanceTypes := #[]
  staticTypes := #[]
  resolved := #[]
  callSites := []
  init := .initialized
  statics := none
  mirror := none

def pool0 : Array CpInfo := pool [(5, u "<init>"), (0, u "()V"), (1, .class_ 10), (1, u "java/lang/Object")] 113

def k0m0 : Method := { name := "<init>", desc := "()V", sig := { parameters := [], returnType := none }, accessFlags := 1, code := none }
/-- java/lang/Object -/
def k0 : Class := { plain "java/lang/Object" none with
  accessFlags := 33
  interfaces := #[]
  cf := some (fileOf pool0 8 #[] #[{ accessFlags := 1, nameIndex := 5, descriptorIndex := 6, attributes := #[] }] 33 0 #[] #[])
  fields := #[]
  methods := #[k0m0]
  instanceTypes := #[]
  staticTypes := #[]
  resolved := Array.replicate 124 none
  statics := none }

def pool1 : Array CpInfo := pool [(2, .class_ 4), (1, u "java/lang/Object"), (0, u "<init>"), (0, u "()V"), (0, .integer 55296), (0, .integer 57344), (0, .integer 65534), (0, .integer 65536), (0, .integer 1114112), (2, .integer 2147483648), (0, .integer 2147483647), (0, .methodref 17 18), (0, .class_ 19), (0, .nameAndType 20 21), (0, u "com/example/libnetlay/libnetlay/io/Entities"), (0, u "isXmlCharacter"), (0, u "(I)Z"), (0, .methodref 23 24), (0, .class_ 25), (0, .nameAndType 26 21), (0, u "com/example/libnetlay/libnetlay/io/EntitiesIsXmlCharacterPinLaw"), (0, u "expected"), (0, .integer 1114111), (0, .integer 57343), (0, .integer 65535), (2, u "law"), (0, u "(III)Z")] 5

def k1m0 : Method := { name := "<init>", desc := "()V", sig := { parameters := [], returnType := none }, accessFlags := 2, code := none }
def k1c1 : Code := { maxStack := 4, maxLocals := 6, code := code, exceptionTable := #[], attributes := #[] }
def k1m1 : Method := { name := "law", desc := "(III)Z", sig := { parameters := [.int, .int, .int], returnType := some .boolean }, accessFlags := 9, code := some k1c1 }
def k1c2 : Code := { maxStack := 2, maxLocals := 1, code := method_3_code, exceptionTable := #[], attributes := #[] }
def k1m2 : Method := { name := "expected", desc := "(I)Z", sig := { parameters := [.int], returnType := some .boolean }, accessFlags := 10, code := some k1c2 }
/-- com/example/libnetlay/libnetlay/io/EntitiesIsXmlCharacterPinLaw -/
def k1 : Class := { plain "com/example/libnetlay/libnetlay/io/EntitiesIsXmlCharacterPinLaw" (some 0) with
  accessFlags := 49
  interfaces := #[]
  cf := some (fileOf pool1 23 #[] #[{ accessFlags := 2, nameIndex := 5, descriptorIndex := 6, attributes := #[] }, { accessFlags := 9, nameIndex := 32, descriptorIndex := 33, attributes := #[] }, { accessFlags := 10, nameIndex := 26, descriptorIndex := 21, attributes := #[] }] 49 2 #[] #[])
  fields := #[]
  methods := #[k1m0, k1m1, k1m2]
  instanceTypes := #[]
  staticTypes := #[]
  resolved := Array.replicate 39 none
  statics := none }

def pool2 : Array CpInfo := pool [(2, .class_ 4), (1, u "java/lang/Object"), (0, u "<init>"), (0, u "()V"), (15, .class_ 23), (0, u "com/example/libnetlay/libnetlay/io/Entities"), (11, u "NAMES"), (0, u "Ljava/util/List;"), (24, u "ENTITY"), (0, u "Ljava/util/regex/Pattern;"), (31, .integer 1114111), (21, .integer 55295), (0, .integer 57344), (0, .integer 65533), (0, .integer 65536), (38, u "CHARACTERS"), (0, u "Ljava/lang/String;"), (8, u "isXmlCharacter"), (0, u "(I)Z")] 18

def k2m0 : Method := { name := "<init>", desc := "()V", sig := { parameters := [], returnType := none }, accessFlags := 2, code := none }
def k2c1 : Code := { maxStack := 2, maxLocals := 1, code := prog_44_method_4_code, exceptionTable := #[], attributes := #[] }
def k2m1 : Method := { name := "isXmlCharacter", desc := "(I)Z", sig := { parameters := [.int], returnType := some .boolean }, accessFlags := 8, code := some k2c1 }
/-- com/example/libnetlay/libnetlay/io/Entities -/
def k2 : Class := { plain "com/example/libnetlay/libnetlay/io/Entities" (some 0) with
  accessFlags := 48
  interfaces := #[]
  cf := some (fileOf pool2 22 #[] #[{ accessFlags := 2, nameIndex := 5, descriptorIndex := 6, attributes := #[] }, { accessFlags := 8, nameIndex := 168, descriptorIndex := 169, attributes := #[] }] 48 2 #[] #[{ accessFlags := 26, nameIndex := 35, descriptorIndex := 36, attributes := #[] }, { accessFlags := 26, nameIndex := 158, descriptorIndex := 159, attributes := #[] }, { accessFlags := 26, nameIndex := 61, descriptorIndex := 62, attributes := #[] }])
  fields := #[{ name := "NAMES", type := (.object "java/util/List"), accessFlags := 26, slot := 0, constantValue := 0 }, { name := "CHARACTERS", type := (.object "java/lang/String"), accessFlags := 26, slot := 1, constantValue := 0 }, { name := "ENTITY", type := (.object "java/util/regex/Pattern"), accessFlags := 26, slot := 2, constantValue := 0 }]
  methods := #[k2m0, k2m1]
  instanceTypes := #[]
  staticTypes := #[(.object "java/util/List"), (.object "java/lang/String"), (.object "java/util/regex/Pattern")]
  resolved := Array.replicate 188 none
  statics := none }

def pool3 : Array CpInfo := pool [(1, u "java/lang/Cloneable"), (0, .class_ 1), (0, u "java/lang/Object"), (0, .class_ 3)] 3

/-- java/lang/Cloneable -/
def k3 : Class := { plain "java/lang/Cloneable" (some 0) with
  accessFlags := 1537
  interfaces := #[]
  cf := some (fileOf pool3 2 #[] #[] 1537 4 #[] #[])
  fields := #[]
  methods := #[]
  instanceTypes := #[]
  staticTypes := #[]
  resolved := Array.replicate 8 none
  statics := none }

def pool4 : Array CpInfo := pool [(1, u "java/io/Serializable"), (0, .class_ 1), (0, u "java/lang/Object"), (0, .class_ 3)] 3

/-- java/io/Serializable -/
def k4 : Class := { plain "java/io/Serializable" (some 0) with
  accessFlags := 1537
  interfaces := #[]
  cf := some (fileOf pool4 2 #[] #[] 1537 4 #[] #[])
  fields := #[]
  methods := #[]
  instanceTypes := #[]
  staticTypes := #[]
  resolved := Array.replicate 8 none
  statics := none }

/-- the primitive byte -/
def k5 : Class := { plain "byte" none with kind := .primitive 'B', accessFlags := 0x411 }
/-- [B -/
def k6 : Class := { plain "[B" (some 0) with kind := .array 5 .byte, interfaces := #[3, 4], accessFlags := 1041 }

/-- the primitive int -/
def k7 : Class := { plain "int" none with kind := .primitive 'I', accessFlags := 0x411 }
/-- [I -/
def k8 : Class := { plain "[I" (some 0) with kind := .array 7 .int, interfaces := #[3, 4], accessFlags := 1041 }

def heap : Heap := #[]
def classes : Array Class := #[k0, k1, k2, k3, k4, k5, k6, k7, k8]
def interned : List (Array UInt16 × Addr) := []
def slotsUsed : Nat := 0
def theMethod : MethodId := ⟨1, 1⟩
def args0 : Array Value := #[.int 65, .int 3, .int 2]
def aboutOver (below : List Frame) : State where
  vm := { classes := classes, interned := interned.toArray }
  heap := heap
  slotsUsed := slotsUsed
  threads := #[{ frames := .invoking theMethod args0 :: below }]
def below0 : List Frame := [.native { method := ⟨0, 0⟩, args := #[] }]
def about1 : State := aboutOver below0
def p0 : Program := .bare "" "" ""
def e0 : Env := launch0.env 0 0 0
theorem w_frames : about1.frames = Frame.invoking theMethod args0 :: below0 := rfl
set_option maxRecDepth 65536 in
theorem w_args : argsFit about1.vm theMethod args0 = true := by decide +kernel
set_option maxRecDepth 65536 in
theorem w_heap : heapFits about1 = true := by decide +kernel
set_option maxRecDepth 65536 in
theorem w_runnable : about1.curStatus? = some .runnable := by decide +kernel
set_option maxRecDepth 65536 in
theorem w_alone : about1.alone = true := by decide +kernel
set_option maxRecDepth 65536 in
theorem w_named : about1.methodNamed? x = some theMethod := by decide +kernel
set_option maxRecDepth 65536 in
theorem w_hears : about1.hears theMethod below0 = true := by decide +kernel
set_option maxRecDepth 65536 in
theorem w_ripe : about1.ripe theMethod args0 below0 = true := by decide +kernel
theorem w_running : about1.status = .running := rfl
set_option maxRecDepth 65536 in
theorem w_room : about1.hasRoom e0.platform room_1 = true :=
  launch0.hasRoom_least _ room_1 (by decide +kernel) (by decide +kernel) (by decide +kernel) (by decide +kernel) (by decide +kernel) (by decide +kernel)
theorem allAtoms_all (ts : List Jvm.Cond) (a : Array Jvm.Value) (st : Jvm.State) : (allAtoms ts).before a st = ts.all (fun c => c.before a st) := by
  induction ts with
  | nil => rfl
  | cons c t ih =>
    show (Jvm.Cond.and c (allAtoms t)).before a st = _
    rw [Jvm.Cond.before_and, ih, List.all_cons]
def words1 : List Jvm.Cond := Jvm.Cond.code x code maxLocals ret :: tables_1
/-- a 'code' word, met by the world's own term for the bytes: nothing is compared byte by byte -/
theorem code_word {y : MethodName} {bytes : ByteArray} {mx : Nat} {rt : Option FieldType} {a : Array Value} {s : State} {m : MethodId} {meth : Method} {c : Code} (h1 : s.methodNamed? y = some m) (h2 : s.vm.method? m = some meth) (h3 : meth.code = some c) (h4 : c.code = bytes)
    (h5 : (c.maxLocals == mx && c.exceptionTable.isEmpty && decide (c.maxStack ≤ mostOperands) && decide (meth.sig.returnType = rt) && !meth.locks && decide (parseMethodDescriptor y.desc = some meth.sig)) = true) : (Jvm.Cond.code y bytes mx rt).before a s = true := by
  simp only [Bool.and_eq_true, beq_iff_eq, Bool.not_eq_true', decide_eq_true_eq] at h5
  obtain ⟨⟨⟨⟨⟨g1, g2⟩, g3⟩, g4⟩, g5⟩, g6⟩ := h5
  simp [Cond.before, Cond.holds, Cond.value, h1, h2, h3, h4, g1, g2, g3, g4, g5, g6]
def isCode : Jvm.Cond → Bool
  | .code _ _ _ _ => true
  | _ => false
theorem all_split {L : List Jvm.Cond} {P : Jvm.Cond → Bool} (h1 : L.all (fun c => isCode c || P c) = true) (h2 : ∀ c ∈ L.filter isCode, P c = true) : L.all P = true := by
  refine List.all_eq_true.mpr fun c hc => ?_
  have h := List.all_eq_true.mp h1 c hc
  rcases Bool.eq_false_or_eq_true (isCode c) with hi | hi
  · exact h2 c (List.mem_filter.mpr ⟨hc, hi⟩)
  · simpa [hi] using h
set_option maxRecDepth 65536 in
theorem w_c0 : (Jvm.Cond.code x code maxLocals ret).before args0 about1 = true := code_word (m := ⟨1, 1⟩) (meth := k1m1) (c := k1c1) (by decide +kernel) rfl rfl rfl (by decide +kernel)
set_option maxRecDepth 65536 in
theorem w_c1 : (Jvm.Cond.code ({ cls := "com/example/libnetlay/libnetlay/io/Entities", name := "isXmlCharacter", desc := "(I)Z" } : Jvm.MethodName) prog_44_method_4_code (1 : Nat) (Option.some Jvm.ClassFile.FieldType.boolean)).before args0 about1 = true := code_word (m := ⟨2, 1⟩) (meth := k2m1) (c := k2c1) (by decide +kernel) rfl rfl rfl (by decide +kernel)
set_option maxRecDepth 65536 in
theorem w_c2 : (Jvm.Cond.code ({ cls := "com/example/libnetlay/libnetlay/io/EntitiesIsXmlCharacterPinLaw", name := "expected", desc := "(I)Z" } : Jvm.MethodName) method_3_code (1 : Nat) (Option.some Jvm.ClassFile.FieldType.boolean)).before args0 about1 = true := code_word (m := ⟨1, 2⟩) (meth := k1m2) (c := k1c2) (by decide +kernel) rfl rfl rfl (by decide +kernel)
def codes1 : List Jvm.Cond := [Jvm.Cond.code x code maxLocals ret, Jvm.Cond.code ({ cls := "com/example/libnetlay/libnetlay/io/Entities", name := "isXmlCharacter", desc := "(I)Z" } : Jvm.MethodName) prog_44_method_4_code (1 : Nat) (Option.some Jvm.ClassFile.FieldType.boolean), Jvm.Cond.code ({ cls := "com/example/libnetlay/libnetlay/io/EntitiesIsXmlCharacterPinLaw", name := "expected", desc := "(I)Z" } : Jvm.MethodName) method_3_code (1 : Nat) (Option.some Jvm.ClassFile.FieldType.boolean)]
set_option maxRecDepth 65536 in
theorem codes_eq : words1.filter isCode = codes1 := rfl
theorem w_codes : ∀ c ∈ words1.filter isCode, c.before args0 about1 = true := by
  rw [codes_eq]
  intro c hc
  simp only [codes1, List.mem_cons, List.not_mem_nil, or_false] at hc
  rcases hc with rfl | rfl | rfl
  · exact w_c0
  · exact w_c1
  · exact w_c2
set_option maxRecDepth 65536 in
theorem w_t1 : (words1.take 24).all (fun c => isCode c || c.before args0 about1) = true := by decide +kernel
set_option maxRecDepth 65536 in
theorem w_t2 : (words1.drop 24).all (fun c => isCode c || c.before args0 about1) = true := by decide +kernel
theorem w_tables : (allAtoms (Jvm.Cond.code x code maxLocals ret :: tables_1)).before args0 about1 = true := by
  rw [allAtoms_all]
  show words1.all (fun c => c.before args0 about1) = true
  refine all_split ?_ w_codes
  rw [← List.take_append_drop 24 words1, List.all_append, w_t1, w_t2]
  rfl
set_option maxRecDepth 65536 in
theorem w_case : (Jvm.Cond.and given_1 narrow_1).before args0 about1 = true := by decide +kernel
theorem w_applies : (headSpec (Jvm.Cond.code x code maxLocals ret :: tables_1) room_1).applies x e0.platform about1 = true :=
  (Spec.applies_iff w_frames).mpr ⟨w_running, w_runnable, w_alone, w_named, w_hears, w_ripe, w_room, w_tables⟩
theorem atStart : AtStart classFile x code maxLocals ret World_1 tables_1 room_1 Calls_1 rest_1 Pre_1 launch0 p0 e0 about1 theMethod args0 below0 :=
  ⟨lists_1, trivial, launch0.admits_env _ _ _, launch0.least_env, fairChoices_fair.cas, fairChoices_fair.clock, w_frames, w_args, w_heap, w_applies, trivial, trivial, w_case⟩
end start1
theorem witness_1 : WitnessClaimed_1 := ⟨start1.p0, start1.e0, start1.about1, start1.theMethod, start1.args0, start1.below0, start1.atStart⟩
end Jvm.Pilot.@@N@@
