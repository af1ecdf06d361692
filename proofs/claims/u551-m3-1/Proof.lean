import JvmDerived
import JvmDerived.Pilot.@@N@@Statement
import JvmDerived.Pilot.@@N@@Code
set_option linter.unusedVariables false
set_option linter.unusedSimpArgs false
namespace Jvm.Pilot.@@N@@
open Jvm Jvm.ClassFile Sem Op Lib Jvm.Free Jvm.Stand Jvm.LawKit Jvm.RoadKit Bundle Jvm.Pilot.@@N@@.Jvm.D
/-- one of the two ints says whether P -/
def own_says (P : Prop) (v : Int32) : Prop := (P ∧ v = 1) ∨ (¬ P ∧ v = 0)
theorem own_says_eq {P Q : Prop} {v w : Int32} (h : own_says P v) (k : own_says Q w) (e : P ↔ Q) : v = w := by
  rcases h with ⟨a, rfl⟩ | ⟨a, rfl⟩ <;> rcases k with ⟨b, rfl⟩ | ⟨b, rfl⟩
  · rfl
  · exact absurd (e.mp a) b
  · exact absurd (e.mpr b) a
  · rfl
theorem own_says_ne {P : Prop} {v : Int32} (h : own_says P v) : (v = 0 ↔ ¬ P) := by
  rcases h with ⟨a, rfl⟩ | ⟨a, rfl⟩
  · simp [a]
  · simp [a]
def own_R (x : Int32) : Prop := 400 ≤ x.toInt ∧ x.toInt ≤ 599 ∧ x.toInt ≠ 401 ∧ x.toInt ≠ 405 ∧ x.toInt ≠ 407 ∧ x.toInt ≠ 426
theorem own_d (x : Int32) : (x.toInt64 - 400).toInt = x.toInt - 400 := by
  have h := Jvm.RoadKit.c_lsub x.toInt64 400
  rw [Jvm.RoadKit.c_i2l] at h
  have r := Jvm.RoadKit.rng64 (x.toInt64 - 400)
  have s := Jvm.RoadKit.rng32 x
  have e : (400 : Int64).toInt = 400 := by decide
  omega
theorem own_bits_all : ∀ k : Nat, k < 64 → ((((((67109026 : Int64).toUInt64 >>> (((Int32.ofNat (400 + k)).toInt64 - 400).toInt32 &&& 0x3f).toInt64.toUInt64).toInt64) &&& 1) = 0) ↔ (k ≠ 1 ∧ k ≠ 5 ∧ k ≠ 7 ∧ k ≠ 26)) := by decide +kernel
theorem own_bits (x : Int32) (h0 : 400 ≤ x.toInt) (h1 : x.toInt < 464) : ((((((67109026 : Int64).toUInt64 >>> ((x.toInt64 - 400).toInt32 &&& 0x3f).toInt64.toUInt64).toInt64) &&& 1) = 0) ↔ own_R x) := by
  obtain ⟨k, hk⟩ : ∃ k : Nat, x.toInt = 400 + k := ⟨(x.toInt - 400).toNat, by omega⟩
  have hx : x = Int32.ofNat (400 + k) := by
    apply Int32.toInt_inj.mp
    rw [hk, Int32.toInt_ofNat_of_lt (by omega)]
    omega
  have := own_bits_all k (by omega)
  rw [← hx] at this
  rw [this]
  simp only [own_R]
  omega
theorem d1_0 : decode prog_49_method_13_code 0 = .ok (.iload_n 0, 1) := by decide +kernel
theorem d1_1 : decode prog_49_method_13_code 1 = .ok (.sipush 400, 3) := by decide +kernel
theorem d1_4 : decode prog_49_method_13_code 4 = .ok (.if_icmp .lt 42, 3) := by decide +kernel
theorem d1_7 : decode prog_49_method_13_code 7 = .ok (.iload_n 0, 1) := by decide +kernel
theorem d1_8 : decode prog_49_method_13_code 8 = .ok (.sipush 599, 3) := by decide +kernel
theorem d1_11 : decode prog_49_method_13_code 11 = .ok (.if_icmp .gt 35, 3) := by decide +kernel
theorem d1_14 : decode prog_49_method_13_code 14 = .ok (.iload_n 0, 1) := by decide +kernel
theorem d1_15 : decode prog_49_method_13_code 15 = .ok (.sipush 401, 3) := by decide +kernel
theorem d1_18 : decode prog_49_method_13_code 18 = .ok (.if_icmp .eq 28, 3) := by decide +kernel
theorem d1_21 : decode prog_49_method_13_code 21 = .ok (.iload_n 0, 1) := by decide +kernel
theorem d1_22 : decode prog_49_method_13_code 22 = .ok (.sipush 405, 3) := by decide +kernel
theorem d1_25 : decode prog_49_method_13_code 25 = .ok (.if_icmp .eq 21, 3) := by decide +kernel
theorem d1_28 : decode prog_49_method_13_code 28 = .ok (.iload_n 0, 1) := by decide +kernel
theorem d1_29 : decode prog_49_method_13_code 29 = .ok (.sipush 407, 3) := by decide +kernel
theorem d1_32 : decode prog_49_method_13_code 32 = .ok (.if_icmp .eq 14, 3) := by decide +kernel
theorem d1_35 : decode prog_49_method_13_code 35 = .ok (.iload_n 0, 1) := by decide +kernel
theorem d1_36 : decode prog_49_method_13_code 36 = .ok (.sipush 426, 3) := by decide +kernel
theorem d1_39 : decode prog_49_method_13_code 39 = .ok (.if_icmp .eq 7, 3) := by decide +kernel
theorem d1_42 : decode prog_49_method_13_code 42 = .ok (.iconst 1, 1) := by decide +kernel
theorem d1_43 : decode prog_49_method_13_code 43 = .ok (.goto 4, 3) := by decide +kernel
theorem d1_46 : decode prog_49_method_13_code 46 = .ok (.iconst 0, 1) := by decide +kernel
theorem d1_47 : decode prog_49_method_13_code 47 = .ok (.ireturn, 1) := by decide +kernel
theorem pn_1 : plainName "com/example/unfussy_throttle/unfussythrottle/policy/Policy" = true := by first | (simp [plainName, overriddenIn]; done) | decide +kernel
theorem ef_1 (m : MethodId) (p0 : Int32) : entryFrame m #[(.int p0)] 1 = mkF m 0 #[.val (.int p0)] [] := by first | (simp [entryFrame, mkF, argsToLocals, Value.category]; done) | rfl
def Q1 (Z : State) (st0 : Int32)  (h0 : Heap) (n0 : Nat) (v : Option Value) (h : Heap) (L : List Loc) : Prop := ∃ z : Int32, v = some (.int z) ∧ own_says (own_R st0) z ∧ Fr n0 L ∧ h = h0
set_option maxRecDepth 65536 in
set_option maxHeartbeats 40000000 in
theorem rm1 (l : Launch) (Z : State) (a0 : Array Value) (hw : ∀ d ∈ tables_1, d.before a0 Z = true) (ws : List Jvm.Cond) (st0 : Int32)  (h0 : Heap) (n0 : Nat) (Z0 : n0 ≤ h0.size)  :
    MetFree l (⟨"com/example/unfussy_throttle/unfussythrottle/policy/Policy", "isRefusalStatus", "(I)Z"⟩ : MethodName) (head1 (Jvm.Cond.code (⟨"com/example/unfussy_throttle/unfussythrottle/policy/Policy", "isRefusalStatus", "(I)Z"⟩ : MethodName) prog_49_method_13_code 1 (some .boolean) :: ws) ({ frames := 0, cells := 0, slots := 0, locals := 0 } : Room)) (fun a U => a = #[(.int st0)] ∧ Z.Warmed39 U.vm ∧ U.heap = h0) (fun _ _ _ _ _ => True) (fun _ U o U' => ∃ v L, o = .returned v ∧ Q1 Z st0 h0 n0 v U'.heap L ∧ FrameEnd U o U' L ({ frames := 0, cells := 0, slots := 0, locals := 0 } : Room).cells ({ frames := 0, cells := 0, slots := 0, locals := 0 } : Room).slots) := by
  refine MetFree.of_bodySF (plainFor_of_name pn_1) hisR ?_
  intro p e s m args below meth c s₁ Bd hml0 hP hK
  obtain ⟨rfl, hZ, hh⟩ := hP
  have hx := Bd.exec
  have hby := Bd.bytes
  have hml : c.maxLocals = 1 := hml0
  have hown : s.vm.findClass "com/example/unfussy_throttle/unfussythrottle/policy/Policy" = some m.cls := findClass_of_methodNamed Bd.named
  have hnm := (name_of_methodNamed Bd.named Bd.method).1
  have X0 : Stand p l e ({ frames := 0, cells := 0, slots := 0, locals := 0 } : Room) s m #[(.int st0)] below meth c s₁ [] 0 0 := Stand.of_body Bd
  have e0 : s₁.heap = h0 := by rw [← hh, Bd.state]; rfl
  have N0 := Fr.nil n0
  have pre0 : ∀ t, Steps p.tables e below (s₁.setTop (mkF m 0 #[.val (.int st0)] [])) t → Steps p.tables e below (s₁.setTop (entryFrame m #[(.int st0)] 1)) t := fun t k => castTop (ef_1 m st0) k
  have pre1 : ∀ t, Steps p.tables e below (s₁.setTop (mkF m 4 #[.val (.int st0)] [(.int (400 : Int32)), (.int st0)])) t → Steps p.tables e below (s₁.setTop (entryFrame m #[(.int st0)] 1)) t := fun t k => pre0 t (by
      show Steps p.tables e below (s₁.setTop (mkF m 0 #[.val (.int st0)] [])) _
      refine XS.iloadN X0.here hx rfl (hb hby d1_0) rfl ?_
      show Steps p.tables e below (s₁.setTop (mkF m 1 #[.val (.int st0)] [(.int st0)])) _
      refine XS.sipush X0.here hx rfl (hb hby d1_1) ?_
      exact k)
  by_cases hc4 : st0 < (400 : Int32)
  · skip
    have pre2 : ∀ t, Steps p.tables e below (s₁.setTop (mkF m 47 #[.val (.int st0)] [(.int (0 : Int32))])) t → Steps p.tables e below (s₁.setTop (entryFrame m #[(.int st0)] 1)) t := fun t k => pre1 t (by
        show Steps p.tables e below (s₁.setTop (mkF m 4 #[.val (.int st0)] [(.int (400 : Int32)), (.int st0)])) _
        refine XS.icmpYes X0.here hx rfl (pc0 := 4) (pc' := 46) rfl (hb hby d1_4) rfl (tlt hc4).1 (by decide) (by decide) ?_
        show Steps p.tables e below (s₁.setTop (mkF m 46 #[.val (.int st0)] [])) _
        refine XS.iconst X0.here hx rfl (hb hby d1_46) ?_
        exact k)
    obtain ⟨fs, hr, hrun, hended, hW, hsame⟩ := X0.leave (v := some (.int (0 : Int32))) (fun h => by rw [Bd.returns] at h; cases h)
    refine ⟨_, _, pre2 _ ?_, hrun, hended, _, _, rfl, ?_, ⟨_, rfl⟩, hW, hsame.mono (by decide) (by decide)⟩
    · show Steps p.tables e below (s₁.setTop (mkF m 47 #[.val (.int st0)] [(.int (0 : Int32))])) _
      exact retN X0 hx (t := .boolean) Bd.returns (by simp) (hb hby d1_47) hr
    · show Q1 Z st0 h0 n0 _ s₁.heap _
      rw [e0]
      exact ⟨(0 : Int32), rfl, (Or.inr ⟨(by simp only [own_R, Int32.lt_iff_toInt_lt, ← Int32.toInt_inj, Int32.reduceToInt] at hc4 ⊢; omega), rfl⟩), N0, rfl⟩
  · skip
    have pre3 : ∀ t, Steps p.tables e below (s₁.setTop (mkF m 11 #[.val (.int st0)] [(.int (599 : Int32)), (.int st0)])) t → Steps p.tables e below (s₁.setTop (entryFrame m #[(.int st0)] 1)) t := fun t k => pre1 t (by
        show Steps p.tables e below (s₁.setTop (mkF m 4 #[.val (.int st0)] [(.int (400 : Int32)), (.int st0)])) _
        refine XS.icmpNo X0.here hx rfl (hb hby d1_4) rfl (flt hc4).1 ?_
        show Steps p.tables e below (s₁.setTop (mkF m 7 #[.val (.int st0)] [])) _
        refine XS.iloadN X0.here hx rfl (hb hby d1_7) rfl ?_
        show Steps p.tables e below (s₁.setTop (mkF m 8 #[.val (.int st0)] [(.int st0)])) _
        refine XS.sipush X0.here hx rfl (hb hby d1_8) ?_
        exact k)
    by_cases hc11 : (599 : Int32) < st0
    · skip
      have pre4 : ∀ t, Steps p.tables e below (s₁.setTop (mkF m 47 #[.val (.int st0)] [(.int (0 : Int32))])) t → Steps p.tables e below (s₁.setTop (entryFrame m #[(.int st0)] 1)) t := fun t k => pre3 t (by
          show Steps p.tables e below (s₁.setTop (mkF m 11 #[.val (.int st0)] [(.int (599 : Int32)), (.int st0)])) _
          refine XS.icmpYes X0.here hx rfl (pc0 := 11) (pc' := 46) rfl (hb hby d1_11) rfl (tlt hc11).2.2.1 (by decide) (by decide) ?_
          show Steps p.tables e below (s₁.setTop (mkF m 46 #[.val (.int st0)] [])) _
          refine XS.iconst X0.here hx rfl (hb hby d1_46) ?_
          exact k)
      obtain ⟨fs, hr, hrun, hended, hW, hsame⟩ := X0.leave (v := some (.int (0 : Int32))) (fun h => by rw [Bd.returns] at h; cases h)
      refine ⟨_, _, pre4 _ ?_, hrun, hended, _, _, rfl, ?_, ⟨_, rfl⟩, hW, hsame.mono (by decide) (by decide)⟩
      · show Steps p.tables e below (s₁.setTop (mkF m 47 #[.val (.int st0)] [(.int (0 : Int32))])) _
        exact retN X0 hx (t := .boolean) Bd.returns (by simp) (hb hby d1_47) hr
      · show Q1 Z st0 h0 n0 _ s₁.heap _
        rw [e0]
        exact ⟨(0 : Int32), rfl, (Or.inr ⟨(by simp only [own_R, Int32.lt_iff_toInt_lt, ← Int32.toInt_inj, Int32.reduceToInt] at hc4 hc11 ⊢; omega), rfl⟩), N0, rfl⟩
    · skip
      have pre5 : ∀ t, Steps p.tables e below (s₁.setTop (mkF m 18 #[.val (.int st0)] [(.int (401 : Int32)), (.int st0)])) t → Steps p.tables e below (s₁.setTop (entryFrame m #[(.int st0)] 1)) t := fun t k => pre3 t (by
          show Steps p.tables e below (s₁.setTop (mkF m 11 #[.val (.int st0)] [(.int (599 : Int32)), (.int st0)])) _
          refine XS.icmpNo X0.here hx rfl (hb hby d1_11) rfl (flt hc11).2.2.1 ?_
          show Steps p.tables e below (s₁.setTop (mkF m 14 #[.val (.int st0)] [])) _
          refine XS.iloadN X0.here hx rfl (hb hby d1_14) rfl ?_
          show Steps p.tables e below (s₁.setTop (mkF m 15 #[.val (.int st0)] [(.int st0)])) _
          refine XS.sipush X0.here hx rfl (hb hby d1_15) ?_
          exact k)
      by_cases hc18 : st0 = (401 : Int32)
      · skip
        have pre6 : ∀ t, Steps p.tables e below (s₁.setTop (mkF m 47 #[.val (.int st0)] [(.int (0 : Int32))])) t → Steps p.tables e below (s₁.setTop (entryFrame m #[(.int st0)] 1)) t := fun t k => pre5 t (by
            show Steps p.tables e below (s₁.setTop (mkF m 18 #[.val (.int st0)] [(.int (401 : Int32)), (.int st0)])) _
            refine XS.icmpYes X0.here hx rfl (pc0 := 18) (pc' := 46) rfl (hb hby d1_18) rfl (teq hc18).1 (by decide) (by decide) ?_
            show Steps p.tables e below (s₁.setTop (mkF m 46 #[.val (.int st0)] [])) _
            refine XS.iconst X0.here hx rfl (hb hby d1_46) ?_
            exact k)
        obtain ⟨fs, hr, hrun, hended, hW, hsame⟩ := X0.leave (v := some (.int (0 : Int32))) (fun h => by rw [Bd.returns] at h; cases h)
        refine ⟨_, _, pre6 _ ?_, hrun, hended, _, _, rfl, ?_, ⟨_, rfl⟩, hW, hsame.mono (by decide) (by decide)⟩
        · show Steps p.tables e below (s₁.setTop (mkF m 47 #[.val (.int st0)] [(.int (0 : Int32))])) _
          exact retN X0 hx (t := .boolean) Bd.returns (by simp) (hb hby d1_47) hr
        · show Q1 Z st0 h0 n0 _ s₁.heap _
          rw [e0]
          exact ⟨(0 : Int32), rfl, (Or.inr ⟨(by simp only [own_R, Int32.lt_iff_toInt_lt, ← Int32.toInt_inj, Int32.reduceToInt] at hc4 hc11 hc18 ⊢; omega), rfl⟩), N0, rfl⟩
      · skip
        have pre7 : ∀ t, Steps p.tables e below (s₁.setTop (mkF m 25 #[.val (.int st0)] [(.int (405 : Int32)), (.int st0)])) t → Steps p.tables e below (s₁.setTop (entryFrame m #[(.int st0)] 1)) t := fun t k => pre5 t (by
            show Steps p.tables e below (s₁.setTop (mkF m 18 #[.val (.int st0)] [(.int (401 : Int32)), (.int st0)])) _
            refine XS.icmpNo X0.here hx rfl (hb hby d1_18) rfl (feq hc18).1 ?_
            show Steps p.tables e below (s₁.setTop (mkF m 21 #[.val (.int st0)] [])) _
            refine XS.iloadN X0.here hx rfl (hb hby d1_21) rfl ?_
            show Steps p.tables e below (s₁.setTop (mkF m 22 #[.val (.int st0)] [(.int st0)])) _
            refine XS.sipush X0.here hx rfl (hb hby d1_22) ?_
            exact k)
        by_cases hc25 : st0 = (405 : Int32)
        · skip
          have pre8 : ∀ t, Steps p.tables e below (s₁.setTop (mkF m 47 #[.val (.int st0)] [(.int (0 : Int32))])) t → Steps p.tables e below (s₁.setTop (entryFrame m #[(.int st0)] 1)) t := fun t k => pre7 t (by
              show Steps p.tables e below (s₁.setTop (mkF m 25 #[.val (.int st0)] [(.int (405 : Int32)), (.int st0)])) _
              refine XS.icmpYes X0.here hx rfl (pc0 := 25) (pc' := 46) rfl (hb hby d1_25) rfl (teq hc25).1 (by decide) (by decide) ?_
              show Steps p.tables e below (s₁.setTop (mkF m 46 #[.val (.int st0)] [])) _
              refine XS.iconst X0.here hx rfl (hb hby d1_46) ?_
              exact k)
          obtain ⟨fs, hr, hrun, hended, hW, hsame⟩ := X0.leave (v := some (.int (0 : Int32))) (fun h => by rw [Bd.returns] at h; cases h)
          refine ⟨_, _, pre8 _ ?_, hrun, hended, _, _, rfl, ?_, ⟨_, rfl⟩, hW, hsame.mono (by decide) (by decide)⟩
          · show Steps p.tables e below (s₁.setTop (mkF m 47 #[.val (.int st0)] [(.int (0 : Int32))])) _
            exact retN X0 hx (t := .boolean) Bd.returns (by simp) (hb hby d1_47) hr
          · show Q1 Z st0 h0 n0 _ s₁.heap _
            rw [e0]
            exact ⟨(0 : Int32), rfl, (Or.inr ⟨(by simp only [own_R, Int32.lt_iff_toInt_lt, ← Int32.toInt_inj, Int32.reduceToInt] at hc4 hc11 hc18 hc25 ⊢; omega), rfl⟩), N0, rfl⟩
        · skip
          have pre9 : ∀ t, Steps p.tables e below (s₁.setTop (mkF m 32 #[.val (.int st0)] [(.int (407 : Int32)), (.int st0)])) t → Steps p.tables e below (s₁.setTop (entryFrame m #[(.int st0)] 1)) t := fun t k => pre7 t (by
              show Steps p.tables e below (s₁.setTop (mkF m 25 #[.val (.int st0)] [(.int (405 : Int32)), (.int st0)])) _
              refine XS.icmpNo X0.here hx rfl (hb hby d1_25) rfl (feq hc25).1 ?_
              show Steps p.tables e below (s₁.setTop (mkF m 28 #[.val (.int st0)] [])) _
              refine XS.iloadN X0.here hx rfl (hb hby d1_28) rfl ?_
              show Steps p.tables e below (s₁.setTop (mkF m 29 #[.val (.int st0)] [(.int st0)])) _
              refine XS.sipush X0.here hx rfl (hb hby d1_29) ?_
              exact k)
          by_cases hc32 : st0 = (407 : Int32)
          · skip
            have pre10 : ∀ t, Steps p.tables e below (s₁.setTop (mkF m 47 #[.val (.int st0)] [(.int (0 : Int32))])) t → Steps p.tables e below (s₁.setTop (entryFrame m #[(.int st0)] 1)) t := fun t k => pre9 t (by
                show Steps p.tables e below (s₁.setTop (mkF m 32 #[.val (.int st0)] [(.int (407 : Int32)), (.int st0)])) _
                refine XS.icmpYes X0.here hx rfl (pc0 := 32) (pc' := 46) rfl (hb hby d1_32) rfl (teq hc32).1 (by decide) (by decide) ?_
                show Steps p.tables e below (s₁.setTop (mkF m 46 #[.val (.int st0)] [])) _
                refine XS.iconst X0.here hx rfl (hb hby d1_46) ?_
                exact k)
            obtain ⟨fs, hr, hrun, hended, hW, hsame⟩ := X0.leave (v := some (.int (0 : Int32))) (fun h => by rw [Bd.returns] at h; cases h)
            refine ⟨_, _, pre10 _ ?_, hrun, hended, _, _, rfl, ?_, ⟨_, rfl⟩, hW, hsame.mono (by decide) (by decide)⟩
            · show Steps p.tables e below (s₁.setTop (mkF m 47 #[.val (.int st0)] [(.int (0 : Int32))])) _
              exact retN X0 hx (t := .boolean) Bd.returns (by simp) (hb hby d1_47) hr
            · show Q1 Z st0 h0 n0 _ s₁.heap _
              rw [e0]
              exact ⟨(0 : Int32), rfl, (Or.inr ⟨(by simp only [own_R, Int32.lt_iff_toInt_lt, ← Int32.toInt_inj, Int32.reduceToInt] at hc4 hc11 hc18 hc25 hc32 ⊢; omega), rfl⟩), N0, rfl⟩
          · skip
            have pre11 : ∀ t, Steps p.tables e below (s₁.setTop (mkF m 39 #[.val (.int st0)] [(.int (426 : Int32)), (.int st0)])) t → Steps p.tables e below (s₁.setTop (entryFrame m #[(.int st0)] 1)) t := fun t k => pre9 t (by
                show Steps p.tables e below (s₁.setTop (mkF m 32 #[.val (.int st0)] [(.int (407 : Int32)), (.int st0)])) _
                refine XS.icmpNo X0.here hx rfl (hb hby d1_32) rfl (feq hc32).1 ?_
                show Steps p.tables e below (s₁.setTop (mkF m 35 #[.val (.int st0)] [])) _
                refine XS.iloadN X0.here hx rfl (hb hby d1_35) rfl ?_
                show Steps p.tables e below (s₁.setTop (mkF m 36 #[.val (.int st0)] [(.int st0)])) _
                refine XS.sipush X0.here hx rfl (hb hby d1_36) ?_
                exact k)
            by_cases hc39 : st0 = (426 : Int32)
            · skip
              have pre12 : ∀ t, Steps p.tables e below (s₁.setTop (mkF m 47 #[.val (.int st0)] [(.int (0 : Int32))])) t → Steps p.tables e below (s₁.setTop (entryFrame m #[(.int st0)] 1)) t := fun t k => pre11 t (by
                  show Steps p.tables e below (s₁.setTop (mkF m 39 #[.val (.int st0)] [(.int (426 : Int32)), (.int st0)])) _
                  refine XS.icmpYes X0.here hx rfl (pc0 := 39) (pc' := 46) rfl (hb hby d1_39) rfl (teq hc39).1 (by decide) (by decide) ?_
                  show Steps p.tables e below (s₁.setTop (mkF m 46 #[.val (.int st0)] [])) _
                  refine XS.iconst X0.here hx rfl (hb hby d1_46) ?_
                  exact k)
              obtain ⟨fs, hr, hrun, hended, hW, hsame⟩ := X0.leave (v := some (.int (0 : Int32))) (fun h => by rw [Bd.returns] at h; cases h)
              refine ⟨_, _, pre12 _ ?_, hrun, hended, _, _, rfl, ?_, ⟨_, rfl⟩, hW, hsame.mono (by decide) (by decide)⟩
              · show Steps p.tables e below (s₁.setTop (mkF m 47 #[.val (.int st0)] [(.int (0 : Int32))])) _
                exact retN X0 hx (t := .boolean) Bd.returns (by simp) (hb hby d1_47) hr
              · show Q1 Z st0 h0 n0 _ s₁.heap _
                rw [e0]
                exact ⟨(0 : Int32), rfl, (Or.inr ⟨(by simp only [own_R, Int32.lt_iff_toInt_lt, ← Int32.toInt_inj, Int32.reduceToInt] at hc4 hc11 hc18 hc25 hc32 hc39 ⊢; omega), rfl⟩), N0, rfl⟩
            · skip
              have pre13 : ∀ t, Steps p.tables e below (s₁.setTop (mkF m 47 #[.val (.int st0)] [(.int (1 : Int32))])) t → Steps p.tables e below (s₁.setTop (entryFrame m #[(.int st0)] 1)) t := fun t k => pre11 t (by
                  show Steps p.tables e below (s₁.setTop (mkF m 39 #[.val (.int st0)] [(.int (426 : Int32)), (.int st0)])) _
                  refine XS.icmpNo X0.here hx rfl (hb hby d1_39) rfl (feq hc39).1 ?_
                  show Steps p.tables e below (s₁.setTop (mkF m 42 #[.val (.int st0)] [])) _
                  refine XS.iconst X0.here hx rfl (hb hby d1_42) ?_
                  show Steps p.tables e below (s₁.setTop (mkF m 43 #[.val (.int st0)] [(.int (1 : Int32))])) _
                  refine XS.goto X0.here hx rfl (pc0 := 43) (pc' := 47) rfl (hb hby d1_43) (by decide) (by decide) ?_
                  exact k)
              obtain ⟨fs, hr, hrun, hended, hW, hsame⟩ := X0.leave (v := some (.int (1 : Int32))) (fun h => by rw [Bd.returns] at h; cases h)
              refine ⟨_, _, pre13 _ ?_, hrun, hended, _, _, rfl, ?_, ⟨_, rfl⟩, hW, hsame.mono (by decide) (by decide)⟩
              · show Steps p.tables e below (s₁.setTop (mkF m 47 #[.val (.int st0)] [(.int (1 : Int32))])) _
                exact retN X0 hx (t := .boolean) Bd.returns (by simp) (hb hby d1_47) hr
              · show Q1 Z st0 h0 n0 _ s₁.heap _
                rw [e0]
                exact ⟨(1 : Int32), rfl, (Or.inl ⟨(by simp only [own_R, Int32.lt_iff_toInt_lt, ← Int32.toInt_inj, Int32.reduceToInt] at hc4 hc11 hc18 hc25 hc32 hc39 ⊢; omega), rfl⟩), N0, rfl⟩
theorem d2_0 : decode method_3_code 0 = .ok (.iload_n 0, 1) := by decide +kernel
theorem d2_1 : decode method_3_code 1 = .ok (.i2l, 1) := by decide +kernel
theorem d2_2 : decode method_3_code 2 = .ok (.ldc2_w 21, 3) := by decide +kernel
theorem d2_5 : decode method_3_code 5 = .ok (.lsub, 1) := by decide +kernel
theorem d2_6 : decode method_3_code 6 = .ok (.lstore_n 1, 1) := by decide +kernel
theorem d2_7 : decode method_3_code 7 = .ok (.lload_n 1, 1) := by decide +kernel
theorem d2_8 : decode method_3_code 8 = .ok (.lconst 0, 1) := by decide +kernel
theorem d2_9 : decode method_3_code 9 = .ok (.lcmp, 1) := by decide +kernel
theorem d2_10 : decode method_3_code 10 = .ok (.ifCond .lt 11, 3) := by decide +kernel
theorem d2_13 : decode method_3_code 13 = .ok (.lload_n 1, 1) := by decide +kernel
theorem d2_14 : decode method_3_code 14 = .ok (.ldc2_w 23, 3) := by decide +kernel
theorem d2_17 : decode method_3_code 17 = .ok (.lcmp, 1) := by decide +kernel
theorem d2_18 : decode method_3_code 18 = .ok (.ifCond .lt 5, 3) := by decide +kernel
theorem d2_21 : decode method_3_code 21 = .ok (.iconst 0, 1) := by decide +kernel
theorem d2_22 : decode method_3_code 22 = .ok (.ireturn, 1) := by decide +kernel
theorem d2_23 : decode method_3_code 23 = .ok (.lload_n 1, 1) := by decide +kernel
theorem d2_24 : decode method_3_code 24 = .ok (.ldc2_w 25, 3) := by decide +kernel
theorem d2_27 : decode method_3_code 27 = .ok (.lcmp, 1) := by decide +kernel
theorem d2_28 : decode method_3_code 28 = .ok (.ifCond .lt 5, 3) := by decide +kernel
theorem d2_31 : decode method_3_code 31 = .ok (.iconst 1, 1) := by decide +kernel
theorem d2_32 : decode method_3_code 32 = .ok (.ireturn, 1) := by decide +kernel
theorem d2_33 : decode method_3_code 33 = .ok (.ldc2_w 27, 3) := by decide +kernel
theorem d2_36 : decode method_3_code 36 = .ok (.lstore_n 3, 1) := by decide +kernel
theorem d2_37 : decode method_3_code 37 = .ok (.lload_n 3, 1) := by decide +kernel
theorem d2_38 : decode method_3_code 38 = .ok (.lload_n 1, 1) := by decide +kernel
theorem d2_39 : decode method_3_code 39 = .ok (.l2i, 1) := by decide +kernel
theorem d2_40 : decode method_3_code 40 = .ok (.lushr, 1) := by decide +kernel
theorem d2_41 : decode method_3_code 41 = .ok (.lconst 1, 1) := by decide +kernel
theorem d2_42 : decode method_3_code 42 = .ok (.land, 1) := by decide +kernel
theorem d2_43 : decode method_3_code 43 = .ok (.lconst 0, 1) := by decide +kernel
theorem d2_44 : decode method_3_code 44 = .ok (.lcmp, 1) := by decide +kernel
theorem d2_45 : decode method_3_code 45 = .ok (.ifCond .ne 7, 3) := by decide +kernel
theorem d2_48 : decode method_3_code 48 = .ok (.iconst 1, 1) := by decide +kernel
theorem d2_49 : decode method_3_code 49 = .ok (.goto 4, 3) := by decide +kernel
theorem d2_52 : decode method_3_code 52 = .ok (.iconst 0, 1) := by decide +kernel
theorem d2_53 : decode method_3_code 53 = .ok (.ireturn, 1) := by decide +kernel
theorem pn_2 : plainName "com/example/unfussy_throttle/unfussythrottle/policy/PolicyIsRefusalStatusPinLaw" = true := by first | (simp [plainName, overriddenIn]; done) | decide +kernel
theorem ef_2 (m : MethodId) (p0 : Int32) : entryFrame m #[(.int p0)] 5 = mkF m 0 #[.val (.int p0), .unset, .unset, .unset, .unset] [] := by first | (simp [entryFrame, mkF, argsToLocals, Value.category]; done) | rfl
def Q2 (Z : State) (st0 : Int32)  (h0 : Heap) (n0 : Nat) (v : Option Value) (h : Heap) (L : List Loc) : Prop := ∃ z : Int32, v = some (.int z) ∧ own_says (own_R st0) z ∧ Fr n0 L ∧ h = h0
set_option maxRecDepth 65536 in
set_option maxHeartbeats 40000000 in
theorem rm2 (l : Launch) (Z : State) (a0 : Array Value) (hw : ∀ d ∈ tables_1, d.before a0 Z = true) (ws : List Jvm.Cond) (st0 : Int32)  (h0 : Heap) (n0 : Nat) (Z0 : n0 ≤ h0.size)  :
    MetFree l (⟨"com/example/unfussy_throttle/unfussythrottle/policy/PolicyIsRefusalStatusPinLaw", "expected", "(I)Z"⟩ : MethodName) (head1 (Jvm.Cond.code (⟨"com/example/unfussy_throttle/unfussythrottle/policy/PolicyIsRefusalStatusPinLaw", "expected", "(I)Z"⟩ : MethodName) method_3_code 5 (some .boolean) :: ws) ({ frames := 0, cells := 0, slots := 0, locals := 0 } : Room)) (fun a U => a = #[(.int st0)] ∧ Z.Warmed39 U.vm ∧ U.heap = h0) (fun _ _ _ _ _ => True) (fun _ U o U' => ∃ v L, o = .returned v ∧ Q2 Z st0 h0 n0 v U'.heap L ∧ FrameEnd U o U' L ({ frames := 0, cells := 0, slots := 0, locals := 0 } : Room).cells ({ frames := 0, cells := 0, slots := 0, locals := 0 } : Room).slots) := by
  refine MetFree.of_bodySF (plainFor_of_name pn_2) hisR ?_
  intro p e s m args below meth c s₁ Bd hml0 hP hK
  obtain ⟨rfl, hZ, hh⟩ := hP
  have hx := Bd.exec
  have hby := Bd.bytes
  have hml : c.maxLocals = 5 := hml0
  have hown : s.vm.findClass "com/example/unfussy_throttle/unfussythrottle/policy/PolicyIsRefusalStatusPinLaw" = some m.cls := findClass_of_methodNamed Bd.named
  have hnm := (name_of_methodNamed Bd.named Bd.method).1
  have X0 : Stand p l e ({ frames := 0, cells := 0, slots := 0, locals := 0 } : Room) s m #[(.int st0)] below meth c s₁ [] 0 0 := Stand.of_body Bd
  have e0 : s₁.heap = h0 := by rw [← hh, Bd.state]; rfl
  have N0 := Fr.nil n0
  have pre0 : ∀ t, Steps p.tables e below (s₁.setTop (mkF m 0 #[.val (.int st0), .unset, .unset, .unset, .unset] [])) t → Steps p.tables e below (s₁.setTop (entryFrame m #[(.int st0)] 5)) t := fun t k => castTop (ef_2 m st0) k
  have pre14 : ∀ t, Steps p.tables e below (s₁.setTop (mkF m 10 #[.val (.int st0), .val (.long ((st0.toInt64) - (400 : Int64))), .second, .unset, .unset] [(.int (lcmpW ((st0.toInt64) - (400 : Int64)) (0 : Int64)))])) t → Steps p.tables e below (s₁.setTop (entryFrame m #[(.int st0)] 5)) t := fun t k => pre0 t (by
      show Steps p.tables e below (s₁.setTop (mkF m 0 #[.val (.int st0), .unset, .unset, .unset, .unset] [])) _
      refine XS.iloadN X0.here hx rfl (hb hby d2_0) rfl ?_
      show Steps p.tables e below (s₁.setTop (mkF m 1 #[.val (.int st0), .unset, .unset, .unset, .unset] [(.int st0)])) _
      refine XS.i2l X0.here hx rfl (hb hby d2_1) rfl ?_
      show Steps p.tables e below (s₁.setTop (mkF m 2 #[.val (.int st0), .unset, .unset, .unset, .unset] [(.long (st0.toInt64))])) _
      refine X0.ldc2Long hx hown (mvT hZ (hw _ (List.mem_of_getElem? (i := 10) rfl))) (g := (mkF m 2 #[.val (.int st0), .unset, .unset, .unset, .unset] [(.long (st0.toInt64))])) rfl (hb hby d2_2) _ ?_
      show Steps p.tables e below (s₁.setTop (mkF m 5 #[.val (.int st0), .unset, .unset, .unset, .unset] [(.long (400 : Int64)), (.long (st0.toInt64))])) _
      refine XS.lsub X0.here hx rfl (hb hby d2_5) rfl ?_
      show Steps p.tables e below (s₁.setTop (mkF m 6 #[.val (.int st0), .unset, .unset, .unset, .unset] [(.long ((st0.toInt64) - (400 : Int64)))])) _
      refine XS.lstoreN X0.here hx rfl (hb hby d2_6) rfl (l' := #[.val (.int st0), .val (.long ((st0.toInt64) - (400 : Int64))), .second, .unset, .unset]) rfl ?_
      show Steps p.tables e below (s₁.setTop (mkF m 7 #[.val (.int st0), .val (.long ((st0.toInt64) - (400 : Int64))), .second, .unset, .unset] [])) _
      refine XS.lloadN X0.here hx rfl (hb hby d2_7) rfl ?_
      show Steps p.tables e below (s₁.setTop (mkF m 8 #[.val (.int st0), .val (.long ((st0.toInt64) - (400 : Int64))), .second, .unset, .unset] [(.long ((st0.toInt64) - (400 : Int64)))])) _
      refine XS.lconst X0.here hx rfl (hb hby d2_8) ?_
      show Steps p.tables e below (s₁.setTop (mkF m 9 #[.val (.int st0), .val (.long ((st0.toInt64) - (400 : Int64))), .second, .unset, .unset] [(.long (0 : Int64)), (.long ((st0.toInt64) - (400 : Int64)))])) _
      refine XS.lcmp X0.here hx rfl (hb hby d2_9) rfl ?_
      exact k)
  by_cases hc10 : ((st0.toInt64) - (400 : Int64)) < (0 : Int64)
  · skip
    have pre15 : ∀ t, Steps p.tables e below (s₁.setTop (mkF m 22 #[.val (.int st0), .val (.long ((st0.toInt64) - (400 : Int64))), .second, .unset, .unset] [(.int (0 : Int32))])) t → Steps p.tables e below (s₁.setTop (entryFrame m #[(.int st0)] 5)) t := fun t k => pre14 t (by
        show Steps p.tables e below (s₁.setTop (mkF m 10 #[.val (.int st0), .val (.long ((st0.toInt64) - (400 : Int64))), .second, .unset, .unset] [(.int (lcmpW ((st0.toInt64) - (400 : Int64)) (0 : Int64)))])) _
        refine XS.ifYes X0.here hx rfl (pc0 := 10) (pc' := 21) rfl (hb hby d2_10) rfl ((if0 _ _).trans (tlt ((lw_lt _ _).mpr hc10)).1) (by decide) (by decide) ?_
        show Steps p.tables e below (s₁.setTop (mkF m 21 #[.val (.int st0), .val (.long ((st0.toInt64) - (400 : Int64))), .second, .unset, .unset] [])) _
        refine XS.iconst X0.here hx rfl (hb hby d2_21) ?_
        exact k)
    obtain ⟨fs, hr, hrun, hended, hW, hsame⟩ := X0.leave (v := some (.int (0 : Int32))) (fun h => by rw [Bd.returns] at h; cases h)
    refine ⟨_, _, pre15 _ ?_, hrun, hended, _, _, rfl, ?_, ⟨_, rfl⟩, hW, hsame.mono (by decide) (by decide)⟩
    · show Steps p.tables e below (s₁.setTop (mkF m 22 #[.val (.int st0), .val (.long ((st0.toInt64) - (400 : Int64))), .second, .unset, .unset] [(.int (0 : Int32))])) _
      exact retN X0 hx (t := .boolean) Bd.returns (by simp) (hb hby d2_22) hr
    · show Q2 Z st0 h0 n0 _ s₁.heap _
      rw [e0]
      exact ⟨(0 : Int32), rfl, (Or.inr ⟨(by simp only [own_R, Int64.lt_iff_toInt_lt, own_d, Int64.reduceToInt, Int32.lt_iff_toInt_lt, ← Int32.toInt_inj, Int32.reduceToInt] at hc10 ⊢; omega), rfl⟩), N0, rfl⟩
  · skip
    have pre16 : ∀ t, Steps p.tables e below (s₁.setTop (mkF m 18 #[.val (.int st0), .val (.long ((st0.toInt64) - (400 : Int64))), .second, .unset, .unset] [(.int (lcmpW ((st0.toInt64) - (400 : Int64)) (200 : Int64)))])) t → Steps p.tables e below (s₁.setTop (entryFrame m #[(.int st0)] 5)) t := fun t k => pre14 t (by
        show Steps p.tables e below (s₁.setTop (mkF m 10 #[.val (.int st0), .val (.long ((st0.toInt64) - (400 : Int64))), .second, .unset, .unset] [(.int (lcmpW ((st0.toInt64) - (400 : Int64)) (0 : Int64)))])) _
        refine XS.ifNo X0.here hx rfl (hb hby d2_10) rfl ((if0 _ _).trans (flt (fun q => hc10 ((lw_lt _ _).mp q))).1) ?_
        show Steps p.tables e below (s₁.setTop (mkF m 13 #[.val (.int st0), .val (.long ((st0.toInt64) - (400 : Int64))), .second, .unset, .unset] [])) _
        refine XS.lloadN X0.here hx rfl (hb hby d2_13) rfl ?_
        show Steps p.tables e below (s₁.setTop (mkF m 14 #[.val (.int st0), .val (.long ((st0.toInt64) - (400 : Int64))), .second, .unset, .unset] [(.long ((st0.toInt64) - (400 : Int64)))])) _
        refine X0.ldc2Long hx hown (mvT hZ (hw _ (List.mem_of_getElem? (i := 11) rfl))) (g := (mkF m 14 #[.val (.int st0), .val (.long ((st0.toInt64) - (400 : Int64))), .second, .unset, .unset] [(.long ((st0.toInt64) - (400 : Int64)))])) rfl (hb hby d2_14) _ ?_
        show Steps p.tables e below (s₁.setTop (mkF m 17 #[.val (.int st0), .val (.long ((st0.toInt64) - (400 : Int64))), .second, .unset, .unset] [(.long (200 : Int64)), (.long ((st0.toInt64) - (400 : Int64)))])) _
        refine XS.lcmp X0.here hx rfl (hb hby d2_17) rfl ?_
        exact k)
    by_cases hc18 : ((st0.toInt64) - (400 : Int64)) < (200 : Int64)
    · skip
      have pre17 : ∀ t, Steps p.tables e below (s₁.setTop (mkF m 28 #[.val (.int st0), .val (.long ((st0.toInt64) - (400 : Int64))), .second, .unset, .unset] [(.int (lcmpW ((st0.toInt64) - (400 : Int64)) (64 : Int64)))])) t → Steps p.tables e below (s₁.setTop (entryFrame m #[(.int st0)] 5)) t := fun t k => pre16 t (by
          show Steps p.tables e below (s₁.setTop (mkF m 18 #[.val (.int st0), .val (.long ((st0.toInt64) - (400 : Int64))), .second, .unset, .unset] [(.int (lcmpW ((st0.toInt64) - (400 : Int64)) (200 : Int64)))])) _
          refine XS.ifYes X0.here hx rfl (pc0 := 18) (pc' := 23) rfl (hb hby d2_18) rfl ((if0 _ _).trans (tlt ((lw_lt _ _).mpr hc18)).1) (by decide) (by decide) ?_
          show Steps p.tables e below (s₁.setTop (mkF m 23 #[.val (.int st0), .val (.long ((st0.toInt64) - (400 : Int64))), .second, .unset, .unset] [])) _
          refine XS.lloadN X0.here hx rfl (hb hby d2_23) rfl ?_
          show Steps p.tables e below (s₁.setTop (mkF m 24 #[.val (.int st0), .val (.long ((st0.toInt64) - (400 : Int64))), .second, .unset, .unset] [(.long ((st0.toInt64) - (400 : Int64)))])) _
          refine X0.ldc2Long hx hown (mvT hZ (hw _ (List.mem_of_getElem? (i := 12) rfl))) (g := (mkF m 24 #[.val (.int st0), .val (.long ((st0.toInt64) - (400 : Int64))), .second, .unset, .unset] [(.long ((st0.toInt64) - (400 : Int64)))])) rfl (hb hby d2_24) _ ?_
          show Steps p.tables e below (s₁.setTop (mkF m 27 #[.val (.int st0), .val (.long ((st0.toInt64) - (400 : Int64))), .second, .unset, .unset] [(.long (64 : Int64)), (.long ((st0.toInt64) - (400 : Int64)))])) _
          refine XS.lcmp X0.here hx rfl (hb hby d2_27) rfl ?_
          exact k)
      by_cases hc28 : ((st0.toInt64) - (400 : Int64)) < (64 : Int64)
      · skip
        have pre18 : ∀ t, Steps p.tables e below (s₁.setTop (mkF m 45 #[.val (.int st0), .val (.long ((st0.toInt64) - (400 : Int64))), .second, .val (.long (67109026 : Int64)), .second] [(.int (lcmpW ((((67109026 : Int64).toUInt64 >>> ((((st0.toInt64) - (400 : Int64)).toInt32) &&& 0x3f).toInt64.toUInt64).toInt64) &&& (1 : Int64)) (0 : Int64)))])) t → Steps p.tables e below (s₁.setTop (entryFrame m #[(.int st0)] 5)) t := fun t k => pre17 t (by
            show Steps p.tables e below (s₁.setTop (mkF m 28 #[.val (.int st0), .val (.long ((st0.toInt64) - (400 : Int64))), .second, .unset, .unset] [(.int (lcmpW ((st0.toInt64) - (400 : Int64)) (64 : Int64)))])) _
            refine XS.ifYes X0.here hx rfl (pc0 := 28) (pc' := 33) rfl (hb hby d2_28) rfl ((if0 _ _).trans (tlt ((lw_lt _ _).mpr hc28)).1) (by decide) (by decide) ?_
            show Steps p.tables e below (s₁.setTop (mkF m 33 #[.val (.int st0), .val (.long ((st0.toInt64) - (400 : Int64))), .second, .unset, .unset] [])) _
            refine X0.ldc2Long hx hown (mvT hZ (hw _ (List.mem_of_getElem? (i := 13) rfl))) (g := (mkF m 33 #[.val (.int st0), .val (.long ((st0.toInt64) - (400 : Int64))), .second, .unset, .unset] [])) rfl (hb hby d2_33) _ ?_
            show Steps p.tables e below (s₁.setTop (mkF m 36 #[.val (.int st0), .val (.long ((st0.toInt64) - (400 : Int64))), .second, .unset, .unset] [(.long (67109026 : Int64))])) _
            refine XS.lstoreN X0.here hx rfl (hb hby d2_36) rfl (l' := #[.val (.int st0), .val (.long ((st0.toInt64) - (400 : Int64))), .second, .val (.long (67109026 : Int64)), .second]) rfl ?_
            show Steps p.tables e below (s₁.setTop (mkF m 37 #[.val (.int st0), .val (.long ((st0.toInt64) - (400 : Int64))), .second, .val (.long (67109026 : Int64)), .second] [])) _
            refine XS.lloadN X0.here hx rfl (hb hby d2_37) rfl ?_
            show Steps p.tables e below (s₁.setTop (mkF m 38 #[.val (.int st0), .val (.long ((st0.toInt64) - (400 : Int64))), .second, .val (.long (67109026 : Int64)), .second] [(.long (67109026 : Int64))])) _
            refine XS.lloadN X0.here hx rfl (hb hby d2_38) rfl ?_
            show Steps p.tables e below (s₁.setTop (mkF m 39 #[.val (.int st0), .val (.long ((st0.toInt64) - (400 : Int64))), .second, .val (.long (67109026 : Int64)), .second] [(.long ((st0.toInt64) - (400 : Int64))), (.long (67109026 : Int64))])) _
            refine XS.l2i X0.here hx rfl (hb hby d2_39) rfl ?_
            show Steps p.tables e below (s₁.setTop (mkF m 40 #[.val (.int st0), .val (.long ((st0.toInt64) - (400 : Int64))), .second, .val (.long (67109026 : Int64)), .second] [(.int (((st0.toInt64) - (400 : Int64)).toInt32)), (.long (67109026 : Int64))])) _
            refine XS.lushr X0.here hx rfl (hb hby d2_40) rfl ?_
            show Steps p.tables e below (s₁.setTop (mkF m 41 #[.val (.int st0), .val (.long ((st0.toInt64) - (400 : Int64))), .second, .val (.long (67109026 : Int64)), .second] [(.long (((67109026 : Int64).toUInt64 >>> ((((st0.toInt64) - (400 : Int64)).toInt32) &&& 0x3f).toInt64.toUInt64).toInt64))])) _
            refine XS.lconst X0.here hx rfl (hb hby d2_41) ?_
            show Steps p.tables e below (s₁.setTop (mkF m 42 #[.val (.int st0), .val (.long ((st0.toInt64) - (400 : Int64))), .second, .val (.long (67109026 : Int64)), .second] [(.long (1 : Int64)), (.long (((67109026 : Int64).toUInt64 >>> ((((st0.toInt64) - (400 : Int64)).toInt32) &&& 0x3f).toInt64.toUInt64).toInt64))])) _
            refine XS.land X0.here hx rfl (hb hby d2_42) rfl ?_
            show Steps p.tables e below (s₁.setTop (mkF m 43 #[.val (.int st0), .val (.long ((st0.toInt64) - (400 : Int64))), .second, .val (.long (67109026 : Int64)), .second] [(.long ((((67109026 : Int64).toUInt64 >>> ((((st0.toInt64) - (400 : Int64)).toInt32) &&& 0x3f).toInt64.toUInt64).toInt64) &&& (1 : Int64)))])) _
            refine XS.lconst X0.here hx rfl (hb hby d2_43) ?_
            show Steps p.tables e below (s₁.setTop (mkF m 44 #[.val (.int st0), .val (.long ((st0.toInt64) - (400 : Int64))), .second, .val (.long (67109026 : Int64)), .second] [(.long (0 : Int64)), (.long ((((67109026 : Int64).toUInt64 >>> ((((st0.toInt64) - (400 : Int64)).toInt32) &&& 0x3f).toInt64.toUInt64).toInt64) &&& (1 : Int64)))])) _
            refine XS.lcmp X0.here hx rfl (hb hby d2_44) rfl ?_
            exact k)
        by_cases hc45 : ((((67109026 : Int64).toUInt64 >>> ((((st0.toInt64) - (400 : Int64)).toInt32) &&& 0x3f).toInt64.toUInt64).toInt64) &&& (1 : Int64)) = (0 : Int64)
        · skip
          have pre19 : ∀ t, Steps p.tables e below (s₁.setTop (mkF m 53 #[.val (.int st0), .val (.long ((st0.toInt64) - (400 : Int64))), .second, .val (.long (67109026 : Int64)), .second] [(.int (1 : Int32))])) t → Steps p.tables e below (s₁.setTop (entryFrame m #[(.int st0)] 5)) t := fun t k => pre18 t (by
              show Steps p.tables e below (s₁.setTop (mkF m 45 #[.val (.int st0), .val (.long ((st0.toInt64) - (400 : Int64))), .second, .val (.long (67109026 : Int64)), .second] [(.int (lcmpW ((((67109026 : Int64).toUInt64 >>> ((((st0.toInt64) - (400 : Int64)).toInt32) &&& 0x3f).toInt64.toUInt64).toInt64) &&& (1 : Int64)) (0 : Int64)))])) _
              refine XS.ifNo X0.here hx rfl (hb hby d2_45) rfl ((if0 _ _).trans (teq ((lw_eq _ _).mpr hc45)).2) ?_
              show Steps p.tables e below (s₁.setTop (mkF m 48 #[.val (.int st0), .val (.long ((st0.toInt64) - (400 : Int64))), .second, .val (.long (67109026 : Int64)), .second] [])) _
              refine XS.iconst X0.here hx rfl (hb hby d2_48) ?_
              show Steps p.tables e below (s₁.setTop (mkF m 49 #[.val (.int st0), .val (.long ((st0.toInt64) - (400 : Int64))), .second, .val (.long (67109026 : Int64)), .second] [(.int (1 : Int32))])) _
              refine XS.goto X0.here hx rfl (pc0 := 49) (pc' := 53) rfl (hb hby d2_49) (by decide) (by decide) ?_
              exact k)
          obtain ⟨fs, hr, hrun, hended, hW, hsame⟩ := X0.leave (v := some (.int (1 : Int32))) (fun h => by rw [Bd.returns] at h; cases h)
          refine ⟨_, _, pre19 _ ?_, hrun, hended, _, _, rfl, ?_, ⟨_, rfl⟩, hW, hsame.mono (by decide) (by decide)⟩
          · show Steps p.tables e below (s₁.setTop (mkF m 53 #[.val (.int st0), .val (.long ((st0.toInt64) - (400 : Int64))), .second, .val (.long (67109026 : Int64)), .second] [(.int (1 : Int32))])) _
            exact retN X0 hx (t := .boolean) Bd.returns (by simp) (hb hby d2_53) hr
          · show Q2 Z st0 h0 n0 _ s₁.heap _
            rw [e0]
            exact ⟨(1 : Int32), rfl, (by have b := own_bits st0 (by simp only [Int64.lt_iff_toInt_lt, own_d, Int64.reduceToInt, Int32.lt_iff_toInt_lt, ← Int32.toInt_inj, Int32.reduceToInt] at hc10 hc18 hc28; omega) (by simp only [Int64.lt_iff_toInt_lt, own_d, Int64.reduceToInt, Int32.lt_iff_toInt_lt, ← Int32.toInt_inj, Int32.reduceToInt] at hc10 hc18 hc28; omega); exact Or.inl ⟨b.mp hc45, rfl⟩), N0, rfl⟩
        · skip
          have pre20 : ∀ t, Steps p.tables e below (s₁.setTop (mkF m 53 #[.val (.int st0), .val (.long ((st0.toInt64) - (400 : Int64))), .second, .val (.long (67109026 : Int64)), .second] [(.int (0 : Int32))])) t → Steps p.tables e below (s₁.setTop (entryFrame m #[(.int st0)] 5)) t := fun t k => pre18 t (by
              show Steps p.tables e below (s₁.setTop (mkF m 45 #[.val (.int st0), .val (.long ((st0.toInt64) - (400 : Int64))), .second, .val (.long (67109026 : Int64)), .second] [(.int (lcmpW ((((67109026 : Int64).toUInt64 >>> ((((st0.toInt64) - (400 : Int64)).toInt32) &&& 0x3f).toInt64.toUInt64).toInt64) &&& (1 : Int64)) (0 : Int64)))])) _
              refine XS.ifYes X0.here hx rfl (pc0 := 45) (pc' := 52) rfl (hb hby d2_45) rfl ((if0 _ _).trans (feq (fun q => hc45 ((lw_eq _ _).mp q))).2) (by decide) (by decide) ?_
              show Steps p.tables e below (s₁.setTop (mkF m 52 #[.val (.int st0), .val (.long ((st0.toInt64) - (400 : Int64))), .second, .val (.long (67109026 : Int64)), .second] [])) _
              refine XS.iconst X0.here hx rfl (hb hby d2_52) ?_
              exact k)
          obtain ⟨fs, hr, hrun, hended, hW, hsame⟩ := X0.leave (v := some (.int (0 : Int32))) (fun h => by rw [Bd.returns] at h; cases h)
          refine ⟨_, _, pre20 _ ?_, hrun, hended, _, _, rfl, ?_, ⟨_, rfl⟩, hW, hsame.mono (by decide) (by decide)⟩
          · show Steps p.tables e below (s₁.setTop (mkF m 53 #[.val (.int st0), .val (.long ((st0.toInt64) - (400 : Int64))), .second, .val (.long (67109026 : Int64)), .second] [(.int (0 : Int32))])) _
            exact retN X0 hx (t := .boolean) Bd.returns (by simp) (hb hby d2_53) hr
          · show Q2 Z st0 h0 n0 _ s₁.heap _
            rw [e0]
            exact ⟨(0 : Int32), rfl, (by have b := own_bits st0 (by simp only [Int64.lt_iff_toInt_lt, own_d, Int64.reduceToInt, Int32.lt_iff_toInt_lt, ← Int32.toInt_inj, Int32.reduceToInt] at hc10 hc18 hc28; omega) (by simp only [Int64.lt_iff_toInt_lt, own_d, Int64.reduceToInt, Int32.lt_iff_toInt_lt, ← Int32.toInt_inj, Int32.reduceToInt] at hc10 hc18 hc28; omega); exact Or.inr ⟨fun q => hc45 (b.mpr q), rfl⟩), N0, rfl⟩
      · skip
        have pre21 : ∀ t, Steps p.tables e below (s₁.setTop (mkF m 32 #[.val (.int st0), .val (.long ((st0.toInt64) - (400 : Int64))), .second, .unset, .unset] [(.int (1 : Int32))])) t → Steps p.tables e below (s₁.setTop (entryFrame m #[(.int st0)] 5)) t := fun t k => pre17 t (by
            show Steps p.tables e below (s₁.setTop (mkF m 28 #[.val (.int st0), .val (.long ((st0.toInt64) - (400 : Int64))), .second, .unset, .unset] [(.int (lcmpW ((st0.toInt64) - (400 : Int64)) (64 : Int64)))])) _
            refine XS.ifNo X0.here hx rfl (hb hby d2_28) rfl ((if0 _ _).trans (flt (fun q => hc28 ((lw_lt _ _).mp q))).1) ?_
            show Steps p.tables e below (s₁.setTop (mkF m 31 #[.val (.int st0), .val (.long ((st0.toInt64) - (400 : Int64))), .second, .unset, .unset] [])) _
            refine XS.iconst X0.here hx rfl (hb hby d2_31) ?_
            exact k)
        obtain ⟨fs, hr, hrun, hended, hW, hsame⟩ := X0.leave (v := some (.int (1 : Int32))) (fun h => by rw [Bd.returns] at h; cases h)
        refine ⟨_, _, pre21 _ ?_, hrun, hended, _, _, rfl, ?_, ⟨_, rfl⟩, hW, hsame.mono (by decide) (by decide)⟩
        · show Steps p.tables e below (s₁.setTop (mkF m 32 #[.val (.int st0), .val (.long ((st0.toInt64) - (400 : Int64))), .second, .unset, .unset] [(.int (1 : Int32))])) _
          exact retN X0 hx (t := .boolean) Bd.returns (by simp) (hb hby d2_32) hr
        · show Q2 Z st0 h0 n0 _ s₁.heap _
          rw [e0]
          exact ⟨(1 : Int32), rfl, (Or.inl ⟨(by simp only [own_R, Int64.lt_iff_toInt_lt, own_d, Int64.reduceToInt, Int32.lt_iff_toInt_lt, ← Int32.toInt_inj, Int32.reduceToInt] at hc10 hc18 hc28 ⊢; omega), rfl⟩), N0, rfl⟩
    · skip
      have pre22 : ∀ t, Steps p.tables e below (s₁.setTop (mkF m 22 #[.val (.int st0), .val (.long ((st0.toInt64) - (400 : Int64))), .second, .unset, .unset] [(.int (0 : Int32))])) t → Steps p.tables e below (s₁.setTop (entryFrame m #[(.int st0)] 5)) t := fun t k => pre16 t (by
          show Steps p.tables e below (s₁.setTop (mkF m 18 #[.val (.int st0), .val (.long ((st0.toInt64) - (400 : Int64))), .second, .unset, .unset] [(.int (lcmpW ((st0.toInt64) - (400 : Int64)) (200 : Int64)))])) _
          refine XS.ifNo X0.here hx rfl (hb hby d2_18) rfl ((if0 _ _).trans (flt (fun q => hc18 ((lw_lt _ _).mp q))).1) ?_
          show Steps p.tables e below (s₁.setTop (mkF m 21 #[.val (.int st0), .val (.long ((st0.toInt64) - (400 : Int64))), .second, .unset, .unset] [])) _
          refine XS.iconst X0.here hx rfl (hb hby d2_21) ?_
          exact k)
      obtain ⟨fs, hr, hrun, hended, hW, hsame⟩ := X0.leave (v := some (.int (0 : Int32))) (fun h => by rw [Bd.returns] at h; cases h)
      refine ⟨_, _, pre22 _ ?_, hrun, hended, _, _, rfl, ?_, ⟨_, rfl⟩, hW, hsame.mono (by decide) (by decide)⟩
      · show Steps p.tables e below (s₁.setTop (mkF m 22 #[.val (.int st0), .val (.long ((st0.toInt64) - (400 : Int64))), .second, .unset, .unset] [(.int (0 : Int32))])) _
        exact retN X0 hx (t := .boolean) Bd.returns (by simp) (hb hby d2_22) hr
      · show Q2 Z st0 h0 n0 _ s₁.heap _
        rw [e0]
        exact ⟨(0 : Int32), rfl, (Or.inr ⟨(by simp only [own_R, Int64.lt_iff_toInt_lt, own_d, Int64.reduceToInt, Int32.lt_iff_toInt_lt, ← Int32.toInt_inj, Int32.reduceToInt] at hc10 hc18 ⊢; omega), rfl⟩), N0, rfl⟩
theorem own_pd0 : parseMethodDescriptor "(I)Z" = some ⟨[.int], some .boolean⟩ := by decide +kernel
theorem pn_0 : plainName "com/example/unfussy_throttle/unfussythrottle/policy/PolicyIsRefusalStatusPinLaw" = true := by first | (simp [plainName, overriddenIn]; done) | decide +kernel
theorem ef_0 (m : MethodId) (p0 : Int32) (p1 : Int32) (p2 : Int32) : entryFrame m #[(.int p0), (.int p1), (.int p2)] maxLocals = mkF m 0 #[.val (.int p0), .val (.int p1), .val (.int p2), .unset, .unset, .unset, .unset] [] := by first | (simp [entryFrame, mkF, argsToLocals, Value.category, maxLocals]; done) | rfl
def Q0 (Z : State) (raw : Int32) (pick : Int32) (sel : Int32)  (h0 : Heap) (n0 : Nat) (v : Option Value) (h : Heap) (L : List Loc) : Prop := v = some (.int 1) ∧ Fr n0 L
set_option maxRecDepth 65536 in
set_option maxHeartbeats 40000000 in
theorem rm0 (l : Launch) (Z : State) (a0 : Array Value) (hw : ∀ d ∈ tables_1, d.before a0 Z = true) (ws : List Jvm.Cond) (raw : Int32) (pick : Int32) (sel : Int32)  (h0 : Heap) (n0 : Nat) (Z0 : n0 ≤ h0.size)  :
    MetFree l x (head1 (Jvm.Cond.code x code maxLocals ret :: ws) room_1) (fun a U => a = #[(.int raw), (.int pick), (.int sel)] ∧ Z.Warmed39 U.vm ∧ U.heap = h0) (fun _ _ _ _ _ => True) (fun _ U o U' => ∃ v L, o = .returned v ∧ Q0 Z raw pick sel h0 n0 v U'.heap L ∧ FrameEnd U o U' L room_1.cells room_1.slots) := by
  refine MetFree.of_bodySF (plainFor_of_name pn_0) hisR ?_
  intro p e s m args below meth c s₁ Bd hml0 hP hK
  obtain ⟨rfl, hZ, hh⟩ := hP
  have hx := Bd.exec
  have hby := Bd.bytes
  have hml : c.maxLocals = 7 := hml0
  have hown : s.vm.findClass "com/example/unfussy_throttle/unfussythrottle/policy/PolicyIsRefusalStatusPinLaw" = some m.cls := findClass_of_methodNamed Bd.named
  have hnm := (name_of_methodNamed Bd.named Bd.method).1
  have X0 : Stand p l e room_1 s m #[(.int raw), (.int pick), (.int sel)] below meth c s₁ [] 0 0 := Stand.of_body Bd
  have e0 : s₁.heap = h0 := by rw [← hh, Bd.state]; rfl
  have N0 := Fr.nil n0
  have pre0 : ∀ t, Steps p.tables e below (s₁.setTop (mkF m 0 #[.val (.int raw), .val (.int pick), .val (.int sel), .unset, .unset, .unset, .unset] [])) t → Steps p.tables e below (s₁.setTop (entryFrame m #[(.int raw), (.int pick), (.int sel)] maxLocals)) t := fun t k => castTop (ef_0 m raw pick sel) k
  have pre23 : ∀ t, Steps p.tables e below (s₁.setTop (mkF m 6 #[.val (.int raw), .val (.int pick), .val (.int sel), .val (.int (sel &&& (3 : Int32))), .unset, .unset, .unset] [(.int (1 : Int32)), (.int (sel &&& (3 : Int32)))])) t → Steps p.tables e below (s₁.setTop (entryFrame m #[(.int raw), (.int pick), (.int sel)] maxLocals)) t := fun t k => pre0 t (by
      show Steps p.tables e below (s₁.setTop (mkF m 0 #[.val (.int raw), .val (.int pick), .val (.int sel), .unset, .unset, .unset, .unset] [])) _
      refine XS.iloadN X0.here hx rfl (hb hby at_0) rfl ?_
      show Steps p.tables e below (s₁.setTop (mkF m 1 #[.val (.int raw), .val (.int pick), .val (.int sel), .unset, .unset, .unset, .unset] [(.int sel)])) _
      refine XS.iconst X0.here hx rfl (hb hby at_1) ?_
      show Steps p.tables e below (s₁.setTop (mkF m 2 #[.val (.int raw), .val (.int pick), .val (.int sel), .unset, .unset, .unset, .unset] [(.int (3 : Int32)), (.int sel)])) _
      refine XS.iand X0.here hx rfl (hb hby at_2) rfl ?_
      show Steps p.tables e below (s₁.setTop (mkF m 3 #[.val (.int raw), .val (.int pick), .val (.int sel), .unset, .unset, .unset, .unset] [(.int (sel &&& (3 : Int32)))])) _
      refine XS.istoreN X0.here hx rfl (hb hby at_3) rfl (l' := #[.val (.int raw), .val (.int pick), .val (.int sel), .val (.int (sel &&& (3 : Int32))), .unset, .unset, .unset]) rfl ?_
      show Steps p.tables e below (s₁.setTop (mkF m 4 #[.val (.int raw), .val (.int pick), .val (.int sel), .val (.int (sel &&& (3 : Int32))), .unset, .unset, .unset] [])) _
      refine XS.iloadN X0.here hx rfl (hb hby at_4) rfl ?_
      show Steps p.tables e below (s₁.setTop (mkF m 5 #[.val (.int raw), .val (.int pick), .val (.int sel), .val (.int (sel &&& (3 : Int32))), .unset, .unset, .unset] [(.int (sel &&& (3 : Int32)))])) _
      refine XS.iconst X0.here hx rfl (hb hby at_5) ?_
      exact k)
  by_cases hc6 : (sel &&& (3 : Int32)) = (1 : Int32)
  · skip
    have pre24 : ∀ t, Steps p.tables e below (s₁.setTop (mkF m 154 #[.val (.int raw), .val (.int pick), .val (.int sel), .val (.int (sel &&& (3 : Int32))), .val (.int ((390 : Int32) + (pick &&& (255 : Int32)))), .unset, .unset] [])) t → Steps p.tables e below (s₁.setTop (entryFrame m #[(.int raw), (.int pick), (.int sel)] maxLocals)) t := fun t k => pre23 t (by
        show Steps p.tables e below (s₁.setTop (mkF m 6 #[.val (.int raw), .val (.int pick), .val (.int sel), .val (.int (sel &&& (3 : Int32))), .unset, .unset, .unset] [(.int (1 : Int32)), (.int (sel &&& (3 : Int32)))])) _
        refine XS.icmpNo X0.here hx rfl (hb hby at_6) rfl (teq hc6).2 ?_
        show Steps p.tables e below (s₁.setTop (mkF m 9 #[.val (.int raw), .val (.int pick), .val (.int sel), .val (.int (sel &&& (3 : Int32))), .unset, .unset, .unset] [])) _
        refine XS.sipush X0.here hx rfl (hb hby at_9) ?_
        show Steps p.tables e below (s₁.setTop (mkF m 12 #[.val (.int raw), .val (.int pick), .val (.int sel), .val (.int (sel &&& (3 : Int32))), .unset, .unset, .unset] [(.int (390 : Int32))])) _
        refine XS.iloadN X0.here hx rfl (hb hby at_12) rfl ?_
        show Steps p.tables e below (s₁.setTop (mkF m 13 #[.val (.int raw), .val (.int pick), .val (.int sel), .val (.int (sel &&& (3 : Int32))), .unset, .unset, .unset] [(.int pick), (.int (390 : Int32))])) _
        refine XS.sipush X0.here hx rfl (hb hby at_13) ?_
        show Steps p.tables e below (s₁.setTop (mkF m 16 #[.val (.int raw), .val (.int pick), .val (.int sel), .val (.int (sel &&& (3 : Int32))), .unset, .unset, .unset] [(.int (255 : Int32)), (.int pick), (.int (390 : Int32))])) _
        refine XS.iand X0.here hx rfl (hb hby at_16) rfl ?_
        show Steps p.tables e below (s₁.setTop (mkF m 17 #[.val (.int raw), .val (.int pick), .val (.int sel), .val (.int (sel &&& (3 : Int32))), .unset, .unset, .unset] [(.int (pick &&& (255 : Int32))), (.int (390 : Int32))])) _
        refine XS.iadd X0.here hx rfl (hb hby at_17) rfl ?_
        show Steps p.tables e below (s₁.setTop (mkF m 18 #[.val (.int raw), .val (.int pick), .val (.int sel), .val (.int (sel &&& (3 : Int32))), .unset, .unset, .unset] [(.int ((390 : Int32) + (pick &&& (255 : Int32))))])) _
        refine XS.istore X0.here hx rfl (hb hby at_18) rfl (l' := #[.val (.int raw), .val (.int pick), .val (.int sel), .val (.int (sel &&& (3 : Int32))), .val (.int ((390 : Int32) + (pick &&& (255 : Int32)))), .unset, .unset]) rfl ?_
        show Steps p.tables e below (s₁.setTop (mkF m 20 #[.val (.int raw), .val (.int pick), .val (.int sel), .val (.int (sel &&& (3 : Int32))), .val (.int ((390 : Int32) + (pick &&& (255 : Int32)))), .unset, .unset] [])) _
        refine XS.goto X0.here hx rfl (pc0 := 20) (pc' := 154) rfl (hb hby at_20) (by decide) (by decide) ?_
        exact k)
    obtain ⟨sv, d_sv⟩ : ∃ z, z = ((390 : Int32) + (pick &&& (255 : Int32))) := ⟨_, rfl⟩
    rw [← d_sv] at pre24
    obtain ⟨_, _, ⟨T25, L25, k25, n25⟩, -, X25, ⟨Lc25, hQ25, l25, y25, z25⟩, st25⟩ := Jvm.LawKit.callS X0 hx (y := (⟨"com/example/unfussy_throttle/unfussythrottle/policy/Policy", "isRefusalStatus", "(I)Z"⟩ : MethodName)) hown (mvT hZ (hw _ (List.mem_of_getElem? (i := 2) rfl))) (mvT hZ (hw _ (List.mem_of_getElem? (i := 3) rfl))) (mvT hZ (hw _ (List.mem_of_getElem? (i := 4) rfl))) (mvT hZ (hw _ (List.mem_of_getElem? (i := 5) rfl))) (by decide) (backOf (W := 0) (rm1 l Z a0 hw [] sv  h0 n0 Z0) hZ (hw _ (List.mem_of_getElem? (i := 5) rfl)) (hw _ (List.mem_of_getElem? (i := 4) rfl)) (by decide) (by decide)) (g := (mkF m 156 #[.val (.int raw), .val (.int pick), .val (.int sel), .val (.int (sel &&& (3 : Int32))), .val (.int sv), .unset, .unset] [(.int sv)])) rfl (by rw [hml]; rfl) (argsL := [(.int sv)]) (rest := []) (lenOf own_pd0 rfl) rfl (by show 2 * 0 + _ ≤ _; exact Nat.le_of_eq rfl) (hb hby at_156) (fun _ _ => ⟨rfl, e0, (by decide : 0 + 0 ≤ _), (by decide : 0 + 0 ≤ _)⟩)
    dsimp only [Pt.U, Pt.locs, Pt.cells, Pt.slots] at X25 l25 y25 z25 st25 hQ25
    subst l25 y25 z25
    obtain ⟨z25, rfl, hz25, N25q, e25⟩ := hQ25
    have N25 := Fr.app N0 N25q
    obtain ⟨_, _, ⟨T26, L26, k26, n26⟩, -, X26, ⟨Lc26, hQ26, l26, y26, z26⟩, st26⟩ := Jvm.LawKit.callS X25 hx (y := (⟨"com/example/unfussy_throttle/unfussythrottle/policy/Policy", "isRefusalStatus", "(I)Z"⟩ : MethodName)) hown (mvT hZ (hw _ (List.mem_of_getElem? (i := 2) rfl))) (mvT hZ (hw _ (List.mem_of_getElem? (i := 3) rfl))) (mvT hZ (hw _ (List.mem_of_getElem? (i := 4) rfl))) (mvT hZ (hw _ (List.mem_of_getElem? (i := 5) rfl))) (by decide) (backOf (W := 0) (rm1 l Z a0 hw [] (429 : Int32)  h0 n0 Z0) hZ (hw _ (List.mem_of_getElem? (i := 5) rfl)) (hw _ (List.mem_of_getElem? (i := 4) rfl)) (by decide) (by decide)) (g := (mkF m 164 #[.val (.int raw), .val (.int pick), .val (.int sel), .val (.int (sel &&& (3 : Int32))), .val (.int sv), .val (.int z25), .unset] [(.int (429 : Int32))])) rfl (by rw [hml]; rfl) (argsL := [(.int (429 : Int32))]) (rest := []) (lenOf own_pd0 rfl) rfl (by show 2 * 0 + _ ≤ _; exact Nat.le_of_eq rfl) (hb hby at_164) (fun _ _ => ⟨rfl, e25, (by decide : 0 + 0 ≤ _), (by decide : 0 + 0 ≤ _)⟩)
    dsimp only [Pt.U, Pt.locs, Pt.cells, Pt.slots] at X26 l26 y26 z26 st26 hQ26
    subst l26 y26 z26
    obtain ⟨z26, rfl, hz26, N26q, e26⟩ := hQ26
    have N26 := Fr.app N25 N26q
    obtain ⟨_, _, ⟨T27, L27, k27, n27⟩, -, X27, ⟨Lc27, hQ27, l27, y27, z27⟩, st27⟩ := Jvm.LawKit.callS X26 hx (y := (⟨"com/example/unfussy_throttle/unfussythrottle/policy/PolicyIsRefusalStatusPinLaw", "expected", "(I)Z"⟩ : MethodName)) hown (mvT hZ (hw _ (List.mem_of_getElem? (i := 6) rfl))) (mvT hZ (hw _ (List.mem_of_getElem? (i := 7) rfl))) (mvT hZ (hw _ (List.mem_of_getElem? (i := 8) rfl))) (mvT hZ (hw _ (List.mem_of_getElem? (i := 9) rfl))) (by decide) (backOf (W := 1) (rm2 l Z a0 hw [] sv  h0 n0 Z0) hZ (hw _ (List.mem_of_getElem? (i := 9) rfl)) (hw _ (List.mem_of_getElem? (i := 8) rfl)) (by decide) (by decide)) (g := (mkF m 173 #[.val (.int raw), .val (.int pick), .val (.int sel), .val (.int (sel &&& (3 : Int32))), .val (.int sv), .val (.int z25), .val (.int z26)] [(.int sv), (.int z25)])) rfl (by rw [hml]; rfl) (argsL := [(.int sv)]) (rest := [(.int z25)]) (lenOf own_pd0 rfl) rfl (by show 2 * 0 + _ ≤ _; exact Nat.le_of_eq rfl) (hb hby at_173) (fun _ _ => ⟨rfl, e26, (by decide : 0 + 0 ≤ _), (by decide : 0 + 0 ≤ _)⟩)
    dsimp only [Pt.U, Pt.locs, Pt.cells, Pt.slots] at X27 l27 y27 z27 st27 hQ27
    subst l27 y27 z27
    obtain ⟨z27, rfl, hz27, N27q, e27⟩ := hQ27
    have N27 := Fr.app N26 N27q
    have he : z25 = z27 := own_says_eq hz25 hz27 Iff.rfl
    have hf : ¬ z26 = 0 := fun q => (own_says_ne hz26).mp q (by simp only [own_R, Int32.reduceToInt]; omega)
    have pre28 : ∀ t, Steps p.tables e below (T27.setTop (mkF m 189 #[.val (.int raw), .val (.int pick), .val (.int sel), .val (.int (sel &&& (3 : Int32))), .val (.int sv), .val (.int z25), .val (.int z26)] [(.int (1 : Int32))])) t → Steps p.tables e below (s₁.setTop (entryFrame m #[(.int raw), (.int pick), (.int sel)] maxLocals)) t := fun t k => pre24 t (by
        show Steps p.tables e below (s₁.setTop (mkF m 154 #[.val (.int raw), .val (.int pick), .val (.int sel), .val (.int (sel &&& (3 : Int32))), .val (.int sv), .unset, .unset] [])) _
        refine XS.iload X0.here hx rfl (hb hby at_154) rfl ?_
        show Steps p.tables e below (s₁.setTop (mkF m 156 #[.val (.int raw), .val (.int pick), .val (.int sel), .val (.int (sel &&& (3 : Int32))), .val (.int sv), .unset, .unset] [(.int sv)])) _
        refine st25 _ ?_
        show Steps p.tables e below (T25.setTop (mkF m 159 #[.val (.int raw), .val (.int pick), .val (.int sel), .val (.int (sel &&& (3 : Int32))), .val (.int sv), .unset, .unset] [(.int z25)])) _
        refine XS.istore X25.here hx rfl (hb hby at_159) rfl (l' := #[.val (.int raw), .val (.int pick), .val (.int sel), .val (.int (sel &&& (3 : Int32))), .val (.int sv), .val (.int z25), .unset]) rfl ?_
        show Steps p.tables e below (T25.setTop (mkF m 161 #[.val (.int raw), .val (.int pick), .val (.int sel), .val (.int (sel &&& (3 : Int32))), .val (.int sv), .val (.int z25), .unset] [])) _
        refine XS.sipush X25.here hx rfl (hb hby at_161) ?_
        show Steps p.tables e below (T25.setTop (mkF m 164 #[.val (.int raw), .val (.int pick), .val (.int sel), .val (.int (sel &&& (3 : Int32))), .val (.int sv), .val (.int z25), .unset] [(.int (429 : Int32))])) _
        refine st26 _ ?_
        show Steps p.tables e below (T26.setTop (mkF m 167 #[.val (.int raw), .val (.int pick), .val (.int sel), .val (.int (sel &&& (3 : Int32))), .val (.int sv), .val (.int z25), .unset] [(.int z26)])) _
        refine XS.istore X26.here hx rfl (hb hby at_167) rfl (l' := #[.val (.int raw), .val (.int pick), .val (.int sel), .val (.int (sel &&& (3 : Int32))), .val (.int sv), .val (.int z25), .val (.int z26)]) rfl ?_
        show Steps p.tables e below (T26.setTop (mkF m 169 #[.val (.int raw), .val (.int pick), .val (.int sel), .val (.int (sel &&& (3 : Int32))), .val (.int sv), .val (.int z25), .val (.int z26)] [])) _
        refine XS.iload X26.here hx rfl (hb hby at_169) rfl ?_
        show Steps p.tables e below (T26.setTop (mkF m 171 #[.val (.int raw), .val (.int pick), .val (.int sel), .val (.int (sel &&& (3 : Int32))), .val (.int sv), .val (.int z25), .val (.int z26)] [(.int z25)])) _
        refine XS.iload X26.here hx rfl (hb hby at_171) rfl ?_
        show Steps p.tables e below (T26.setTop (mkF m 173 #[.val (.int raw), .val (.int pick), .val (.int sel), .val (.int (sel &&& (3 : Int32))), .val (.int sv), .val (.int z25), .val (.int z26)] [(.int sv), (.int z25)])) _
        refine st27 _ ?_
        show Steps p.tables e below (T27.setTop (mkF m 176 #[.val (.int raw), .val (.int pick), .val (.int sel), .val (.int (sel &&& (3 : Int32))), .val (.int sv), .val (.int z25), .val (.int z26)] [(.int z27), (.int z25)])) _
        refine XS.icmpNo X27.here hx rfl (hb hby at_176) rfl (teq he).2 ?_
        show Steps p.tables e below (T27.setTop (mkF m 179 #[.val (.int raw), .val (.int pick), .val (.int sel), .val (.int (sel &&& (3 : Int32))), .val (.int sv), .val (.int z25), .val (.int z26)] [])) _
        refine XS.iload X27.here hx rfl (hb hby at_179) rfl ?_
        show Steps p.tables e below (T27.setTop (mkF m 181 #[.val (.int raw), .val (.int pick), .val (.int sel), .val (.int (sel &&& (3 : Int32))), .val (.int sv), .val (.int z25), .val (.int z26)] [(.int z26)])) _
        refine XS.ifNo X27.here hx rfl (hb hby at_181) rfl ((if0 _ _).trans (feq hf).1) ?_
        show Steps p.tables e below (T27.setTop (mkF m 184 #[.val (.int raw), .val (.int pick), .val (.int sel), .val (.int (sel &&& (3 : Int32))), .val (.int sv), .val (.int z25), .val (.int z26)] [])) _
        refine XS.iconst X27.here hx rfl (hb hby at_184) ?_
        show Steps p.tables e below (T27.setTop (mkF m 185 #[.val (.int raw), .val (.int pick), .val (.int sel), .val (.int (sel &&& (3 : Int32))), .val (.int sv), .val (.int z25), .val (.int z26)] [(.int (1 : Int32))])) _
        refine XS.goto X27.here hx rfl (pc0 := 185) (pc' := 189) rfl (hb hby at_185) (by decide) (by decide) ?_
        exact k)
    obtain ⟨fs, hr, hrun, hended, hW, hsame⟩ := X27.leave (v := some (.int (1 : Int32))) (fun h => by rw [Bd.returns] at h; cases h)
    refine ⟨_, _, pre28 _ ?_, hrun, hended, _, _, rfl, ?_, ⟨_, rfl⟩, hW, hsame.mono (by decide) (by decide)⟩
    · show Steps p.tables e below (T27.setTop (mkF m 189 #[.val (.int raw), .val (.int pick), .val (.int sel), .val (.int (sel &&& (3 : Int32))), .val (.int sv), .val (.int z25), .val (.int z26)] [(.int (1 : Int32))])) _
      exact retN X27 hx (t := .boolean) Bd.returns (by simp) (hb hby at_189) hr
    · show Q0 Z raw pick sel h0 n0 _ T27.heap _
      rw [e27]
      exact ⟨rfl, N27⟩
  · skip
    have pre29 : ∀ t, Steps p.tables e below (s₁.setTop (mkF m 25 #[.val (.int raw), .val (.int pick), .val (.int sel), .val (.int (sel &&& (3 : Int32))), .unset, .unset, .unset] [(.int (2 : Int32)), (.int (sel &&& (3 : Int32)))])) t → Steps p.tables e below (s₁.setTop (entryFrame m #[(.int raw), (.int pick), (.int sel)] maxLocals)) t := fun t k => pre23 t (by
        show Steps p.tables e below (s₁.setTop (mkF m 6 #[.val (.int raw), .val (.int pick), .val (.int sel), .val (.int (sel &&& (3 : Int32))), .unset, .unset, .unset] [(.int (1 : Int32)), (.int (sel &&& (3 : Int32)))])) _
        refine XS.icmpYes X0.here hx rfl (pc0 := 6) (pc' := 23) rfl (hb hby at_6) rfl (feq hc6).2 (by decide) (by decide) ?_
        show Steps p.tables e below (s₁.setTop (mkF m 23 #[.val (.int raw), .val (.int pick), .val (.int sel), .val (.int (sel &&& (3 : Int32))), .unset, .unset, .unset] [])) _
        refine XS.iloadN X0.here hx rfl (hb hby at_23) rfl ?_
        show Steps p.tables e below (s₁.setTop (mkF m 24 #[.val (.int raw), .val (.int pick), .val (.int sel), .val (.int (sel &&& (3 : Int32))), .unset, .unset, .unset] [(.int (sel &&& (3 : Int32)))])) _
        refine XS.iconst X0.here hx rfl (hb hby at_24) ?_
        exact k)
    by_cases hc25 : (sel &&& (3 : Int32)) = (2 : Int32)
    · skip
      obtain ⟨T30, h30, k30, X30, e30, E30, A30, st30⟩ := newP X0 hx hZ (hw _ (List.mem_of_getElem? (i := 0) rfl)) e0 (g := (mkF m 30 #[.val (.int raw), .val (.int pick), .val (.int sel), .val (.int (sel &&& (3 : Int32))), .unset, .unset, .unset] [(.int (16 : Int32))])) rfl (hb hby at_30) rfl (by decide) (cap := 16) (by decide) (by decide) (by decide) (by decide)
      obtain ⟨b30, g30⟩ : ∃ z, z = h0.size := ⟨_, rfl⟩
      rw [← g30] at A30 st30
      have V30 : Arv Z h30 b30 k30 .int (16 : Int32) [(.int (0 : Int32)), (.int (0 : Int32)), (.int (0 : Int32)), (.int (0 : Int32)), (.int (0 : Int32)), (.int (0 : Int32)), (.int (0 : Int32)), (.int (0 : Int32)), (.int (0 : Int32)), (.int (0 : Int32)), (.int (0 : Int32)), (.int (0 : Int32)), (.int (0 : Int32)), (.int (0 : Int32)), (.int (0 : Int32)), (.int (0 : Int32))] (.int (0 : Int32)) := (Arv.new A30 (by decide)).pad (pad_rep [] (.int (0 : Int32)) 16)
      have gb30 : n0 ≤ b30 := Nat.le_trans Z0 (Nat.le_of_eq g30.symm)
      have Z30 : n0 ≤ h30.size := Nat.le_trans Z0 E30.1
      obtain ⟨cl31, Ar31, q31, S31, M31, Hs31, G31⟩ := V30
      have hin31 : ¬ ((0 : Int32) < 0 ∨ cl31.slots.size ≤ ((0 : Int32)).toNatClampNeg) := inb_of S31 ⟨by decide, by decide⟩
      obtain ⟨T31, h31, X31, e31, W31, st31⟩ := stI X30 hx hZ e30 Ar31 (j := (0 : Int32)) hin31 (g := (mkF m 37 #[.val (.int raw), .val (.int pick), .val (.int sel), .val (.int (sel &&& (3 : Int32))), .unset, .unset, .unset] [(.int (399 : Int32)), (.int (0 : Int32)), (.ref b30), (.ref b30)])) rfl rfl (hb hby at_37)
      have V31 := Arv.set Ar31 q31 S31 M31 Hs31 G31 rfl W31 0 rfl (Nat.le_of_ble_eq_true rfl)
      have N31 := Fr.snoc X31 N0 gb30
      have Z31 : n0 ≤ h31.size := Nat.le_trans Z30 (Nat.le_of_eq W31.size.symm)
      obtain ⟨cl32, Ar32, q32, S32, M32, Hs32, G32⟩ := V31
      have hin32 : ¬ ((1 : Int32) < 0 ∨ cl32.slots.size ≤ ((1 : Int32)).toNatClampNeg) := inb_of S32 ⟨by decide, by decide⟩
      obtain ⟨T32, h32, X32, e32, W32, st32⟩ := stI X31 hx hZ e31 Ar32 (j := (1 : Int32)) hin32 (g := (mkF m 43 #[.val (.int raw), .val (.int pick), .val (.int sel), .val (.int (sel &&& (3 : Int32))), .unset, .unset, .unset] [(.int (400 : Int32)), (.int (1 : Int32)), (.ref b30), (.ref b30)])) rfl rfl (hb hby at_43)
      have V32 := Arv.set Ar32 q32 S32 M32 Hs32 G32 rfl W32 1 rfl (Nat.le_of_ble_eq_true rfl)
      have N32 := Fr.snoc X32 N31 gb30
      have Z32 : n0 ≤ h32.size := Nat.le_trans Z31 (Nat.le_of_eq W32.size.symm)
      obtain ⟨cl33, Ar33, q33, S33, M33, Hs33, G33⟩ := V32
      have hin33 : ¬ ((2 : Int32) < 0 ∨ cl33.slots.size ≤ ((2 : Int32)).toNatClampNeg) := inb_of S33 ⟨by decide, by decide⟩
      obtain ⟨T33, h33, X33, e33, W33, st33⟩ := stI X32 hx hZ e32 Ar33 (j := (2 : Int32)) hin33 (g := (mkF m 49 #[.val (.int raw), .val (.int pick), .val (.int sel), .val (.int (sel &&& (3 : Int32))), .unset, .unset, .unset] [(.int (401 : Int32)), (.int (2 : Int32)), (.ref b30), (.ref b30)])) rfl rfl (hb hby at_49)
      have V33 := Arv.set Ar33 q33 S33 M33 Hs33 G33 rfl W33 2 rfl (Nat.le_of_ble_eq_true rfl)
      have N33 := Fr.snoc X33 N32 gb30
      have Z33 : n0 ≤ h33.size := Nat.le_trans Z32 (Nat.le_of_eq W33.size.symm)
      obtain ⟨cl34, Ar34, q34, S34, M34, Hs34, G34⟩ := V33
      have hin34 : ¬ ((3 : Int32) < 0 ∨ cl34.slots.size ≤ ((3 : Int32)).toNatClampNeg) := inb_of S34 ⟨by decide, by decide⟩
      obtain ⟨T34, h34, X34, e34, W34, st34⟩ := stI X33 hx hZ e33 Ar34 (j := (3 : Int32)) hin34 (g := (mkF m 55 #[.val (.int raw), .val (.int pick), .val (.int sel), .val (.int (sel &&& (3 : Int32))), .unset, .unset, .unset] [(.int (402 : Int32)), (.int (3 : Int32)), (.ref b30), (.ref b30)])) rfl rfl (hb hby at_55)
      have V34 := Arv.set Ar34 q34 S34 M34 Hs34 G34 rfl W34 3 rfl (Nat.le_of_ble_eq_true rfl)
      have N34 := Fr.snoc X34 N33 gb30
      have Z34 : n0 ≤ h34.size := Nat.le_trans Z33 (Nat.le_of_eq W34.size.symm)
      obtain ⟨cl35, Ar35, q35, S35, M35, Hs35, G35⟩ := V34
      have hin35 : ¬ ((4 : Int32) < 0 ∨ cl35.slots.size ≤ ((4 : Int32)).toNatClampNeg) := inb_of S35 ⟨by decide, by decide⟩
      obtain ⟨T35, h35, X35, e35, W35, st35⟩ := stI X34 hx hZ e34 Ar35 (j := (4 : Int32)) hin35 (g := (mkF m 61 #[.val (.int raw), .val (.int pick), .val (.int sel), .val (.int (sel &&& (3 : Int32))), .unset, .unset, .unset] [(.int (404 : Int32)), (.int (4 : Int32)), (.ref b30), (.ref b30)])) rfl rfl (hb hby at_61)
      have V35 := Arv.set Ar35 q35 S35 M35 Hs35 G35 rfl W35 4 rfl (Nat.le_of_ble_eq_true rfl)
      have N35 := Fr.snoc X35 N34 gb30
      have Z35 : n0 ≤ h35.size := Nat.le_trans Z34 (Nat.le_of_eq W35.size.symm)
      obtain ⟨cl36, Ar36, q36, S36, M36, Hs36, G36⟩ := V35
      have hin36 : ¬ ((5 : Int32) < 0 ∨ cl36.slots.size ≤ ((5 : Int32)).toNatClampNeg) := inb_of S36 ⟨by decide, by decide⟩
      obtain ⟨T36, h36, X36, e36, W36, st36⟩ := stI X35 hx hZ e35 Ar36 (j := (5 : Int32)) hin36 (g := (mkF m 67 #[.val (.int raw), .val (.int pick), .val (.int sel), .val (.int (sel &&& (3 : Int32))), .unset, .unset, .unset] [(.int (405 : Int32)), (.int (5 : Int32)), (.ref b30), (.ref b30)])) rfl rfl (hb hby at_67)
      have V36 := Arv.set Ar36 q36 S36 M36 Hs36 G36 rfl W36 5 rfl (Nat.le_of_ble_eq_true rfl)
      have N36 := Fr.snoc X36 N35 gb30
      have Z36 : n0 ≤ h36.size := Nat.le_trans Z35 (Nat.le_of_eq W36.size.symm)
      obtain ⟨cl37, Ar37, q37, S37, M37, Hs37, G37⟩ := V36
      have hin37 : ¬ ((6 : Int32) < 0 ∨ cl37.slots.size ≤ ((6 : Int32)).toNatClampNeg) := inb_of S37 ⟨by decide, by decide⟩
      obtain ⟨T37, h37, X37, e37, W37, st37⟩ := stI X36 hx hZ e36 Ar37 (j := (6 : Int32)) hin37 (g := (mkF m 74 #[.val (.int raw), .val (.int pick), .val (.int sel), .val (.int (sel &&& (3 : Int32))), .unset, .unset, .unset] [(.int (406 : Int32)), (.int (6 : Int32)), (.ref b30), (.ref b30)])) rfl rfl (hb hby at_74)
      have V37 := Arv.set Ar37 q37 S37 M37 Hs37 G37 rfl W37 6 rfl (Nat.le_of_ble_eq_true rfl)
      have N37 := Fr.snoc X37 N36 gb30
      have Z37 : n0 ≤ h37.size := Nat.le_trans Z36 (Nat.le_of_eq W37.size.symm)
      obtain ⟨cl38, Ar38, q38, S38, M38, Hs38, G38⟩ := V37
      have hin38 : ¬ ((7 : Int32) < 0 ∨ cl38.slots.size ≤ ((7 : Int32)).toNatClampNeg) := inb_of S38 ⟨by decide, by decide⟩
      obtain ⟨T38, h38, X38, e38, W38, st38⟩ := stI X37 hx hZ e37 Ar38 (j := (7 : Int32)) hin38 (g := (mkF m 81 #[.val (.int raw), .val (.int pick), .val (.int sel), .val (.int (sel &&& (3 : Int32))), .unset, .unset, .unset] [(.int (407 : Int32)), (.int (7 : Int32)), (.ref b30), (.ref b30)])) rfl rfl (hb hby at_81)
      have V38 := Arv.set Ar38 q38 S38 M38 Hs38 G38 rfl W38 7 rfl (Nat.le_of_ble_eq_true rfl)
      have N38 := Fr.snoc X38 N37 gb30
      have Z38 : n0 ≤ h38.size := Nat.le_trans Z37 (Nat.le_of_eq W38.size.symm)
      obtain ⟨cl39, Ar39, q39, S39, M39, Hs39, G39⟩ := V38
      have hin39 : ¬ ((8 : Int32) < 0 ∨ cl39.slots.size ≤ ((8 : Int32)).toNatClampNeg) := inb_of S39 ⟨by decide, by decide⟩
      obtain ⟨T39, h39, X39, e39, W39, st39⟩ := stI X38 hx hZ e38 Ar39 (j := (8 : Int32)) hin39 (g := (mkF m 88 #[.val (.int raw), .val (.int pick), .val (.int sel), .val (.int (sel &&& (3 : Int32))), .unset, .unset, .unset] [(.int (408 : Int32)), (.int (8 : Int32)), (.ref b30), (.ref b30)])) rfl rfl (hb hby at_88)
      have V39 := Arv.set Ar39 q39 S39 M39 Hs39 G39 rfl W39 8 rfl (Nat.le_of_ble_eq_true rfl)
      have N39 := Fr.snoc X39 N38 gb30
      have Z39 : n0 ≤ h39.size := Nat.le_trans Z38 (Nat.le_of_eq W39.size.symm)
      obtain ⟨cl40, Ar40, q40, S40, M40, Hs40, G40⟩ := V39
      have hin40 : ¬ ((9 : Int32) < 0 ∨ cl40.slots.size ≤ ((9 : Int32)).toNatClampNeg) := inb_of S40 ⟨by decide, by decide⟩
      obtain ⟨T40, h40, X40, e40, W40, st40⟩ := stI X39 hx hZ e39 Ar40 (j := (9 : Int32)) hin40 (g := (mkF m 95 #[.val (.int raw), .val (.int pick), .val (.int sel), .val (.int (sel &&& (3 : Int32))), .unset, .unset, .unset] [(.int (425 : Int32)), (.int (9 : Int32)), (.ref b30), (.ref b30)])) rfl rfl (hb hby at_95)
      have V40 := Arv.set Ar40 q40 S40 M40 Hs40 G40 rfl W40 9 rfl (Nat.le_of_ble_eq_true rfl)
      have N40 := Fr.snoc X40 N39 gb30
      have Z40 : n0 ≤ h40.size := Nat.le_trans Z39 (Nat.le_of_eq W40.size.symm)
      obtain ⟨cl41, Ar41, q41, S41, M41, Hs41, G41⟩ := V40
      have hin41 : ¬ ((10 : Int32) < 0 ∨ cl41.slots.size ≤ ((10 : Int32)).toNatClampNeg) := inb_of S41 ⟨by decide, by decide⟩
      obtain ⟨T41, h41, X41, e41, W41, st41⟩ := stI X40 hx hZ e40 Ar41 (j := (10 : Int32)) hin41 (g := (mkF m 102 #[.val (.int raw), .val (.int pick), .val (.int sel), .val (.int (sel &&& (3 : Int32))), .unset, .unset, .unset] [(.int (426 : Int32)), (.int (10 : Int32)), (.ref b30), (.ref b30)])) rfl rfl (hb hby at_102)
      have V41 := Arv.set Ar41 q41 S41 M41 Hs41 G41 rfl W41 10 rfl (Nat.le_of_ble_eq_true rfl)
      have N41 := Fr.snoc X41 N40 gb30
      have Z41 : n0 ≤ h41.size := Nat.le_trans Z40 (Nat.le_of_eq W41.size.symm)
      obtain ⟨cl42, Ar42, q42, S42, M42, Hs42, G42⟩ := V41
      have hin42 : ¬ ((11 : Int32) < 0 ∨ cl42.slots.size ≤ ((11 : Int32)).toNatClampNeg) := inb_of S42 ⟨by decide, by decide⟩
      obtain ⟨T42, h42, X42, e42, W42, st42⟩ := stI X41 hx hZ e41 Ar42 (j := (11 : Int32)) hin42 (g := (mkF m 109 #[.val (.int raw), .val (.int pick), .val (.int sel), .val (.int (sel &&& (3 : Int32))), .unset, .unset, .unset] [(.int (427 : Int32)), (.int (11 : Int32)), (.ref b30), (.ref b30)])) rfl rfl (hb hby at_109)
      have V42 := Arv.set Ar42 q42 S42 M42 Hs42 G42 rfl W42 11 rfl (Nat.le_of_ble_eq_true rfl)
      have N42 := Fr.snoc X42 N41 gb30
      have Z42 : n0 ≤ h42.size := Nat.le_trans Z41 (Nat.le_of_eq W42.size.symm)
      obtain ⟨cl43, Ar43, q43, S43, M43, Hs43, G43⟩ := V42
      have hin43 : ¬ ((12 : Int32) < 0 ∨ cl43.slots.size ≤ ((12 : Int32)).toNatClampNeg) := inb_of S43 ⟨by decide, by decide⟩
      obtain ⟨T43, h43, X43, e43, W43, st43⟩ := stI X42 hx hZ e42 Ar43 (j := (12 : Int32)) hin43 (g := (mkF m 116 #[.val (.int raw), .val (.int pick), .val (.int sel), .val (.int (sel &&& (3 : Int32))), .unset, .unset, .unset] [(.int (429 : Int32)), (.int (12 : Int32)), (.ref b30), (.ref b30)])) rfl rfl (hb hby at_116)
      have V43 := Arv.set Ar43 q43 S43 M43 Hs43 G43 rfl W43 12 rfl (Nat.le_of_ble_eq_true rfl)
      have N43 := Fr.snoc X43 N42 gb30
      have Z43 : n0 ≤ h43.size := Nat.le_trans Z42 (Nat.le_of_eq W43.size.symm)
      obtain ⟨cl44, Ar44, q44, S44, M44, Hs44, G44⟩ := V43
      have hin44 : ¬ ((13 : Int32) < 0 ∨ cl44.slots.size ≤ ((13 : Int32)).toNatClampNeg) := inb_of S44 ⟨by decide, by decide⟩
      obtain ⟨T44, h44, X44, e44, W44, st44⟩ := stI X43 hx hZ e43 Ar44 (j := (13 : Int32)) hin44 (g := (mkF m 123 #[.val (.int raw), .val (.int pick), .val (.int sel), .val (.int (sel &&& (3 : Int32))), .unset, .unset, .unset] [(.int (599 : Int32)), (.int (13 : Int32)), (.ref b30), (.ref b30)])) rfl rfl (hb hby at_123)
      have V44 := Arv.set Ar44 q44 S44 M44 Hs44 G44 rfl W44 13 rfl (Nat.le_of_ble_eq_true rfl)
      have N44 := Fr.snoc X44 N43 gb30
      have Z44 : n0 ≤ h44.size := Nat.le_trans Z43 (Nat.le_of_eq W44.size.symm)
      obtain ⟨cl45, Ar45, q45, S45, M45, Hs45, G45⟩ := V44
      have hin45 : ¬ ((14 : Int32) < 0 ∨ cl45.slots.size ≤ ((14 : Int32)).toNatClampNeg) := inb_of S45 ⟨by decide, by decide⟩
      obtain ⟨T45, h45, X45, e45, W45, st45⟩ := stI X44 hx hZ e44 Ar45 (j := (14 : Int32)) hin45 (g := (mkF m 130 #[.val (.int raw), .val (.int pick), .val (.int sel), .val (.int (sel &&& (3 : Int32))), .unset, .unset, .unset] [(.int (600 : Int32)), (.int (14 : Int32)), (.ref b30), (.ref b30)])) rfl rfl (hb hby at_130)
      have V45 := Arv.set Ar45 q45 S45 M45 Hs45 G45 rfl W45 14 rfl (Nat.le_of_ble_eq_true rfl)
      have N45 := Fr.snoc X45 N44 gb30
      have Z45 : n0 ≤ h45.size := Nat.le_trans Z44 (Nat.le_of_eq W45.size.symm)
      obtain ⟨cl46, Ar46, q46, S46, M46, Hs46, G46⟩ := V45
      have hin46 : ¬ ((15 : Int32) < 0 ∨ cl46.slots.size ≤ ((15 : Int32)).toNatClampNeg) := inb_of S46 ⟨by decide, by decide⟩
      obtain ⟨T46, h46, X46, e46, W46, st46⟩ := stI X45 hx hZ e45 Ar46 (j := (15 : Int32)) hin46 (g := (mkF m 136 #[.val (.int raw), .val (.int pick), .val (.int sel), .val (.int (sel &&& (3 : Int32))), .unset, .unset, .unset] [(.int (-2147483648 : Int32)), (.int (15 : Int32)), (.ref b30), (.ref b30)])) rfl rfl (hb hby at_136)
      have V46 := Arv.set Ar46 q46 S46 M46 Hs46 G46 rfl W46 15 rfl (Nat.le_of_ble_eq_true rfl)
      have N46 := Fr.snoc X46 N45 gb30
      have Z46 : n0 ≤ h46.size := Nat.le_trans Z45 (Nat.le_of_eq W46.size.symm)
      obtain ⟨cl, Ar, q, S, M, Hs, G⟩ := V46
      have hj : ¬ (pick &&& (15 : Int32)) < 0 ∧ (pick &&& (15 : Int32)) < 16 := by
        have k := Jvm.RoadKit.c_mask pick 15 4 (by decide) (by decide)
        simp only [Int32.lt_iff_toInt_lt, Int32.reduceToInt, k]; omega
      have hin : ¬ ((pick &&& (15 : Int32)) < 0 ∨ cl.slots.size ≤ ((pick &&& (15 : Int32))).toNatClampNeg) := inb_of S hj
      obtain ⟨wv, hwv⟩ := fit_I (G ((pick &&& (15 : Int32))).toNatClampNeg (Nat.lt_of_not_le fun z => hin (Or.inr z))) (Or.inl rfl)
      have hat : cl.slots[((pick &&& (15 : Int32))).toNatClampNeg]? = some (.int wv) := (Hs _ (Nat.lt_of_not_le fun z => hin (Or.inr z))).trans (congrArg some hwv)
      obtain ⟨_, _, ⟨T47, L47, k47, n47⟩, -, X47, ⟨Lc47, hQ47, l47, y47, z47⟩, st47⟩ := Jvm.LawKit.callS X46 hx (y := (⟨"com/example/unfussy_throttle/unfussythrottle/policy/Policy", "isRefusalStatus", "(I)Z"⟩ : MethodName)) hown (mvT hZ (hw _ (List.mem_of_getElem? (i := 2) rfl))) (mvT hZ (hw _ (List.mem_of_getElem? (i := 3) rfl))) (mvT hZ (hw _ (List.mem_of_getElem? (i := 4) rfl))) (mvT hZ (hw _ (List.mem_of_getElem? (i := 5) rfl))) (by decide) (backOf (W := 0) (rm1 l Z a0 hw [] wv  h46 n0 Z46) hZ (hw _ (List.mem_of_getElem? (i := 5) rfl)) (hw _ (List.mem_of_getElem? (i := 4) rfl)) (by decide) (by decide)) (g := (mkF m 156 #[.val (.int raw), .val (.int pick), .val (.int sel), .val (.int (sel &&& (3 : Int32))), .val (.int wv), .val (.ref b30), .unset] [(.int wv)])) rfl (by rw [hml]; rfl) (argsL := [(.int wv)]) (rest := []) (lenOf own_pd0 rfl) rfl (by show 2 * 0 + _ ≤ _; exact Nat.le_of_eq rfl) (hb hby at_156) (fun _ _ => ⟨rfl, e46, (by decide : 1 + 0 ≤ _), (by decide : 16 + 0 ≤ _)⟩)
      dsimp only [Pt.U, Pt.locs, Pt.cells, Pt.slots] at X47 l47 y47 z47 st47 hQ47
      subst l47 y47 z47
      obtain ⟨z47, rfl, hz47, N47q, e47⟩ := hQ47
      have N47 := Fr.app N46 N47q
      obtain ⟨_, _, ⟨T48, L48, k48, n48⟩, -, X48, ⟨Lc48, hQ48, l48, y48, z48⟩, st48⟩ := Jvm.LawKit.callS X47 hx (y := (⟨"com/example/unfussy_throttle/unfussythrottle/policy/Policy", "isRefusalStatus", "(I)Z"⟩ : MethodName)) hown (mvT hZ (hw _ (List.mem_of_getElem? (i := 2) rfl))) (mvT hZ (hw _ (List.mem_of_getElem? (i := 3) rfl))) (mvT hZ (hw _ (List.mem_of_getElem? (i := 4) rfl))) (mvT hZ (hw _ (List.mem_of_getElem? (i := 5) rfl))) (by decide) (backOf (W := 0) (rm1 l Z a0 hw [] (429 : Int32)  h46 n0 Z46) hZ (hw _ (List.mem_of_getElem? (i := 5) rfl)) (hw _ (List.mem_of_getElem? (i := 4) rfl)) (by decide) (by decide)) (g := (mkF m 164 #[.val (.int raw), .val (.int pick), .val (.int sel), .val (.int (sel &&& (3 : Int32))), .val (.int wv), .val (.int z47), .unset] [(.int (429 : Int32))])) rfl (by rw [hml]; rfl) (argsL := [(.int (429 : Int32))]) (rest := []) (lenOf own_pd0 rfl) rfl (by show 2 * 0 + _ ≤ _; exact Nat.le_of_eq rfl) (hb hby at_164) (fun _ _ => ⟨rfl, e47, (by decide : 1 + 0 ≤ _), (by decide : 16 + 0 ≤ _)⟩)
      dsimp only [Pt.U, Pt.locs, Pt.cells, Pt.slots] at X48 l48 y48 z48 st48 hQ48
      subst l48 y48 z48
      obtain ⟨z48, rfl, hz48, N48q, e48⟩ := hQ48
      have N48 := Fr.app N47 N48q
      obtain ⟨_, _, ⟨T49, L49, k49, n49⟩, -, X49, ⟨Lc49, hQ49, l49, y49, z49⟩, st49⟩ := Jvm.LawKit.callS X48 hx (y := (⟨"com/example/unfussy_throttle/unfussythrottle/policy/PolicyIsRefusalStatusPinLaw", "expected", "(I)Z"⟩ : MethodName)) hown (mvT hZ (hw _ (List.mem_of_getElem? (i := 6) rfl))) (mvT hZ (hw _ (List.mem_of_getElem? (i := 7) rfl))) (mvT hZ (hw _ (List.mem_of_getElem? (i := 8) rfl))) (mvT hZ (hw _ (List.mem_of_getElem? (i := 9) rfl))) (by decide) (backOf (W := 1) (rm2 l Z a0 hw [] wv  h46 n0 Z46) hZ (hw _ (List.mem_of_getElem? (i := 9) rfl)) (hw _ (List.mem_of_getElem? (i := 8) rfl)) (by decide) (by decide)) (g := (mkF m 173 #[.val (.int raw), .val (.int pick), .val (.int sel), .val (.int (sel &&& (3 : Int32))), .val (.int wv), .val (.int z47), .val (.int z48)] [(.int wv), (.int z47)])) rfl (by rw [hml]; rfl) (argsL := [(.int wv)]) (rest := [(.int z47)]) (lenOf own_pd0 rfl) rfl (by show 2 * 0 + _ ≤ _; exact Nat.le_of_eq rfl) (hb hby at_173) (fun _ _ => ⟨rfl, e48, (by decide : 1 + 0 ≤ _), (by decide : 16 + 0 ≤ _)⟩)
      dsimp only [Pt.U, Pt.locs, Pt.cells, Pt.slots] at X49 l49 y49 z49 st49 hQ49
      subst l49 y49 z49
      obtain ⟨z49, rfl, hz49, N49q, e49⟩ := hQ49
      have N49 := Fr.app N48 N49q
      have he : z47 = z49 := own_says_eq hz47 hz49 Iff.rfl
      have hf : ¬ z48 = 0 := fun q => (own_says_ne hz48).mp q (by simp only [own_R, Int32.reduceToInt]; omega)
      have pre50 : ∀ t, Steps p.tables e below (T49.setTop (mkF m 189 #[.val (.int raw), .val (.int pick), .val (.int sel), .val (.int (sel &&& (3 : Int32))), .val (.int wv), .val (.int z47), .val (.int z48)] [(.int (1 : Int32))])) t → Steps p.tables e below (s₁.setTop (entryFrame m #[(.int raw), (.int pick), (.int sel)] maxLocals)) t := fun t k => pre29 t (by
          show Steps p.tables e below (s₁.setTop (mkF m 25 #[.val (.int raw), .val (.int pick), .val (.int sel), .val (.int (sel &&& (3 : Int32))), .unset, .unset, .unset] [(.int (2 : Int32)), (.int (sel &&& (3 : Int32)))])) _
          refine XS.icmpNo X0.here hx rfl (hb hby at_25) rfl (teq hc25).2 ?_
          show Steps p.tables e below (s₁.setTop (mkF m 28 #[.val (.int raw), .val (.int pick), .val (.int sel), .val (.int (sel &&& (3 : Int32))), .unset, .unset, .unset] [])) _
          refine XS.bipush X0.here hx rfl (hb hby at_28) ?_
          show Steps p.tables e below (s₁.setTop (mkF m 30 #[.val (.int raw), .val (.int pick), .val (.int sel), .val (.int (sel &&& (3 : Int32))), .unset, .unset, .unset] [(.int (16 : Int32))])) _
          refine st30 _ ?_
          show Steps p.tables e below (T30.setTop (mkF m 32 #[.val (.int raw), .val (.int pick), .val (.int sel), .val (.int (sel &&& (3 : Int32))), .unset, .unset, .unset] [(.ref b30)])) _
          refine XS.dup X30.here hx rfl (hb hby at_32) rfl rfl ?_
          show Steps p.tables e below (T30.setTop (mkF m 33 #[.val (.int raw), .val (.int pick), .val (.int sel), .val (.int (sel &&& (3 : Int32))), .unset, .unset, .unset] [(.ref b30), (.ref b30)])) _
          refine XS.iconst X30.here hx rfl (hb hby at_33) ?_
          show Steps p.tables e below (T30.setTop (mkF m 34 #[.val (.int raw), .val (.int pick), .val (.int sel), .val (.int (sel &&& (3 : Int32))), .unset, .unset, .unset] [(.int (0 : Int32)), (.ref b30), (.ref b30)])) _
          refine XS.sipush X30.here hx rfl (hb hby at_34) ?_
          show Steps p.tables e below (T30.setTop (mkF m 37 #[.val (.int raw), .val (.int pick), .val (.int sel), .val (.int (sel &&& (3 : Int32))), .unset, .unset, .unset] [(.int (399 : Int32)), (.int (0 : Int32)), (.ref b30), (.ref b30)])) _
          refine st31 _ ?_
          show Steps p.tables e below (T31.setTop (mkF m 38 #[.val (.int raw), .val (.int pick), .val (.int sel), .val (.int (sel &&& (3 : Int32))), .unset, .unset, .unset] [(.ref b30)])) _
          refine XS.dup X31.here hx rfl (hb hby at_38) rfl rfl ?_
          show Steps p.tables e below (T31.setTop (mkF m 39 #[.val (.int raw), .val (.int pick), .val (.int sel), .val (.int (sel &&& (3 : Int32))), .unset, .unset, .unset] [(.ref b30), (.ref b30)])) _
          refine XS.iconst X31.here hx rfl (hb hby at_39) ?_
          show Steps p.tables e below (T31.setTop (mkF m 40 #[.val (.int raw), .val (.int pick), .val (.int sel), .val (.int (sel &&& (3 : Int32))), .unset, .unset, .unset] [(.int (1 : Int32)), (.ref b30), (.ref b30)])) _
          refine XS.sipush X31.here hx rfl (hb hby at_40) ?_
          show Steps p.tables e below (T31.setTop (mkF m 43 #[.val (.int raw), .val (.int pick), .val (.int sel), .val (.int (sel &&& (3 : Int32))), .unset, .unset, .unset] [(.int (400 : Int32)), (.int (1 : Int32)), (.ref b30), (.ref b30)])) _
          refine st32 _ ?_
          show Steps p.tables e below (T32.setTop (mkF m 44 #[.val (.int raw), .val (.int pick), .val (.int sel), .val (.int (sel &&& (3 : Int32))), .unset, .unset, .unset] [(.ref b30)])) _
          refine XS.dup X32.here hx rfl (hb hby at_44) rfl rfl ?_
          show Steps p.tables e below (T32.setTop (mkF m 45 #[.val (.int raw), .val (.int pick), .val (.int sel), .val (.int (sel &&& (3 : Int32))), .unset, .unset, .unset] [(.ref b30), (.ref b30)])) _
          refine XS.iconst X32.here hx rfl (hb hby at_45) ?_
          show Steps p.tables e below (T32.setTop (mkF m 46 #[.val (.int raw), .val (.int pick), .val (.int sel), .val (.int (sel &&& (3 : Int32))), .unset, .unset, .unset] [(.int (2 : Int32)), (.ref b30), (.ref b30)])) _
          refine XS.sipush X32.here hx rfl (hb hby at_46) ?_
          show Steps p.tables e below (T32.setTop (mkF m 49 #[.val (.int raw), .val (.int pick), .val (.int sel), .val (.int (sel &&& (3 : Int32))), .unset, .unset, .unset] [(.int (401 : Int32)), (.int (2 : Int32)), (.ref b30), (.ref b30)])) _
          refine st33 _ ?_
          show Steps p.tables e below (T33.setTop (mkF m 50 #[.val (.int raw), .val (.int pick), .val (.int sel), .val (.int (sel &&& (3 : Int32))), .unset, .unset, .unset] [(.ref b30)])) _
          refine XS.dup X33.here hx rfl (hb hby at_50) rfl rfl ?_
          show Steps p.tables e below (T33.setTop (mkF m 51 #[.val (.int raw), .val (.int pick), .val (.int sel), .val (.int (sel &&& (3 : Int32))), .unset, .unset, .unset] [(.ref b30), (.ref b30)])) _
          refine XS.iconst X33.here hx rfl (hb hby at_51) ?_
          show Steps p.tables e below (T33.setTop (mkF m 52 #[.val (.int raw), .val (.int pick), .val (.int sel), .val (.int (sel &&& (3 : Int32))), .unset, .unset, .unset] [(.int (3 : Int32)), (.ref b30), (.ref b30)])) _
          refine XS.sipush X33.here hx rfl (hb hby at_52) ?_
          show Steps p.tables e below (T33.setTop (mkF m 55 #[.val (.int raw), .val (.int pick), .val (.int sel), .val (.int (sel &&& (3 : Int32))), .unset, .unset, .unset] [(.int (402 : Int32)), (.int (3 : Int32)), (.ref b30), (.ref b30)])) _
          refine st34 _ ?_
          show Steps p.tables e below (T34.setTop (mkF m 56 #[.val (.int raw), .val (.int pick), .val (.int sel), .val (.int (sel &&& (3 : Int32))), .unset, .unset, .unset] [(.ref b30)])) _
          refine XS.dup X34.here hx rfl (hb hby at_56) rfl rfl ?_
          show Steps p.tables e below (T34.setTop (mkF m 57 #[.val (.int raw), .val (.int pick), .val (.int sel), .val (.int (sel &&& (3 : Int32))), .unset, .unset, .unset] [(.ref b30), (.ref b30)])) _
          refine XS.iconst X34.here hx rfl (hb hby at_57) ?_
          show Steps p.tables e below (T34.setTop (mkF m 58 #[.val (.int raw), .val (.int pick), .val (.int sel), .val (.int (sel &&& (3 : Int32))), .unset, .unset, .unset] [(.int (4 : Int32)), (.ref b30), (.ref b30)])) _
          refine XS.sipush X34.here hx rfl (hb hby at_58) ?_
          show Steps p.tables e below (T34.setTop (mkF m 61 #[.val (.int raw), .val (.int pick), .val (.int sel), .val (.int (sel &&& (3 : Int32))), .unset, .unset, .unset] [(.int (404 : Int32)), (.int (4 : Int32)), (.ref b30), (.ref b30)])) _
          refine st35 _ ?_
          show Steps p.tables e below (T35.setTop (mkF m 62 #[.val (.int raw), .val (.int pick), .val (.int sel), .val (.int (sel &&& (3 : Int32))), .unset, .unset, .unset] [(.ref b30)])) _
          refine XS.dup X35.here hx rfl (hb hby at_62) rfl rfl ?_
          show Steps p.tables e below (T35.setTop (mkF m 63 #[.val (.int raw), .val (.int pick), .val (.int sel), .val (.int (sel &&& (3 : Int32))), .unset, .unset, .unset] [(.ref b30), (.ref b30)])) _
          refine XS.iconst X35.here hx rfl (hb hby at_63) ?_
          show Steps p.tables e below (T35.setTop (mkF m 64 #[.val (.int raw), .val (.int pick), .val (.int sel), .val (.int (sel &&& (3 : Int32))), .unset, .unset, .unset] [(.int (5 : Int32)), (.ref b30), (.ref b30)])) _
          refine XS.sipush X35.here hx rfl (hb hby at_64) ?_
          show Steps p.tables e below (T35.setTop (mkF m 67 #[.val (.int raw), .val (.int pick), .val (.int sel), .val (.int (sel &&& (3 : Int32))), .unset, .unset, .unset] [(.int (405 : Int32)), (.int (5 : Int32)), (.ref b30), (.ref b30)])) _
          refine st36 _ ?_
          show Steps p.tables e below (T36.setTop (mkF m 68 #[.val (.int raw), .val (.int pick), .val (.int sel), .val (.int (sel &&& (3 : Int32))), .unset, .unset, .unset] [(.ref b30)])) _
          refine XS.dup X36.here hx rfl (hb hby at_68) rfl rfl ?_
          show Steps p.tables e below (T36.setTop (mkF m 69 #[.val (.int raw), .val (.int pick), .val (.int sel), .val (.int (sel &&& (3 : Int32))), .unset, .unset, .unset] [(.ref b30), (.ref b30)])) _
          refine XS.bipush X36.here hx rfl (hb hby at_69) ?_
          show Steps p.tables e below (T36.setTop (mkF m 71 #[.val (.int raw), .val (.int pick), .val (.int sel), .val (.int (sel &&& (3 : Int32))), .unset, .unset, .unset] [(.int (6 : Int32)), (.ref b30), (.ref b30)])) _
          refine XS.sipush X36.here hx rfl (hb hby at_71) ?_
          show Steps p.tables e below (T36.setTop (mkF m 74 #[.val (.int raw), .val (.int pick), .val (.int sel), .val (.int (sel &&& (3 : Int32))), .unset, .unset, .unset] [(.int (406 : Int32)), (.int (6 : Int32)), (.ref b30), (.ref b30)])) _
          refine st37 _ ?_
          show Steps p.tables e below (T37.setTop (mkF m 75 #[.val (.int raw), .val (.int pick), .val (.int sel), .val (.int (sel &&& (3 : Int32))), .unset, .unset, .unset] [(.ref b30)])) _
          refine XS.dup X37.here hx rfl (hb hby at_75) rfl rfl ?_
          show Steps p.tables e below (T37.setTop (mkF m 76 #[.val (.int raw), .val (.int pick), .val (.int sel), .val (.int (sel &&& (3 : Int32))), .unset, .unset, .unset] [(.ref b30), (.ref b30)])) _
          refine XS.bipush X37.here hx rfl (hb hby at_76) ?_
          show Steps p.tables e below (T37.setTop (mkF m 78 #[.val (.int raw), .val (.int pick), .val (.int sel), .val (.int (sel &&& (3 : Int32))), .unset, .unset, .unset] [(.int (7 : Int32)), (.ref b30), (.ref b30)])) _
          refine XS.sipush X37.here hx rfl (hb hby at_78) ?_
          show Steps p.tables e below (T37.setTop (mkF m 81 #[.val (.int raw), .val (.int pick), .val (.int sel), .val (.int (sel &&& (3 : Int32))), .unset, .unset, .unset] [(.int (407 : Int32)), (.int (7 : Int32)), (.ref b30), (.ref b30)])) _
          refine st38 _ ?_
          show Steps p.tables e below (T38.setTop (mkF m 82 #[.val (.int raw), .val (.int pick), .val (.int sel), .val (.int (sel &&& (3 : Int32))), .unset, .unset, .unset] [(.ref b30)])) _
          refine XS.dup X38.here hx rfl (hb hby at_82) rfl rfl ?_
          show Steps p.tables e below (T38.setTop (mkF m 83 #[.val (.int raw), .val (.int pick), .val (.int sel), .val (.int (sel &&& (3 : Int32))), .unset, .unset, .unset] [(.ref b30), (.ref b30)])) _
          refine XS.bipush X38.here hx rfl (hb hby at_83) ?_
          show Steps p.tables e below (T38.setTop (mkF m 85 #[.val (.int raw), .val (.int pick), .val (.int sel), .val (.int (sel &&& (3 : Int32))), .unset, .unset, .unset] [(.int (8 : Int32)), (.ref b30), (.ref b30)])) _
          refine XS.sipush X38.here hx rfl (hb hby at_85) ?_
          show Steps p.tables e below (T38.setTop (mkF m 88 #[.val (.int raw), .val (.int pick), .val (.int sel), .val (.int (sel &&& (3 : Int32))), .unset, .unset, .unset] [(.int (408 : Int32)), (.int (8 : Int32)), (.ref b30), (.ref b30)])) _
          refine st39 _ ?_
          show Steps p.tables e below (T39.setTop (mkF m 89 #[.val (.int raw), .val (.int pick), .val (.int sel), .val (.int (sel &&& (3 : Int32))), .unset, .unset, .unset] [(.ref b30)])) _
          refine XS.dup X39.here hx rfl (hb hby at_89) rfl rfl ?_
          show Steps p.tables e below (T39.setTop (mkF m 90 #[.val (.int raw), .val (.int pick), .val (.int sel), .val (.int (sel &&& (3 : Int32))), .unset, .unset, .unset] [(.ref b30), (.ref b30)])) _
          refine XS.bipush X39.here hx rfl (hb hby at_90) ?_
          show Steps p.tables e below (T39.setTop (mkF m 92 #[.val (.int raw), .val (.int pick), .val (.int sel), .val (.int (sel &&& (3 : Int32))), .unset, .unset, .unset] [(.int (9 : Int32)), (.ref b30), (.ref b30)])) _
          refine XS.sipush X39.here hx rfl (hb hby at_92) ?_
          show Steps p.tables e below (T39.setTop (mkF m 95 #[.val (.int raw), .val (.int pick), .val (.int sel), .val (.int (sel &&& (3 : Int32))), .unset, .unset, .unset] [(.int (425 : Int32)), (.int (9 : Int32)), (.ref b30), (.ref b30)])) _
          refine st40 _ ?_
          show Steps p.tables e below (T40.setTop (mkF m 96 #[.val (.int raw), .val (.int pick), .val (.int sel), .val (.int (sel &&& (3 : Int32))), .unset, .unset, .unset] [(.ref b30)])) _
          refine XS.dup X40.here hx rfl (hb hby at_96) rfl rfl ?_
          show Steps p.tables e below (T40.setTop (mkF m 97 #[.val (.int raw), .val (.int pick), .val (.int sel), .val (.int (sel &&& (3 : Int32))), .unset, .unset, .unset] [(.ref b30), (.ref b30)])) _
          refine XS.bipush X40.here hx rfl (hb hby at_97) ?_
          show Steps p.tables e below (T40.setTop (mkF m 99 #[.val (.int raw), .val (.int pick), .val (.int sel), .val (.int (sel &&& (3 : Int32))), .unset, .unset, .unset] [(.int (10 : Int32)), (.ref b30), (.ref b30)])) _
          refine XS.sipush X40.here hx rfl (hb hby at_99) ?_
          show Steps p.tables e below (T40.setTop (mkF m 102 #[.val (.int raw), .val (.int pick), .val (.int sel), .val (.int (sel &&& (3 : Int32))), .unset, .unset, .unset] [(.int (426 : Int32)), (.int (10 : Int32)), (.ref b30), (.ref b30)])) _
          refine st41 _ ?_
          show Steps p.tables e below (T41.setTop (mkF m 103 #[.val (.int raw), .val (.int pick), .val (.int sel), .val (.int (sel &&& (3 : Int32))), .unset, .unset, .unset] [(.ref b30)])) _
          refine XS.dup X41.here hx rfl (hb hby at_103) rfl rfl ?_
          show Steps p.tables e below (T41.setTop (mkF m 104 #[.val (.int raw), .val (.int pick), .val (.int sel), .val (.int (sel &&& (3 : Int32))), .unset, .unset, .unset] [(.ref b30), (.ref b30)])) _
          refine XS.bipush X41.here hx rfl (hb hby at_104) ?_
          show Steps p.tables e below (T41.setTop (mkF m 106 #[.val (.int raw), .val (.int pick), .val (.int sel), .val (.int (sel &&& (3 : Int32))), .unset, .unset, .unset] [(.int (11 : Int32)), (.ref b30), (.ref b30)])) _
          refine XS.sipush X41.here hx rfl (hb hby at_106) ?_
          show Steps p.tables e below (T41.setTop (mkF m 109 #[.val (.int raw), .val (.int pick), .val (.int sel), .val (.int (sel &&& (3 : Int32))), .unset, .unset, .unset] [(.int (427 : Int32)), (.int (11 : Int32)), (.ref b30), (.ref b30)])) _
          refine st42 _ ?_
          show Steps p.tables e below (T42.setTop (mkF m 110 #[.val (.int raw), .val (.int pick), .val (.int sel), .val (.int (sel &&& (3 : Int32))), .unset, .unset, .unset] [(.ref b30)])) _
          refine XS.dup X42.here hx rfl (hb hby at_110) rfl rfl ?_
          show Steps p.tables e below (T42.setTop (mkF m 111 #[.val (.int raw), .val (.int pick), .val (.int sel), .val (.int (sel &&& (3 : Int32))), .unset, .unset, .unset] [(.ref b30), (.ref b30)])) _
          refine XS.bipush X42.here hx rfl (hb hby at_111) ?_
          show Steps p.tables e below (T42.setTop (mkF m 113 #[.val (.int raw), .val (.int pick), .val (.int sel), .val (.int (sel &&& (3 : Int32))), .unset, .unset, .unset] [(.int (12 : Int32)), (.ref b30), (.ref b30)])) _
          refine XS.sipush X42.here hx rfl (hb hby at_113) ?_
          show Steps p.tables e below (T42.setTop (mkF m 116 #[.val (.int raw), .val (.int pick), .val (.int sel), .val (.int (sel &&& (3 : Int32))), .unset, .unset, .unset] [(.int (429 : Int32)), (.int (12 : Int32)), (.ref b30), (.ref b30)])) _
          refine st43 _ ?_
          show Steps p.tables e below (T43.setTop (mkF m 117 #[.val (.int raw), .val (.int pick), .val (.int sel), .val (.int (sel &&& (3 : Int32))), .unset, .unset, .unset] [(.ref b30)])) _
          refine XS.dup X43.here hx rfl (hb hby at_117) rfl rfl ?_
          show Steps p.tables e below (T43.setTop (mkF m 118 #[.val (.int raw), .val (.int pick), .val (.int sel), .val (.int (sel &&& (3 : Int32))), .unset, .unset, .unset] [(.ref b30), (.ref b30)])) _
          refine XS.bipush X43.here hx rfl (hb hby at_118) ?_
          show Steps p.tables e below (T43.setTop (mkF m 120 #[.val (.int raw), .val (.int pick), .val (.int sel), .val (.int (sel &&& (3 : Int32))), .unset, .unset, .unset] [(.int (13 : Int32)), (.ref b30), (.ref b30)])) _
          refine XS.sipush X43.here hx rfl (hb hby at_120) ?_
          show Steps p.tables e below (T43.setTop (mkF m 123 #[.val (.int raw), .val (.int pick), .val (.int sel), .val (.int (sel &&& (3 : Int32))), .unset, .unset, .unset] [(.int (599 : Int32)), (.int (13 : Int32)), (.ref b30), (.ref b30)])) _
          refine st44 _ ?_
          show Steps p.tables e below (T44.setTop (mkF m 124 #[.val (.int raw), .val (.int pick), .val (.int sel), .val (.int (sel &&& (3 : Int32))), .unset, .unset, .unset] [(.ref b30)])) _
          refine XS.dup X44.here hx rfl (hb hby at_124) rfl rfl ?_
          show Steps p.tables e below (T44.setTop (mkF m 125 #[.val (.int raw), .val (.int pick), .val (.int sel), .val (.int (sel &&& (3 : Int32))), .unset, .unset, .unset] [(.ref b30), (.ref b30)])) _
          refine XS.bipush X44.here hx rfl (hb hby at_125) ?_
          show Steps p.tables e below (T44.setTop (mkF m 127 #[.val (.int raw), .val (.int pick), .val (.int sel), .val (.int (sel &&& (3 : Int32))), .unset, .unset, .unset] [(.int (14 : Int32)), (.ref b30), (.ref b30)])) _
          refine XS.sipush X44.here hx rfl (hb hby at_127) ?_
          show Steps p.tables e below (T44.setTop (mkF m 130 #[.val (.int raw), .val (.int pick), .val (.int sel), .val (.int (sel &&& (3 : Int32))), .unset, .unset, .unset] [(.int (600 : Int32)), (.int (14 : Int32)), (.ref b30), (.ref b30)])) _
          refine st45 _ ?_
          show Steps p.tables e below (T45.setTop (mkF m 131 #[.val (.int raw), .val (.int pick), .val (.int sel), .val (.int (sel &&& (3 : Int32))), .unset, .unset, .unset] [(.ref b30)])) _
          refine XS.dup X45.here hx rfl (hb hby at_131) rfl rfl ?_
          show Steps p.tables e below (T45.setTop (mkF m 132 #[.val (.int raw), .val (.int pick), .val (.int sel), .val (.int (sel &&& (3 : Int32))), .unset, .unset, .unset] [(.ref b30), (.ref b30)])) _
          refine XS.bipush X45.here hx rfl (hb hby at_132) ?_
          show Steps p.tables e below (T45.setTop (mkF m 134 #[.val (.int raw), .val (.int pick), .val (.int sel), .val (.int (sel &&& (3 : Int32))), .unset, .unset, .unset] [(.int (15 : Int32)), (.ref b30), (.ref b30)])) _
          refine X45.ldcInt hx hown (mvT hZ (hw _ (List.mem_of_getElem? (i := 1) rfl))) (g := (mkF m 134 #[.val (.int raw), .val (.int pick), .val (.int sel), .val (.int (sel &&& (3 : Int32))), .unset, .unset, .unset] [(.int (15 : Int32)), (.ref b30), (.ref b30)])) rfl (hb hby at_134) _ ?_
          show Steps p.tables e below (T45.setTop (mkF m 136 #[.val (.int raw), .val (.int pick), .val (.int sel), .val (.int (sel &&& (3 : Int32))), .unset, .unset, .unset] [(.int (-2147483648 : Int32)), (.int (15 : Int32)), (.ref b30), (.ref b30)])) _
          refine st46 _ ?_
          show Steps p.tables e below (T46.setTop (mkF m 137 #[.val (.int raw), .val (.int pick), .val (.int sel), .val (.int (sel &&& (3 : Int32))), .unset, .unset, .unset] [(.ref b30)])) _
          refine XS.astore X46.here hx rfl (hb hby at_137) rfl rfl (l' := #[.val (.int raw), .val (.int pick), .val (.int sel), .val (.int (sel &&& (3 : Int32))), .unset, .val (.ref b30), .unset]) rfl ?_
          show Steps p.tables e below (T46.setTop (mkF m 139 #[.val (.int raw), .val (.int pick), .val (.int sel), .val (.int (sel &&& (3 : Int32))), .unset, .val (.ref b30), .unset] [])) _
          refine XS.aload X46.here hx rfl (hb hby at_139) rfl rfl ?_
          show Steps p.tables e below (T46.setTop (mkF m 141 #[.val (.int raw), .val (.int pick), .val (.int sel), .val (.int (sel &&& (3 : Int32))), .unset, .val (.ref b30), .unset] [(.ref b30)])) _
          refine XS.iloadN X46.here hx rfl (hb hby at_141) rfl ?_
          show Steps p.tables e below (T46.setTop (mkF m 142 #[.val (.int raw), .val (.int pick), .val (.int sel), .val (.int (sel &&& (3 : Int32))), .unset, .val (.ref b30), .unset] [(.int pick), (.ref b30)])) _
          refine XS.bipush X46.here hx rfl (hb hby at_142) ?_
          show Steps p.tables e below (T46.setTop (mkF m 144 #[.val (.int raw), .val (.int pick), .val (.int sel), .val (.int (sel &&& (3 : Int32))), .unset, .val (.ref b30), .unset] [(.int (15 : Int32)), (.int pick), (.ref b30)])) _
          refine XS.iand X46.here hx rfl (hb hby at_144) rfl ?_
          show Steps p.tables e below (T46.setTop (mkF m 145 #[.val (.int raw), .val (.int pick), .val (.int sel), .val (.int (sel &&& (3 : Int32))), .unset, .val (.ref b30), .unset] [(.int (pick &&& (15 : Int32))), (.ref b30)])) _
          refine X46.iaload hx (j := (pick &&& (15 : Int32))) (v := (.int wv)) (by rw [e46]; exact Ar.1) (State.isArrayOf_alike hZ.alike Ar.2.1) Ar.2.2 hin hat (g := (mkF m 145 #[.val (.int raw), .val (.int pick), .val (.int sel), .val (.int (sel &&& (3 : Int32))), .unset, .val (.ref b30), .unset] [(.int (pick &&& (15 : Int32))), (.ref b30)])) rfl rfl (hb hby at_145) _ ?_
          show Steps p.tables e below (T46.setTop (mkF m 146 #[.val (.int raw), .val (.int pick), .val (.int sel), .val (.int (sel &&& (3 : Int32))), .unset, .val (.ref b30), .unset] [(.int wv)])) _
          refine XS.istore X46.here hx rfl (hb hby at_146) rfl (l' := #[.val (.int raw), .val (.int pick), .val (.int sel), .val (.int (sel &&& (3 : Int32))), .val (.int wv), .val (.ref b30), .unset]) rfl ?_
          show Steps p.tables e below (T46.setTop (mkF m 148 #[.val (.int raw), .val (.int pick), .val (.int sel), .val (.int (sel &&& (3 : Int32))), .val (.int wv), .val (.ref b30), .unset] [])) _
          refine XS.goto X46.here hx rfl (pc0 := 148) (pc' := 154) rfl (hb hby at_148) (by decide) (by decide) ?_
          show Steps p.tables e below (T46.setTop (mkF m 154 #[.val (.int raw), .val (.int pick), .val (.int sel), .val (.int (sel &&& (3 : Int32))), .val (.int wv), .val (.ref b30), .unset] [])) _
          refine XS.iload X46.here hx rfl (hb hby at_154) rfl ?_
          show Steps p.tables e below (T46.setTop (mkF m 156 #[.val (.int raw), .val (.int pick), .val (.int sel), .val (.int (sel &&& (3 : Int32))), .val (.int wv), .val (.ref b30), .unset] [(.int wv)])) _
          refine st47 _ ?_
          show Steps p.tables e below (T47.setTop (mkF m 159 #[.val (.int raw), .val (.int pick), .val (.int sel), .val (.int (sel &&& (3 : Int32))), .val (.int wv), .val (.ref b30), .unset] [(.int z47)])) _
          refine XS.istore X47.here hx rfl (hb hby at_159) rfl (l' := #[.val (.int raw), .val (.int pick), .val (.int sel), .val (.int (sel &&& (3 : Int32))), .val (.int wv), .val (.int z47), .unset]) rfl ?_
          show Steps p.tables e below (T47.setTop (mkF m 161 #[.val (.int raw), .val (.int pick), .val (.int sel), .val (.int (sel &&& (3 : Int32))), .val (.int wv), .val (.int z47), .unset] [])) _
          refine XS.sipush X47.here hx rfl (hb hby at_161) ?_
          show Steps p.tables e below (T47.setTop (mkF m 164 #[.val (.int raw), .val (.int pick), .val (.int sel), .val (.int (sel &&& (3 : Int32))), .val (.int wv), .val (.int z47), .unset] [(.int (429 : Int32))])) _
          refine st48 _ ?_
          show Steps p.tables e below (T48.setTop (mkF m 167 #[.val (.int raw), .val (.int pick), .val (.int sel), .val (.int (sel &&& (3 : Int32))), .val (.int wv), .val (.int z47), .unset] [(.int z48)])) _
          refine XS.istore X48.here hx rfl (hb hby at_167) rfl (l' := #[.val (.int raw), .val (.int pick), .val (.int sel), .val (.int (sel &&& (3 : Int32))), .val (.int wv), .val (.int z47), .val (.int z48)]) rfl ?_
          show Steps p.tables e below (T48.setTop (mkF m 169 #[.val (.int raw), .val (.int pick), .val (.int sel), .val (.int (sel &&& (3 : Int32))), .val (.int wv), .val (.int z47), .val (.int z48)] [])) _
          refine XS.iload X48.here hx rfl (hb hby at_169) rfl ?_
          show Steps p.tables e below (T48.setTop (mkF m 171 #[.val (.int raw), .val (.int pick), .val (.int sel), .val (.int (sel &&& (3 : Int32))), .val (.int wv), .val (.int z47), .val (.int z48)] [(.int z47)])) _
          refine XS.iload X48.here hx rfl (hb hby at_171) rfl ?_
          show Steps p.tables e below (T48.setTop (mkF m 173 #[.val (.int raw), .val (.int pick), .val (.int sel), .val (.int (sel &&& (3 : Int32))), .val (.int wv), .val (.int z47), .val (.int z48)] [(.int wv), (.int z47)])) _
          refine st49 _ ?_
          show Steps p.tables e below (T49.setTop (mkF m 176 #[.val (.int raw), .val (.int pick), .val (.int sel), .val (.int (sel &&& (3 : Int32))), .val (.int wv), .val (.int z47), .val (.int z48)] [(.int z49), (.int z47)])) _
          refine XS.icmpNo X49.here hx rfl (hb hby at_176) rfl (teq he).2 ?_
          show Steps p.tables e below (T49.setTop (mkF m 179 #[.val (.int raw), .val (.int pick), .val (.int sel), .val (.int (sel &&& (3 : Int32))), .val (.int wv), .val (.int z47), .val (.int z48)] [])) _
          refine XS.iload X49.here hx rfl (hb hby at_179) rfl ?_
          show Steps p.tables e below (T49.setTop (mkF m 181 #[.val (.int raw), .val (.int pick), .val (.int sel), .val (.int (sel &&& (3 : Int32))), .val (.int wv), .val (.int z47), .val (.int z48)] [(.int z48)])) _
          refine XS.ifNo X49.here hx rfl (hb hby at_181) rfl ((if0 _ _).trans (feq hf).1) ?_
          show Steps p.tables e below (T49.setTop (mkF m 184 #[.val (.int raw), .val (.int pick), .val (.int sel), .val (.int (sel &&& (3 : Int32))), .val (.int wv), .val (.int z47), .val (.int z48)] [])) _
          refine XS.iconst X49.here hx rfl (hb hby at_184) ?_
          show Steps p.tables e below (T49.setTop (mkF m 185 #[.val (.int raw), .val (.int pick), .val (.int sel), .val (.int (sel &&& (3 : Int32))), .val (.int wv), .val (.int z47), .val (.int z48)] [(.int (1 : Int32))])) _
          refine XS.goto X49.here hx rfl (pc0 := 185) (pc' := 189) rfl (hb hby at_185) (by decide) (by decide) ?_
          exact k)
      obtain ⟨fs, hr, hrun, hended, hW, hsame⟩ := X49.leave (v := some (.int (1 : Int32))) (fun h => by rw [Bd.returns] at h; cases h)
      refine ⟨_, _, pre50 _ ?_, hrun, hended, _, _, rfl, ?_, ⟨_, rfl⟩, hW, hsame.mono (by decide) (by decide)⟩
      · show Steps p.tables e below (T49.setTop (mkF m 189 #[.val (.int raw), .val (.int pick), .val (.int sel), .val (.int (sel &&& (3 : Int32))), .val (.int wv), .val (.int z47), .val (.int z48)] [(.int (1 : Int32))])) _
        exact retN X49 hx (t := .boolean) Bd.returns (by simp) (hb hby at_189) hr
      · show Q0 Z raw pick sel h0 n0 _ T49.heap _
        rw [e49]
        exact ⟨rfl, N49⟩
    · skip
      obtain ⟨_, _, ⟨T51, L51, k51, n51⟩, -, X51, ⟨Lc51, hQ51, l51, y51, z51⟩, st51⟩ := Jvm.LawKit.callS X0 hx (y := (⟨"com/example/unfussy_throttle/unfussythrottle/policy/Policy", "isRefusalStatus", "(I)Z"⟩ : MethodName)) hown (mvT hZ (hw _ (List.mem_of_getElem? (i := 2) rfl))) (mvT hZ (hw _ (List.mem_of_getElem? (i := 3) rfl))) (mvT hZ (hw _ (List.mem_of_getElem? (i := 4) rfl))) (mvT hZ (hw _ (List.mem_of_getElem? (i := 5) rfl))) (by decide) (backOf (W := 0) (rm1 l Z a0 hw [] raw  h0 n0 Z0) hZ (hw _ (List.mem_of_getElem? (i := 5) rfl)) (hw _ (List.mem_of_getElem? (i := 4) rfl)) (by decide) (by decide)) (g := (mkF m 156 #[.val (.int raw), .val (.int pick), .val (.int sel), .val (.int (sel &&& (3 : Int32))), .val (.int raw), .unset, .unset] [(.int raw)])) rfl (by rw [hml]; rfl) (argsL := [(.int raw)]) (rest := []) (lenOf own_pd0 rfl) rfl (by show 2 * 0 + _ ≤ _; exact Nat.le_of_eq rfl) (hb hby at_156) (fun _ _ => ⟨rfl, e0, (by decide : 0 + 0 ≤ _), (by decide : 0 + 0 ≤ _)⟩)
      dsimp only [Pt.U, Pt.locs, Pt.cells, Pt.slots] at X51 l51 y51 z51 st51 hQ51
      subst l51 y51 z51
      obtain ⟨z51, rfl, hz51, N51q, e51⟩ := hQ51
      have N51 := Fr.app N0 N51q
      obtain ⟨_, _, ⟨T52, L52, k52, n52⟩, -, X52, ⟨Lc52, hQ52, l52, y52, z52⟩, st52⟩ := Jvm.LawKit.callS X51 hx (y := (⟨"com/example/unfussy_throttle/unfussythrottle/policy/Policy", "isRefusalStatus", "(I)Z"⟩ : MethodName)) hown (mvT hZ (hw _ (List.mem_of_getElem? (i := 2) rfl))) (mvT hZ (hw _ (List.mem_of_getElem? (i := 3) rfl))) (mvT hZ (hw _ (List.mem_of_getElem? (i := 4) rfl))) (mvT hZ (hw _ (List.mem_of_getElem? (i := 5) rfl))) (by decide) (backOf (W := 0) (rm1 l Z a0 hw [] (429 : Int32)  h0 n0 Z0) hZ (hw _ (List.mem_of_getElem? (i := 5) rfl)) (hw _ (List.mem_of_getElem? (i := 4) rfl)) (by decide) (by decide)) (g := (mkF m 164 #[.val (.int raw), .val (.int pick), .val (.int sel), .val (.int (sel &&& (3 : Int32))), .val (.int raw), .val (.int z51), .unset] [(.int (429 : Int32))])) rfl (by rw [hml]; rfl) (argsL := [(.int (429 : Int32))]) (rest := []) (lenOf own_pd0 rfl) rfl (by show 2 * 0 + _ ≤ _; exact Nat.le_of_eq rfl) (hb hby at_164) (fun _ _ => ⟨rfl, e51, (by decide : 0 + 0 ≤ _), (by decide : 0 + 0 ≤ _)⟩)
      dsimp only [Pt.U, Pt.locs, Pt.cells, Pt.slots] at X52 l52 y52 z52 st52 hQ52
      subst l52 y52 z52
      obtain ⟨z52, rfl, hz52, N52q, e52⟩ := hQ52
      have N52 := Fr.app N51 N52q
      obtain ⟨_, _, ⟨T53, L53, k53, n53⟩, -, X53, ⟨Lc53, hQ53, l53, y53, z53⟩, st53⟩ := Jvm.LawKit.callS X52 hx (y := (⟨"com/example/unfussy_throttle/unfussythrottle/policy/PolicyIsRefusalStatusPinLaw", "expected", "(I)Z"⟩ : MethodName)) hown (mvT hZ (hw _ (List.mem_of_getElem? (i := 6) rfl))) (mvT hZ (hw _ (List.mem_of_getElem? (i := 7) rfl))) (mvT hZ (hw _ (List.mem_of_getElem? (i := 8) rfl))) (mvT hZ (hw _ (List.mem_of_getElem? (i := 9) rfl))) (by decide) (backOf (W := 1) (rm2 l Z a0 hw [] raw  h0 n0 Z0) hZ (hw _ (List.mem_of_getElem? (i := 9) rfl)) (hw _ (List.mem_of_getElem? (i := 8) rfl)) (by decide) (by decide)) (g := (mkF m 173 #[.val (.int raw), .val (.int pick), .val (.int sel), .val (.int (sel &&& (3 : Int32))), .val (.int raw), .val (.int z51), .val (.int z52)] [(.int raw), (.int z51)])) rfl (by rw [hml]; rfl) (argsL := [(.int raw)]) (rest := [(.int z51)]) (lenOf own_pd0 rfl) rfl (by show 2 * 0 + _ ≤ _; exact Nat.le_of_eq rfl) (hb hby at_173) (fun _ _ => ⟨rfl, e52, (by decide : 0 + 0 ≤ _), (by decide : 0 + 0 ≤ _)⟩)
      dsimp only [Pt.U, Pt.locs, Pt.cells, Pt.slots] at X53 l53 y53 z53 st53 hQ53
      subst l53 y53 z53
      obtain ⟨z53, rfl, hz53, N53q, e53⟩ := hQ53
      have N53 := Fr.app N52 N53q
      have he : z51 = z53 := own_says_eq hz51 hz53 Iff.rfl
      have hf : ¬ z52 = 0 := fun q => (own_says_ne hz52).mp q (by simp only [own_R, Int32.reduceToInt]; omega)
      have pre54 : ∀ t, Steps p.tables e below (T53.setTop (mkF m 189 #[.val (.int raw), .val (.int pick), .val (.int sel), .val (.int (sel &&& (3 : Int32))), .val (.int raw), .val (.int z51), .val (.int z52)] [(.int (1 : Int32))])) t → Steps p.tables e below (s₁.setTop (entryFrame m #[(.int raw), (.int pick), (.int sel)] maxLocals)) t := fun t k => pre29 t (by
          show Steps p.tables e below (s₁.setTop (mkF m 25 #[.val (.int raw), .val (.int pick), .val (.int sel), .val (.int (sel &&& (3 : Int32))), .unset, .unset, .unset] [(.int (2 : Int32)), (.int (sel &&& (3 : Int32)))])) _
          refine XS.icmpYes X0.here hx rfl (pc0 := 25) (pc' := 151) rfl (hb hby at_25) rfl (feq hc25).2 (by decide) (by decide) ?_
          show Steps p.tables e below (s₁.setTop (mkF m 151 #[.val (.int raw), .val (.int pick), .val (.int sel), .val (.int (sel &&& (3 : Int32))), .unset, .unset, .unset] [])) _
          refine XS.iloadN X0.here hx rfl (hb hby at_151) rfl ?_
          show Steps p.tables e below (s₁.setTop (mkF m 152 #[.val (.int raw), .val (.int pick), .val (.int sel), .val (.int (sel &&& (3 : Int32))), .unset, .unset, .unset] [(.int raw)])) _
          refine XS.istore X0.here hx rfl (hb hby at_152) rfl (l' := #[.val (.int raw), .val (.int pick), .val (.int sel), .val (.int (sel &&& (3 : Int32))), .val (.int raw), .unset, .unset]) rfl ?_
          show Steps p.tables e below (s₁.setTop (mkF m 154 #[.val (.int raw), .val (.int pick), .val (.int sel), .val (.int (sel &&& (3 : Int32))), .val (.int raw), .unset, .unset] [])) _
          refine XS.iload X0.here hx rfl (hb hby at_154) rfl ?_
          show Steps p.tables e below (s₁.setTop (mkF m 156 #[.val (.int raw), .val (.int pick), .val (.int sel), .val (.int (sel &&& (3 : Int32))), .val (.int raw), .unset, .unset] [(.int raw)])) _
          refine st51 _ ?_
          show Steps p.tables e below (T51.setTop (mkF m 159 #[.val (.int raw), .val (.int pick), .val (.int sel), .val (.int (sel &&& (3 : Int32))), .val (.int raw), .unset, .unset] [(.int z51)])) _
          refine XS.istore X51.here hx rfl (hb hby at_159) rfl (l' := #[.val (.int raw), .val (.int pick), .val (.int sel), .val (.int (sel &&& (3 : Int32))), .val (.int raw), .val (.int z51), .unset]) rfl ?_
          show Steps p.tables e below (T51.setTop (mkF m 161 #[.val (.int raw), .val (.int pick), .val (.int sel), .val (.int (sel &&& (3 : Int32))), .val (.int raw), .val (.int z51), .unset] [])) _
          refine XS.sipush X51.here hx rfl (hb hby at_161) ?_
          show Steps p.tables e below (T51.setTop (mkF m 164 #[.val (.int raw), .val (.int pick), .val (.int sel), .val (.int (sel &&& (3 : Int32))), .val (.int raw), .val (.int z51), .unset] [(.int (429 : Int32))])) _
          refine st52 _ ?_
          show Steps p.tables e below (T52.setTop (mkF m 167 #[.val (.int raw), .val (.int pick), .val (.int sel), .val (.int (sel &&& (3 : Int32))), .val (.int raw), .val (.int z51), .unset] [(.int z52)])) _
          refine XS.istore X52.here hx rfl (hb hby at_167) rfl (l' := #[.val (.int raw), .val (.int pick), .val (.int sel), .val (.int (sel &&& (3 : Int32))), .val (.int raw), .val (.int z51), .val (.int z52)]) rfl ?_
          show Steps p.tables e below (T52.setTop (mkF m 169 #[.val (.int raw), .val (.int pick), .val (.int sel), .val (.int (sel &&& (3 : Int32))), .val (.int raw), .val (.int z51), .val (.int z52)] [])) _
          refine XS.iload X52.here hx rfl (hb hby at_169) rfl ?_
          show Steps p.tables e below (T52.setTop (mkF m 171 #[.val (.int raw), .val (.int pick), .val (.int sel), .val (.int (sel &&& (3 : Int32))), .val (.int raw), .val (.int z51), .val (.int z52)] [(.int z51)])) _
          refine XS.iload X52.here hx rfl (hb hby at_171) rfl ?_
          show Steps p.tables e below (T52.setTop (mkF m 173 #[.val (.int raw), .val (.int pick), .val (.int sel), .val (.int (sel &&& (3 : Int32))), .val (.int raw), .val (.int z51), .val (.int z52)] [(.int raw), (.int z51)])) _
          refine st53 _ ?_
          show Steps p.tables e below (T53.setTop (mkF m 176 #[.val (.int raw), .val (.int pick), .val (.int sel), .val (.int (sel &&& (3 : Int32))), .val (.int raw), .val (.int z51), .val (.int z52)] [(.int z53), (.int z51)])) _
          refine XS.icmpNo X53.here hx rfl (hb hby at_176) rfl (teq he).2 ?_
          show Steps p.tables e below (T53.setTop (mkF m 179 #[.val (.int raw), .val (.int pick), .val (.int sel), .val (.int (sel &&& (3 : Int32))), .val (.int raw), .val (.int z51), .val (.int z52)] [])) _
          refine XS.iload X53.here hx rfl (hb hby at_179) rfl ?_
          show Steps p.tables e below (T53.setTop (mkF m 181 #[.val (.int raw), .val (.int pick), .val (.int sel), .val (.int (sel &&& (3 : Int32))), .val (.int raw), .val (.int z51), .val (.int z52)] [(.int z52)])) _
          refine XS.ifNo X53.here hx rfl (hb hby at_181) rfl ((if0 _ _).trans (feq hf).1) ?_
          show Steps p.tables e below (T53.setTop (mkF m 184 #[.val (.int raw), .val (.int pick), .val (.int sel), .val (.int (sel &&& (3 : Int32))), .val (.int raw), .val (.int z51), .val (.int z52)] [])) _
          refine XS.iconst X53.here hx rfl (hb hby at_184) ?_
          show Steps p.tables e below (T53.setTop (mkF m 185 #[.val (.int raw), .val (.int pick), .val (.int sel), .val (.int (sel &&& (3 : Int32))), .val (.int raw), .val (.int z51), .val (.int z52)] [(.int (1 : Int32))])) _
          refine XS.goto X53.here hx rfl (pc0 := 185) (pc' := 189) rfl (hb hby at_185) (by decide) (by decide) ?_
          exact k)
      obtain ⟨fs, hr, hrun, hended, hW, hsame⟩ := X53.leave (v := some (.int (1 : Int32))) (fun h => by rw [Bd.returns] at h; cases h)
      refine ⟨_, _, pre54 _ ?_, hrun, hended, _, _, rfl, ?_, ⟨_, rfl⟩, hW, hsame.mono (by decide) (by decide)⟩
      · show Steps p.tables e below (T53.setTop (mkF m 189 #[.val (.int raw), .val (.int pick), .val (.int sel), .val (.int (sel &&& (3 : Int32))), .val (.int raw), .val (.int z51), .val (.int z52)] [(.int (1 : Int32))])) _
        exact retN X53 hx (t := .boolean) Bd.returns (by simp) (hb hby at_189) hr
      · show Q0 Z raw pick sel h0 n0 _ T53.heap _
        rw [e53]
        exact ⟨rfl, N53⟩
set_option maxRecDepth 65536 in
set_option maxHeartbeats 40000000 in
theorem comes_1 {Post : Tables → Env → Array Value → State → Outcome → State → Prop} (hpost : ∀ tb e args s v u, (limb_1_1.after args s (.returned v) u = true ∧ limb_1_2.after args s (.returned v) u = true ∧ True) → FrameEnd s (.returned v) u (Jvm.fieldLocs frame_1_writes args s ++ Jvm.arrayLocs frame_1_arrays args s ++ Jvm.staticLocs frame_1_statics s) 16 128 → Post tb e args s (.returned v) u) :
    ArmFor flags0 classFile x code maxLocals ret World_1 tables_1 room_1 Calls_1 rest_1 Pre_1 Post := by
  intro l hfl _ _ p e ha hc hk s m args below hf hA hF happ hP
  obtain ⟨hcalls, hrest, hpre⟩ := hP
  obtain ⟨-, -, -, hnamed, -, -, -, hat⟩ := (Spec.applies_iff hf).mp happ
  obtain ⟨hg, hn⟩ := and_e (Cond.before_iff.mp (show (Jvm.Cond.and given_1 narrow_1).before args s = true from hpre))
  obtain ⟨h1, g0⟩ := and_e hg
  obtain ⟨w0, w1, w2, rfl⟩ : ∃ w0 w1 w2 : Value, args = #[w0, w1, w2] := by
    have hs : args.size = 3 := by simpa [Cond.value, given_1] using h1
    obtain ⟨L⟩ := args
    match L, hs with
    | [w0, w1, w2], _ => exact ⟨w0, w1, w2, rfl⟩
  have hw := fun d (hd : d ∈ tables_1) => atoms_spec (ws := Jvm.Cond.code x code maxLocals ret :: tables_1) hat d (List.mem_cons_of_mem _ hd)
  obtain ⟨f0, g1⟩ := and_e g0
  obtain ⟨i0, q0⟩ := is_v f0
  obtain rfl : w0 = (.int i0) := Option.some.inj q0
  obtain ⟨f1, g2⟩ := and_e g1
  obtain ⟨i1, q1⟩ := is_v f1
  obtain rfl : w1 = (.int i1) := Option.some.inj q1
  have f2 := g2
  obtain ⟨i2, q2⟩ := is_v f2
  obtain rfl : w2 = (.int i2) := Option.some.inj q2
  obtain ⟨n, o, h1, h2, h3, _, L, rfl, ⟨rfl, N⟩, hq⟩ := rm0 l s _ hw tables_1 i0 i1 i2 s.heap s.heap.size (Nat.le_refl _)  p e ha hc hk s m _ below hf ((Spec.applies_iff_loose hf).mp happ).1 ⟨rfl, State.Warmed39.refl s, rfl⟩ trivial
  refine ⟨n, _, h1, h2, h3, hpost _ _ _ _ _ _ ⟨Cond.after_iff.mpr rfl, Cond.after_iff.mpr (eq_i res_at (Term.int_eval (1)) rfl), trivial⟩ ⟨hq.1, hq.2.1, (hq.2.2.sift fun y hy => Or.inr (N y hy)).mono (by decide) (by decide)⟩⟩
theorem main_1_1 : Claimed_1_1 := comes_1 fun _ _ _ _ _ _ h hF => ⟨h.1, hF⟩
theorem main_1_2 : Claimed_1_2 := comes_1 fun _ _ _ _ _ _ h hF => ⟨h.2.1, hF⟩
end Jvm.Pilot.@@N@@
namespace Jvm.Pilot.@@N@@
open Jvm Jvm.ClassFile Sem Op Lib Jvm.Free Jvm.Stand Jvm.Pilot.@@N@@.Jvm.D
/-! MADE BY PROGRAM (witnessworld.py) out of the Statement's table words and the real class files: 9 classes; the members and pool entries that the words name. The judged class is class 1, her method 1. -/
namespace start1
open Jvm.ClassFile
def u (s : String) : CpInfo := .utf8 (stringToUtf16 s)
/-- a pool by its gaps: so many unusable entries, then the entry; so many at the end -/
def gap : Nat → List CpInfo → List CpInfo
  | 0, r => r
  | n + 1, r => .unusable :: gap n r
def poolList (es : List (Nat × CpInfo)) (last : Nat) : List CpInfo := es.foldr (fun e r => gap e.1 (e.2 :: r)) (gap last [])
def pool (es : List (Nat × CpInfo)) (last : Nat) : Array CpInfo := ⟨poolList es last⟩
def fileOf (pool : Array CpInfo) (this : Nat) (attrs : Array Attribute := #[]) (ms : Array MethodInfo := #[]) (fl : Nat := 33) (sup : Nat := 0) (ifs : Array Nat := #[]) (fds : Array FieldInfo := #[]) : ClassFile where
  minorVersion := 0
  majorVersion := 65
  constantPool := pool
  accessFlags := fl
  thisClass := this
  superClass := sup
  interfaces := ifs
  fields := fds
  methods := ms
  attributes := attrs
def plain (name : String) (sup : Option ClassId) : Class where
  name := name
  kind := .ordinary
  loader := none
  accessFlags := 33
  super := sup
  interfaces := #[]
  cf := none
  fields := #[]
  methods := #[]
  instanceTypes := #[]
  staticTypes := #[]
  resolved := #[]
  callSites := []
  init := .initialized
  statics := none
  mirror := none

def pool0 : Array CpInfo := pool [(5, u "<init>"), (0, u "()V"), (1, .class_ 10), (1, u "java/lang/Object")] 113

def k0m0 : Method := { name := "<init>", desc := "()V", sig := { parameters := [], returnType := none }, accessFlags := 1, code := none }
/-- java/lang/Object -/
def k0 : Class := { plain "java/lang/Object" none with
  accessFlags := 33
  interfaces := #[]
  cf := some (fileOf pool0 8 #[] #[{ accessFlags := 1, nameIndex := 5, descriptorIndex := 6, attributes := #[] }] 33 0 #[] #[])
  fields := #[]
  methods := #[k0m0]
  instanceTypes := #[]
  staticTypes := #[]
  resolved := Array.replicate 124 none
  statics := none }

def pool1 : Array CpInfo := pool [(2, .class_ 4), (1, u "java/lang/Object"), (0, u "<init>"), (0, u "()V"), (2, .integer 2147483648), (0, .interfaceMethodref 11 12), (0, .class_ 13), (0, .nameAndType 14 15), (0, u "com/example/unfussy_throttle/unfussythrottle/policy/Policy"), (0, u "isRefusalStatus"), (0, u "(I)Z"), (0, .methodref 17 18), (0, .class_ 19), (0, .nameAndType 20 15), (0, u "com/example/unfussy_throttle/unfussythrottle/policy/PolicyIsRefusalStatusPinLaw"), (0, u "expected"), (0, .long 400), (1, .long 200), (1, .long 64), (1, .long 67109026), (3, u "law"), (0, u "(III)Z")] 3

def k1m0 : Method := { name := "<init>", desc := "()V", sig := { parameters := [], returnType := none }, accessFlags := 2, code := none }
def k1c1 : Code := { maxStack := 4, maxLocals := 7, code := code, exceptionTable := #[], attributes := #[] }
def k1m1 : Method := { name := "law", desc := "(III)Z", sig := { parameters := [.int, .int, .int], returnType := some .boolean }, accessFlags := 9, code := some k1c1 }
def k1c2 : Code := { maxStack := 4, maxLocals := 5, code := method_3_code, exceptionTable := #[], attributes := #[] }
def k1m2 : Method := { name := "expected", desc := "(I)Z", sig := { parameters := [.int], returnType := some .boolean }, accessFlags := 10, code := some k1c2 }
/-- com/example/unfussy_throttle/unfussythrottle/policy/PolicyIsRefusalStatusPinLaw -/
def k1 : Class := { plain "com/example/unfussy_throttle/unfussythrottle/policy/PolicyIsRefusalStatusPinLaw" (some 0) with
  accessFlags := 49
  interfaces := #[]
  cf := some (fileOf pool1 17 #[] #[{ accessFlags := 2, nameIndex := 5, descriptorIndex := 6, attributes := #[] }, { accessFlags := 9, nameIndex := 31, descriptorIndex := 32, attributes := #[] }, { accessFlags := 10, nameIndex := 20, descriptorIndex := 15, attributes := #[] }] 49 2 #[] #[])
  fields := #[]
  methods := #[k1m0, k1m1, k1m2]
  instanceTypes := #[]
  staticTypes := #[]
  resolved := Array.replicate 36 none
  statics := none }

def pool2 : Array CpInfo := pool [(7, .class_ 8), (0, u "com/example/unfussy_throttle/unfussythrottle/policy/Policy"), (6, .class_ 16), (0, u "java/lang/Object"), (0, u "REFUSAL_STATUS"), (0, u "I"), (2, u "REFUSAL_STATUS_RULE"), (0, u "Ljava/lang/String;"), (25, u "isRefusalStatus"), (0, u "(I)Z")] 14

def k2c0 : Code := { maxStack := 2, maxLocals := 1, code := prog_49_method_13_code, exceptionTable := #[], attributes := #[] }
def k2m0 : Method := { name := "isRefusalStatus", desc := "(I)Z", sig := { parameters := [.int], returnType := some .boolean }, accessFlags := 9, code := some k2c0 }
/-- com/example/unfussy_throttle/unfussythrottle/policy/Policy -/
def k2 : Class := { plain "com/example/unfussy_throttle/unfussythrottle/policy/Policy" (some 0) with
  accessFlags := 1537
  interfaces := #[]
  cf := some (fileOf pool2 7 #[] #[{ accessFlags := 9, nameIndex := 48, descriptorIndex := 49, attributes := #[] }] 1537 15 #[] #[{ accessFlags := 25, nameIndex := 17, descriptorIndex := 18, attributes := #[] }, { accessFlags := 25, nameIndex := 21, descriptorIndex := 22, attributes := #[] }])
  fields := #[{ name := "REFUSAL_STATUS", type := .int, accessFlags := 25, slot := 0, constantValue := 0 }, { name := "REFUSAL_STATUS_RULE", type := (.object "java/lang/String"), accessFlags := 25, slot := 1, constantValue := 0 }]
  methods := #[k2m0]
  instanceTypes := #[]
  staticTypes := #[.int, (.object "java/lang/String")]
  resolved := Array.replicate 64 none
  statics := none }

def pool3 : Array CpInfo := pool [(1, u "java/lang/Cloneable"), (0, .class_ 1), (0, u "java/lang/Object"), (0, .class_ 3)] 3

/-- java/lang/Cloneable -/
def k3 : Class := { plain "java/lang/Cloneable" (some 0) with
  accessFlags := 1537
  interfaces := #[]
  cf := some (fileOf pool3 2 #[] #[] 1537 4 #[] #[])
  fields := #[]
  methods := #[]
  instanceTypes := #[]
  staticTypes := #[]
  resolved := Array.replicate 8 none
  statics := none }

def pool4 : Array CpInfo := pool [(1, u "java/io/Serializable"), (0, .class_ 1), (0, u "java/lang/Object"), (0, .class_ 3)] 3

/-- java/io/Serializable -/
def k4 : Class := { plain "java/io/Serializable" (some 0) with
  accessFlags := 1537
  interfaces := #[]
  cf := some (fileOf pool4 2 #[] #[] 1537 4 #[] #[])
  fields := #[]
  methods := #[]
  instanceTypes := #[]
  staticTypes := #[]
  resolved := Array.replicate 8 none
  statics := none }

/-- the primitive byte -/
def k5 : Class := { plain "byte" none with kind := .primitive 'B', accessFlags := 0x411 }
/-- [B -/
def k6 : Class := { plain "[B" (some 0) with kind := .array 5 .byte, interfaces := #[3, 4], accessFlags := 1041 }

/-- the primitive int -/
def k7 : Class := { plain "int" none with kind := .primitive 'I', accessFlags := 0x411 }
/-- [I -/
def k8 : Class := { plain "[I" (some 0) with kind := .array 7 .int, interfaces := #[3, 4], accessFlags := 1041 }

def heap : Heap := #[]
def classes : Array Class := #[k0, k1, k2, k3, k4, k5, k6, k7, k8]
def interned : List (Array UInt16 × Addr) := []
def slotsUsed : Nat := 0
def theMethod : MethodId := ⟨1, 1⟩
def args0 : Array Value := #[.int 429, .int 3, .int 2]
def aboutOver (below : List Frame) : State where
  vm := { classes := classes, interned := interned.toArray }
  heap := heap
  slotsUsed := slotsUsed
  threads := #[{ frames := .invoking theMethod args0 :: below }]
def below0 : List Frame := [.native { method := ⟨0, 0⟩, args := #[] }]
def about1 : State := aboutOver below0
def p0 : Program := .bare "" "" ""
def e0 : Env := launch0.env 0 0 0
theorem w_frames : about1.frames = Frame.invoking theMethod args0 :: below0 := rfl
set_option maxRecDepth 65536 in
theorem w_args : argsFit about1.vm theMethod args0 = true := by decide +kernel
set_option maxRecDepth 65536 in
theorem w_heap : heapFits about1 = true := by decide +kernel
set_option maxRecDepth 65536 in
theorem w_runnable : about1.curStatus? = some .runnable := by decide +kernel
set_option maxRecDepth 65536 in
theorem w_alone : about1.alone = true := by decide +kernel
set_option maxRecDepth 65536 in
theorem w_named : about1.methodNamed? x = some theMethod := by decide +kernel
set_option maxRecDepth 65536 in
theorem w_hears : about1.hears theMethod below0 = true := by decide +kernel
set_option maxRecDepth 65536 in
theorem w_ripe : about1.ripe theMethod args0 below0 = true := by decide +kernel
theorem w_running : about1.status = .running := rfl
set_option maxRecDepth 65536 in
theorem w_room : about1.hasRoom e0.platform room_1 = true :=
  launch0.hasRoom_least _ room_1 (by decide +kernel) (by decide +kernel) (by decide +kernel) (by decide +kernel) (by decide +kernel) (by decide +kernel)
theorem allAtoms_all (ts : List Jvm.Cond) (a : Array Jvm.Value) (st : Jvm.State) : (allAtoms ts).before a st = ts.all (fun c => c.before a st) := by
  induction ts with
  | nil => rfl
  | cons c t ih =>
    show (Jvm.Cond.and c (allAtoms t)).before a st = _
    rw [Jvm.Cond.before_and, ih, List.all_cons]
def words1 : List Jvm.Cond := Jvm.Cond.code x code maxLocals ret :: tables_1
/-- a 'code' word, met by the world's own term for the bytes: nothing is compared byte by byte -/
theorem code_word {y : MethodName} {bytes : ByteArray} {mx : Nat} {rt : Option FieldType} {a : Array Value} {s : State} {m : MethodId} {meth : Method} {c : Code} (h1 : s.methodNamed? y = some m) (h2 : s.vm.method? m = some meth) (h3 : meth.code = some c) (h4 : c.code = bytes)
    (h5 : (c.maxLocals == mx && c.exceptionTable.isEmpty && decide (c.maxStack ≤ mostOperands) && decide (meth.sig.returnType = rt) && !meth.locks && decide (parseMethodDescriptor y.desc = some meth.sig)) = true) : (Jvm.Cond.code y bytes mx rt).before a s = true := by
  simp only [Bool.and_eq_true, beq_iff_eq, Bool.not_eq_true', decide_eq_true_eq] at h5
  obtain ⟨⟨⟨⟨⟨g1, g2⟩, g3⟩, g4⟩, g5⟩, g6⟩ := h5
  simp [Cond.before, Cond.holds, Cond.value, h1, h2, h3, h4, g1, g2, g3, g4, g5, g6]
def isCode : Jvm.Cond → Bool
  | .code _ _ _ _ => true
  | _ => false
theorem all_split {L : List Jvm.Cond} {P : Jvm.Cond → Bool} (h1 : L.all (fun c => isCode c || P c) = true) (h2 : ∀ c ∈ L.filter isCode, P c = true) : L.all P = true := by
  refine List.all_eq_true.mpr fun c hc => ?_
  have h := List.all_eq_true.mp h1 c hc
  rcases Bool.eq_false_or_eq_true (isCode c) with hi | hi
  · exact h2 c (List.mem_filter.mpr ⟨hc, hi⟩)
  · simpa [hi] using h
set_option maxRecDepth 65536 in
theorem w_c0 : (Jvm.Cond.code x code maxLocals ret).before args0 about1 = true := code_word (m := ⟨1, 1⟩) (meth := k1m1) (c := k1c1) (by decide +kernel) rfl rfl rfl (by decide +kernel)
set_option maxRecDepth 65536 in
theorem w_c1 : (Jvm.Cond.code ({ cls := "com/example/unfussy_throttle/unfussythrottle/policy/Policy", name := "isRefusalStatus", desc := "(I)Z" } : Jvm.MethodName) prog_49_method_13_code (1 : Nat) (Option.some Jvm.ClassFile.FieldType.boolean)).before args0 about1 = true := code_word (m := ⟨2, 0⟩) (meth := k2m0) (c := k2c0) (by decide +kernel) rfl rfl rfl (by decide +kernel)
set_option maxRecDepth 65536 in
theorem w_c2 : (Jvm.Cond.code ({ cls := "com/example/unfussy_throttle/unfussythrottle/policy/PolicyIsRefusalStatusPinLaw", name := "expected", desc := "(I)Z" } : Jvm.MethodName) method_3_code (5 : Nat) (Option.some Jvm.ClassFile.FieldType.boolean)).before args0 about1 = true := code_word (m := ⟨1, 2⟩) (meth := k1m2) (c := k1c2) (by decide +kernel) rfl rfl rfl (by decide +kernel)
def codes1 : List Jvm.Cond := [Jvm.Cond.code x code maxLocals ret, Jvm.Cond.code ({ cls := "com/example/unfussy_throttle/unfussythrottle/policy/Policy", name := "isRefusalStatus", desc := "(I)Z" } : Jvm.MethodName) prog_49_method_13_code (1 : Nat) (Option.some Jvm.ClassFile.FieldType.boolean), Jvm.Cond.code ({ cls := "com/example/unfussy_throttle/unfussythrottle/policy/PolicyIsRefusalStatusPinLaw", name := "expected", desc := "(I)Z" } : Jvm.MethodName) method_3_code (5 : Nat) (Option.some Jvm.ClassFile.FieldType.boolean)]
set_option maxRecDepth 65536 in
theorem codes_eq : words1.filter isCode = codes1 := rfl
theorem w_codes : ∀ c ∈ words1.filter isCode, c.before args0 about1 = true := by
  rw [codes_eq]
  intro c hc
  simp only [codes1, List.mem_cons, List.not_mem_nil, or_false] at hc
  rcases hc with rfl | rfl | rfl
  · exact w_c0
  · exact w_c1
  · exact w_c2
set_option maxRecDepth 65536 in
theorem w_t1 : words1.all (fun c => isCode c || c.before args0 about1) = true := by decide +kernel
theorem w_tables : (allAtoms (Jvm.Cond.code x code maxLocals ret :: tables_1)).before args0 about1 = true := by
  rw [allAtoms_all]
  show words1.all (fun c => c.before args0 about1) = true
  refine all_split ?_ w_codes
  rw [w_t1]
set_option maxRecDepth 65536 in
theorem w_case : (Jvm.Cond.and given_1 narrow_1).before args0 about1 = true := by decide +kernel
theorem w_applies : (headSpec (Jvm.Cond.code x code maxLocals ret :: tables_1) room_1).applies x e0.platform about1 = true :=
  (Spec.applies_iff w_frames).mpr ⟨w_running, w_runnable, w_alone, w_named, w_hears, w_ripe, w_room, w_tables⟩
theorem atStart : AtStart classFile x code maxLocals ret World_1 tables_1 room_1 Calls_1 rest_1 Pre_1 launch0 p0 e0 about1 theMethod args0 below0 :=
  ⟨lists_1, trivial, launch0.admits_env _ _ _, launch0.least_env, fairChoices_fair.cas, fairChoices_fair.clock, w_frames, w_args, w_heap, w_applies, trivial, trivial, w_case⟩
end start1
theorem witness_1 : WitnessClaimed_1 := ⟨start1.p0, start1.e0, start1.about1, start1.theMethod, start1.args0, start1.below0, start1.atStart⟩
end Jvm.Pilot.@@N@@
