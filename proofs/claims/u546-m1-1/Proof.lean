import JvmDerived
import JvmDerived.Pilot.@@N@@Statement
import JvmDerived.Pilot.@@N@@Code
set_option linter.unusedVariables false
set_option linter.unusedSimpArgs false
namespace Jvm.Pilot.@@N@@
open Jvm Jvm.ClassFile Sem Op Lib Jvm.Free Jvm.Stand Jvm.LawKit Jvm.RoadKit Bundle Jvm.Pilot.@@N@@.Jvm.D
theorem own_or_split (i a b c d : Nat) (hb : b < 2 ^ i) (hd : d < 2 ^ i) : (2 ^ i * a + b) ||| (2 ^ i * c + d) = 2 ^ i * (a ||| c) + (b ||| d) := by
  apply Nat.eq_of_testBit_eq
  intro j
  have hbd : b ||| d < 2 ^ i := Nat.or_lt_two_pow hb hd
  rw [Nat.testBit_or, Nat.testBit_two_pow_mul_add _ hb, Nat.testBit_two_pow_mul_add _ hd, Nat.testBit_two_pow_mul_add _ hbd]
  split <;> simp [Nat.testBit_or]
theorem own_or32 (n : Nat) : n ||| 32 = n + 32 * (1 - n / 32 % 2) := by
  have h := own_or_split 6 (n / 64) (n % 64) 0 32 (Nat.mod_lt _ (by decide)) (by decide)
  have e : 2 ^ 6 * (n / 64) + n % 64 = n := Nat.div_add_mod n 64
  have k : ∀ r : Nat, r < 64 → r ||| 32 = r + 32 * (1 - r / 32 % 2) := by decide
  have k' := k (n % 64) (Nat.mod_lt _ (by decide))
  rw [e] at h
  have e2 : 2 ^ 6 * 0 + 32 = 32 := rfl
  rw [e2] at h
  rw [h, k', Nat.or_zero]
  omega
theorem own_fold (x : Int32) (h0 : 0 ≤ x.toInt) (h1 : x.toInt < 65536) : (x ||| 32).toInt = x.toInt + 32 * (1 - x.toInt / 32 % 2) := by
  have hn : x.toBitVec.toNat = x.toInt.toNat := by
    have := BitVec.toInt_eq_toNat_cond x.toBitVec
    have e : x.toInt = x.toBitVec.toInt := rfl
    have := x.toBitVec.isLt
    omega
  have e : (x ||| 32).toBitVec.toNat = x.toBitVec.toNat ||| 32 := by
    rw [Int32.toBitVec_or, BitVec.toNat_or]; rfl
  have e3 := own_or32 x.toBitVec.toNat
  have e2 : (x ||| 32).toInt = (x ||| 32).toBitVec.toInt := rfl
  rw [e2, BitVec.toInt_eq_toNat_cond, e, e3]
  omega
def own_LD (x : Int32) : Prop := (65 ≤ x.toInt ∧ x.toInt ≤ 90) ∨ (97 ≤ x.toInt ∧ x.toInt ≤ 122) ∨ (48 ≤ x.toInt ∧ x.toInt ≤ 57)
def own_Key (x : Int32) : Prop := own_LD x ∨ x.toInt = 95 ∨ x.toInt = 45
/-- one of the two ints says whether P -/
def own_says (P : Prop) (v : Int32) : Prop := (P ∧ v = 1) ∨ (¬ P ∧ v = 0)
theorem own_says_eq {P Q : Prop} {v w : Int32} (h : own_says P v) (k : own_says Q w) (e : P ↔ Q) : v = w := by
  rcases h with ⟨a, rfl⟩ | ⟨a, rfl⟩ <;> rcases k with ⟨b, rfl⟩ | ⟨b, rfl⟩
  · rfl
  · exact absurd (e.mp a) b
  · exact absurd (e.mpr b) a
  · rfl
theorem own_says_ne {P : Prop} {v : Int32} (h : own_says P v) : (v = 0 ↔ ¬ P) := by
  rcases h with ⟨a, rfl⟩ | ⟨a, rfl⟩
  · simp [a]
  · simp [a]
theorem own_i2c (x : Int32) (h0 : 0 ≤ x.toInt) (h1 : x.toInt < 65536) : x.toUInt32.toUInt16.toUInt32.toInt32 = x := by
  have := Jvm.RoadKit.c_i2c x
  apply Int32.toInt_inj.mp
  omega
theorem own_mask (p : Int32) : 0 ≤ (p &&& 65535).toInt ∧ (p &&& 65535).toInt < 65536 := by
  have := Jvm.RoadKit.c_mask p 65535 16 (by decide) (by decide)
  rw [this]; omega
theorem own_key_iff (x : Int32) (h0 : 0 ≤ x.toInt) (h1 : x.toInt < 65536) (v4 v6 : Int32) (h4 : own_says (¬ (x ||| 32) < 97 ∧ ¬ (122 : Int32) < (x ||| 32)) v4) (h6 : own_says (¬ (x - 48) < 0 ∧ ¬ (9 : Int32) < (x - 48)) v6) :
    (¬ v4 = 0 ∨ ¬ v6 = 0 ∨ x = 95 ∨ x = 45) ↔ own_Key x := by
  rw [own_says_ne h4, own_says_ne h6]
  have f := own_fold x h0 h1
  have s := Jvm.RoadKit.c_isub x 48
  have r := Jvm.RoadKit.rng32 (x - 48)
  simp only [own_Key, own_LD, Int32.lt_iff_toInt_lt, ← Int32.toInt_inj, Int32.reduceToInt, f] at *
  omega
theorem d2_0 : decode prog_71_method_8_code 0 = .ok (.iload_n 0, 1) := by decide +kernel
theorem d2_1 : decode prog_71_method_8_code 1 = .ok (.bipush 65, 2) := by decide +kernel
theorem d2_3 : decode prog_71_method_8_code 3 = .ok (.if_icmp .lt 9, 3) := by decide +kernel
theorem d2_6 : decode prog_71_method_8_code 6 = .ok (.iload_n 0, 1) := by decide +kernel
theorem d2_7 : decode prog_71_method_8_code 7 = .ok (.bipush 90, 2) := by decide +kernel
theorem d2_9 : decode prog_71_method_8_code 9 = .ok (.if_icmp .le 27, 3) := by decide +kernel
theorem d2_12 : decode prog_71_method_8_code 12 = .ok (.iload_n 0, 1) := by decide +kernel
theorem d2_13 : decode prog_71_method_8_code 13 = .ok (.bipush 97, 2) := by decide +kernel
theorem d2_15 : decode prog_71_method_8_code 15 = .ok (.if_icmp .lt 9, 3) := by decide +kernel
theorem d2_18 : decode prog_71_method_8_code 18 = .ok (.iload_n 0, 1) := by decide +kernel
theorem d2_19 : decode prog_71_method_8_code 19 = .ok (.bipush 122, 2) := by decide +kernel
theorem d2_21 : decode prog_71_method_8_code 21 = .ok (.if_icmp .le 15, 3) := by decide +kernel
theorem d2_24 : decode prog_71_method_8_code 24 = .ok (.iload_n 0, 1) := by decide +kernel
theorem d2_25 : decode prog_71_method_8_code 25 = .ok (.bipush 48, 2) := by decide +kernel
theorem d2_27 : decode prog_71_method_8_code 27 = .ok (.if_icmp .lt 13, 3) := by decide +kernel
theorem d2_30 : decode prog_71_method_8_code 30 = .ok (.iload_n 0, 1) := by decide +kernel
theorem d2_31 : decode prog_71_method_8_code 31 = .ok (.bipush 57, 2) := by decide +kernel
theorem d2_33 : decode prog_71_method_8_code 33 = .ok (.if_icmp .gt 7, 3) := by decide +kernel
theorem d2_36 : decode prog_71_method_8_code 36 = .ok (.iconst 1, 1) := by decide +kernel
theorem d2_37 : decode prog_71_method_8_code 37 = .ok (.goto 4, 3) := by decide +kernel
theorem d2_40 : decode prog_71_method_8_code 40 = .ok (.iconst 0, 1) := by decide +kernel
theorem d2_41 : decode prog_71_method_8_code 41 = .ok (.ireturn, 1) := by decide +kernel
theorem pn_2 : plainName "com/example/corac/corac/Names" = true := by first | (simp [plainName, overriddenIn]; done) | decide +kernel
theorem ef_2 (m : MethodId) (p0 : Int32) : entryFrame m #[(.int p0)] 1 = mkF m 0 #[.val (.int p0)] [] := by first | (simp [entryFrame, mkF, argsToLocals, Value.category]; done) | rfl
def Q2 (Z : State) (ch : Int32)  (h0 : Heap) (n0 : Nat) (v : Option Value) (h : Heap) (L : List Loc) : Prop := ∃ z : Int32, v = some (.int z) ∧ own_says (own_LD ch) z ∧ Fr n0 L ∧ h = h0
set_option maxRecDepth 65536 in
set_option maxHeartbeats 40000000 in
theorem rm2 (l : Launch) (Z : State) (a0 : Array Value) (hw : ∀ d ∈ tables_1, d.before a0 Z = true) (ws : List Jvm.Cond) (ch : Int32)  (h0 : Heap) (n0 : Nat) (Z0 : n0 ≤ h0.size)  :
    MetFree l (⟨"com/example/corac/corac/Names", "isLetterOrDigit", "(C)Z"⟩ : MethodName) (head1 (Jvm.Cond.code (⟨"com/example/corac/corac/Names", "isLetterOrDigit", "(C)Z"⟩ : MethodName) prog_71_method_8_code 1 (some .boolean) :: ws) ({ frames := 0, cells := 0, slots := 0, locals := 0 } : Room)) (fun a U => a = #[(.int ch)] ∧ Z.Warmed39 U.vm ∧ U.heap = h0) (fun _ _ _ _ _ => True) (fun _ U o U' => ∃ v L, o = .returned v ∧ Q2 Z ch h0 n0 v U'.heap L ∧ FrameEnd U o U' L ({ frames := 0, cells := 0, slots := 0, locals := 0 } : Room).cells ({ frames := 0, cells := 0, slots := 0, locals := 0 } : Room).slots) := by
  refine MetFree.of_bodySF (plainFor_of_name pn_2) hisR ?_
  intro p e s m args below meth c s₁ Bd hml0 hP hK
  obtain ⟨rfl, hZ, hh⟩ := hP
  have hx := Bd.exec
  have hby := Bd.bytes
  have hml : c.maxLocals = 1 := hml0
  have hown : s.vm.findClass "com/example/corac/corac/Names" = some m.cls := findClass_of_methodNamed Bd.named
  have hnm := (name_of_methodNamed Bd.named Bd.method).1
  have X0 : Stand p l e ({ frames := 0, cells := 0, slots := 0, locals := 0 } : Room) s m #[(.int ch)] below meth c s₁ [] 0 0 := Stand.of_body Bd
  have e0 : s₁.heap = h0 := by rw [← hh, Bd.state]; rfl
  have N0 := Fr.nil n0
  have pre0 : ∀ t, Steps p.tables e below (s₁.setTop (mkF m 0 #[.val (.int ch)] [])) t → Steps p.tables e below (s₁.setTop (entryFrame m #[(.int ch)] 1)) t := fun t k => castTop (ef_2 m ch) k
  have pre1 : ∀ t, Steps p.tables e below (s₁.setTop (mkF m 3 #[.val (.int ch)] [(.int (65 : Int32)), (.int ch)])) t → Steps p.tables e below (s₁.setTop (entryFrame m #[(.int ch)] 1)) t := fun t k => pre0 t (by
      show Steps p.tables e below (s₁.setTop (mkF m 0 #[.val (.int ch)] [])) _
      refine XS.iloadN X0.here hx rfl (hb hby d2_0) rfl ?_
      show Steps p.tables e below (s₁.setTop (mkF m 1 #[.val (.int ch)] [(.int ch)])) _
      refine XS.bipush X0.here hx rfl (hb hby d2_1) ?_
      exact k)
  by_cases hc3 : ch < (65 : Int32)
  · skip
    have pre2 : ∀ t, Steps p.tables e below (s₁.setTop (mkF m 15 #[.val (.int ch)] [(.int (97 : Int32)), (.int ch)])) t → Steps p.tables e below (s₁.setTop (entryFrame m #[(.int ch)] 1)) t := fun t k => pre1 t (by
        show Steps p.tables e below (s₁.setTop (mkF m 3 #[.val (.int ch)] [(.int (65 : Int32)), (.int ch)])) _
        refine XS.icmpYes X0.here hx rfl (pc0 := 3) (pc' := 12) rfl (hb hby d2_3) rfl (tlt hc3).1 (by decide) (by decide) ?_
        show Steps p.tables e below (s₁.setTop (mkF m 12 #[.val (.int ch)] [])) _
        refine XS.iloadN X0.here hx rfl (hb hby d2_12) rfl ?_
        show Steps p.tables e below (s₁.setTop (mkF m 13 #[.val (.int ch)] [(.int ch)])) _
        refine XS.bipush X0.here hx rfl (hb hby d2_13) ?_
        exact k)
    by_cases hc15 : ch < (97 : Int32)
    · skip
      have pre3 : ∀ t, Steps p.tables e below (s₁.setTop (mkF m 27 #[.val (.int ch)] [(.int (48 : Int32)), (.int ch)])) t → Steps p.tables e below (s₁.setTop (entryFrame m #[(.int ch)] 1)) t := fun t k => pre2 t (by
          show Steps p.tables e below (s₁.setTop (mkF m 15 #[.val (.int ch)] [(.int (97 : Int32)), (.int ch)])) _
          refine XS.icmpYes X0.here hx rfl (pc0 := 15) (pc' := 24) rfl (hb hby d2_15) rfl (tlt hc15).1 (by decide) (by decide) ?_
          show Steps p.tables e below (s₁.setTop (mkF m 24 #[.val (.int ch)] [])) _
          refine XS.iloadN X0.here hx rfl (hb hby d2_24) rfl ?_
          show Steps p.tables e below (s₁.setTop (mkF m 25 #[.val (.int ch)] [(.int ch)])) _
          refine XS.bipush X0.here hx rfl (hb hby d2_25) ?_
          exact k)
      by_cases hc27 : ch < (48 : Int32)
      · skip
        have pre4 : ∀ t, Steps p.tables e below (s₁.setTop (mkF m 41 #[.val (.int ch)] [(.int (0 : Int32))])) t → Steps p.tables e below (s₁.setTop (entryFrame m #[(.int ch)] 1)) t := fun t k => pre3 t (by
            show Steps p.tables e below (s₁.setTop (mkF m 27 #[.val (.int ch)] [(.int (48 : Int32)), (.int ch)])) _
            refine XS.icmpYes X0.here hx rfl (pc0 := 27) (pc' := 40) rfl (hb hby d2_27) rfl (tlt hc27).1 (by decide) (by decide) ?_
            show Steps p.tables e below (s₁.setTop (mkF m 40 #[.val (.int ch)] [])) _
            refine XS.iconst X0.here hx rfl (hb hby d2_40) ?_
            exact k)
        obtain ⟨fs, hr, hrun, hended, hW, hsame⟩ := X0.leave (v := some (.int (0 : Int32))) (fun h => by rw [Bd.returns] at h; cases h)
        refine ⟨_, _, pre4 _ ?_, hrun, hended, _, _, rfl, ?_, ⟨_, rfl⟩, hW, hsame.mono (by decide) (by decide)⟩
        · show Steps p.tables e below (s₁.setTop (mkF m 41 #[.val (.int ch)] [(.int (0 : Int32))])) _
          exact retN X0 hx (t := .boolean) Bd.returns (by simp) (hb hby d2_41) hr
        · show Q2 Z ch h0 n0 _ s₁.heap _
          rw [e0]
          exact ⟨(0 : Int32), rfl, (Or.inr ⟨(by simp only [own_LD, Int32.lt_iff_toInt_lt, Int32.reduceToInt] at hc3 hc15 hc27 ⊢; omega), rfl⟩), N0, rfl⟩
      · skip
        have pre5 : ∀ t, Steps p.tables e below (s₁.setTop (mkF m 33 #[.val (.int ch)] [(.int (57 : Int32)), (.int ch)])) t → Steps p.tables e below (s₁.setTop (entryFrame m #[(.int ch)] 1)) t := fun t k => pre3 t (by
            show Steps p.tables e below (s₁.setTop (mkF m 27 #[.val (.int ch)] [(.int (48 : Int32)), (.int ch)])) _
            refine XS.icmpNo X0.here hx rfl (hb hby d2_27) rfl (flt hc27).1 ?_
            show Steps p.tables e below (s₁.setTop (mkF m 30 #[.val (.int ch)] [])) _
            refine XS.iloadN X0.here hx rfl (hb hby d2_30) rfl ?_
            show Steps p.tables e below (s₁.setTop (mkF m 31 #[.val (.int ch)] [(.int ch)])) _
            refine XS.bipush X0.here hx rfl (hb hby d2_31) ?_
            exact k)
        by_cases hc33 : (57 : Int32) < ch
        · skip
          have pre6 : ∀ t, Steps p.tables e below (s₁.setTop (mkF m 41 #[.val (.int ch)] [(.int (0 : Int32))])) t → Steps p.tables e below (s₁.setTop (entryFrame m #[(.int ch)] 1)) t := fun t k => pre5 t (by
              show Steps p.tables e below (s₁.setTop (mkF m 33 #[.val (.int ch)] [(.int (57 : Int32)), (.int ch)])) _
              refine XS.icmpYes X0.here hx rfl (pc0 := 33) (pc' := 40) rfl (hb hby d2_33) rfl (tlt hc33).2.2.1 (by decide) (by decide) ?_
              show Steps p.tables e below (s₁.setTop (mkF m 40 #[.val (.int ch)] [])) _
              refine XS.iconst X0.here hx rfl (hb hby d2_40) ?_
              exact k)
          obtain ⟨fs, hr, hrun, hended, hW, hsame⟩ := X0.leave (v := some (.int (0 : Int32))) (fun h => by rw [Bd.returns] at h; cases h)
          refine ⟨_, _, pre6 _ ?_, hrun, hended, _, _, rfl, ?_, ⟨_, rfl⟩, hW, hsame.mono (by decide) (by decide)⟩
          · show Steps p.tables e below (s₁.setTop (mkF m 41 #[.val (.int ch)] [(.int (0 : Int32))])) _
            exact retN X0 hx (t := .boolean) Bd.returns (by simp) (hb hby d2_41) hr
          · show Q2 Z ch h0 n0 _ s₁.heap _
            rw [e0]
            exact ⟨(0 : Int32), rfl, (Or.inr ⟨(by simp only [own_LD, Int32.lt_iff_toInt_lt, Int32.reduceToInt] at hc3 hc15 hc27 hc33 ⊢; omega), rfl⟩), N0, rfl⟩
        · skip
          have pre7 : ∀ t, Steps p.tables e below (s₁.setTop (mkF m 41 #[.val (.int ch)] [(.int (1 : Int32))])) t → Steps p.tables e below (s₁.setTop (entryFrame m #[(.int ch)] 1)) t := fun t k => pre5 t (by
              show Steps p.tables e below (s₁.setTop (mkF m 33 #[.val (.int ch)] [(.int (57 : Int32)), (.int ch)])) _
              refine XS.icmpNo X0.here hx rfl (hb hby d2_33) rfl (flt hc33).2.2.1 ?_
              show Steps p.tables e below (s₁.setTop (mkF m 36 #[.val (.int ch)] [])) _
              refine XS.iconst X0.here hx rfl (hb hby d2_36) ?_
              show Steps p.tables e below (s₁.setTop (mkF m 37 #[.val (.int ch)] [(.int (1 : Int32))])) _
              refine XS.goto X0.here hx rfl (pc0 := 37) (pc' := 41) rfl (hb hby d2_37) (by decide) (by decide) ?_
              exact k)
          obtain ⟨fs, hr, hrun, hended, hW, hsame⟩ := X0.leave (v := some (.int (1 : Int32))) (fun h => by rw [Bd.returns] at h; cases h)
          refine ⟨_, _, pre7 _ ?_, hrun, hended, _, _, rfl, ?_, ⟨_, rfl⟩, hW, hsame.mono (by decide) (by decide)⟩
          · show Steps p.tables e below (s₁.setTop (mkF m 41 #[.val (.int ch)] [(.int (1 : Int32))])) _
            exact retN X0 hx (t := .boolean) Bd.returns (by simp) (hb hby d2_41) hr
          · show Q2 Z ch h0 n0 _ s₁.heap _
            rw [e0]
            exact ⟨(1 : Int32), rfl, (Or.inl ⟨(by simp only [own_LD, Int32.lt_iff_toInt_lt, Int32.reduceToInt] at hc3 hc15 hc27 hc33 ⊢; omega), rfl⟩), N0, rfl⟩
    · skip
      have pre8 : ∀ t, Steps p.tables e below (s₁.setTop (mkF m 21 #[.val (.int ch)] [(.int (122 : Int32)), (.int ch)])) t → Steps p.tables e below (s₁.setTop (entryFrame m #[(.int ch)] 1)) t := fun t k => pre2 t (by
          show Steps p.tables e below (s₁.setTop (mkF m 15 #[.val (.int ch)] [(.int (97 : Int32)), (.int ch)])) _
          refine XS.icmpNo X0.here hx rfl (hb hby d2_15) rfl (flt hc15).1 ?_
          show Steps p.tables e below (s₁.setTop (mkF m 18 #[.val (.int ch)] [])) _
          refine XS.iloadN X0.here hx rfl (hb hby d2_18) rfl ?_
          show Steps p.tables e below (s₁.setTop (mkF m 19 #[.val (.int ch)] [(.int ch)])) _
          refine XS.bipush X0.here hx rfl (hb hby d2_19) ?_
          exact k)
      by_cases hc21 : (122 : Int32) < ch
      · skip
        have pre9 : ∀ t, Steps p.tables e below (s₁.setTop (mkF m 27 #[.val (.int ch)] [(.int (48 : Int32)), (.int ch)])) t → Steps p.tables e below (s₁.setTop (entryFrame m #[(.int ch)] 1)) t := fun t k => pre8 t (by
            show Steps p.tables e below (s₁.setTop (mkF m 21 #[.val (.int ch)] [(.int (122 : Int32)), (.int ch)])) _
            refine XS.icmpNo X0.here hx rfl (hb hby d2_21) rfl (tlt hc21).2.2.2 ?_
            show Steps p.tables e below (s₁.setTop (mkF m 24 #[.val (.int ch)] [])) _
            refine XS.iloadN X0.here hx rfl (hb hby d2_24) rfl ?_
            show Steps p.tables e below (s₁.setTop (mkF m 25 #[.val (.int ch)] [(.int ch)])) _
            refine XS.bipush X0.here hx rfl (hb hby d2_25) ?_
            exact k)
        by_cases hc27 : ch < (48 : Int32)
        · skip
          have pre10 : ∀ t, Steps p.tables e below (s₁.setTop (mkF m 41 #[.val (.int ch)] [(.int (0 : Int32))])) t → Steps p.tables e below (s₁.setTop (entryFrame m #[(.int ch)] 1)) t := fun t k => pre9 t (by
              show Steps p.tables e below (s₁.setTop (mkF m 27 #[.val (.int ch)] [(.int (48 : Int32)), (.int ch)])) _
              refine XS.icmpYes X0.here hx rfl (pc0 := 27) (pc' := 40) rfl (hb hby d2_27) rfl (tlt hc27).1 (by decide) (by decide) ?_
              show Steps p.tables e below (s₁.setTop (mkF m 40 #[.val (.int ch)] [])) _
              refine XS.iconst X0.here hx rfl (hb hby d2_40) ?_
              exact k)
          obtain ⟨fs, hr, hrun, hended, hW, hsame⟩ := X0.leave (v := some (.int (0 : Int32))) (fun h => by rw [Bd.returns] at h; cases h)
          refine ⟨_, _, pre10 _ ?_, hrun, hended, _, _, rfl, ?_, ⟨_, rfl⟩, hW, hsame.mono (by decide) (by decide)⟩
          · show Steps p.tables e below (s₁.setTop (mkF m 41 #[.val (.int ch)] [(.int (0 : Int32))])) _
            exact retN X0 hx (t := .boolean) Bd.returns (by simp) (hb hby d2_41) hr
          · show Q2 Z ch h0 n0 _ s₁.heap _
            rw [e0]
            exact ⟨(0 : Int32), rfl, (Or.inr ⟨(by simp only [own_LD, Int32.lt_iff_toInt_lt, Int32.reduceToInt] at hc3 hc15 hc21 hc27 ⊢; omega), rfl⟩), N0, rfl⟩
        · skip
          have pre11 : ∀ t, Steps p.tables e below (s₁.setTop (mkF m 33 #[.val (.int ch)] [(.int (57 : Int32)), (.int ch)])) t → Steps p.tables e below (s₁.setTop (entryFrame m #[(.int ch)] 1)) t := fun t k => pre9 t (by
              show Steps p.tables e below (s₁.setTop (mkF m 27 #[.val (.int ch)] [(.int (48 : Int32)), (.int ch)])) _
              refine XS.icmpNo X0.here hx rfl (hb hby d2_27) rfl (flt hc27).1 ?_
              show Steps p.tables e below (s₁.setTop (mkF m 30 #[.val (.int ch)] [])) _
              refine XS.iloadN X0.here hx rfl (hb hby d2_30) rfl ?_
              show Steps p.tables e below (s₁.setTop (mkF m 31 #[.val (.int ch)] [(.int ch)])) _
              refine XS.bipush X0.here hx rfl (hb hby d2_31) ?_
              exact k)
          by_cases hc33 : (57 : Int32) < ch
          · skip
            have pre12 : ∀ t, Steps p.tables e below (s₁.setTop (mkF m 41 #[.val (.int ch)] [(.int (0 : Int32))])) t → Steps p.tables e below (s₁.setTop (entryFrame m #[(.int ch)] 1)) t := fun t k => pre11 t (by
                show Steps p.tables e below (s₁.setTop (mkF m 33 #[.val (.int ch)] [(.int (57 : Int32)), (.int ch)])) _
                refine XS.icmpYes X0.here hx rfl (pc0 := 33) (pc' := 40) rfl (hb hby d2_33) rfl (tlt hc33).2.2.1 (by decide) (by decide) ?_
                show Steps p.tables e below (s₁.setTop (mkF m 40 #[.val (.int ch)] [])) _
                refine XS.iconst X0.here hx rfl (hb hby d2_40) ?_
                exact k)
            obtain ⟨fs, hr, hrun, hended, hW, hsame⟩ := X0.leave (v := some (.int (0 : Int32))) (fun h => by rw [Bd.returns] at h; cases h)
            refine ⟨_, _, pre12 _ ?_, hrun, hended, _, _, rfl, ?_, ⟨_, rfl⟩, hW, hsame.mono (by decide) (by decide)⟩
            · show Steps p.tables e below (s₁.setTop (mkF m 41 #[.val (.int ch)] [(.int (0 : Int32))])) _
              exact retN X0 hx (t := .boolean) Bd.returns (by simp) (hb hby d2_41) hr
            · show Q2 Z ch h0 n0 _ s₁.heap _
              rw [e0]
              exact ⟨(0 : Int32), rfl, (Or.inr ⟨(by simp only [own_LD, Int32.lt_iff_toInt_lt, Int32.reduceToInt] at hc3 hc15 hc21 hc27 hc33 ⊢; omega), rfl⟩), N0, rfl⟩
          · skip
            have pre13 : ∀ t, Steps p.tables e below (s₁.setTop (mkF m 41 #[.val (.int ch)] [(.int (1 : Int32))])) t → Steps p.tables e below (s₁.setTop (entryFrame m #[(.int ch)] 1)) t := fun t k => pre11 t (by
                show Steps p.tables e below (s₁.setTop (mkF m 33 #[.val (.int ch)] [(.int (57 : Int32)), (.int ch)])) _
                refine XS.icmpNo X0.here hx rfl (hb hby d2_33) rfl (flt hc33).2.2.1 ?_
                show Steps p.tables e below (s₁.setTop (mkF m 36 #[.val (.int ch)] [])) _
                refine XS.iconst X0.here hx rfl (hb hby d2_36) ?_
                show Steps p.tables e below (s₁.setTop (mkF m 37 #[.val (.int ch)] [(.int (1 : Int32))])) _
                refine XS.goto X0.here hx rfl (pc0 := 37) (pc' := 41) rfl (hb hby d2_37) (by decide) (by decide) ?_
                exact k)
            obtain ⟨fs, hr, hrun, hended, hW, hsame⟩ := X0.leave (v := some (.int (1 : Int32))) (fun h => by rw [Bd.returns] at h; cases h)
            refine ⟨_, _, pre13 _ ?_, hrun, hended, _, _, rfl, ?_, ⟨_, rfl⟩, hW, hsame.mono (by decide) (by decide)⟩
            · show Steps p.tables e below (s₁.setTop (mkF m 41 #[.val (.int ch)] [(.int (1 : Int32))])) _
              exact retN X0 hx (t := .boolean) Bd.returns (by simp) (hb hby d2_41) hr
            · show Q2 Z ch h0 n0 _ s₁.heap _
              rw [e0]
              exact ⟨(1 : Int32), rfl, (Or.inl ⟨(by simp only [own_LD, Int32.lt_iff_toInt_lt, Int32.reduceToInt] at hc3 hc15 hc21 hc27 hc33 ⊢; omega), rfl⟩), N0, rfl⟩
      · skip
        have pre14 : ∀ t, Steps p.tables e below (s₁.setTop (mkF m 41 #[.val (.int ch)] [(.int (1 : Int32))])) t → Steps p.tables e below (s₁.setTop (entryFrame m #[(.int ch)] 1)) t := fun t k => pre8 t (by
            show Steps p.tables e below (s₁.setTop (mkF m 21 #[.val (.int ch)] [(.int (122 : Int32)), (.int ch)])) _
            refine XS.icmpYes X0.here hx rfl (pc0 := 21) (pc' := 36) rfl (hb hby d2_21) rfl (flt hc21).2.2.2 (by decide) (by decide) ?_
            show Steps p.tables e below (s₁.setTop (mkF m 36 #[.val (.int ch)] [])) _
            refine XS.iconst X0.here hx rfl (hb hby d2_36) ?_
            show Steps p.tables e below (s₁.setTop (mkF m 37 #[.val (.int ch)] [(.int (1 : Int32))])) _
            refine XS.goto X0.here hx rfl (pc0 := 37) (pc' := 41) rfl (hb hby d2_37) (by decide) (by decide) ?_
            exact k)
        obtain ⟨fs, hr, hrun, hended, hW, hsame⟩ := X0.leave (v := some (.int (1 : Int32))) (fun h => by rw [Bd.returns] at h; cases h)
        refine ⟨_, _, pre14 _ ?_, hrun, hended, _, _, rfl, ?_, ⟨_, rfl⟩, hW, hsame.mono (by decide) (by decide)⟩
        · show Steps p.tables e below (s₁.setTop (mkF m 41 #[.val (.int ch)] [(.int (1 : Int32))])) _
          exact retN X0 hx (t := .boolean) Bd.returns (by simp) (hb hby d2_41) hr
        · show Q2 Z ch h0 n0 _ s₁.heap _
          rw [e0]
          exact ⟨(1 : Int32), rfl, (Or.inl ⟨(by simp only [own_LD, Int32.lt_iff_toInt_lt, Int32.reduceToInt] at hc3 hc15 hc21 ⊢; omega), rfl⟩), N0, rfl⟩
  · skip
    have pre15 : ∀ t, Steps p.tables e below (s₁.setTop (mkF m 9 #[.val (.int ch)] [(.int (90 : Int32)), (.int ch)])) t → Steps p.tables e below (s₁.setTop (entryFrame m #[(.int ch)] 1)) t := fun t k => pre1 t (by
        show Steps p.tables e below (s₁.setTop (mkF m 3 #[.val (.int ch)] [(.int (65 : Int32)), (.int ch)])) _
        refine XS.icmpNo X0.here hx rfl (hb hby d2_3) rfl (flt hc3).1 ?_
        show Steps p.tables e below (s₁.setTop (mkF m 6 #[.val (.int ch)] [])) _
        refine XS.iloadN X0.here hx rfl (hb hby d2_6) rfl ?_
        show Steps p.tables e below (s₁.setTop (mkF m 7 #[.val (.int ch)] [(.int ch)])) _
        refine XS.bipush X0.here hx rfl (hb hby d2_7) ?_
        exact k)
    by_cases hc9 : (90 : Int32) < ch
    · skip
      have pre16 : ∀ t, Steps p.tables e below (s₁.setTop (mkF m 15 #[.val (.int ch)] [(.int (97 : Int32)), (.int ch)])) t → Steps p.tables e below (s₁.setTop (entryFrame m #[(.int ch)] 1)) t := fun t k => pre15 t (by
          show Steps p.tables e below (s₁.setTop (mkF m 9 #[.val (.int ch)] [(.int (90 : Int32)), (.int ch)])) _
          refine XS.icmpNo X0.here hx rfl (hb hby d2_9) rfl (tlt hc9).2.2.2 ?_
          show Steps p.tables e below (s₁.setTop (mkF m 12 #[.val (.int ch)] [])) _
          refine XS.iloadN X0.here hx rfl (hb hby d2_12) rfl ?_
          show Steps p.tables e below (s₁.setTop (mkF m 13 #[.val (.int ch)] [(.int ch)])) _
          refine XS.bipush X0.here hx rfl (hb hby d2_13) ?_
          exact k)
      by_cases hc15 : ch < (97 : Int32)
      · skip
        have pre17 : ∀ t, Steps p.tables e below (s₁.setTop (mkF m 27 #[.val (.int ch)] [(.int (48 : Int32)), (.int ch)])) t → Steps p.tables e below (s₁.setTop (entryFrame m #[(.int ch)] 1)) t := fun t k => pre16 t (by
            show Steps p.tables e below (s₁.setTop (mkF m 15 #[.val (.int ch)] [(.int (97 : Int32)), (.int ch)])) _
            refine XS.icmpYes X0.here hx rfl (pc0 := 15) (pc' := 24) rfl (hb hby d2_15) rfl (tlt hc15).1 (by decide) (by decide) ?_
            show Steps p.tables e below (s₁.setTop (mkF m 24 #[.val (.int ch)] [])) _
            refine XS.iloadN X0.here hx rfl (hb hby d2_24) rfl ?_
            show Steps p.tables e below (s₁.setTop (mkF m 25 #[.val (.int ch)] [(.int ch)])) _
            refine XS.bipush X0.here hx rfl (hb hby d2_25) ?_
            exact k)
        by_cases hc27 : ch < (48 : Int32)
        · skip
          have pre18 : ∀ t, Steps p.tables e below (s₁.setTop (mkF m 41 #[.val (.int ch)] [(.int (0 : Int32))])) t → Steps p.tables e below (s₁.setTop (entryFrame m #[(.int ch)] 1)) t := fun t k => pre17 t (by
              show Steps p.tables e below (s₁.setTop (mkF m 27 #[.val (.int ch)] [(.int (48 : Int32)), (.int ch)])) _
              refine XS.icmpYes X0.here hx rfl (pc0 := 27) (pc' := 40) rfl (hb hby d2_27) rfl (tlt hc27).1 (by decide) (by decide) ?_
              show Steps p.tables e below (s₁.setTop (mkF m 40 #[.val (.int ch)] [])) _
              refine XS.iconst X0.here hx rfl (hb hby d2_40) ?_
              exact k)
          obtain ⟨fs, hr, hrun, hended, hW, hsame⟩ := X0.leave (v := some (.int (0 : Int32))) (fun h => by rw [Bd.returns] at h; cases h)
          refine ⟨_, _, pre18 _ ?_, hrun, hended, _, _, rfl, ?_, ⟨_, rfl⟩, hW, hsame.mono (by decide) (by decide)⟩
          · show Steps p.tables e below (s₁.setTop (mkF m 41 #[.val (.int ch)] [(.int (0 : Int32))])) _
            exact retN X0 hx (t := .boolean) Bd.returns (by simp) (hb hby d2_41) hr
          · show Q2 Z ch h0 n0 _ s₁.heap _
            rw [e0]
            exact ⟨(0 : Int32), rfl, (Or.inr ⟨(by simp only [own_LD, Int32.lt_iff_toInt_lt, Int32.reduceToInt] at hc3 hc9 hc15 hc27 ⊢; omega), rfl⟩), N0, rfl⟩
        · skip
          have pre19 : ∀ t, Steps p.tables e below (s₁.setTop (mkF m 33 #[.val (.int ch)] [(.int (57 : Int32)), (.int ch)])) t → Steps p.tables e below (s₁.setTop (entryFrame m #[(.int ch)] 1)) t := fun t k => pre17 t (by
              show Steps p.tables e below (s₁.setTop (mkF m 27 #[.val (.int ch)] [(.int (48 : Int32)), (.int ch)])) _
              refine XS.icmpNo X0.here hx rfl (hb hby d2_27) rfl (flt hc27).1 ?_
              show Steps p.tables e below (s₁.setTop (mkF m 30 #[.val (.int ch)] [])) _
              refine XS.iloadN X0.here hx rfl (hb hby d2_30) rfl ?_
              show Steps p.tables e below (s₁.setTop (mkF m 31 #[.val (.int ch)] [(.int ch)])) _
              refine XS.bipush X0.here hx rfl (hb hby d2_31) ?_
              exact k)
          by_cases hc33 : (57 : Int32) < ch
          · skip
            have pre20 : ∀ t, Steps p.tables e below (s₁.setTop (mkF m 41 #[.val (.int ch)] [(.int (0 : Int32))])) t → Steps p.tables e below (s₁.setTop (entryFrame m #[(.int ch)] 1)) t := fun t k => pre19 t (by
                show Steps p.tables e below (s₁.setTop (mkF m 33 #[.val (.int ch)] [(.int (57 : Int32)), (.int ch)])) _
                refine XS.icmpYes X0.here hx rfl (pc0 := 33) (pc' := 40) rfl (hb hby d2_33) rfl (tlt hc33).2.2.1 (by decide) (by decide) ?_
                show Steps p.tables e below (s₁.setTop (mkF m 40 #[.val (.int ch)] [])) _
                refine XS.iconst X0.here hx rfl (hb hby d2_40) ?_
                exact k)
            obtain ⟨fs, hr, hrun, hended, hW, hsame⟩ := X0.leave (v := some (.int (0 : Int32))) (fun h => by rw [Bd.returns] at h; cases h)
            refine ⟨_, _, pre20 _ ?_, hrun, hended, _, _, rfl, ?_, ⟨_, rfl⟩, hW, hsame.mono (by decide) (by decide)⟩
            · show Steps p.tables e below (s₁.setTop (mkF m 41 #[.val (.int ch)] [(.int (0 : Int32))])) _
              exact retN X0 hx (t := .boolean) Bd.returns (by simp) (hb hby d2_41) hr
            · show Q2 Z ch h0 n0 _ s₁.heap _
              rw [e0]
              exact ⟨(0 : Int32), rfl, (Or.inr ⟨(by simp only [own_LD, Int32.lt_iff_toInt_lt, Int32.reduceToInt] at hc3 hc9 hc15 hc27 hc33 ⊢; omega), rfl⟩), N0, rfl⟩
          · skip
            have pre21 : ∀ t, Steps p.tables e below (s₁.setTop (mkF m 41 #[.val (.int ch)] [(.int (1 : Int32))])) t → Steps p.tables e below (s₁.setTop (entryFrame m #[(.int ch)] 1)) t := fun t k => pre19 t (by
                show Steps p.tables e below (s₁.setTop (mkF m 33 #[.val (.int ch)] [(.int (57 : Int32)), (.int ch)])) _
                refine XS.icmpNo X0.here hx rfl (hb hby d2_33) rfl (flt hc33).2.2.1 ?_
                show Steps p.tables e below (s₁.setTop (mkF m 36 #[.val (.int ch)] [])) _
                refine XS.iconst X0.here hx rfl (hb hby d2_36) ?_
                show Steps p.tables e below (s₁.setTop (mkF m 37 #[.val (.int ch)] [(.int (1 : Int32))])) _
                refine XS.goto X0.here hx rfl (pc0 := 37) (pc' := 41) rfl (hb hby d2_37) (by decide) (by decide) ?_
                exact k)
            obtain ⟨fs, hr, hrun, hended, hW, hsame⟩ := X0.leave (v := some (.int (1 : Int32))) (fun h => by rw [Bd.returns] at h; cases h)
            refine ⟨_, _, pre21 _ ?_, hrun, hended, _, _, rfl, ?_, ⟨_, rfl⟩, hW, hsame.mono (by decide) (by decide)⟩
            · show Steps p.tables e below (s₁.setTop (mkF m 41 #[.val (.int ch)] [(.int (1 : Int32))])) _
              exact retN X0 hx (t := .boolean) Bd.returns (by simp) (hb hby d2_41) hr
            · show Q2 Z ch h0 n0 _ s₁.heap _
              rw [e0]
              exact ⟨(1 : Int32), rfl, (Or.inl ⟨(by simp only [own_LD, Int32.lt_iff_toInt_lt, Int32.reduceToInt] at hc3 hc9 hc15 hc27 hc33 ⊢; omega), rfl⟩), N0, rfl⟩
      · skip
        have pre22 : ∀ t, Steps p.tables e below (s₁.setTop (mkF m 21 #[.val (.int ch)] [(.int (122 : Int32)), (.int ch)])) t → Steps p.tables e below (s₁.setTop (entryFrame m #[(.int ch)] 1)) t := fun t k => pre16 t (by
            show Steps p.tables e below (s₁.setTop (mkF m 15 #[.val (.int ch)] [(.int (97 : Int32)), (.int ch)])) _
            refine XS.icmpNo X0.here hx rfl (hb hby d2_15) rfl (flt hc15).1 ?_
            show Steps p.tables e below (s₁.setTop (mkF m 18 #[.val (.int ch)] [])) _
            refine XS.iloadN X0.here hx rfl (hb hby d2_18) rfl ?_
            show Steps p.tables e below (s₁.setTop (mkF m 19 #[.val (.int ch)] [(.int ch)])) _
            refine XS.bipush X0.here hx rfl (hb hby d2_19) ?_
            exact k)
        by_cases hc21 : (122 : Int32) < ch
        · skip
          have pre23 : ∀ t, Steps p.tables e below (s₁.setTop (mkF m 27 #[.val (.int ch)] [(.int (48 : Int32)), (.int ch)])) t → Steps p.tables e below (s₁.setTop (entryFrame m #[(.int ch)] 1)) t := fun t k => pre22 t (by
              show Steps p.tables e below (s₁.setTop (mkF m 21 #[.val (.int ch)] [(.int (122 : Int32)), (.int ch)])) _
              refine XS.icmpNo X0.here hx rfl (hb hby d2_21) rfl (tlt hc21).2.2.2 ?_
              show Steps p.tables e below (s₁.setTop (mkF m 24 #[.val (.int ch)] [])) _
              refine XS.iloadN X0.here hx rfl (hb hby d2_24) rfl ?_
              show Steps p.tables e below (s₁.setTop (mkF m 25 #[.val (.int ch)] [(.int ch)])) _
              refine XS.bipush X0.here hx rfl (hb hby d2_25) ?_
              exact k)
          by_cases hc27 : ch < (48 : Int32)
          · skip
            have pre24 : ∀ t, Steps p.tables e below (s₁.setTop (mkF m 41 #[.val (.int ch)] [(.int (0 : Int32))])) t → Steps p.tables e below (s₁.setTop (entryFrame m #[(.int ch)] 1)) t := fun t k => pre23 t (by
                show Steps p.tables e below (s₁.setTop (mkF m 27 #[.val (.int ch)] [(.int (48 : Int32)), (.int ch)])) _
                refine XS.icmpYes X0.here hx rfl (pc0 := 27) (pc' := 40) rfl (hb hby d2_27) rfl (tlt hc27).1 (by decide) (by decide) ?_
                show Steps p.tables e below (s₁.setTop (mkF m 40 #[.val (.int ch)] [])) _
                refine XS.iconst X0.here hx rfl (hb hby d2_40) ?_
                exact k)
            obtain ⟨fs, hr, hrun, hended, hW, hsame⟩ := X0.leave (v := some (.int (0 : Int32))) (fun h => by rw [Bd.returns] at h; cases h)
            refine ⟨_, _, pre24 _ ?_, hrun, hended, _, _, rfl, ?_, ⟨_, rfl⟩, hW, hsame.mono (by decide) (by decide)⟩
            · show Steps p.tables e below (s₁.setTop (mkF m 41 #[.val (.int ch)] [(.int (0 : Int32))])) _
              exact retN X0 hx (t := .boolean) Bd.returns (by simp) (hb hby d2_41) hr
            · show Q2 Z ch h0 n0 _ s₁.heap _
              rw [e0]
              exact ⟨(0 : Int32), rfl, (Or.inr ⟨(by simp only [own_LD, Int32.lt_iff_toInt_lt, Int32.reduceToInt] at hc3 hc9 hc15 hc21 hc27 ⊢; omega), rfl⟩), N0, rfl⟩
          · skip
            have pre25 : ∀ t, Steps p.tables e below (s₁.setTop (mkF m 33 #[.val (.int ch)] [(.int (57 : Int32)), (.int ch)])) t → Steps p.tables e below (s₁.setTop (entryFrame m #[(.int ch)] 1)) t := fun t k => pre23 t (by
                show Steps p.tables e below (s₁.setTop (mkF m 27 #[.val (.int ch)] [(.int (48 : Int32)), (.int ch)])) _
                refine XS.icmpNo X0.here hx rfl (hb hby d2_27) rfl (flt hc27).1 ?_
                show Steps p.tables e below (s₁.setTop (mkF m 30 #[.val (.int ch)] [])) _
                refine XS.iloadN X0.here hx rfl (hb hby d2_30) rfl ?_
                show Steps p.tables e below (s₁.setTop (mkF m 31 #[.val (.int ch)] [(.int ch)])) _
                refine XS.bipush X0.here hx rfl (hb hby d2_31) ?_
                exact k)
            by_cases hc33 : (57 : Int32) < ch
            · skip
              have pre26 : ∀ t, Steps p.tables e below (s₁.setTop (mkF m 41 #[.val (.int ch)] [(.int (0 : Int32))])) t → Steps p.tables e below (s₁.setTop (entryFrame m #[(.int ch)] 1)) t := fun t k => pre25 t (by
                  show Steps p.tables e below (s₁.setTop (mkF m 33 #[.val (.int ch)] [(.int (57 : Int32)), (.int ch)])) _
                  refine XS.icmpYes X0.here hx rfl (pc0 := 33) (pc' := 40) rfl (hb hby d2_33) rfl (tlt hc33).2.2.1 (by decide) (by decide) ?_
                  show Steps p.tables e below (s₁.setTop (mkF m 40 #[.val (.int ch)] [])) _
                  refine XS.iconst X0.here hx rfl (hb hby d2_40) ?_
                  exact k)
              obtain ⟨fs, hr, hrun, hended, hW, hsame⟩ := X0.leave (v := some (.int (0 : Int32))) (fun h => by rw [Bd.returns] at h; cases h)
              refine ⟨_, _, pre26 _ ?_, hrun, hended, _, _, rfl, ?_, ⟨_, rfl⟩, hW, hsame.mono (by decide) (by decide)⟩
              · show Steps p.tables e below (s₁.setTop (mkF m 41 #[.val (.int ch)] [(.int (0 : Int32))])) _
                exact retN X0 hx (t := .boolean) Bd.returns (by simp) (hb hby d2_41) hr
              · show Q2 Z ch h0 n0 _ s₁.heap _
                rw [e0]
                exact ⟨(0 : Int32), rfl, (Or.inr ⟨(by simp only [own_LD, Int32.lt_iff_toInt_lt, Int32.reduceToInt] at hc3 hc9 hc15 hc21 hc27 hc33 ⊢; omega), rfl⟩), N0, rfl⟩
            · skip
              have pre27 : ∀ t, Steps p.tables e below (s₁.setTop (mkF m 41 #[.val (.int ch)] [(.int (1 : Int32))])) t → Steps p.tables e below (s₁.setTop (entryFrame m #[(.int ch)] 1)) t := fun t k => pre25 t (by
                  show Steps p.tables e below (s₁.setTop (mkF m 33 #[.val (.int ch)] [(.int (57 : Int32)), (.int ch)])) _
                  refine XS.icmpNo X0.here hx rfl (hb hby d2_33) rfl (flt hc33).2.2.1 ?_
                  show Steps p.tables e below (s₁.setTop (mkF m 36 #[.val (.int ch)] [])) _
                  refine XS.iconst X0.here hx rfl (hb hby d2_36) ?_
                  show Steps p.tables e below (s₁.setTop (mkF m 37 #[.val (.int ch)] [(.int (1 : Int32))])) _
                  refine XS.goto X0.here hx rfl (pc0 := 37) (pc' := 41) rfl (hb hby d2_37) (by decide) (by decide) ?_
                  exact k)
              obtain ⟨fs, hr, hrun, hended, hW, hsame⟩ := X0.leave (v := some (.int (1 : Int32))) (fun h => by rw [Bd.returns] at h; cases h)
              refine ⟨_, _, pre27 _ ?_, hrun, hended, _, _, rfl, ?_, ⟨_, rfl⟩, hW, hsame.mono (by decide) (by decide)⟩
              · show Steps p.tables e below (s₁.setTop (mkF m 41 #[.val (.int ch)] [(.int (1 : Int32))])) _
                exact retN X0 hx (t := .boolean) Bd.returns (by simp) (hb hby d2_41) hr
              · show Q2 Z ch h0 n0 _ s₁.heap _
                rw [e0]
                exact ⟨(1 : Int32), rfl, (Or.inl ⟨(by simp only [own_LD, Int32.lt_iff_toInt_lt, Int32.reduceToInt] at hc3 hc9 hc15 hc21 hc27 hc33 ⊢; omega), rfl⟩), N0, rfl⟩
        · skip
          have pre28 : ∀ t, Steps p.tables e below (s₁.setTop (mkF m 41 #[.val (.int ch)] [(.int (1 : Int32))])) t → Steps p.tables e below (s₁.setTop (entryFrame m #[(.int ch)] 1)) t := fun t k => pre22 t (by
              show Steps p.tables e below (s₁.setTop (mkF m 21 #[.val (.int ch)] [(.int (122 : Int32)), (.int ch)])) _
              refine XS.icmpYes X0.here hx rfl (pc0 := 21) (pc' := 36) rfl (hb hby d2_21) rfl (flt hc21).2.2.2 (by decide) (by decide) ?_
              show Steps p.tables e below (s₁.setTop (mkF m 36 #[.val (.int ch)] [])) _
              refine XS.iconst X0.here hx rfl (hb hby d2_36) ?_
              show Steps p.tables e below (s₁.setTop (mkF m 37 #[.val (.int ch)] [(.int (1 : Int32))])) _
              refine XS.goto X0.here hx rfl (pc0 := 37) (pc' := 41) rfl (hb hby d2_37) (by decide) (by decide) ?_
              exact k)
          obtain ⟨fs, hr, hrun, hended, hW, hsame⟩ := X0.leave (v := some (.int (1 : Int32))) (fun h => by rw [Bd.returns] at h; cases h)
          refine ⟨_, _, pre28 _ ?_, hrun, hended, _, _, rfl, ?_, ⟨_, rfl⟩, hW, hsame.mono (by decide) (by decide)⟩
          · show Steps p.tables e below (s₁.setTop (mkF m 41 #[.val (.int ch)] [(.int (1 : Int32))])) _
            exact retN X0 hx (t := .boolean) Bd.returns (by simp) (hb hby d2_41) hr
          · show Q2 Z ch h0 n0 _ s₁.heap _
            rw [e0]
            exact ⟨(1 : Int32), rfl, (Or.inl ⟨(by simp only [own_LD, Int32.lt_iff_toInt_lt, Int32.reduceToInt] at hc3 hc9 hc15 hc21 ⊢; omega), rfl⟩), N0, rfl⟩
    · skip
      have pre29 : ∀ t, Steps p.tables e below (s₁.setTop (mkF m 41 #[.val (.int ch)] [(.int (1 : Int32))])) t → Steps p.tables e below (s₁.setTop (entryFrame m #[(.int ch)] 1)) t := fun t k => pre15 t (by
          show Steps p.tables e below (s₁.setTop (mkF m 9 #[.val (.int ch)] [(.int (90 : Int32)), (.int ch)])) _
          refine XS.icmpYes X0.here hx rfl (pc0 := 9) (pc' := 36) rfl (hb hby d2_9) rfl (flt hc9).2.2.2 (by decide) (by decide) ?_
          show Steps p.tables e below (s₁.setTop (mkF m 36 #[.val (.int ch)] [])) _
          refine XS.iconst X0.here hx rfl (hb hby d2_36) ?_
          show Steps p.tables e below (s₁.setTop (mkF m 37 #[.val (.int ch)] [(.int (1 : Int32))])) _
          refine XS.goto X0.here hx rfl (pc0 := 37) (pc' := 41) rfl (hb hby d2_37) (by decide) (by decide) ?_
          exact k)
      obtain ⟨fs, hr, hrun, hended, hW, hsame⟩ := X0.leave (v := some (.int (1 : Int32))) (fun h => by rw [Bd.returns] at h; cases h)
      refine ⟨_, _, pre29 _ ?_, hrun, hended, _, _, rfl, ?_, ⟨_, rfl⟩, hW, hsame.mono (by decide) (by decide)⟩
      · show Steps p.tables e below (s₁.setTop (mkF m 41 #[.val (.int ch)] [(.int (1 : Int32))])) _
        exact retN X0 hx (t := .boolean) Bd.returns (by simp) (hb hby d2_41) hr
      · show Q2 Z ch h0 n0 _ s₁.heap _
        rw [e0]
        exact ⟨(1 : Int32), rfl, (Or.inl ⟨(by simp only [own_LD, Int32.lt_iff_toInt_lt, Int32.reduceToInt] at hc3 hc9 ⊢; omega), rfl⟩), N0, rfl⟩
theorem d1_0 : decode prog_71_method_4_code 0 = .ok (.iload_n 0, 1) := by decide +kernel
theorem d1_1 : decode prog_71_method_4_code 1 = .ok (.invokestatic 47, 3) := by decide +kernel
theorem d1_4 : decode prog_71_method_4_code 4 = .ok (.ifCond .ne 15, 3) := by decide +kernel
theorem d1_7 : decode prog_71_method_4_code 7 = .ok (.iload_n 0, 1) := by decide +kernel
theorem d1_8 : decode prog_71_method_4_code 8 = .ok (.bipush 95, 2) := by decide +kernel
theorem d1_10 : decode prog_71_method_4_code 10 = .ok (.if_icmp .eq 9, 3) := by decide +kernel
theorem d1_13 : decode prog_71_method_4_code 13 = .ok (.iload_n 0, 1) := by decide +kernel
theorem d1_14 : decode prog_71_method_4_code 14 = .ok (.bipush 45, 2) := by decide +kernel
theorem d1_16 : decode prog_71_method_4_code 16 = .ok (.if_icmp .ne 7, 3) := by decide +kernel
theorem d1_19 : decode prog_71_method_4_code 19 = .ok (.iconst 1, 1) := by decide +kernel
theorem d1_20 : decode prog_71_method_4_code 20 = .ok (.goto 4, 3) := by decide +kernel
theorem d1_23 : decode prog_71_method_4_code 23 = .ok (.iconst 0, 1) := by decide +kernel
theorem d1_24 : decode prog_71_method_4_code 24 = .ok (.ireturn, 1) := by decide +kernel
theorem own_pd0 : parseMethodDescriptor "(C)Z" = some ⟨[.char], some .boolean⟩ := by decide +kernel
theorem pn_1 : plainName "com/example/corac/corac/Names" = true := by first | (simp [plainName, overriddenIn]; done) | decide +kernel
theorem ef_1 (m : MethodId) (p0 : Int32) : entryFrame m #[(.int p0)] 1 = mkF m 0 #[.val (.int p0)] [] := by first | (simp [entryFrame, mkF, argsToLocals, Value.category]; done) | rfl
def Q1 (Z : State) (ch : Int32)  (h0 : Heap) (n0 : Nat) (v : Option Value) (h : Heap) (L : List Loc) : Prop := ∃ z : Int32, v = some (.int z) ∧ own_says (own_Key ch) z ∧ Fr n0 L ∧ h = h0
set_option maxRecDepth 65536 in
set_option maxHeartbeats 40000000 in
theorem rm1 (l : Launch) (Z : State) (a0 : Array Value) (hw : ∀ d ∈ tables_1, d.before a0 Z = true) (ws : List Jvm.Cond) (ch : Int32)  (h0 : Heap) (n0 : Nat) (Z0 : n0 ≤ h0.size)  :
    MetFree l (⟨"com/example/corac/corac/Names", "isKeyCharacter", "(C)Z"⟩ : MethodName) (head1 (Jvm.Cond.code (⟨"com/example/corac/corac/Names", "isKeyCharacter", "(C)Z"⟩ : MethodName) prog_71_method_4_code 1 (some .boolean) :: ws) ({ frames := 1, cells := 0, slots := 0, locals := 12 } : Room)) (fun a U => a = #[(.int ch)] ∧ Z.Warmed39 U.vm ∧ U.heap = h0) (fun _ _ _ _ _ => True) (fun _ U o U' => ∃ v L, o = .returned v ∧ Q1 Z ch h0 n0 v U'.heap L ∧ FrameEnd U o U' L ({ frames := 1, cells := 0, slots := 0, locals := 12 } : Room).cells ({ frames := 1, cells := 0, slots := 0, locals := 12 } : Room).slots) := by
  refine MetFree.of_bodySF (plainFor_of_name pn_1) hisR ?_
  intro p e s m args below meth c s₁ Bd hml0 hP hK
  obtain ⟨rfl, hZ, hh⟩ := hP
  have hx := Bd.exec
  have hby := Bd.bytes
  have hml : c.maxLocals = 1 := hml0
  have hown : s.vm.findClass "com/example/corac/corac/Names" = some m.cls := findClass_of_methodNamed Bd.named
  have hnm := (name_of_methodNamed Bd.named Bd.method).1
  have X0 : Stand p l e ({ frames := 1, cells := 0, slots := 0, locals := 12 } : Room) s m #[(.int ch)] below meth c s₁ [] 0 0 := Stand.of_body Bd
  have e0 : s₁.heap = h0 := by rw [← hh, Bd.state]; rfl
  have N0 := Fr.nil n0
  have pre0 : ∀ t, Steps p.tables e below (s₁.setTop (mkF m 0 #[.val (.int ch)] [])) t → Steps p.tables e below (s₁.setTop (entryFrame m #[(.int ch)] 1)) t := fun t k => castTop (ef_1 m ch) k
  obtain ⟨_, _, ⟨T30, L30, k30, n30⟩, -, X30, ⟨Lc30, hQ30, l30, y30, z30⟩, st30⟩ := Jvm.LawKit.callS X0 hx (y := (⟨"com/example/corac/corac/Names", "isLetterOrDigit", "(C)Z"⟩ : MethodName)) hown (mvT hZ (hw _ (List.mem_of_getElem? (i := 5) rfl))) (mvT hZ (hw _ (List.mem_of_getElem? (i := 6) rfl))) (mvT hZ (hw _ (List.mem_of_getElem? (i := 3) rfl))) (mvT hZ (hw _ (List.mem_of_getElem? (i := 7) rfl))) (by decide) (backOf (W := 0) (rm2 l Z a0 hw [] ch  h0 n0 Z0) hZ (hw _ (List.mem_of_getElem? (i := 7) rfl)) (hw _ (List.mem_of_getElem? (i := 3) rfl)) (by decide) (by decide)) (g := (mkF m 1 #[.val (.int ch)] [(.int ch)])) rfl (by rw [hml]; rfl) (argsL := [(.int ch)]) (rest := []) (lenOf own_pd0 rfl) rfl (by show 2 * 0 + _ ≤ _; exact Nat.le_of_eq rfl) (hb hby d1_1) (fun _ _ => ⟨rfl, e0, (by decide : 0 + 0 ≤ _), (by decide : 0 + 0 ≤ _)⟩)
  dsimp only [Pt.U, Pt.locs, Pt.cells, Pt.slots] at X30 l30 y30 z30 st30 hQ30
  subst l30 y30 z30
  obtain ⟨z30, rfl, hz30, N30q, e30⟩ := hQ30
  have N30 := Fr.app N0 N30q
  have pre31 : ∀ t, Steps p.tables e below (T30.setTop (mkF m 4 #[.val (.int ch)] [(.int z30)])) t → Steps p.tables e below (s₁.setTop (entryFrame m #[(.int ch)] 1)) t := fun t k => pre0 t (by
      show Steps p.tables e below (s₁.setTop (mkF m 0 #[.val (.int ch)] [])) _
      refine XS.iloadN X0.here hx rfl (hb hby d1_0) rfl ?_
      show Steps p.tables e below (s₁.setTop (mkF m 1 #[.val (.int ch)] [(.int ch)])) _
      refine st30 _ ?_
      exact k)
  by_cases hc4 : z30 = (0 : Int32)
  · skip
    have pre32 : ∀ t, Steps p.tables e below (T30.setTop (mkF m 10 #[.val (.int ch)] [(.int (95 : Int32)), (.int ch)])) t → Steps p.tables e below (s₁.setTop (entryFrame m #[(.int ch)] 1)) t := fun t k => pre31 t (by
        show Steps p.tables e below (T30.setTop (mkF m 4 #[.val (.int ch)] [(.int z30)])) _
        refine XS.ifNo X30.here hx rfl (hb hby d1_4) rfl ((if0 _ _).trans (teq hc4).2) ?_
        show Steps p.tables e below (T30.setTop (mkF m 7 #[.val (.int ch)] [])) _
        refine XS.iloadN X30.here hx rfl (hb hby d1_7) rfl ?_
        show Steps p.tables e below (T30.setTop (mkF m 8 #[.val (.int ch)] [(.int ch)])) _
        refine XS.bipush X30.here hx rfl (hb hby d1_8) ?_
        exact k)
    by_cases hc10 : ch = (95 : Int32)
    · skip
      have pre33 : ∀ t, Steps p.tables e below (T30.setTop (mkF m 24 #[.val (.int ch)] [(.int (1 : Int32))])) t → Steps p.tables e below (s₁.setTop (entryFrame m #[(.int ch)] 1)) t := fun t k => pre32 t (by
          show Steps p.tables e below (T30.setTop (mkF m 10 #[.val (.int ch)] [(.int (95 : Int32)), (.int ch)])) _
          refine XS.icmpYes X30.here hx rfl (pc0 := 10) (pc' := 19) rfl (hb hby d1_10) rfl (teq hc10).1 (by decide) (by decide) ?_
          show Steps p.tables e below (T30.setTop (mkF m 19 #[.val (.int ch)] [])) _
          refine XS.iconst X30.here hx rfl (hb hby d1_19) ?_
          show Steps p.tables e below (T30.setTop (mkF m 20 #[.val (.int ch)] [(.int (1 : Int32))])) _
          refine XS.goto X30.here hx rfl (pc0 := 20) (pc' := 24) rfl (hb hby d1_20) (by decide) (by decide) ?_
          exact k)
      obtain ⟨fs, hr, hrun, hended, hW, hsame⟩ := X30.leave (v := some (.int (1 : Int32))) (fun h => by rw [Bd.returns] at h; cases h)
      refine ⟨_, _, pre33 _ ?_, hrun, hended, _, _, rfl, ?_, ⟨_, rfl⟩, hW, hsame.mono (by decide) (by decide)⟩
      · show Steps p.tables e below (T30.setTop (mkF m 24 #[.val (.int ch)] [(.int (1 : Int32))])) _
        exact retN X30 hx (t := .boolean) Bd.returns (by simp) (hb hby d1_24) hr
      · show Q1 Z ch h0 n0 _ T30.heap _
        rw [e30]
        exact ⟨(1 : Int32), rfl, (Or.inl ⟨(by have k := own_says_ne hz30; simp only [own_Key, ← Int32.toInt_inj, Int32.reduceToInt] at k hc4 hc10 ⊢; by_cases hl : own_LD ch <;> simp only [hl, not_true, not_false_eq_true, true_or, false_or, iff_true, iff_false] at k ⊢ <;> omega), rfl⟩), N30, rfl⟩
    · skip
      have pre34 : ∀ t, Steps p.tables e below (T30.setTop (mkF m 16 #[.val (.int ch)] [(.int (45 : Int32)), (.int ch)])) t → Steps p.tables e below (s₁.setTop (entryFrame m #[(.int ch)] 1)) t := fun t k => pre32 t (by
          show Steps p.tables e below (T30.setTop (mkF m 10 #[.val (.int ch)] [(.int (95 : Int32)), (.int ch)])) _
          refine XS.icmpNo X30.here hx rfl (hb hby d1_10) rfl (feq hc10).1 ?_
          show Steps p.tables e below (T30.setTop (mkF m 13 #[.val (.int ch)] [])) _
          refine XS.iloadN X30.here hx rfl (hb hby d1_13) rfl ?_
          show Steps p.tables e below (T30.setTop (mkF m 14 #[.val (.int ch)] [(.int ch)])) _
          refine XS.bipush X30.here hx rfl (hb hby d1_14) ?_
          exact k)
      by_cases hc16 : ch = (45 : Int32)
      · skip
        have pre35 : ∀ t, Steps p.tables e below (T30.setTop (mkF m 24 #[.val (.int ch)] [(.int (1 : Int32))])) t → Steps p.tables e below (s₁.setTop (entryFrame m #[(.int ch)] 1)) t := fun t k => pre34 t (by
            show Steps p.tables e below (T30.setTop (mkF m 16 #[.val (.int ch)] [(.int (45 : Int32)), (.int ch)])) _
            refine XS.icmpNo X30.here hx rfl (hb hby d1_16) rfl (teq hc16).2 ?_
            show Steps p.tables e below (T30.setTop (mkF m 19 #[.val (.int ch)] [])) _
            refine XS.iconst X30.here hx rfl (hb hby d1_19) ?_
            show Steps p.tables e below (T30.setTop (mkF m 20 #[.val (.int ch)] [(.int (1 : Int32))])) _
            refine XS.goto X30.here hx rfl (pc0 := 20) (pc' := 24) rfl (hb hby d1_20) (by decide) (by decide) ?_
            exact k)
        obtain ⟨fs, hr, hrun, hended, hW, hsame⟩ := X30.leave (v := some (.int (1 : Int32))) (fun h => by rw [Bd.returns] at h; cases h)
        refine ⟨_, _, pre35 _ ?_, hrun, hended, _, _, rfl, ?_, ⟨_, rfl⟩, hW, hsame.mono (by decide) (by decide)⟩
        · show Steps p.tables e below (T30.setTop (mkF m 24 #[.val (.int ch)] [(.int (1 : Int32))])) _
          exact retN X30 hx (t := .boolean) Bd.returns (by simp) (hb hby d1_24) hr
        · show Q1 Z ch h0 n0 _ T30.heap _
          rw [e30]
          exact ⟨(1 : Int32), rfl, (Or.inl ⟨(by have k := own_says_ne hz30; simp only [own_Key, ← Int32.toInt_inj, Int32.reduceToInt] at k hc4 hc10 hc16 ⊢; by_cases hl : own_LD ch <;> simp only [hl, not_true, not_false_eq_true, true_or, false_or, iff_true, iff_false] at k ⊢ <;> omega), rfl⟩), N30, rfl⟩
      · skip
        have pre36 : ∀ t, Steps p.tables e below (T30.setTop (mkF m 24 #[.val (.int ch)] [(.int (0 : Int32))])) t → Steps p.tables e below (s₁.setTop (entryFrame m #[(.int ch)] 1)) t := fun t k => pre34 t (by
            show Steps p.tables e below (T30.setTop (mkF m 16 #[.val (.int ch)] [(.int (45 : Int32)), (.int ch)])) _
            refine XS.icmpYes X30.here hx rfl (pc0 := 16) (pc' := 23) rfl (hb hby d1_16) rfl (feq hc16).2 (by decide) (by decide) ?_
            show Steps p.tables e below (T30.setTop (mkF m 23 #[.val (.int ch)] [])) _
            refine XS.iconst X30.here hx rfl (hb hby d1_23) ?_
            exact k)
        obtain ⟨fs, hr, hrun, hended, hW, hsame⟩ := X30.leave (v := some (.int (0 : Int32))) (fun h => by rw [Bd.returns] at h; cases h)
        refine ⟨_, _, pre36 _ ?_, hrun, hended, _, _, rfl, ?_, ⟨_, rfl⟩, hW, hsame.mono (by decide) (by decide)⟩
        · show Steps p.tables e below (T30.setTop (mkF m 24 #[.val (.int ch)] [(.int (0 : Int32))])) _
          exact retN X30 hx (t := .boolean) Bd.returns (by simp) (hb hby d1_24) hr
        · show Q1 Z ch h0 n0 _ T30.heap _
          rw [e30]
          exact ⟨(0 : Int32), rfl, (Or.inr ⟨(by have k := own_says_ne hz30; simp only [own_Key, ← Int32.toInt_inj, Int32.reduceToInt] at k hc4 hc10 hc16 ⊢; by_cases hl : own_LD ch <;> simp only [hl, not_true, not_false_eq_true, true_or, false_or, iff_true, iff_false] at k ⊢ <;> omega), rfl⟩), N30, rfl⟩
  · skip
    have pre37 : ∀ t, Steps p.tables e below (T30.setTop (mkF m 24 #[.val (.int ch)] [(.int (1 : Int32))])) t → Steps p.tables e below (s₁.setTop (entryFrame m #[(.int ch)] 1)) t := fun t k => pre31 t (by
        show Steps p.tables e below (T30.setTop (mkF m 4 #[.val (.int ch)] [(.int z30)])) _
        refine XS.ifYes X30.here hx rfl (pc0 := 4) (pc' := 19) rfl (hb hby d1_4) rfl ((if0 _ _).trans (feq hc4).2) (by decide) (by decide) ?_
        show Steps p.tables e below (T30.setTop (mkF m 19 #[.val (.int ch)] [])) _
        refine XS.iconst X30.here hx rfl (hb hby d1_19) ?_
        show Steps p.tables e below (T30.setTop (mkF m 20 #[.val (.int ch)] [(.int (1 : Int32))])) _
        refine XS.goto X30.here hx rfl (pc0 := 20) (pc' := 24) rfl (hb hby d1_20) (by decide) (by decide) ?_
        exact k)
    obtain ⟨fs, hr, hrun, hended, hW, hsame⟩ := X30.leave (v := some (.int (1 : Int32))) (fun h => by rw [Bd.returns] at h; cases h)
    refine ⟨_, _, pre37 _ ?_, hrun, hended, _, _, rfl, ?_, ⟨_, rfl⟩, hW, hsame.mono (by decide) (by decide)⟩
    · show Steps p.tables e below (T30.setTop (mkF m 24 #[.val (.int ch)] [(.int (1 : Int32))])) _
      exact retN X30 hx (t := .boolean) Bd.returns (by simp) (hb hby d1_24) hr
    · show Q1 Z ch h0 n0 _ T30.heap _
      rw [e30]
      exact ⟨(1 : Int32), rfl, (Or.inl ⟨(by have k := own_says_ne hz30; simp only [own_Key, ← Int32.toInt_inj, Int32.reduceToInt] at k hc4 ⊢; by_cases hl : own_LD ch <;> simp only [hl, not_true, not_false_eq_true, true_or, false_or, iff_true, iff_false] at k ⊢ <;> omega), rfl⟩), N30, rfl⟩
theorem pn_0 : plainName "com/example/corac/corac/NamesIsKeyCharacterPinLaw" = true := by first | (simp [plainName, overriddenIn]; done) | decide +kernel
theorem ef_0 (m : MethodId) (p0 : Int32) : entryFrame m #[(.int p0)] maxLocals = mkF m 0 #[.val (.int p0), .unset, .unset, .unset, .unset, .unset, .unset, .unset] [] := by first | (simp [entryFrame, mkF, argsToLocals, Value.category, maxLocals]; done) | rfl
def Q0 (Z : State) (p0 : Int32)  (h0 : Heap) (n0 : Nat) (v : Option Value) (h : Heap) (L : List Loc) : Prop := v = some (.int 1) ∧ Fr n0 L
set_option maxRecDepth 65536 in
set_option maxHeartbeats 40000000 in
theorem rm0 (l : Launch) (Z : State) (a0 : Array Value) (hw : ∀ d ∈ tables_1, d.before a0 Z = true) (ws : List Jvm.Cond) (p0 : Int32)  (h0 : Heap) (n0 : Nat) (Z0 : n0 ≤ h0.size)  :
    MetFree l x (head1 (Jvm.Cond.code x code maxLocals ret :: ws) room_1) (fun a U => a = #[(.int p0)] ∧ Z.Warmed39 U.vm ∧ U.heap = h0) (fun _ _ _ _ _ => True) (fun _ U o U' => ∃ v L, o = .returned v ∧ Q0 Z p0 h0 n0 v U'.heap L ∧ FrameEnd U o U' L room_1.cells room_1.slots) := by
  refine MetFree.of_bodySF (plainFor_of_name pn_0) hisR ?_
  intro p e s m args below meth c s₁ Bd hml0 hP hK
  obtain ⟨rfl, hZ, hh⟩ := hP
  have hx := Bd.exec
  have hby := Bd.bytes
  have hml : c.maxLocals = 8 := hml0
  have hown : s.vm.findClass "com/example/corac/corac/NamesIsKeyCharacterPinLaw" = some m.cls := findClass_of_methodNamed Bd.named
  have hnm := (name_of_methodNamed Bd.named Bd.method).1
  have X0 : Stand p l e room_1 s m #[(.int p0)] below meth c s₁ [] 0 0 := Stand.of_body Bd
  have e0 : s₁.heap = h0 := by rw [← hh, Bd.state]; rfl
  have N0 := Fr.nil n0
  have pre0 : ∀ t, Steps p.tables e below (s₁.setTop (mkF m 0 #[.val (.int p0), .unset, .unset, .unset, .unset, .unset, .unset, .unset] [])) t → Steps p.tables e below (s₁.setTop (entryFrame m #[(.int p0)] maxLocals)) t := fun t k => castTop (ef_0 m p0) k
  have pre38 : ∀ t, Steps p.tables e below (s₁.setTop (mkF m 5 #[.val (.int p0), .val (.int (p0 &&& (65535 : Int32))), .unset, .unset, .unset, .unset, .unset, .unset] [])) t → Steps p.tables e below (s₁.setTop (entryFrame m #[(.int p0)] maxLocals)) t := fun t k => pre0 t (by
      show Steps p.tables e below (s₁.setTop (mkF m 0 #[.val (.int p0), .unset, .unset, .unset, .unset, .unset, .unset, .unset] [])) _
      refine XS.iloadN X0.here hx rfl (hb hby at_0) rfl ?_
      show Steps p.tables e below (s₁.setTop (mkF m 1 #[.val (.int p0), .unset, .unset, .unset, .unset, .unset, .unset, .unset] [(.int p0)])) _
      refine X0.ldcInt hx hown (mvT hZ (hw _ (List.mem_of_getElem? (i := 0) rfl))) (g := (mkF m 1 #[.val (.int p0), .unset, .unset, .unset, .unset, .unset, .unset, .unset] [(.int p0)])) rfl (hb hby at_1) _ ?_
      show Steps p.tables e below (s₁.setTop (mkF m 3 #[.val (.int p0), .unset, .unset, .unset, .unset, .unset, .unset, .unset] [(.int (65535 : Int32)), (.int p0)])) _
      refine XS.iand X0.here hx rfl (hb hby at_3) rfl ?_
      show Steps p.tables e below (s₁.setTop (mkF m 4 #[.val (.int p0), .unset, .unset, .unset, .unset, .unset, .unset, .unset] [(.int (p0 &&& (65535 : Int32)))])) _
      refine XS.istoreN X0.here hx rfl (hb hby at_4) rfl (l' := #[.val (.int p0), .val (.int (p0 &&& (65535 : Int32))), .unset, .unset, .unset, .unset, .unset, .unset]) rfl ?_
      exact k)
  obtain ⟨x0, d_x0⟩ : ∃ z, z = (p0 &&& (65535 : Int32)) := ⟨_, rfl⟩
  rw [← d_x0] at pre38
  have m0 := own_mask p0
  rw [← d_x0] at m0
  have pre39 : ∀ t, Steps p.tables e below (s₁.setTop (mkF m 13 #[.val (.int p0), .val (.int x0), .val (.int (x0.toUInt32.toUInt16.toUInt32.toInt32)), .val (.int (x0 ||| (32 : Int32))), .unset, .unset, .unset, .unset] [])) t → Steps p.tables e below (s₁.setTop (entryFrame m #[(.int p0)] maxLocals)) t := fun t k => pre38 t (by
      show Steps p.tables e below (s₁.setTop (mkF m 5 #[.val (.int p0), .val (.int x0), .unset, .unset, .unset, .unset, .unset, .unset] [])) _
      refine XS.iloadN X0.here hx rfl (hb hby at_5) rfl ?_
      show Steps p.tables e below (s₁.setTop (mkF m 6 #[.val (.int p0), .val (.int x0), .unset, .unset, .unset, .unset, .unset, .unset] [(.int x0)])) _
      refine XS.i2c X0.here hx rfl (hb hby at_6) rfl ?_
      show Steps p.tables e below (s₁.setTop (mkF m 7 #[.val (.int p0), .val (.int x0), .unset, .unset, .unset, .unset, .unset, .unset] [(.int (x0.toUInt32.toUInt16.toUInt32.toInt32))])) _
      refine XS.istoreN X0.here hx rfl (hb hby at_7) rfl (l' := #[.val (.int p0), .val (.int x0), .val (.int (x0.toUInt32.toUInt16.toUInt32.toInt32)), .unset, .unset, .unset, .unset, .unset]) rfl ?_
      show Steps p.tables e below (s₁.setTop (mkF m 8 #[.val (.int p0), .val (.int x0), .val (.int (x0.toUInt32.toUInt16.toUInt32.toInt32)), .unset, .unset, .unset, .unset, .unset] [])) _
      refine XS.iloadN X0.here hx rfl (hb hby at_8) rfl ?_
      show Steps p.tables e below (s₁.setTop (mkF m 9 #[.val (.int p0), .val (.int x0), .val (.int (x0.toUInt32.toUInt16.toUInt32.toInt32)), .unset, .unset, .unset, .unset, .unset] [(.int x0)])) _
      refine XS.bipush X0.here hx rfl (hb hby at_9) ?_
      show Steps p.tables e below (s₁.setTop (mkF m 11 #[.val (.int p0), .val (.int x0), .val (.int (x0.toUInt32.toUInt16.toUInt32.toInt32)), .unset, .unset, .unset, .unset, .unset] [(.int (32 : Int32)), (.int x0)])) _
      refine XS.ior X0.here hx rfl (hb hby at_11) rfl ?_
      show Steps p.tables e below (s₁.setTop (mkF m 12 #[.val (.int p0), .val (.int x0), .val (.int (x0.toUInt32.toUInt16.toUInt32.toInt32)), .unset, .unset, .unset, .unset, .unset] [(.int (x0 ||| (32 : Int32)))])) _
      refine XS.istoreN X0.here hx rfl (hb hby at_12) rfl (l' := #[.val (.int p0), .val (.int x0), .val (.int (x0.toUInt32.toUInt16.toUInt32.toInt32)), .val (.int (x0 ||| (32 : Int32))), .unset, .unset, .unset, .unset]) rfl ?_
      exact k)
  obtain ⟨v4, hv4, pre40⟩ : ∃ v4 : Int32, (own_says (¬ (x0 ||| 32) < 97 ∧ ¬ (122 : Int32) < (x0 ||| 32)) v4) ∧ ∀ t, Steps p.tables e below (s₁.setTop (mkF m 30 #[.val (.int p0), .val (.int x0), .val (.int (x0.toUInt32.toUInt16.toUInt32.toInt32)), .val (.int (x0 ||| (32 : Int32))), .unset, .unset, .unset, .unset] [(.int v4)])) t → Steps p.tables e below (s₁.setTop (entryFrame m #[(.int p0)] maxLocals)) t := by
    have pre41 : ∀ t, Steps p.tables e below (s₁.setTop (mkF m 16 #[.val (.int p0), .val (.int x0), .val (.int (x0.toUInt32.toUInt16.toUInt32.toInt32)), .val (.int (x0 ||| (32 : Int32))), .unset, .unset, .unset, .unset] [(.int (97 : Int32)), (.int (x0 ||| (32 : Int32)))])) t → Steps p.tables e below (s₁.setTop (entryFrame m #[(.int p0)] maxLocals)) t := fun t k => pre39 t (by
        show Steps p.tables e below (s₁.setTop (mkF m 13 #[.val (.int p0), .val (.int x0), .val (.int (x0.toUInt32.toUInt16.toUInt32.toInt32)), .val (.int (x0 ||| (32 : Int32))), .unset, .unset, .unset, .unset] [])) _
        refine XS.iloadN X0.here hx rfl (hb hby at_13) rfl ?_
        show Steps p.tables e below (s₁.setTop (mkF m 14 #[.val (.int p0), .val (.int x0), .val (.int (x0.toUInt32.toUInt16.toUInt32.toInt32)), .val (.int (x0 ||| (32 : Int32))), .unset, .unset, .unset, .unset] [(.int (x0 ||| (32 : Int32)))])) _
        refine XS.bipush X0.here hx rfl (hb hby at_14) ?_
        exact k)
    by_cases hc16 : (x0 ||| (32 : Int32)) < (97 : Int32)
    · skip
      have pre42 : ∀ t, Steps p.tables e below (s₁.setTop (mkF m 30 #[.val (.int p0), .val (.int x0), .val (.int (x0.toUInt32.toUInt16.toUInt32.toInt32)), .val (.int (x0 ||| (32 : Int32))), .unset, .unset, .unset, .unset] [(.int (0 : Int32))])) t → Steps p.tables e below (s₁.setTop (entryFrame m #[(.int p0)] maxLocals)) t := fun t k => pre41 t (by
          show Steps p.tables e below (s₁.setTop (mkF m 16 #[.val (.int p0), .val (.int x0), .val (.int (x0.toUInt32.toUInt16.toUInt32.toInt32)), .val (.int (x0 ||| (32 : Int32))), .unset, .unset, .unset, .unset] [(.int (97 : Int32)), (.int (x0 ||| (32 : Int32)))])) _
          refine XS.icmpYes X0.here hx rfl (pc0 := 16) (pc' := 29) rfl (hb hby at_16) rfl (tlt hc16).1 (by decide) (by decide) ?_
          show Steps p.tables e below (s₁.setTop (mkF m 29 #[.val (.int p0), .val (.int x0), .val (.int (x0.toUInt32.toUInt16.toUInt32.toInt32)), .val (.int (x0 ||| (32 : Int32))), .unset, .unset, .unset, .unset] [])) _
          refine XS.iconst X0.here hx rfl (hb hby at_29) ?_
          exact k)
      exact ⟨_, (by simp [own_says, hc16]), pre42⟩
    · skip
      have pre43 : ∀ t, Steps p.tables e below (s₁.setTop (mkF m 22 #[.val (.int p0), .val (.int x0), .val (.int (x0.toUInt32.toUInt16.toUInt32.toInt32)), .val (.int (x0 ||| (32 : Int32))), .unset, .unset, .unset, .unset] [(.int (122 : Int32)), (.int (x0 ||| (32 : Int32)))])) t → Steps p.tables e below (s₁.setTop (entryFrame m #[(.int p0)] maxLocals)) t := fun t k => pre41 t (by
          show Steps p.tables e below (s₁.setTop (mkF m 16 #[.val (.int p0), .val (.int x0), .val (.int (x0.toUInt32.toUInt16.toUInt32.toInt32)), .val (.int (x0 ||| (32 : Int32))), .unset, .unset, .unset, .unset] [(.int (97 : Int32)), (.int (x0 ||| (32 : Int32)))])) _
          refine XS.icmpNo X0.here hx rfl (hb hby at_16) rfl (flt hc16).1 ?_
          show Steps p.tables e below (s₁.setTop (mkF m 19 #[.val (.int p0), .val (.int x0), .val (.int (x0.toUInt32.toUInt16.toUInt32.toInt32)), .val (.int (x0 ||| (32 : Int32))), .unset, .unset, .unset, .unset] [])) _
          refine XS.iloadN X0.here hx rfl (hb hby at_19) rfl ?_
          show Steps p.tables e below (s₁.setTop (mkF m 20 #[.val (.int p0), .val (.int x0), .val (.int (x0.toUInt32.toUInt16.toUInt32.toInt32)), .val (.int (x0 ||| (32 : Int32))), .unset, .unset, .unset, .unset] [(.int (x0 ||| (32 : Int32)))])) _
          refine XS.bipush X0.here hx rfl (hb hby at_20) ?_
          exact k)
      by_cases hc22 : (122 : Int32) < (x0 ||| (32 : Int32))
      · skip
        have pre44 : ∀ t, Steps p.tables e below (s₁.setTop (mkF m 30 #[.val (.int p0), .val (.int x0), .val (.int (x0.toUInt32.toUInt16.toUInt32.toInt32)), .val (.int (x0 ||| (32 : Int32))), .unset, .unset, .unset, .unset] [(.int (0 : Int32))])) t → Steps p.tables e below (s₁.setTop (entryFrame m #[(.int p0)] maxLocals)) t := fun t k => pre43 t (by
            show Steps p.tables e below (s₁.setTop (mkF m 22 #[.val (.int p0), .val (.int x0), .val (.int (x0.toUInt32.toUInt16.toUInt32.toInt32)), .val (.int (x0 ||| (32 : Int32))), .unset, .unset, .unset, .unset] [(.int (122 : Int32)), (.int (x0 ||| (32 : Int32)))])) _
            refine XS.icmpYes X0.here hx rfl (pc0 := 22) (pc' := 29) rfl (hb hby at_22) rfl (tlt hc22).2.2.1 (by decide) (by decide) ?_
            show Steps p.tables e below (s₁.setTop (mkF m 29 #[.val (.int p0), .val (.int x0), .val (.int (x0.toUInt32.toUInt16.toUInt32.toInt32)), .val (.int (x0 ||| (32 : Int32))), .unset, .unset, .unset, .unset] [])) _
            refine XS.iconst X0.here hx rfl (hb hby at_29) ?_
            exact k)
        exact ⟨_, (by simp [own_says, hc16, hc22]), pre44⟩
      · skip
        have pre45 : ∀ t, Steps p.tables e below (s₁.setTop (mkF m 30 #[.val (.int p0), .val (.int x0), .val (.int (x0.toUInt32.toUInt16.toUInt32.toInt32)), .val (.int (x0 ||| (32 : Int32))), .unset, .unset, .unset, .unset] [(.int (1 : Int32))])) t → Steps p.tables e below (s₁.setTop (entryFrame m #[(.int p0)] maxLocals)) t := fun t k => pre43 t (by
            show Steps p.tables e below (s₁.setTop (mkF m 22 #[.val (.int p0), .val (.int x0), .val (.int (x0.toUInt32.toUInt16.toUInt32.toInt32)), .val (.int (x0 ||| (32 : Int32))), .unset, .unset, .unset, .unset] [(.int (122 : Int32)), (.int (x0 ||| (32 : Int32)))])) _
            refine XS.icmpNo X0.here hx rfl (hb hby at_22) rfl (flt hc22).2.2.1 ?_
            show Steps p.tables e below (s₁.setTop (mkF m 25 #[.val (.int p0), .val (.int x0), .val (.int (x0.toUInt32.toUInt16.toUInt32.toInt32)), .val (.int (x0 ||| (32 : Int32))), .unset, .unset, .unset, .unset] [])) _
            refine XS.iconst X0.here hx rfl (hb hby at_25) ?_
            show Steps p.tables e below (s₁.setTop (mkF m 26 #[.val (.int p0), .val (.int x0), .val (.int (x0.toUInt32.toUInt16.toUInt32.toInt32)), .val (.int (x0 ||| (32 : Int32))), .unset, .unset, .unset, .unset] [(.int (1 : Int32))])) _
            refine XS.goto X0.here hx rfl (pc0 := 26) (pc' := 30) rfl (hb hby at_26) (by decide) (by decide) ?_
            exact k)
        exact ⟨_, (by simp [own_says, hc16, hc22]), pre45⟩
  have pre46 : ∀ t, Steps p.tables e below (s₁.setTop (mkF m 38 #[.val (.int p0), .val (.int x0), .val (.int (x0.toUInt32.toUInt16.toUInt32.toInt32)), .val (.int (x0 ||| (32 : Int32))), .val (.int v4), .val (.int (x0 - (48 : Int32))), .unset, .unset] [])) t → Steps p.tables e below (s₁.setTop (entryFrame m #[(.int p0)] maxLocals)) t := fun t k => pre40 t (by
      show Steps p.tables e below (s₁.setTop (mkF m 30 #[.val (.int p0), .val (.int x0), .val (.int (x0.toUInt32.toUInt16.toUInt32.toInt32)), .val (.int (x0 ||| (32 : Int32))), .unset, .unset, .unset, .unset] [(.int v4)])) _
      refine XS.istore X0.here hx rfl (hb hby at_30) rfl (l' := #[.val (.int p0), .val (.int x0), .val (.int (x0.toUInt32.toUInt16.toUInt32.toInt32)), .val (.int (x0 ||| (32 : Int32))), .val (.int v4), .unset, .unset, .unset]) rfl ?_
      show Steps p.tables e below (s₁.setTop (mkF m 32 #[.val (.int p0), .val (.int x0), .val (.int (x0.toUInt32.toUInt16.toUInt32.toInt32)), .val (.int (x0 ||| (32 : Int32))), .val (.int v4), .unset, .unset, .unset] [])) _
      refine XS.iloadN X0.here hx rfl (hb hby at_32) rfl ?_
      show Steps p.tables e below (s₁.setTop (mkF m 33 #[.val (.int p0), .val (.int x0), .val (.int (x0.toUInt32.toUInt16.toUInt32.toInt32)), .val (.int (x0 ||| (32 : Int32))), .val (.int v4), .unset, .unset, .unset] [(.int x0)])) _
      refine XS.bipush X0.here hx rfl (hb hby at_33) ?_
      show Steps p.tables e below (s₁.setTop (mkF m 35 #[.val (.int p0), .val (.int x0), .val (.int (x0.toUInt32.toUInt16.toUInt32.toInt32)), .val (.int (x0 ||| (32 : Int32))), .val (.int v4), .unset, .unset, .unset] [(.int (48 : Int32)), (.int x0)])) _
      refine XS.isub X0.here hx rfl (hb hby at_35) rfl ?_
      show Steps p.tables e below (s₁.setTop (mkF m 36 #[.val (.int p0), .val (.int x0), .val (.int (x0.toUInt32.toUInt16.toUInt32.toInt32)), .val (.int (x0 ||| (32 : Int32))), .val (.int v4), .unset, .unset, .unset] [(.int (x0 - (48 : Int32)))])) _
      refine XS.istore X0.here hx rfl (hb hby at_36) rfl (l' := #[.val (.int p0), .val (.int x0), .val (.int (x0.toUInt32.toUInt16.toUInt32.toInt32)), .val (.int (x0 ||| (32 : Int32))), .val (.int v4), .val (.int (x0 - (48 : Int32))), .unset, .unset]) rfl ?_
      exact k)
  obtain ⟨v6, hv6, pre47⟩ : ∃ v6 : Int32, (own_says (¬ (x0 - 48) < 0 ∧ ¬ (9 : Int32) < (x0 - 48)) v6) ∧ ∀ t, Steps p.tables e below (s₁.setTop (mkF m 55 #[.val (.int p0), .val (.int x0), .val (.int (x0.toUInt32.toUInt16.toUInt32.toInt32)), .val (.int (x0 ||| (32 : Int32))), .val (.int v4), .val (.int (x0 - (48 : Int32))), .unset, .unset] [(.int v6)])) t → Steps p.tables e below (s₁.setTop (entryFrame m #[(.int p0)] maxLocals)) t := by
    have pre48 : ∀ t, Steps p.tables e below (s₁.setTop (mkF m 40 #[.val (.int p0), .val (.int x0), .val (.int (x0.toUInt32.toUInt16.toUInt32.toInt32)), .val (.int (x0 ||| (32 : Int32))), .val (.int v4), .val (.int (x0 - (48 : Int32))), .unset, .unset] [(.int (x0 - (48 : Int32)))])) t → Steps p.tables e below (s₁.setTop (entryFrame m #[(.int p0)] maxLocals)) t := fun t k => pre46 t (by
        show Steps p.tables e below (s₁.setTop (mkF m 38 #[.val (.int p0), .val (.int x0), .val (.int (x0.toUInt32.toUInt16.toUInt32.toInt32)), .val (.int (x0 ||| (32 : Int32))), .val (.int v4), .val (.int (x0 - (48 : Int32))), .unset, .unset] [])) _
        refine XS.iload X0.here hx rfl (hb hby at_38) rfl ?_
        exact k)
    by_cases hc40 : (x0 - (48 : Int32)) < (0 : Int32)
    · skip
      have pre49 : ∀ t, Steps p.tables e below (s₁.setTop (mkF m 55 #[.val (.int p0), .val (.int x0), .val (.int (x0.toUInt32.toUInt16.toUInt32.toInt32)), .val (.int (x0 ||| (32 : Int32))), .val (.int v4), .val (.int (x0 - (48 : Int32))), .unset, .unset] [(.int (0 : Int32))])) t → Steps p.tables e below (s₁.setTop (entryFrame m #[(.int p0)] maxLocals)) t := fun t k => pre48 t (by
          show Steps p.tables e below (s₁.setTop (mkF m 40 #[.val (.int p0), .val (.int x0), .val (.int (x0.toUInt32.toUInt16.toUInt32.toInt32)), .val (.int (x0 ||| (32 : Int32))), .val (.int v4), .val (.int (x0 - (48 : Int32))), .unset, .unset] [(.int (x0 - (48 : Int32)))])) _
          refine XS.ifYes X0.here hx rfl (pc0 := 40) (pc' := 54) rfl (hb hby at_40) rfl ((if0 _ _).trans (tlt hc40).1) (by decide) (by decide) ?_
          show Steps p.tables e below (s₁.setTop (mkF m 54 #[.val (.int p0), .val (.int x0), .val (.int (x0.toUInt32.toUInt16.toUInt32.toInt32)), .val (.int (x0 ||| (32 : Int32))), .val (.int v4), .val (.int (x0 - (48 : Int32))), .unset, .unset] [])) _
          refine XS.iconst X0.here hx rfl (hb hby at_54) ?_
          exact k)
      exact ⟨_, (by simp [own_says, hc40]), pre49⟩
    · skip
      have pre50 : ∀ t, Steps p.tables e below (s₁.setTop (mkF m 47 #[.val (.int p0), .val (.int x0), .val (.int (x0.toUInt32.toUInt16.toUInt32.toInt32)), .val (.int (x0 ||| (32 : Int32))), .val (.int v4), .val (.int (x0 - (48 : Int32))), .unset, .unset] [(.int (9 : Int32)), (.int (x0 - (48 : Int32)))])) t → Steps p.tables e below (s₁.setTop (entryFrame m #[(.int p0)] maxLocals)) t := fun t k => pre48 t (by
          show Steps p.tables e below (s₁.setTop (mkF m 40 #[.val (.int p0), .val (.int x0), .val (.int (x0.toUInt32.toUInt16.toUInt32.toInt32)), .val (.int (x0 ||| (32 : Int32))), .val (.int v4), .val (.int (x0 - (48 : Int32))), .unset, .unset] [(.int (x0 - (48 : Int32)))])) _
          refine XS.ifNo X0.here hx rfl (hb hby at_40) rfl ((if0 _ _).trans (flt hc40).1) ?_
          show Steps p.tables e below (s₁.setTop (mkF m 43 #[.val (.int p0), .val (.int x0), .val (.int (x0.toUInt32.toUInt16.toUInt32.toInt32)), .val (.int (x0 ||| (32 : Int32))), .val (.int v4), .val (.int (x0 - (48 : Int32))), .unset, .unset] [])) _
          refine XS.iload X0.here hx rfl (hb hby at_43) rfl ?_
          show Steps p.tables e below (s₁.setTop (mkF m 45 #[.val (.int p0), .val (.int x0), .val (.int (x0.toUInt32.toUInt16.toUInt32.toInt32)), .val (.int (x0 ||| (32 : Int32))), .val (.int v4), .val (.int (x0 - (48 : Int32))), .unset, .unset] [(.int (x0 - (48 : Int32)))])) _
          refine XS.bipush X0.here hx rfl (hb hby at_45) ?_
          exact k)
      by_cases hc47 : (9 : Int32) < (x0 - (48 : Int32))
      · skip
        have pre51 : ∀ t, Steps p.tables e below (s₁.setTop (mkF m 55 #[.val (.int p0), .val (.int x0), .val (.int (x0.toUInt32.toUInt16.toUInt32.toInt32)), .val (.int (x0 ||| (32 : Int32))), .val (.int v4), .val (.int (x0 - (48 : Int32))), .unset, .unset] [(.int (0 : Int32))])) t → Steps p.tables e below (s₁.setTop (entryFrame m #[(.int p0)] maxLocals)) t := fun t k => pre50 t (by
            show Steps p.tables e below (s₁.setTop (mkF m 47 #[.val (.int p0), .val (.int x0), .val (.int (x0.toUInt32.toUInt16.toUInt32.toInt32)), .val (.int (x0 ||| (32 : Int32))), .val (.int v4), .val (.int (x0 - (48 : Int32))), .unset, .unset] [(.int (9 : Int32)), (.int (x0 - (48 : Int32)))])) _
            refine XS.icmpYes X0.here hx rfl (pc0 := 47) (pc' := 54) rfl (hb hby at_47) rfl (tlt hc47).2.2.1 (by decide) (by decide) ?_
            show Steps p.tables e below (s₁.setTop (mkF m 54 #[.val (.int p0), .val (.int x0), .val (.int (x0.toUInt32.toUInt16.toUInt32.toInt32)), .val (.int (x0 ||| (32 : Int32))), .val (.int v4), .val (.int (x0 - (48 : Int32))), .unset, .unset] [])) _
            refine XS.iconst X0.here hx rfl (hb hby at_54) ?_
            exact k)
        exact ⟨_, (by simp [own_says, hc40, hc47]), pre51⟩
      · skip
        have pre52 : ∀ t, Steps p.tables e below (s₁.setTop (mkF m 55 #[.val (.int p0), .val (.int x0), .val (.int (x0.toUInt32.toUInt16.toUInt32.toInt32)), .val (.int (x0 ||| (32 : Int32))), .val (.int v4), .val (.int (x0 - (48 : Int32))), .unset, .unset] [(.int (1 : Int32))])) t → Steps p.tables e below (s₁.setTop (entryFrame m #[(.int p0)] maxLocals)) t := fun t k => pre50 t (by
            show Steps p.tables e below (s₁.setTop (mkF m 47 #[.val (.int p0), .val (.int x0), .val (.int (x0.toUInt32.toUInt16.toUInt32.toInt32)), .val (.int (x0 ||| (32 : Int32))), .val (.int v4), .val (.int (x0 - (48 : Int32))), .unset, .unset] [(.int (9 : Int32)), (.int (x0 - (48 : Int32)))])) _
            refine XS.icmpNo X0.here hx rfl (hb hby at_47) rfl (flt hc47).2.2.1 ?_
            show Steps p.tables e below (s₁.setTop (mkF m 50 #[.val (.int p0), .val (.int x0), .val (.int (x0.toUInt32.toUInt16.toUInt32.toInt32)), .val (.int (x0 ||| (32 : Int32))), .val (.int v4), .val (.int (x0 - (48 : Int32))), .unset, .unset] [])) _
            refine XS.iconst X0.here hx rfl (hb hby at_50) ?_
            show Steps p.tables e below (s₁.setTop (mkF m 51 #[.val (.int p0), .val (.int x0), .val (.int (x0.toUInt32.toUInt16.toUInt32.toInt32)), .val (.int (x0 ||| (32 : Int32))), .val (.int v4), .val (.int (x0 - (48 : Int32))), .unset, .unset] [(.int (1 : Int32))])) _
            refine XS.goto X0.here hx rfl (pc0 := 51) (pc' := 55) rfl (hb hby at_51) (by decide) (by decide) ?_
            exact k)
        exact ⟨_, (by simp [own_says, hc40, hc47]), pre52⟩
  have pre53 : ∀ t, Steps p.tables e below (s₁.setTop (mkF m 57 #[.val (.int p0), .val (.int x0), .val (.int (x0.toUInt32.toUInt16.toUInt32.toInt32)), .val (.int (x0 ||| (32 : Int32))), .val (.int v4), .val (.int (x0 - (48 : Int32))), .val (.int v6), .unset] [])) t → Steps p.tables e below (s₁.setTop (entryFrame m #[(.int p0)] maxLocals)) t := fun t k => pre47 t (by
      show Steps p.tables e below (s₁.setTop (mkF m 55 #[.val (.int p0), .val (.int x0), .val (.int (x0.toUInt32.toUInt16.toUInt32.toInt32)), .val (.int (x0 ||| (32 : Int32))), .val (.int v4), .val (.int (x0 - (48 : Int32))), .unset, .unset] [(.int v6)])) _
      refine XS.istore X0.here hx rfl (hb hby at_55) rfl (l' := #[.val (.int p0), .val (.int x0), .val (.int (x0.toUInt32.toUInt16.toUInt32.toInt32)), .val (.int (x0 ||| (32 : Int32))), .val (.int v4), .val (.int (x0 - (48 : Int32))), .val (.int v6), .unset]) rfl ?_
      exact k)
  obtain ⟨v7, hv7, pre54⟩ : ∃ v7 : Int32, (own_says (¬ v4 = 0 ∨ ¬ v6 = 0 ∨ x0 = 95 ∨ x0 = 45) v7) ∧ ∀ t, Steps p.tables e below (s₁.setTop (mkF m 84 #[.val (.int p0), .val (.int x0), .val (.int (x0.toUInt32.toUInt16.toUInt32.toInt32)), .val (.int (x0 ||| (32 : Int32))), .val (.int v4), .val (.int (x0 - (48 : Int32))), .val (.int v6), .unset] [(.int v7)])) t → Steps p.tables e below (s₁.setTop (entryFrame m #[(.int p0)] maxLocals)) t := by
    have pre55 : ∀ t, Steps p.tables e below (s₁.setTop (mkF m 59 #[.val (.int p0), .val (.int x0), .val (.int (x0.toUInt32.toUInt16.toUInt32.toInt32)), .val (.int (x0 ||| (32 : Int32))), .val (.int v4), .val (.int (x0 - (48 : Int32))), .val (.int v6), .unset] [(.int v4)])) t → Steps p.tables e below (s₁.setTop (entryFrame m #[(.int p0)] maxLocals)) t := fun t k => pre53 t (by
        show Steps p.tables e below (s₁.setTop (mkF m 57 #[.val (.int p0), .val (.int x0), .val (.int (x0.toUInt32.toUInt16.toUInt32.toInt32)), .val (.int (x0 ||| (32 : Int32))), .val (.int v4), .val (.int (x0 - (48 : Int32))), .val (.int v6), .unset] [])) _
        refine XS.iload X0.here hx rfl (hb hby at_57) rfl ?_
        exact k)
    by_cases hc59 : v4 = (0 : Int32)
    · skip
      have pre56 : ∀ t, Steps p.tables e below (s₁.setTop (mkF m 64 #[.val (.int p0), .val (.int x0), .val (.int (x0.toUInt32.toUInt16.toUInt32.toInt32)), .val (.int (x0 ||| (32 : Int32))), .val (.int v4), .val (.int (x0 - (48 : Int32))), .val (.int v6), .unset] [(.int v6)])) t → Steps p.tables e below (s₁.setTop (entryFrame m #[(.int p0)] maxLocals)) t := fun t k => pre55 t (by
          show Steps p.tables e below (s₁.setTop (mkF m 59 #[.val (.int p0), .val (.int x0), .val (.int (x0.toUInt32.toUInt16.toUInt32.toInt32)), .val (.int (x0 ||| (32 : Int32))), .val (.int v4), .val (.int (x0 - (48 : Int32))), .val (.int v6), .unset] [(.int v4)])) _
          refine XS.ifNo X0.here hx rfl (hb hby at_59) rfl ((if0 _ _).trans (teq hc59).2) ?_
          show Steps p.tables e below (s₁.setTop (mkF m 62 #[.val (.int p0), .val (.int x0), .val (.int (x0.toUInt32.toUInt16.toUInt32.toInt32)), .val (.int (x0 ||| (32 : Int32))), .val (.int v4), .val (.int (x0 - (48 : Int32))), .val (.int v6), .unset] [])) _
          refine XS.iload X0.here hx rfl (hb hby at_62) rfl ?_
          exact k)
      by_cases hc64 : v6 = (0 : Int32)
      · skip
        have pre57 : ∀ t, Steps p.tables e below (s₁.setTop (mkF m 70 #[.val (.int p0), .val (.int x0), .val (.int (x0.toUInt32.toUInt16.toUInt32.toInt32)), .val (.int (x0 ||| (32 : Int32))), .val (.int v4), .val (.int (x0 - (48 : Int32))), .val (.int v6), .unset] [(.int (95 : Int32)), (.int x0)])) t → Steps p.tables e below (s₁.setTop (entryFrame m #[(.int p0)] maxLocals)) t := fun t k => pre56 t (by
            show Steps p.tables e below (s₁.setTop (mkF m 64 #[.val (.int p0), .val (.int x0), .val (.int (x0.toUInt32.toUInt16.toUInt32.toInt32)), .val (.int (x0 ||| (32 : Int32))), .val (.int v4), .val (.int (x0 - (48 : Int32))), .val (.int v6), .unset] [(.int v6)])) _
            refine XS.ifNo X0.here hx rfl (hb hby at_64) rfl ((if0 _ _).trans (teq hc64).2) ?_
            show Steps p.tables e below (s₁.setTop (mkF m 67 #[.val (.int p0), .val (.int x0), .val (.int (x0.toUInt32.toUInt16.toUInt32.toInt32)), .val (.int (x0 ||| (32 : Int32))), .val (.int v4), .val (.int (x0 - (48 : Int32))), .val (.int v6), .unset] [])) _
            refine XS.iloadN X0.here hx rfl (hb hby at_67) rfl ?_
            show Steps p.tables e below (s₁.setTop (mkF m 68 #[.val (.int p0), .val (.int x0), .val (.int (x0.toUInt32.toUInt16.toUInt32.toInt32)), .val (.int (x0 ||| (32 : Int32))), .val (.int v4), .val (.int (x0 - (48 : Int32))), .val (.int v6), .unset] [(.int x0)])) _
            refine XS.bipush X0.here hx rfl (hb hby at_68) ?_
            exact k)
        by_cases hc70 : x0 = (95 : Int32)
        · skip
          have pre58 : ∀ t, Steps p.tables e below (s₁.setTop (mkF m 84 #[.val (.int p0), .val (.int x0), .val (.int (x0.toUInt32.toUInt16.toUInt32.toInt32)), .val (.int (x0 ||| (32 : Int32))), .val (.int v4), .val (.int (x0 - (48 : Int32))), .val (.int v6), .unset] [(.int (1 : Int32))])) t → Steps p.tables e below (s₁.setTop (entryFrame m #[(.int p0)] maxLocals)) t := fun t k => pre57 t (by
              show Steps p.tables e below (s₁.setTop (mkF m 70 #[.val (.int p0), .val (.int x0), .val (.int (x0.toUInt32.toUInt16.toUInt32.toInt32)), .val (.int (x0 ||| (32 : Int32))), .val (.int v4), .val (.int (x0 - (48 : Int32))), .val (.int v6), .unset] [(.int (95 : Int32)), (.int x0)])) _
              refine XS.icmpYes X0.here hx rfl (pc0 := 70) (pc' := 79) rfl (hb hby at_70) rfl (teq hc70).1 (by decide) (by decide) ?_
              show Steps p.tables e below (s₁.setTop (mkF m 79 #[.val (.int p0), .val (.int x0), .val (.int (x0.toUInt32.toUInt16.toUInt32.toInt32)), .val (.int (x0 ||| (32 : Int32))), .val (.int v4), .val (.int (x0 - (48 : Int32))), .val (.int v6), .unset] [])) _
              refine XS.iconst X0.here hx rfl (hb hby at_79) ?_
              show Steps p.tables e below (s₁.setTop (mkF m 80 #[.val (.int p0), .val (.int x0), .val (.int (x0.toUInt32.toUInt16.toUInt32.toInt32)), .val (.int (x0 ||| (32 : Int32))), .val (.int v4), .val (.int (x0 - (48 : Int32))), .val (.int v6), .unset] [(.int (1 : Int32))])) _
              refine XS.goto X0.here hx rfl (pc0 := 80) (pc' := 84) rfl (hb hby at_80) (by decide) (by decide) ?_
              exact k)
          exact ⟨_, (by simp [own_says, hc59, hc64, hc70]), pre58⟩
        · skip
          have pre59 : ∀ t, Steps p.tables e below (s₁.setTop (mkF m 76 #[.val (.int p0), .val (.int x0), .val (.int (x0.toUInt32.toUInt16.toUInt32.toInt32)), .val (.int (x0 ||| (32 : Int32))), .val (.int v4), .val (.int (x0 - (48 : Int32))), .val (.int v6), .unset] [(.int (45 : Int32)), (.int x0)])) t → Steps p.tables e below (s₁.setTop (entryFrame m #[(.int p0)] maxLocals)) t := fun t k => pre57 t (by
              show Steps p.tables e below (s₁.setTop (mkF m 70 #[.val (.int p0), .val (.int x0), .val (.int (x0.toUInt32.toUInt16.toUInt32.toInt32)), .val (.int (x0 ||| (32 : Int32))), .val (.int v4), .val (.int (x0 - (48 : Int32))), .val (.int v6), .unset] [(.int (95 : Int32)), (.int x0)])) _
              refine XS.icmpNo X0.here hx rfl (hb hby at_70) rfl (feq hc70).1 ?_
              show Steps p.tables e below (s₁.setTop (mkF m 73 #[.val (.int p0), .val (.int x0), .val (.int (x0.toUInt32.toUInt16.toUInt32.toInt32)), .val (.int (x0 ||| (32 : Int32))), .val (.int v4), .val (.int (x0 - (48 : Int32))), .val (.int v6), .unset] [])) _
              refine XS.iloadN X0.here hx rfl (hb hby at_73) rfl ?_
              show Steps p.tables e below (s₁.setTop (mkF m 74 #[.val (.int p0), .val (.int x0), .val (.int (x0.toUInt32.toUInt16.toUInt32.toInt32)), .val (.int (x0 ||| (32 : Int32))), .val (.int v4), .val (.int (x0 - (48 : Int32))), .val (.int v6), .unset] [(.int x0)])) _
              refine XS.bipush X0.here hx rfl (hb hby at_74) ?_
              exact k)
          by_cases hc76 : x0 = (45 : Int32)
          · skip
            have pre60 : ∀ t, Steps p.tables e below (s₁.setTop (mkF m 84 #[.val (.int p0), .val (.int x0), .val (.int (x0.toUInt32.toUInt16.toUInt32.toInt32)), .val (.int (x0 ||| (32 : Int32))), .val (.int v4), .val (.int (x0 - (48 : Int32))), .val (.int v6), .unset] [(.int (1 : Int32))])) t → Steps p.tables e below (s₁.setTop (entryFrame m #[(.int p0)] maxLocals)) t := fun t k => pre59 t (by
                show Steps p.tables e below (s₁.setTop (mkF m 76 #[.val (.int p0), .val (.int x0), .val (.int (x0.toUInt32.toUInt16.toUInt32.toInt32)), .val (.int (x0 ||| (32 : Int32))), .val (.int v4), .val (.int (x0 - (48 : Int32))), .val (.int v6), .unset] [(.int (45 : Int32)), (.int x0)])) _
                refine XS.icmpNo X0.here hx rfl (hb hby at_76) rfl (teq hc76).2 ?_
                show Steps p.tables e below (s₁.setTop (mkF m 79 #[.val (.int p0), .val (.int x0), .val (.int (x0.toUInt32.toUInt16.toUInt32.toInt32)), .val (.int (x0 ||| (32 : Int32))), .val (.int v4), .val (.int (x0 - (48 : Int32))), .val (.int v6), .unset] [])) _
                refine XS.iconst X0.here hx rfl (hb hby at_79) ?_
                show Steps p.tables e below (s₁.setTop (mkF m 80 #[.val (.int p0), .val (.int x0), .val (.int (x0.toUInt32.toUInt16.toUInt32.toInt32)), .val (.int (x0 ||| (32 : Int32))), .val (.int v4), .val (.int (x0 - (48 : Int32))), .val (.int v6), .unset] [(.int (1 : Int32))])) _
                refine XS.goto X0.here hx rfl (pc0 := 80) (pc' := 84) rfl (hb hby at_80) (by decide) (by decide) ?_
                exact k)
            exact ⟨_, (by simp [own_says, hc59, hc64, hc70, hc76]), pre60⟩
          · skip
            have pre61 : ∀ t, Steps p.tables e below (s₁.setTop (mkF m 84 #[.val (.int p0), .val (.int x0), .val (.int (x0.toUInt32.toUInt16.toUInt32.toInt32)), .val (.int (x0 ||| (32 : Int32))), .val (.int v4), .val (.int (x0 - (48 : Int32))), .val (.int v6), .unset] [(.int (0 : Int32))])) t → Steps p.tables e below (s₁.setTop (entryFrame m #[(.int p0)] maxLocals)) t := fun t k => pre59 t (by
                show Steps p.tables e below (s₁.setTop (mkF m 76 #[.val (.int p0), .val (.int x0), .val (.int (x0.toUInt32.toUInt16.toUInt32.toInt32)), .val (.int (x0 ||| (32 : Int32))), .val (.int v4), .val (.int (x0 - (48 : Int32))), .val (.int v6), .unset] [(.int (45 : Int32)), (.int x0)])) _
                refine XS.icmpYes X0.here hx rfl (pc0 := 76) (pc' := 83) rfl (hb hby at_76) rfl (feq hc76).2 (by decide) (by decide) ?_
                show Steps p.tables e below (s₁.setTop (mkF m 83 #[.val (.int p0), .val (.int x0), .val (.int (x0.toUInt32.toUInt16.toUInt32.toInt32)), .val (.int (x0 ||| (32 : Int32))), .val (.int v4), .val (.int (x0 - (48 : Int32))), .val (.int v6), .unset] [])) _
                refine XS.iconst X0.here hx rfl (hb hby at_83) ?_
                exact k)
            exact ⟨_, (by simp [own_says, hc59, hc64, hc70, hc76]), pre61⟩
      · skip
        have pre62 : ∀ t, Steps p.tables e below (s₁.setTop (mkF m 84 #[.val (.int p0), .val (.int x0), .val (.int (x0.toUInt32.toUInt16.toUInt32.toInt32)), .val (.int (x0 ||| (32 : Int32))), .val (.int v4), .val (.int (x0 - (48 : Int32))), .val (.int v6), .unset] [(.int (1 : Int32))])) t → Steps p.tables e below (s₁.setTop (entryFrame m #[(.int p0)] maxLocals)) t := fun t k => pre56 t (by
            show Steps p.tables e below (s₁.setTop (mkF m 64 #[.val (.int p0), .val (.int x0), .val (.int (x0.toUInt32.toUInt16.toUInt32.toInt32)), .val (.int (x0 ||| (32 : Int32))), .val (.int v4), .val (.int (x0 - (48 : Int32))), .val (.int v6), .unset] [(.int v6)])) _
            refine XS.ifYes X0.here hx rfl (pc0 := 64) (pc' := 79) rfl (hb hby at_64) rfl ((if0 _ _).trans (feq hc64).2) (by decide) (by decide) ?_
            show Steps p.tables e below (s₁.setTop (mkF m 79 #[.val (.int p0), .val (.int x0), .val (.int (x0.toUInt32.toUInt16.toUInt32.toInt32)), .val (.int (x0 ||| (32 : Int32))), .val (.int v4), .val (.int (x0 - (48 : Int32))), .val (.int v6), .unset] [])) _
            refine XS.iconst X0.here hx rfl (hb hby at_79) ?_
            show Steps p.tables e below (s₁.setTop (mkF m 80 #[.val (.int p0), .val (.int x0), .val (.int (x0.toUInt32.toUInt16.toUInt32.toInt32)), .val (.int (x0 ||| (32 : Int32))), .val (.int v4), .val (.int (x0 - (48 : Int32))), .val (.int v6), .unset] [(.int (1 : Int32))])) _
            refine XS.goto X0.here hx rfl (pc0 := 80) (pc' := 84) rfl (hb hby at_80) (by decide) (by decide) ?_
            exact k)
        exact ⟨_, (by simp [own_says, hc59, hc64]), pre62⟩
    · skip
      have pre63 : ∀ t, Steps p.tables e below (s₁.setTop (mkF m 84 #[.val (.int p0), .val (.int x0), .val (.int (x0.toUInt32.toUInt16.toUInt32.toInt32)), .val (.int (x0 ||| (32 : Int32))), .val (.int v4), .val (.int (x0 - (48 : Int32))), .val (.int v6), .unset] [(.int (1 : Int32))])) t → Steps p.tables e below (s₁.setTop (entryFrame m #[(.int p0)] maxLocals)) t := fun t k => pre55 t (by
          show Steps p.tables e below (s₁.setTop (mkF m 59 #[.val (.int p0), .val (.int x0), .val (.int (x0.toUInt32.toUInt16.toUInt32.toInt32)), .val (.int (x0 ||| (32 : Int32))), .val (.int v4), .val (.int (x0 - (48 : Int32))), .val (.int v6), .unset] [(.int v4)])) _
          refine XS.ifYes X0.here hx rfl (pc0 := 59) (pc' := 79) rfl (hb hby at_59) rfl ((if0 _ _).trans (feq hc59).2) (by decide) (by decide) ?_
          show Steps p.tables e below (s₁.setTop (mkF m 79 #[.val (.int p0), .val (.int x0), .val (.int (x0.toUInt32.toUInt16.toUInt32.toInt32)), .val (.int (x0 ||| (32 : Int32))), .val (.int v4), .val (.int (x0 - (48 : Int32))), .val (.int v6), .unset] [])) _
          refine XS.iconst X0.here hx rfl (hb hby at_79) ?_
          show Steps p.tables e below (s₁.setTop (mkF m 80 #[.val (.int p0), .val (.int x0), .val (.int (x0.toUInt32.toUInt16.toUInt32.toInt32)), .val (.int (x0 ||| (32 : Int32))), .val (.int v4), .val (.int (x0 - (48 : Int32))), .val (.int v6), .unset] [(.int (1 : Int32))])) _
          refine XS.goto X0.here hx rfl (pc0 := 80) (pc' := 84) rfl (hb hby at_80) (by decide) (by decide) ?_
          exact k)
      exact ⟨_, (by simp [own_says, hc59]), pre63⟩
  obtain ⟨_, _, ⟨T64, L64, k64, n64⟩, -, X64, ⟨Lc64, hQ64, l64, y64, z64⟩, st64⟩ := Jvm.LawKit.callS X0 hx (y := (⟨"com/example/corac/corac/Names", "isKeyCharacter", "(C)Z"⟩ : MethodName)) hown (mvT hZ (hw _ (List.mem_of_getElem? (i := 1) rfl))) (mvT hZ (hw _ (List.mem_of_getElem? (i := 2) rfl))) (mvT hZ (hw _ (List.mem_of_getElem? (i := 3) rfl))) (mvT hZ (hw _ (List.mem_of_getElem? (i := 4) rfl))) (by decide) (backOf (W := 0) (rm1 l Z a0 hw [] (x0.toUInt32.toUInt16.toUInt32.toInt32)  h0 n0 Z0) hZ (hw _ (List.mem_of_getElem? (i := 4) rfl)) (hw _ (List.mem_of_getElem? (i := 3) rfl)) (by decide) (by decide)) (g := (mkF m 87 #[.val (.int p0), .val (.int x0), .val (.int (x0.toUInt32.toUInt16.toUInt32.toInt32)), .val (.int (x0 ||| (32 : Int32))), .val (.int v4), .val (.int (x0 - (48 : Int32))), .val (.int v6), .val (.int v7)] [(.int (x0.toUInt32.toUInt16.toUInt32.toInt32))])) rfl (by rw [hml]; rfl) (argsL := [(.int (x0.toUInt32.toUInt16.toUInt32.toInt32))]) (rest := []) (lenOf own_pd0 rfl) rfl (by show 2 * 0 + _ ≤ _; exact Nat.le_of_eq rfl) (hb hby at_87) (fun _ _ => ⟨rfl, e0, (by decide : 0 + 0 ≤ _), (by decide : 0 + 0 ≤ _)⟩)
  dsimp only [Pt.U, Pt.locs, Pt.cells, Pt.slots] at X64 l64 y64 z64 st64 hQ64
  subst l64 y64 z64
  obtain ⟨z64, rfl, hz64, N64q, e64⟩ := hQ64
  have N64 := Fr.app N0 N64q
  rw [own_i2c x0 m0.1 m0.2] at hz64
  have he : z64 = v7 := own_says_eq hz64 hv7 (own_key_iff x0 m0.1 m0.2 v4 v6 hv4 hv6).symm
  have pre65 : ∀ t, Steps p.tables e below (T64.setTop (mkF m 100 #[.val (.int p0), .val (.int x0), .val (.int (x0.toUInt32.toUInt16.toUInt32.toInt32)), .val (.int (x0 ||| (32 : Int32))), .val (.int v4), .val (.int (x0 - (48 : Int32))), .val (.int v6), .val (.int v7)] [(.int (1 : Int32))])) t → Steps p.tables e below (s₁.setTop (entryFrame m #[(.int p0)] maxLocals)) t := fun t k => pre54 t (by
      show Steps p.tables e below (s₁.setTop (mkF m 84 #[.val (.int p0), .val (.int x0), .val (.int (x0.toUInt32.toUInt16.toUInt32.toInt32)), .val (.int (x0 ||| (32 : Int32))), .val (.int v4), .val (.int (x0 - (48 : Int32))), .val (.int v6), .unset] [(.int v7)])) _
      refine XS.istore X0.here hx rfl (hb hby at_84) rfl (l' := #[.val (.int p0), .val (.int x0), .val (.int (x0.toUInt32.toUInt16.toUInt32.toInt32)), .val (.int (x0 ||| (32 : Int32))), .val (.int v4), .val (.int (x0 - (48 : Int32))), .val (.int v6), .val (.int v7)]) rfl ?_
      show Steps p.tables e below (s₁.setTop (mkF m 86 #[.val (.int p0), .val (.int x0), .val (.int (x0.toUInt32.toUInt16.toUInt32.toInt32)), .val (.int (x0 ||| (32 : Int32))), .val (.int v4), .val (.int (x0 - (48 : Int32))), .val (.int v6), .val (.int v7)] [])) _
      refine XS.iloadN X0.here hx rfl (hb hby at_86) rfl ?_
      show Steps p.tables e below (s₁.setTop (mkF m 87 #[.val (.int p0), .val (.int x0), .val (.int (x0.toUInt32.toUInt16.toUInt32.toInt32)), .val (.int (x0 ||| (32 : Int32))), .val (.int v4), .val (.int (x0 - (48 : Int32))), .val (.int v6), .val (.int v7)] [(.int (x0.toUInt32.toUInt16.toUInt32.toInt32))])) _
      refine st64 _ ?_
      show Steps p.tables e below (T64.setTop (mkF m 90 #[.val (.int p0), .val (.int x0), .val (.int (x0.toUInt32.toUInt16.toUInt32.toInt32)), .val (.int (x0 ||| (32 : Int32))), .val (.int v4), .val (.int (x0 - (48 : Int32))), .val (.int v6), .val (.int v7)] [(.int z64)])) _
      refine XS.iload X64.here hx rfl (hb hby at_90) rfl ?_
      show Steps p.tables e below (T64.setTop (mkF m 92 #[.val (.int p0), .val (.int x0), .val (.int (x0.toUInt32.toUInt16.toUInt32.toInt32)), .val (.int (x0 ||| (32 : Int32))), .val (.int v4), .val (.int (x0 - (48 : Int32))), .val (.int v6), .val (.int v7)] [(.int v7), (.int z64)])) _
      refine XS.icmpNo X64.here hx rfl (hb hby at_92) rfl (teq he).2 ?_
      show Steps p.tables e below (T64.setTop (mkF m 95 #[.val (.int p0), .val (.int x0), .val (.int (x0.toUInt32.toUInt16.toUInt32.toInt32)), .val (.int (x0 ||| (32 : Int32))), .val (.int v4), .val (.int (x0 - (48 : Int32))), .val (.int v6), .val (.int v7)] [])) _
      refine XS.iconst X64.here hx rfl (hb hby at_95) ?_
      show Steps p.tables e below (T64.setTop (mkF m 96 #[.val (.int p0), .val (.int x0), .val (.int (x0.toUInt32.toUInt16.toUInt32.toInt32)), .val (.int (x0 ||| (32 : Int32))), .val (.int v4), .val (.int (x0 - (48 : Int32))), .val (.int v6), .val (.int v7)] [(.int (1 : Int32))])) _
      refine XS.goto X64.here hx rfl (pc0 := 96) (pc' := 100) rfl (hb hby at_96) (by decide) (by decide) ?_
      exact k)
  obtain ⟨fs, hr, hrun, hended, hW, hsame⟩ := X64.leave (v := some (.int (1 : Int32))) (fun h => by rw [Bd.returns] at h; cases h)
  refine ⟨_, _, pre65 _ ?_, hrun, hended, _, _, rfl, ?_, ⟨_, rfl⟩, hW, hsame.mono (by decide) (by decide)⟩
  · show Steps p.tables e below (T64.setTop (mkF m 100 #[.val (.int p0), .val (.int x0), .val (.int (x0.toUInt32.toUInt16.toUInt32.toInt32)), .val (.int (x0 ||| (32 : Int32))), .val (.int v4), .val (.int (x0 - (48 : Int32))), .val (.int v6), .val (.int v7)] [(.int (1 : Int32))])) _
    exact retN X64 hx (t := .boolean) Bd.returns (by simp) (hb hby at_100) hr
  · show Q0 Z p0 h0 n0 _ T64.heap _
    rw [e64]
    exact ⟨rfl, N64⟩
set_option maxRecDepth 65536 in
set_option maxHeartbeats 40000000 in
theorem comes_1 {Post : Tables → Env → Array Value → State → Outcome → State → Prop} (hpost : ∀ tb e args s v u, (limb_1_1.after args s (.returned v) u = true ∧ limb_1_2.after args s (.returned v) u = true ∧ True) → FrameEnd s (.returned v) u (Jvm.fieldLocs frame_1_writes args s ++ Jvm.arrayLocs frame_1_arrays args s ++ Jvm.staticLocs frame_1_statics s) 0 0 → Post tb e args s (.returned v) u) :
    ArmFor flags0 classFile x code maxLocals ret World_1 tables_1 room_1 Calls_1 rest_1 Pre_1 Post := by
  intro l hfl _ _ p e ha hc hk s m args below hf hA hF happ hP
  obtain ⟨hcalls, hrest, hpre⟩ := hP
  obtain ⟨-, -, -, hnamed, -, -, -, hat⟩ := (Spec.applies_iff hf).mp happ
  obtain ⟨hg, hn⟩ := and_e (Cond.before_iff.mp (show (Jvm.Cond.and given_1 narrow_1).before args s = true from hpre))
  obtain ⟨h1, g0⟩ := and_e hg
  obtain ⟨w0, rfl⟩ : ∃ w0 : Value, args = #[w0] := by
    have hs : args.size = 1 := by simpa [Cond.value, given_1] using h1
    obtain ⟨L⟩ := args
    match L, hs with
    | [w0], _ => exact ⟨w0, rfl⟩
  have hw := fun d (hd : d ∈ tables_1) => atoms_spec (ws := Jvm.Cond.code x code maxLocals ret :: tables_1) hat d (List.mem_cons_of_mem _ hd)
  have f0 := g0
  obtain ⟨i0, q0⟩ := is_v f0
  obtain rfl : w0 = (.int i0) := Option.some.inj q0
  obtain ⟨n, o, h1, h2, h3, _, L, rfl, ⟨rfl, N⟩, hq⟩ := rm0 l s _ hw tables_1 i0 s.heap s.heap.size (Nat.le_refl _)  p e ha hc hk s m _ below hf ((Spec.applies_iff_loose hf).mp happ).1 ⟨rfl, State.Warmed39.refl s, rfl⟩ trivial
  refine ⟨n, _, h1, h2, h3, hpost _ _ _ _ _ _ ⟨Cond.after_iff.mpr rfl, Cond.after_iff.mpr (eq_i res_at (Term.int_eval (1)) rfl), trivial⟩ ⟨hq.1, hq.2.1, (hq.2.2.sift fun y hy => Or.inr (N y hy)).mono (by decide) (by decide)⟩⟩
theorem main_1_1 : Claimed_1_1 := comes_1 fun _ _ _ _ _ _ h hF => ⟨h.1, hF⟩
theorem main_1_2 : Claimed_1_2 := comes_1 fun _ _ _ _ _ _ h hF => ⟨h.2.1, hF⟩
end Jvm.Pilot.@@N@@
namespace Jvm.Pilot.@@N@@
open Jvm Jvm.ClassFile Sem Op Lib Jvm.Free Jvm.Stand Jvm.Pilot.@@N@@.Jvm.D
/-! MADE BY PROGRAM (witnessworld.py) out of the Statement's table words and the real class files: 9 classes; the members and pool entries that the words name. The judged class is class 1, her method 1. -/
namespace start1
open Jvm.ClassFile
def u (s : String) : CpInfo := .utf8 (stringToUtf16 s)
/-- a pool by its gaps: so many unusable entries, then the entry; so many at the end -/
def gap : Nat → List CpInfo → List CpInfo
  | 0, r => r
  | n + 1, r => .unusable :: gap n r
def poolList (es : List (Nat × CpInfo)) (last : Nat) : List CpInfo := es.foldr (fun e r => gap e.1 (e.2 :: r)) (gap last [])
def pool (es : List (Nat × CpInfo)) (last : Nat) : Array CpInfo := ⟨poolList es last⟩
def fileOf (pool : Array CpInfo) (this : Nat) (attrs : Array Attribute := #[]) (ms : Array MethodInfo := #[]) (fl : Nat := 33) (sup : Nat := 0) (ifs : Array Nat := #[]) (fds : Array FieldInfo := #[]) : ClassFile where
  minorVersion := 0
  majorVersion := 65
  constantPool := pool
  accessFlags := fl
  thisClass := this
  superClass := sup
  interfaces := ifs
  fields := fds
  methods := ms
  attributes := attrs
def plain (name : String) (sup : Option ClassId) : Class where
  name := name
  kind := .ordinary
  loader := none
  accessFlags := 33
  super := sup
  interfaces := #[]
  cf := none
  fields := #[]
  methods := #[]
  instanceTypes := #[]
  staticTypes := #[]
  resolved := #[]
  callSites := []
  init := .initialized
  statics := none
  mirror := none

def pool0 : Array CpInfo := pool [(5, u "<init>"), (0, u "()V"), (1, .class_ 10), (1, u "java/lang/Object")] 113

def k0m0 : Method := { name := "<init>", desc := "()V", sig := { parameters := [], returnType := none }, accessFlags := 1, code := none }
/-- java/lang/Object -/
def k0 : Class := { plain "java/lang/Object" none with
  accessFlags := 33
  interfaces := #[]
  cf := some (fileOf pool0 8 #[] #[{ accessFlags := 1, nameIndex := 5, descriptorIndex := 6, attributes := #[] }] 33 0 #[] #[])
  fields := #[]
  methods := #[k0m0]
  instanceTypes := #[]
  staticTypes := #[]
  resolved := Array.replicate 124 none
  statics := none }

def pool1 : Array CpInfo := pool [(2, .class_ 4), (1, u "java/lang/Object"), (0, u "<init>"), (0, u "()V"), (0, .integer 65535), (0, .methodref 9 10), (0, .class_ 11), (0, .nameAndType 12 13), (0, u "com/example/corac/corac/Names"), (0, u "isKeyCharacter"), (0, u "(C)Z"), (0, .class_ 15), (0, u "com/example/corac/corac/NamesIsKeyCharacterPinLaw"), (2, u "law"), (0, u "(I)Z")] 3

def k1m0 : Method := { name := "<init>", desc := "()V", sig := { parameters := [], returnType := none }, accessFlags := 2, code := none }
def k1c1 : Code := { maxStack := 2, maxLocals := 8, code := code, exceptionTable := #[], attributes := #[] }
def k1m1 : Method := { name := "law", desc := "(I)Z", sig := { parameters := [.int], returnType := some .boolean }, accessFlags := 9, code := some k1c1 }
/-- com/example/corac/corac/NamesIsKeyCharacterPinLaw -/
def k1 : Class := { plain "com/example/corac/corac/NamesIsKeyCharacterPinLaw" (some 0) with
  accessFlags := 49
  interfaces := #[]
  cf := some (fileOf pool1 14 #[] #[{ accessFlags := 2, nameIndex := 5, descriptorIndex := 6, attributes := #[] }, { accessFlags := 9, nameIndex := 18, descriptorIndex := 19, attributes := #[] }] 49 2 #[] #[])
  fields := #[]
  methods := #[k1m0, k1m1]
  instanceTypes := #[]
  staticTypes := #[]
  resolved := Array.replicate 23 none
  statics := none }

def pool2 : Array CpInfo := pool [(2, .class_ 4), (1, u "java/lang/Object"), (0, u "<init>"), (0, u "()V"), (17, .class_ 26), (1, u "com/example/corac/corac/Names"), (1, u "(C)Z"), (18, .methodref 24 48), (0, .nameAndType 49 28), (0, u "isLetterOrDigit"), (23, u "isKeyCharacter"), (30, u "MAX_LENGTH"), (0, u "I")] 39

def k2m0 : Method := { name := "<init>", desc := "()V", sig := { parameters := [], returnType := none }, accessFlags := 2, code := none }
def k2c1 : Code := { maxStack := 2, maxLocals := 1, code := prog_71_method_4_code, exceptionTable := #[], attributes := #[] }
def k2m1 : Method := { name := "isKeyCharacter", desc := "(C)Z", sig := { parameters := [.char], returnType := some .boolean }, accessFlags := 8, code := some k2c1 }
def k2c2 : Code := { maxStack := 2, maxLocals := 1, code := prog_71_method_8_code, exceptionTable := #[], attributes := #[] }
def k2m2 : Method := { name := "isLetterOrDigit", desc := "(C)Z", sig := { parameters := [.char], returnType := some .boolean }, accessFlags := 10, code := some k2c2 }
/-- com/example/corac/corac/Names -/
def k2 : Class := { plain "com/example/corac/corac/Names" (some 0) with
  accessFlags := 32
  interfaces := #[]
  cf := some (fileOf pool2 24 #[] #[{ accessFlags := 2, nameIndex := 5, descriptorIndex := 6, attributes := #[] }, { accessFlags := 8, nameIndex := 73, descriptorIndex := 28, attributes := #[] }, { accessFlags := 10, nameIndex := 49, descriptorIndex := 28, attributes := #[] }] 32 2 #[] #[{ accessFlags := 26, nameIndex := 104, descriptorIndex := 105, attributes := #[] }])
  fields := #[{ name := "MAX_LENGTH", type := .int, accessFlags := 26, slot := 0, constantValue := 0 }]
  methods := #[k2m0, k2m1, k2m2]
  instanceTypes := #[]
  staticTypes := #[.int]
  resolved := Array.replicate 145 none
  statics := none }

def pool3 : Array CpInfo := pool [(1, u "java/lang/Cloneable"), (0, .class_ 1), (0, u "java/lang/Object"), (0, .class_ 3)] 3

/-- java/lang/Cloneable -/
def k3 : Class := { plain "java/lang/Cloneable" (some 0) with
  accessFlags := 1537
  interfaces := #[]
  cf := some (fileOf pool3 2 #[] #[] 1537 4 #[] #[])
  fields := #[]
  methods := #[]
  instanceTypes := #[]
  staticTypes := #[]
  resolved := Array.replicate 8 none
  statics := none }

def pool4 : Array CpInfo := pool [(1, u "java/io/Serializable"), (0, .class_ 1), (0, u "java/lang/Object"), (0, .class_ 3)] 3

/-- java/io/Serializable -/
def k4 : Class := { plain "java/io/Serializable" (some 0) with
  accessFlags := 1537
  interfaces := #[]
  cf := some (fileOf pool4 2 #[] #[] 1537 4 #[] #[])
  fields := #[]
  methods := #[]
  instanceTypes := #[]
  staticTypes := #[]
  resolved := Array.replicate 8 none
  statics := none }

/-- the primitive byte -/
def k5 : Class := { plain "byte" none with kind := .primitive 'B', accessFlags := 0x411 }
/-- [B -/
def k6 : Class := { plain "[B" (some 0) with kind := .array 5 .byte, interfaces := #[3, 4], accessFlags := 1041 }

/-- the primitive int -/
def k7 : Class := { plain "int" none with kind := .primitive 'I', accessFlags := 0x411 }
/-- [I -/
def k8 : Class := { plain "[I" (some 0) with kind := .array 7 .int, interfaces := #[3, 4], accessFlags := 1041 }

def heap : Heap := #[]
def classes : Array Class := #[k0, k1, k2, k3, k4, k5, k6, k7, k8]
def interned : List (Array UInt16 × Addr) := []
def slotsUsed : Nat := 0
def theMethod : MethodId := ⟨1, 1⟩
def args0 : Array Value := #[.int 65]
def aboutOver (below : List Frame) : State where
  vm := { classes := classes, interned := interned.toArray }
  heap := heap
  slotsUsed := slotsUsed
  threads := #[{ frames := .invoking theMethod args0 :: below }]
def below0 : List Frame := [.native { method := ⟨0, 0⟩, args := #[] }]
def about1 : State := aboutOver below0
def p0 : Program := .bare "" "" ""
def e0 : Env := launch0.env 0 0 0
theorem w_frames : about1.frames = Frame.invoking theMethod args0 :: below0 := rfl
set_option maxRecDepth 65536 in
theorem w_args : argsFit about1.vm theMethod args0 = true := by decide +kernel
set_option maxRecDepth 65536 in
theorem w_heap : heapFits about1 = true := by decide +kernel
set_option maxRecDepth 65536 in
theorem w_runnable : about1.curStatus? = some .runnable := by decide +kernel
set_option maxRecDepth 65536 in
theorem w_alone : about1.alone = true := by decide +kernel
set_option maxRecDepth 65536 in
theorem w_named : about1.methodNamed? x = some theMethod := by decide +kernel
set_option maxRecDepth 65536 in
theorem w_hears : about1.hears theMethod below0 = true := by decide +kernel
set_option maxRecDepth 65536 in
theorem w_ripe : about1.ripe theMethod args0 below0 = true := by decide +kernel
theorem w_running : about1.status = .running := rfl
set_option maxRecDepth 65536 in
theorem w_room : about1.hasRoom e0.platform room_1 = true :=
  launch0.hasRoom_least _ room_1 (by decide +kernel) (by decide +kernel) (by decide +kernel) (by decide +kernel) (by decide +kernel) (by decide +kernel)
theorem allAtoms_all (ts : List Jvm.Cond) (a : Array Jvm.Value) (st : Jvm.State) : (allAtoms ts).before a st = ts.all (fun c => c.before a st) := by
  induction ts with
  | nil => rfl
  | cons c t ih =>
    show (Jvm.Cond.and c (allAtoms t)).before a st = _
    rw [Jvm.Cond.before_and, ih, List.all_cons]
def words1 : List Jvm.Cond := Jvm.Cond.code x code maxLocals ret :: tables_1
/-- a 'code' word, met by the world's own term for the bytes: nothing is compared byte by byte -/
theorem code_word {y : MethodName} {bytes : ByteArray} {mx : Nat} {rt : Option FieldType} {a : Array Value} {s : State} {m : MethodId} {meth : Method} {c : Code} (h1 : s.methodNamed? y = some m) (h2 : s.vm.method? m = some meth) (h3 : meth.code = some c) (h4 : c.code = bytes)
    (h5 : (c.maxLocals == mx && c.exceptionTable.isEmpty && decide (c.maxStack ≤ mostOperands) && decide (meth.sig.returnType = rt) && !meth.locks && decide (parseMethodDescriptor y.desc = some meth.sig)) = true) : (Jvm.Cond.code y bytes mx rt).before a s = true := by
  simp only [Bool.and_eq_true, beq_iff_eq, Bool.not_eq_true', decide_eq_true_eq] at h5
  obtain ⟨⟨⟨⟨⟨g1, g2⟩, g3⟩, g4⟩, g5⟩, g6⟩ := h5
  simp [Cond.before, Cond.holds, Cond.value, h1, h2, h3, h4, g1, g2, g3, g4, g5, g6]
def isCode : Jvm.Cond → Bool
  | .code _ _ _ _ => true
  | _ => false
theorem all_split {L : List Jvm.Cond} {P : Jvm.Cond → Bool} (h1 : L.all (fun c => isCode c || P c) = true) (h2 : ∀ c ∈ L.filter isCode, P c = true) : L.all P = true := by
  refine List.all_eq_true.mpr fun c hc => ?_
  have h := List.all_eq_true.mp h1 c hc
  rcases Bool.eq_false_or_eq_true (isCode c) with hi | hi
  · exact h2 c (List.mem_filter.mpr ⟨hc, hi⟩)
  · simpa [hi] using h
set_option maxRecDepth 65536 in
theorem w_c0 : (Jvm.Cond.code x code maxLocals ret).before args0 about1 = true := code_word (m := ⟨1, 1⟩) (meth := k1m1) (c := k1c1) (by decide +kernel) rfl rfl rfl (by decide +kernel)
set_option maxRecDepth 65536 in
theorem w_c1 : (Jvm.Cond.code ({ cls := "com/example/corac/corac/Names", name := "isKeyCharacter", desc := "(C)Z" } : Jvm.MethodName) prog_71_method_4_code (1 : Nat) (Option.some Jvm.ClassFile.FieldType.boolean)).before args0 about1 = true := code_word (m := ⟨2, 1⟩) (meth := k2m1) (c := k2c1) (by decide +kernel) rfl rfl rfl (by decide +kernel)
set_option maxRecDepth 65536 in
theorem w_c2 : (Jvm.Cond.code ({ cls := "com/example/corac/corac/Names", name := "isLetterOrDigit", desc := "(C)Z" } : Jvm.MethodName) prog_71_method_8_code (1 : Nat) (Option.some Jvm.ClassFile.FieldType.boolean)).before args0 about1 = true := code_word (m := ⟨2, 2⟩) (meth := k2m2) (c := k2c2) (by decide +kernel) rfl rfl rfl (by decide +kernel)
def codes1 : List Jvm.Cond := [Jvm.Cond.code x code maxLocals ret, Jvm.Cond.code ({ cls := "com/example/corac/corac/Names", name := "isKeyCharacter", desc := "(C)Z" } : Jvm.MethodName) prog_71_method_4_code (1 : Nat) (Option.some Jvm.ClassFile.FieldType.boolean), Jvm.Cond.code ({ cls := "com/example/corac/corac/Names", name := "isLetterOrDigit", desc := "(C)Z" } : Jvm.MethodName) prog_71_method_8_code (1 : Nat) (Option.some Jvm.ClassFile.FieldType.boolean)]
set_option maxRecDepth 65536 in
theorem codes_eq : words1.filter isCode = codes1 := rfl
theorem w_codes : ∀ c ∈ words1.filter isCode, c.before args0 about1 = true := by
  rw [codes_eq]
  intro c hc
  simp only [codes1, List.mem_cons, List.not_mem_nil, or_false] at hc
  rcases hc with rfl | rfl | rfl
  · exact w_c0
  · exact w_c1
  · exact w_c2
set_option maxRecDepth 65536 in
theorem w_t1 : words1.all (fun c => isCode c || c.before args0 about1) = true := by decide +kernel
theorem w_tables : (allAtoms (Jvm.Cond.code x code maxLocals ret :: tables_1)).before args0 about1 = true := by
  rw [allAtoms_all]
  show words1.all (fun c => c.before args0 about1) = true
  refine all_split ?_ w_codes
  rw [w_t1]
set_option maxRecDepth 65536 in
theorem w_case : (Jvm.Cond.and given_1 narrow_1).before args0 about1 = true := by decide +kernel
theorem w_applies : (headSpec (Jvm.Cond.code x code maxLocals ret :: tables_1) room_1).applies x e0.platform about1 = true :=
  (Spec.applies_iff w_frames).mpr ⟨w_running, w_runnable, w_alone, w_named, w_hears, w_ripe, w_room, w_tables⟩
theorem atStart : AtStart classFile x code maxLocals ret World_1 tables_1 room_1 Calls_1 rest_1 Pre_1 launch0 p0 e0 about1 theMethod args0 below0 :=
  ⟨lists_1, trivial, launch0.admits_env _ _ _, launch0.least_env, fairChoices_fair.cas, fairChoices_fair.clock, w_frames, w_args, w_heap, w_applies, trivial, trivial, w_case⟩
end start1
theorem witness_1 : WitnessClaimed_1 := ⟨start1.p0, start1.e0, start1.about1, start1.theMethod, start1.args0, start1.below0, start1.atStart⟩
end Jvm.Pilot.@@N@@
