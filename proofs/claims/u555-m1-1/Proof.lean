import JvmDerived
import JvmDerived.Pilot.@@N@@Statement
import JvmDerived.Pilot.@@N@@Code
set_option linter.unusedVariables false
set_option linter.unusedSimpArgs false
namespace Jvm.Pilot.@@N@@
open Jvm Jvm.ClassFile Sem Op Lib Jvm.Free Jvm.Stand Jvm.LawKit Jvm.RoadKit Bundle Jvm.Pilot.@@N@@.Jvm.D
/-- one of the two ints says whether P -/
def own_says (P : Prop) (v : Int32) : Prop := (P ∧ v = 1) ∨ (¬ P ∧ v = 0)
theorem own_says_eq {P Q : Prop} {v w : Int32} (h : own_says P v) (k : own_says Q w) (e : P ↔ Q) : v = w := by
  rcases h with ⟨a, rfl⟩ | ⟨a, rfl⟩ <;> rcases k with ⟨b, rfl⟩ | ⟨b, rfl⟩
  · rfl
  · exact absurd (e.mp a) b
  · exact absurd (e.mpr b) a
  · rfl
theorem own_says_ne {P : Prop} {v : Int32} (h : own_says P v) : (v = 0 ↔ ¬ P) := by
  rcases h with ⟨a, rfl⟩ | ⟨a, rfl⟩
  · simp [a]
  · simp [a]
theorem own_m62 (p : Int64) : 0 ≤ (p &&& 4611686018427387903).toInt ∧ (p &&& 4611686018427387903).toInt < 4611686018427387904 := by
  have := Jvm.RoadKit.c_maskL p 4611686018427387903 62 (by decide) (by decide)
  rw [this]; omega
theorem own_nz (p : Int64) (h : 0 ≤ p.toInt) (h1 : p.toInt < 4611686018427387904) : p + 1 ≠ 0 := fun q => by
  have := Jvm.RoadKit.c_ladd p 1
  have e : (1 : Int64).toInt = 1 := by decide
  rw [q, e] at this
  have e : (0 : Int64).toInt = 0 := by decide
  omega
theorem own_t (u m : Int64) (h : 0 ≤ m.toInt) (h1 : m.toInt < 4611686018427387904) (k : 0 ≤ u.toInt) : 0 ≤ (u - (u / (m + 1)) * (m + 1)).toInt ∧ (u - (u / (m + 1)) * (m + 1)).toInt ≤ m.toInt := by
  have a := Jvm.RoadKit.c_ladd m 1
  have r := Jvm.RoadKit.rng64 (m + 1)
  have e : (1 : Int64).toInt = 1 := by decide
  have e2 : (m + 1).toInt = m.toInt + 1 := by rw [e] at a; omega
  have q := (Jvm.RoadKit.c_lrem u (m + 1) (m.toInt + 1) e2).1 k
  rw [q]
  have b1 := Int.emod_nonneg u.toInt (b := m.toInt + 1) (by omega)
  have b2 := Int.emod_lt_of_pos u.toInt (b := m.toInt + 1) (by omega)
  omega
theorem own_half (z : Int64) : -4611686018427387904 ≤ (z >>> ((1 : Int32) &&& 0x3f).toInt64).toInt ∧ (z >>> ((1 : Int32) &&& 0x3f).toInt64).toInt < 4611686018427387904 := by
  have := Jvm.RoadKit.c_lshr z 1 1 (by decide)
  have r := Jvm.RoadKit.rng64 z
  rw [this]; omega
theorem own_back (t r : Int64) (h : 0 ≤ t.toInt) (h1 : t.toInt < 4611686018427387904) (k : 0 ≤ r.toInt) (k1 : r.toInt < 4611686018427387904) : ((0 : Int64) + (t + r)) + (-r) = t := by
  apply Int64.toInt_inj.mp
  have a := Jvm.RoadKit.c_ladd t r
  have b := Jvm.RoadKit.c_ladd 0 (t + r)
  have c := Jvm.RoadKit.c_lneg r
  have d := Jvm.RoadKit.c_ladd (0 + (t + r)) (-r)
  have e : (0 : Int64).toInt = 0 := by decide
  have r1 := Jvm.RoadKit.rng64 (t + r)
  have r2 := Jvm.RoadKit.rng64 (0 + (t + r))
  have r3 := Jvm.RoadKit.rng64 (-r)
  have r4 := Jvm.RoadKit.rng64 (0 + (t + r) + (-r))
  omega
theorem own_fits (m t x : Int64) (h : 0 ≤ t.toInt) (h0 : t.toInt ≤ m.toInt) (h1 : m.toInt < 4611686018427387904) (k : -4611686018427387904 ≤ x.toInt) (k1 : x.toInt < 4611686018427387904) : (¬ m < t + x) ↔ (¬ (m - t) < x) := by
  have a := Jvm.RoadKit.c_ladd t x
  have b := Jvm.RoadKit.c_lsub m t
  have r1 := Jvm.RoadKit.rng64 (t + x)
  have r2 := Jvm.RoadKit.rng64 (m - t)
  rw [Int64.lt_iff_toInt_lt, Int64.lt_iff_toInt_lt]
  omega
theorem own_atroom (m t : Int64) (h : 0 ≤ t.toInt) (h0 : t.toInt ≤ m.toInt) (h1 : m.toInt < 4611686018427387904) : ¬ m < t + (m - t) := by
  have a := Jvm.RoadKit.c_ladd t (m - t)
  have b := Jvm.RoadKit.c_lsub m t
  have r1 := Jvm.RoadKit.rng64 (t + (m - t))
  have r2 := Jvm.RoadKit.rng64 (m - t)
  rw [Int64.lt_iff_toInt_lt]
  omega
theorem own_past (m t : Int64) (h : 0 ≤ t.toInt) (h0 : t.toInt ≤ m.toInt) (h1 : m.toInt < 4611686018427387904) : m < t + ((m - t) + 1) := by
  have b := Jvm.RoadKit.c_lsub m t
  have c := Jvm.RoadKit.c_ladd (m - t) 1
  have a := Jvm.RoadKit.c_ladd t (m - t + 1)
  have e : (1 : Int64).toInt = 1 := by decide
  have r1 := Jvm.RoadKit.rng64 (t + (m - t + 1))
  have r2 := Jvm.RoadKit.rng64 (m - t)
  have r3 := Jvm.RoadKit.rng64 (m - t + 1)
  rw [Int64.lt_iff_toInt_lt]
  omega
theorem d1_0 : decode prog_20_method_1_code 0 = .ok (.aload_n 0, 1) := by decide +kernel
theorem d1_1 : decode prog_20_method_1_code 1 = .ok (.invokespecial 1, 3) := by decide +kernel
theorem d1_4 : decode prog_20_method_1_code 4 = .ok (.aload_n 0, 1) := by decide +kernel
theorem d1_5 : decode prog_20_method_1_code 5 = .ok (.lload_n 1, 1) := by decide +kernel
theorem d1_6 : decode prog_20_method_1_code 6 = .ok (.putfield 7, 3) := by decide +kernel
theorem d1_9 : decode prog_20_method_1_code 9 = .ok (.return_, 1) := by decide +kernel
theorem own_pd0 : parseMethodDescriptor "()V" = some ⟨[], none⟩ := by decide +kernel
theorem pn_1 : plainName "com/example/offset/offset/group/KeptBytes" = true := by first | (simp [plainName, overriddenIn]; done) | decide +kernel
theorem ef_1 (m : MethodId) (a0 : Addr) (q1 : Int64) : entryFrame m #[(.ref a0), (.long q1)] 3 = mkF m 0 #[.val (.ref a0), .val (.long q1), .second] [] := by first | (simp [entryFrame, mkF, argsToLocals, Value.category]; done) | rfl
def Q1 (Z : State) (ob : Addr) (mx : Int64)  (h0 : Heap) (n0 : Nat) (v : Option Value) (h : Heap) (L : List Loc) : Prop := v = none ∧ Fr n0 L ∧ n0 ≤ h.size ∧ Exa Z h ob "com/example/offset/offset/group/KeptBytes" ∧ Fld Z h ob "com/example/offset/offset/group/KeptBytes" "maxBytes" "J" (.long mx) ∧ Fld Z h ob "com/example/offset/offset/group/KeptBytes" "bytes" "J" (.long 0)
set_option maxRecDepth 65536 in
set_option maxHeartbeats 40000000 in
theorem rm1 (l : Launch) (Z : State) (a0 : Array Value) (hw : ∀ d ∈ tables_1, d.before a0 Z = true) (ws : List Jvm.Cond) (ob : Addr) (mx : Int64)  (h0 : Heap) (n0 : Nat) (Z0 : n0 ≤ h0.size) (Ex : Exa Z h0 ob "com/example/offset/offset/group/KeptBytes") (Fm : Fld Z h0 ob "com/example/offset/offset/group/KeptBytes" "maxBytes" "J" (.long 0)) (Fb : Fld Z h0 ob "com/example/offset/offset/group/KeptBytes" "bytes" "J" (.long 0)) (ga : n0 ≤ ob) :
    MetFree l (⟨"com/example/offset/offset/group/KeptBytes", "<init>", "(J)V"⟩ : MethodName) (head1 (Jvm.Cond.code (⟨"com/example/offset/offset/group/KeptBytes", "<init>", "(J)V"⟩ : MethodName) prog_20_method_1_code 3 none :: ws) ({ frames := 1, cells := 0, slots := 0, locals := 12 } : Room)) (fun a U => a = #[(.ref ob), (.long mx)] ∧ Z.Warmed39 U.vm ∧ U.heap = h0) (fun _ _ _ _ _ => True) (fun _ U o U' => ∃ v L, o = .returned v ∧ Q1 Z ob mx h0 n0 v U'.heap L ∧ FrameEnd U o U' L ({ frames := 1, cells := 0, slots := 0, locals := 12 } : Room).cells ({ frames := 1, cells := 0, slots := 0, locals := 12 } : Room).slots) := by
  refine MetFree.of_bodySF (plainFor_of_name pn_1) hisR ?_
  intro p e s m args below meth c s₁ Bd hml0 hP hK
  obtain ⟨rfl, hZ, hh⟩ := hP
  have hx := Bd.exec
  have hby := Bd.bytes
  have hml : c.maxLocals = 3 := hml0
  have hown : s.vm.findClass "com/example/offset/offset/group/KeptBytes" = some m.cls := findClass_of_methodNamed Bd.named
  have hnm := (name_of_methodNamed Bd.named Bd.method).1
  have X0 : Stand p l e ({ frames := 1, cells := 0, slots := 0, locals := 12 } : Room) s m #[(.ref ob), (.long mx)] below meth c s₁ [] 0 0 := Stand.of_body Bd
  have e0 : s₁.heap = h0 := by rw [← hh, Bd.state]; rfl
  have N0 := Fr.nil n0
  have pre0 : ∀ t, Steps p.tables e below (s₁.setTop (mkF m 0 #[.val (.ref ob), .val (.long mx), .second] [])) t → Steps p.tables e below (s₁.setTop (entryFrame m #[(.ref ob), (.long mx)] 3)) t := fun t k => castTop (ef_1 m ob mx) k
  obtain ⟨T1, X1, e1, st1⟩ := initO X0 hx hZ hown (hw _ (List.mem_of_getElem? (i := 7) rfl)) (hw _ (List.mem_of_getElem? (i := 8) rfl)) (hw _ (List.mem_of_getElem? (i := 9) rfl)) e0 (g := (mkF m 1 #[.val (.ref ob), .val (.long mx), .second] [(.ref ob)])) rfl (by rw [hml]; rfl) rfl (hb hby d1_1) (by decide) (W := 0) (by show 2 * 0 + _ ≤ _; exact Nat.le_of_eq rfl) (by decide)
  obtain ⟨T2, h2, X2, e2, W2, st2⟩ := putF X1 hx hZ hown (host := "") (Or.inl (hw _ (List.mem_of_getElem? (i := 10) rfl))) Via.refl e1 Fm Ex (Or.inr ⟨(hw _ (List.mem_of_getElem? (i := 11) rfl)), rfl, hnm⟩) (hw _ (List.mem_of_getElem? (i := 2) rfl)) (ty := .long) (by decide) rfl rfl (g := (mkF m 6 #[.val (.ref ob), .val (.long mx), .second] [(.long mx), (.ref ob)])) rfl rfl (hb hby d1_6)
  have N2 := Fr.snoc X2 N0 ga
  have Z2 : n0 ≤ h2.size := Nat.le_trans Z0 (Nat.le_of_eq W2.size.symm)
  have pre3 : ∀ t, Steps p.tables e below (T2.setTop (mkF m 9 #[.val (.ref ob), .val (.long mx), .second] [])) t → Steps p.tables e below (s₁.setTop (entryFrame m #[(.ref ob), (.long mx)] 3)) t := fun t k => pre0 t (by
      show Steps p.tables e below (s₁.setTop (mkF m 0 #[.val (.ref ob), .val (.long mx), .second] [])) _
      refine XS.aloadN X0.here hx rfl (hb hby d1_0) rfl rfl ?_
      show Steps p.tables e below (s₁.setTop (mkF m 1 #[.val (.ref ob), .val (.long mx), .second] [(.ref ob)])) _
      refine st1 _ ?_
      show Steps p.tables e below (T1.setTop (mkF m 4 #[.val (.ref ob), .val (.long mx), .second] [])) _
      refine XS.aloadN X1.here hx rfl (hb hby d1_4) rfl rfl ?_
      show Steps p.tables e below (T1.setTop (mkF m 5 #[.val (.ref ob), .val (.long mx), .second] [(.ref ob)])) _
      refine XS.lloadN X1.here hx rfl (hb hby d1_5) rfl ?_
      show Steps p.tables e below (T1.setTop (mkF m 6 #[.val (.ref ob), .val (.long mx), .second] [(.long mx), (.ref ob)])) _
      refine st2 _ ?_
      exact k)
  obtain ⟨fs, hr, hrun, hended, hW, hsame⟩ := X2.leave (v := none) (fun _ => rfl)
  refine ⟨_, _, pre3 _ ?_, hrun, hended, _, _, rfl, ?_, ⟨_, rfl⟩, hW, hsame.mono (by decide) (by decide)⟩
  · show Steps p.tables e below (T2.setTop (mkF m 9 #[.val (.ref ob), .val (.long mx), .second] [])) _
    exact X2.returnOut hx Bd.returns (hb hby d1_9) hr
  · show Q1 Z ob mx h0 n0 _ T2.heap _
    rw [e2]
    exact ⟨rfl, N2, Z2, Ex.wr W2, Fm.same W2, Fb.other W2 (Or.inr (slot_ne (Or.inl (hw _ (List.mem_of_getElem? (i := 18) rfl))) (Or.inr (hw _ (List.mem_of_getElem? (i := 11) rfl))) (by decide) (t := .long) (t' := .long) (by decide) (by decide)))⟩
theorem d3_0 : decode prog_20_method_3_code 0 = .ok (.aload_n 0, 1) := by decide +kernel
theorem d3_1 : decode prog_20_method_3_code 1 = .ok (.dup, 1) := by decide +kernel
theorem d3_2 : decode prog_20_method_3_code 2 = .ok (.getfield 13, 3) := by decide +kernel
theorem d3_5 : decode prog_20_method_3_code 5 = .ok (.lload_n 1, 1) := by decide +kernel
theorem d3_6 : decode prog_20_method_3_code 6 = .ok (.ladd, 1) := by decide +kernel
theorem d3_7 : decode prog_20_method_3_code 7 = .ok (.putfield 13, 3) := by decide +kernel
theorem d3_10 : decode prog_20_method_3_code 10 = .ok (.return_, 1) := by decide +kernel
theorem pn_3 : plainName "com/example/offset/offset/group/KeptBytes" = true := by first | (simp [plainName, overriddenIn]; done) | decide +kernel
theorem ef_3 (m : MethodId) (a0 : Addr) (q1 : Int64) : entryFrame m #[(.ref a0), (.long q1)] 3 = mkF m 0 #[.val (.ref a0), .val (.long q1), .second] [] := by first | (simp [entryFrame, mkF, argsToLocals, Value.category]; done) | rfl
def Q3 (Z : State) (ob : Addr) (dl : Int64) (mx : Int64) (bt : Int64) (h0 : Heap) (n0 : Nat) (v : Option Value) (h : Heap) (L : List Loc) : Prop := v = none ∧ Fr n0 L ∧ n0 ≤ h.size ∧ Exa Z h ob "com/example/offset/offset/group/KeptBytes" ∧ Fld Z h ob "com/example/offset/offset/group/KeptBytes" "maxBytes" "J" (.long mx) ∧ Fld Z h ob "com/example/offset/offset/group/KeptBytes" "bytes" "J" (.long (bt + dl))
set_option maxRecDepth 65536 in
set_option maxHeartbeats 40000000 in
theorem rm3 (l : Launch) (Z : State) (a0 : Array Value) (hw : ∀ d ∈ tables_1, d.before a0 Z = true) (ws : List Jvm.Cond) (ob : Addr) (dl : Int64) (mx : Int64) (bt : Int64) (h0 : Heap) (n0 : Nat) (Z0 : n0 ≤ h0.size) (Ex : Exa Z h0 ob "com/example/offset/offset/group/KeptBytes") (Fm : Fld Z h0 ob "com/example/offset/offset/group/KeptBytes" "maxBytes" "J" (.long mx)) (Fb : Fld Z h0 ob "com/example/offset/offset/group/KeptBytes" "bytes" "J" (.long bt)) (ga : n0 ≤ ob) :
    MetFree l (⟨"com/example/offset/offset/group/KeptBytes", "add", "(J)V"⟩ : MethodName) (head1 (Jvm.Cond.code (⟨"com/example/offset/offset/group/KeptBytes", "add", "(J)V"⟩ : MethodName) prog_20_method_3_code 3 none :: ws) ({ frames := 0, cells := 0, slots := 0, locals := 0 } : Room)) (fun a U => a = #[(.ref ob), (.long dl)] ∧ Z.Warmed39 U.vm ∧ U.heap = h0) (fun _ _ _ _ _ => True) (fun _ U o U' => ∃ v L, o = .returned v ∧ Q3 Z ob dl mx bt h0 n0 v U'.heap L ∧ FrameEnd U o U' L ({ frames := 0, cells := 0, slots := 0, locals := 0 } : Room).cells ({ frames := 0, cells := 0, slots := 0, locals := 0 } : Room).slots) := by
  refine MetFree.of_bodySF (plainFor_of_name pn_3) hisR ?_
  intro p e s m args below meth c s₁ Bd hml0 hP hK
  obtain ⟨rfl, hZ, hh⟩ := hP
  have hx := Bd.exec
  have hby := Bd.bytes
  have hml : c.maxLocals = 3 := hml0
  have hown : s.vm.findClass "com/example/offset/offset/group/KeptBytes" = some m.cls := findClass_of_methodNamed Bd.named
  have hnm := (name_of_methodNamed Bd.named Bd.method).1
  have X0 : Stand p l e ({ frames := 0, cells := 0, slots := 0, locals := 0 } : Room) s m #[(.ref ob), (.long dl)] below meth c s₁ [] 0 0 := Stand.of_body Bd
  have e0 : s₁.heap = h0 := by rw [← hh, Bd.state]; rfl
  have N0 := Fr.nil n0
  have pre0 : ∀ t, Steps p.tables e below (s₁.setTop (mkF m 0 #[.val (.ref ob), .val (.long dl), .second] [])) t → Steps p.tables e below (s₁.setTop (entryFrame m #[(.ref ob), (.long dl)] 3)) t := fun t k => castTop (ef_3 m ob dl) k
  obtain ⟨T4, X4, e4, st4⟩ := getF X0 hx hZ hown (host := "") (Or.inl (hw _ (List.mem_of_getElem? (i := 17) rfl))) Via.refl e0 Fb (g := (mkF m 2 #[.val (.ref ob), .val (.long dl), .second] [(.ref ob), (.ref ob)])) rfl rfl (hb hby d3_2)
  obtain ⟨T5, h5, X5, e5, W5, st5⟩ := putF X4 hx hZ hown (host := "") (Or.inl (hw _ (List.mem_of_getElem? (i := 17) rfl))) Via.refl e4 Fb Ex (Or.inl (hw _ (List.mem_of_getElem? (i := 18) rfl))) (hw _ (List.mem_of_getElem? (i := 2) rfl)) (ty := .long) (by decide) rfl rfl (g := (mkF m 7 #[.val (.ref ob), .val (.long dl), .second] [(.long (bt + dl)), (.ref ob)])) rfl rfl (hb hby d3_7)
  have N5 := Fr.snoc X5 N0 ga
  have Z5 : n0 ≤ h5.size := Nat.le_trans Z0 (Nat.le_of_eq W5.size.symm)
  have pre6 : ∀ t, Steps p.tables e below (T5.setTop (mkF m 10 #[.val (.ref ob), .val (.long dl), .second] [])) t → Steps p.tables e below (s₁.setTop (entryFrame m #[(.ref ob), (.long dl)] 3)) t := fun t k => pre0 t (by
      show Steps p.tables e below (s₁.setTop (mkF m 0 #[.val (.ref ob), .val (.long dl), .second] [])) _
      refine XS.aloadN X0.here hx rfl (hb hby d3_0) rfl rfl ?_
      show Steps p.tables e below (s₁.setTop (mkF m 1 #[.val (.ref ob), .val (.long dl), .second] [(.ref ob)])) _
      refine XS.dup X0.here hx rfl (hb hby d3_1) rfl rfl ?_
      show Steps p.tables e below (s₁.setTop (mkF m 2 #[.val (.ref ob), .val (.long dl), .second] [(.ref ob), (.ref ob)])) _
      refine st4 _ ?_
      show Steps p.tables e below (T4.setTop (mkF m 5 #[.val (.ref ob), .val (.long dl), .second] [(.long bt), (.ref ob)])) _
      refine XS.lloadN X4.here hx rfl (hb hby d3_5) rfl ?_
      show Steps p.tables e below (T4.setTop (mkF m 6 #[.val (.ref ob), .val (.long dl), .second] [(.long dl), (.long bt), (.ref ob)])) _
      refine XS.ladd X4.here hx rfl (hb hby d3_6) rfl ?_
      show Steps p.tables e below (T4.setTop (mkF m 7 #[.val (.ref ob), .val (.long dl), .second] [(.long (bt + dl)), (.ref ob)])) _
      refine st5 _ ?_
      exact k)
  obtain ⟨fs, hr, hrun, hended, hW, hsame⟩ := X5.leave (v := none) (fun _ => rfl)
  refine ⟨_, _, pre6 _ ?_, hrun, hended, _, _, rfl, ?_, ⟨_, rfl⟩, hW, hsame.mono (by decide) (by decide)⟩
  · show Steps p.tables e below (T5.setTop (mkF m 10 #[.val (.ref ob), .val (.long dl), .second] [])) _
    exact X5.returnOut hx Bd.returns (hb hby d3_10) hr
  · show Q3 Z ob dl mx bt h0 n0 _ T5.heap _
    rw [e5]
    exact ⟨rfl, N5, Z5, Ex.wr W5, Fm.other W5 (Or.inr (slot_ne (Or.inr (hw _ (List.mem_of_getElem? (i := 11) rfl))) (Or.inl (hw _ (List.mem_of_getElem? (i := 18) rfl))) (by decide) (t := .long) (t' := .long) (by decide) (by decide))), Fb.same W5⟩
theorem d4_0 : decode prog_20_method_2_code 0 = .ok (.aload_n 0, 1) := by decide +kernel
theorem d4_1 : decode prog_20_method_2_code 1 = .ok (.getfield 13, 3) := by decide +kernel
theorem d4_4 : decode prog_20_method_2_code 4 = .ok (.lload_n 1, 1) := by decide +kernel
theorem d4_5 : decode prog_20_method_2_code 5 = .ok (.ladd, 1) := by decide +kernel
theorem d4_6 : decode prog_20_method_2_code 6 = .ok (.aload_n 0, 1) := by decide +kernel
theorem d4_7 : decode prog_20_method_2_code 7 = .ok (.getfield 7, 3) := by decide +kernel
theorem d4_10 : decode prog_20_method_2_code 10 = .ok (.lcmp, 1) := by decide +kernel
theorem d4_11 : decode prog_20_method_2_code 11 = .ok (.ifCond .gt 7, 3) := by decide +kernel
theorem d4_14 : decode prog_20_method_2_code 14 = .ok (.iconst 1, 1) := by decide +kernel
theorem d4_15 : decode prog_20_method_2_code 15 = .ok (.goto 4, 3) := by decide +kernel
theorem d4_18 : decode prog_20_method_2_code 18 = .ok (.iconst 0, 1) := by decide +kernel
theorem d4_19 : decode prog_20_method_2_code 19 = .ok (.ireturn, 1) := by decide +kernel
theorem pn_4 : plainName "com/example/offset/offset/group/KeptBytes" = true := by first | (simp [plainName, overriddenIn]; done) | decide +kernel
theorem ef_4 (m : MethodId) (a0 : Addr) (q1 : Int64) : entryFrame m #[(.ref a0), (.long q1)] 3 = mkF m 0 #[.val (.ref a0), .val (.long q1), .second] [] := by first | (simp [entryFrame, mkF, argsToLocals, Value.category]; done) | rfl
def Q4 (Z : State) (ob : Addr) (mo : Int64) (mx : Int64) (bt : Int64) (h0 : Heap) (n0 : Nat) (v : Option Value) (h : Heap) (L : List Loc) : Prop := ∃ z : Int32, v = some (.int z) ∧ own_says (¬ mx < bt + mo) z ∧ Fr n0 L ∧ h = h0
set_option maxRecDepth 65536 in
set_option maxHeartbeats 40000000 in
theorem rm4 (l : Launch) (Z : State) (a0 : Array Value) (hw : ∀ d ∈ tables_1, d.before a0 Z = true) (ws : List Jvm.Cond) (ob : Addr) (mo : Int64) (mx : Int64) (bt : Int64) (h0 : Heap) (n0 : Nat) (Z0 : n0 ≤ h0.size) (Fm : Fld Z h0 ob "com/example/offset/offset/group/KeptBytes" "maxBytes" "J" (.long mx)) (Fb : Fld Z h0 ob "com/example/offset/offset/group/KeptBytes" "bytes" "J" (.long bt)) :
    MetFree l (⟨"com/example/offset/offset/group/KeptBytes", "fits", "(J)Z"⟩ : MethodName) (head1 (Jvm.Cond.code (⟨"com/example/offset/offset/group/KeptBytes", "fits", "(J)Z"⟩ : MethodName) prog_20_method_2_code 3 (some .boolean) :: ws) ({ frames := 0, cells := 0, slots := 0, locals := 0 } : Room)) (fun a U => a = #[(.ref ob), (.long mo)] ∧ Z.Warmed39 U.vm ∧ U.heap = h0) (fun _ _ _ _ _ => True) (fun _ U o U' => ∃ v L, o = .returned v ∧ Q4 Z ob mo mx bt h0 n0 v U'.heap L ∧ FrameEnd U o U' L ({ frames := 0, cells := 0, slots := 0, locals := 0 } : Room).cells ({ frames := 0, cells := 0, slots := 0, locals := 0 } : Room).slots) := by
  refine MetFree.of_bodySF (plainFor_of_name pn_4) hisR ?_
  intro p e s m args below meth c s₁ Bd hml0 hP hK
  obtain ⟨rfl, hZ, hh⟩ := hP
  have hx := Bd.exec
  have hby := Bd.bytes
  have hml : c.maxLocals = 3 := hml0
  have hown : s.vm.findClass "com/example/offset/offset/group/KeptBytes" = some m.cls := findClass_of_methodNamed Bd.named
  have hnm := (name_of_methodNamed Bd.named Bd.method).1
  have X0 : Stand p l e ({ frames := 0, cells := 0, slots := 0, locals := 0 } : Room) s m #[(.ref ob), (.long mo)] below meth c s₁ [] 0 0 := Stand.of_body Bd
  have e0 : s₁.heap = h0 := by rw [← hh, Bd.state]; rfl
  have N0 := Fr.nil n0
  have pre0 : ∀ t, Steps p.tables e below (s₁.setTop (mkF m 0 #[.val (.ref ob), .val (.long mo), .second] [])) t → Steps p.tables e below (s₁.setTop (entryFrame m #[(.ref ob), (.long mo)] 3)) t := fun t k => castTop (ef_4 m ob mo) k
  obtain ⟨T7, X7, e7, st7⟩ := getF X0 hx hZ hown (host := "") (Or.inl (hw _ (List.mem_of_getElem? (i := 17) rfl))) Via.refl e0 Fb (g := (mkF m 1 #[.val (.ref ob), .val (.long mo), .second] [(.ref ob)])) rfl rfl (hb hby d4_1)
  obtain ⟨T8, X8, e8, st8⟩ := getF X7 hx hZ hown (host := "") (Or.inl (hw _ (List.mem_of_getElem? (i := 10) rfl))) Via.refl e7 Fm (g := (mkF m 7 #[.val (.ref ob), .val (.long mo), .second] [(.ref ob), (.long (bt + mo))])) rfl rfl (hb hby d4_7)
  have pre9 : ∀ t, Steps p.tables e below (T8.setTop (mkF m 11 #[.val (.ref ob), .val (.long mo), .second] [(.int (lcmpW (bt + mo) mx))])) t → Steps p.tables e below (s₁.setTop (entryFrame m #[(.ref ob), (.long mo)] 3)) t := fun t k => pre0 t (by
      show Steps p.tables e below (s₁.setTop (mkF m 0 #[.val (.ref ob), .val (.long mo), .second] [])) _
      refine XS.aloadN X0.here hx rfl (hb hby d4_0) rfl rfl ?_
      show Steps p.tables e below (s₁.setTop (mkF m 1 #[.val (.ref ob), .val (.long mo), .second] [(.ref ob)])) _
      refine st7 _ ?_
      show Steps p.tables e below (T7.setTop (mkF m 4 #[.val (.ref ob), .val (.long mo), .second] [(.long bt)])) _
      refine XS.lloadN X7.here hx rfl (hb hby d4_4) rfl ?_
      show Steps p.tables e below (T7.setTop (mkF m 5 #[.val (.ref ob), .val (.long mo), .second] [(.long mo), (.long bt)])) _
      refine XS.ladd X7.here hx rfl (hb hby d4_5) rfl ?_
      show Steps p.tables e below (T7.setTop (mkF m 6 #[.val (.ref ob), .val (.long mo), .second] [(.long (bt + mo))])) _
      refine XS.aloadN X7.here hx rfl (hb hby d4_6) rfl rfl ?_
      show Steps p.tables e below (T7.setTop (mkF m 7 #[.val (.ref ob), .val (.long mo), .second] [(.ref ob), (.long (bt + mo))])) _
      refine st8 _ ?_
      show Steps p.tables e below (T8.setTop (mkF m 10 #[.val (.ref ob), .val (.long mo), .second] [(.long mx), (.long (bt + mo))])) _
      refine XS.lcmp X8.here hx rfl (hb hby d4_10) rfl ?_
      exact k)
  by_cases hc11 : mx < (bt + mo)
  · skip
    have pre10 : ∀ t, Steps p.tables e below (T8.setTop (mkF m 19 #[.val (.ref ob), .val (.long mo), .second] [(.int (0 : Int32))])) t → Steps p.tables e below (s₁.setTop (entryFrame m #[(.ref ob), (.long mo)] 3)) t := fun t k => pre9 t (by
        show Steps p.tables e below (T8.setTop (mkF m 11 #[.val (.ref ob), .val (.long mo), .second] [(.int (lcmpW (bt + mo) mx))])) _
        refine XS.ifYes X8.here hx rfl (pc0 := 11) (pc' := 18) rfl (hb hby d4_11) rfl ((if0 _ _).trans (tlt ((lw_gt _ _).mpr hc11)).2.2.1) (by decide) (by decide) ?_
        show Steps p.tables e below (T8.setTop (mkF m 18 #[.val (.ref ob), .val (.long mo), .second] [])) _
        refine XS.iconst X8.here hx rfl (hb hby d4_18) ?_
        exact k)
    obtain ⟨fs, hr, hrun, hended, hW, hsame⟩ := X8.leave (v := some (.int (0 : Int32))) (fun h => by rw [Bd.returns] at h; cases h)
    refine ⟨_, _, pre10 _ ?_, hrun, hended, _, _, rfl, ?_, ⟨_, rfl⟩, hW, hsame.mono (by decide) (by decide)⟩
    · show Steps p.tables e below (T8.setTop (mkF m 19 #[.val (.ref ob), .val (.long mo), .second] [(.int (0 : Int32))])) _
      exact retN X8 hx (t := .boolean) Bd.returns (by simp) (hb hby d4_19) hr
    · show Q4 Z ob mo mx bt h0 n0 _ T8.heap _
      rw [e8]
      exact ⟨(0 : Int32), rfl, (by simp [own_says, hc11]), N0, rfl⟩
  · skip
    have pre11 : ∀ t, Steps p.tables e below (T8.setTop (mkF m 19 #[.val (.ref ob), .val (.long mo), .second] [(.int (1 : Int32))])) t → Steps p.tables e below (s₁.setTop (entryFrame m #[(.ref ob), (.long mo)] 3)) t := fun t k => pre9 t (by
        show Steps p.tables e below (T8.setTop (mkF m 11 #[.val (.ref ob), .val (.long mo), .second] [(.int (lcmpW (bt + mo) mx))])) _
        refine XS.ifNo X8.here hx rfl (hb hby d4_11) rfl ((if0 _ _).trans (flt (fun q => hc11 ((lw_gt _ _).mp q))).2.2.1) ?_
        show Steps p.tables e below (T8.setTop (mkF m 14 #[.val (.ref ob), .val (.long mo), .second] [])) _
        refine XS.iconst X8.here hx rfl (hb hby d4_14) ?_
        show Steps p.tables e below (T8.setTop (mkF m 15 #[.val (.ref ob), .val (.long mo), .second] [(.int (1 : Int32))])) _
        refine XS.goto X8.here hx rfl (pc0 := 15) (pc' := 19) rfl (hb hby d4_15) (by decide) (by decide) ?_
        exact k)
    obtain ⟨fs, hr, hrun, hended, hW, hsame⟩ := X8.leave (v := some (.int (1 : Int32))) (fun h => by rw [Bd.returns] at h; cases h)
    refine ⟨_, _, pre11 _ ?_, hrun, hended, _, _, rfl, ?_, ⟨_, rfl⟩, hW, hsame.mono (by decide) (by decide)⟩
    · show Steps p.tables e below (T8.setTop (mkF m 19 #[.val (.ref ob), .val (.long mo), .second] [(.int (1 : Int32))])) _
      exact retN X8 hx (t := .boolean) Bd.returns (by simp) (hb hby d4_19) hr
    · show Q4 Z ob mo mx bt h0 n0 _ T8.heap _
      rw [e8]
      exact ⟨(1 : Int32), rfl, (by simp [own_says, hc11]), N0, rfl⟩
theorem own_pd1 : parseMethodDescriptor "(J)V" = some ⟨[.long], none⟩ := by decide +kernel
theorem own_pd2 : parseMethodDescriptor "(J)Z" = some ⟨[.long], some .boolean⟩ := by decide +kernel
theorem pn_0 : plainName "com/example/offset/offset/group/KeptBytesFitsPinLaw" = true := by first | (simp [plainName, overriddenIn]; done) | decide +kernel
theorem ef_0 (m : MethodId) (q0 : Int64) (q1 : Int64) (q2 : Int64) (q3 : Int64) : entryFrame m #[(.long q0), (.long q1), (.long q2), (.long q3)] maxLocals = mkF m 0 #[.val (.long q0), .second, .val (.long q1), .second, .val (.long q2), .second, .val (.long q3), .second, .unset, .unset, .unset, .unset, .unset, .unset, .unset, .unset, .unset, .unset, .unset, .unset, .unset, .unset, .unset, .unset] [] := by first | (simp [entryFrame, mkF, argsToLocals, Value.category, maxLocals]; done) | rfl
def Q0 (Z : State) (m1 : Int64) (b1 : Int64) (r1 : Int64) (x1 : Int64)  (h0 : Heap) (n0 : Nat) (v : Option Value) (h : Heap) (L : List Loc) : Prop := v = some (.int 1) ∧ Fr n0 L
set_option maxRecDepth 65536 in
set_option maxHeartbeats 40000000 in
theorem rm0 (l : Launch) (Z : State) (a0 : Array Value) (hw : ∀ d ∈ tables_1, d.before a0 Z = true) (ws : List Jvm.Cond) (m1 : Int64) (b1 : Int64) (r1 : Int64) (x1 : Int64)  (h0 : Heap) (n0 : Nat) (Z0 : n0 ≤ h0.size)  :
    MetFree l x (head1 (Jvm.Cond.code x code maxLocals ret :: ws) room_1) (fun a U => a = #[(.long m1), (.long b1), (.long r1), (.long x1)] ∧ Z.Warmed39 U.vm ∧ U.heap = h0) (fun _ _ _ _ _ => True) (fun _ U o U' => ∃ v L, o = .returned v ∧ Q0 Z m1 b1 r1 x1 h0 n0 v U'.heap L ∧ FrameEnd U o U' L room_1.cells room_1.slots) := by
  refine MetFree.of_bodySF (plainFor_of_name pn_0) hisR ?_
  intro p e s m args below meth c s₁ Bd hml0 hP hK
  obtain ⟨rfl, hZ, hh⟩ := hP
  have hx := Bd.exec
  have hby := Bd.bytes
  have hml : c.maxLocals = 24 := hml0
  have hown : s.vm.findClass "com/example/offset/offset/group/KeptBytesFitsPinLaw" = some m.cls := findClass_of_methodNamed Bd.named
  have hnm := (name_of_methodNamed Bd.named Bd.method).1
  have X0 : Stand p l e room_1 s m #[(.long m1), (.long b1), (.long r1), (.long x1)] below meth c s₁ [] 0 0 := Stand.of_body Bd
  have e0 : s₁.heap = h0 := by rw [← hh, Bd.state]; rfl
  have N0 := Fr.nil n0
  have pre0 : ∀ t, Steps p.tables e below (s₁.setTop (mkF m 0 #[.val (.long m1), .second, .val (.long b1), .second, .val (.long r1), .second, .val (.long x1), .second, .unset, .unset, .unset, .unset, .unset, .unset, .unset, .unset, .unset, .unset, .unset, .unset, .unset, .unset, .unset, .unset] [])) t → Steps p.tables e below (s₁.setTop (entryFrame m #[(.long m1), (.long b1), (.long r1), (.long x1)] maxLocals)) t := fun t k => castTop (ef_0 m m1 b1 r1 x1) k
  have pre12 : ∀ t, Steps p.tables e below (s₁.setTop (mkF m 7 #[.val (.long m1), .second, .val (.long b1), .second, .val (.long r1), .second, .val (.long x1), .second, .val (.long (m1 &&& (4611686018427387903 : Int64))), .second, .unset, .unset, .unset, .unset, .unset, .unset, .unset, .unset, .unset, .unset, .unset, .unset, .unset, .unset] [])) t → Steps p.tables e below (s₁.setTop (entryFrame m #[(.long m1), (.long b1), (.long r1), (.long x1)] maxLocals)) t := fun t k => pre0 t (by
      show Steps p.tables e below (s₁.setTop (mkF m 0 #[.val (.long m1), .second, .val (.long b1), .second, .val (.long r1), .second, .val (.long x1), .second, .unset, .unset, .unset, .unset, .unset, .unset, .unset, .unset, .unset, .unset, .unset, .unset, .unset, .unset, .unset, .unset] [])) _
      refine XS.lloadN X0.here hx rfl (hb hby at_0) rfl ?_
      show Steps p.tables e below (s₁.setTop (mkF m 1 #[.val (.long m1), .second, .val (.long b1), .second, .val (.long r1), .second, .val (.long x1), .second, .unset, .unset, .unset, .unset, .unset, .unset, .unset, .unset, .unset, .unset, .unset, .unset, .unset, .unset, .unset, .unset] [(.long m1)])) _
      refine X0.ldc2Long hx hown (mvT hZ (hw _ (List.mem_of_getElem? (i := 0) rfl))) (g := (mkF m 1 #[.val (.long m1), .second, .val (.long b1), .second, .val (.long r1), .second, .val (.long x1), .second, .unset, .unset, .unset, .unset, .unset, .unset, .unset, .unset, .unset, .unset, .unset, .unset, .unset, .unset, .unset, .unset] [(.long m1)])) rfl (hb hby at_1) _ ?_
      show Steps p.tables e below (s₁.setTop (mkF m 4 #[.val (.long m1), .second, .val (.long b1), .second, .val (.long r1), .second, .val (.long x1), .second, .unset, .unset, .unset, .unset, .unset, .unset, .unset, .unset, .unset, .unset, .unset, .unset, .unset, .unset, .unset, .unset] [(.long (4611686018427387903 : Int64)), (.long m1)])) _
      refine XS.land X0.here hx rfl (hb hby at_4) rfl ?_
      show Steps p.tables e below (s₁.setTop (mkF m 5 #[.val (.long m1), .second, .val (.long b1), .second, .val (.long r1), .second, .val (.long x1), .second, .unset, .unset, .unset, .unset, .unset, .unset, .unset, .unset, .unset, .unset, .unset, .unset, .unset, .unset, .unset, .unset] [(.long (m1 &&& (4611686018427387903 : Int64)))])) _
      refine XS.lstore X0.here hx rfl (hb hby at_5) rfl (l' := #[.val (.long m1), .second, .val (.long b1), .second, .val (.long r1), .second, .val (.long x1), .second, .val (.long (m1 &&& (4611686018427387903 : Int64))), .second, .unset, .unset, .unset, .unset, .unset, .unset, .unset, .unset, .unset, .unset, .unset, .unset, .unset, .unset]) rfl ?_
      exact k)
  obtain ⟨mx, d_mx⟩ : ∃ z, z = (m1 &&& (4611686018427387903 : Int64)) := ⟨_, rfl⟩
  rw [← d_mx] at pre12
  have hm := own_m62 m1
  rw [← d_mx] at hm
  have pre13 : ∀ t, Steps p.tables e below (s₁.setTop (mkF m 19 #[.val (.long m1), .second, .val (.long b1), .second, .val (.long r1), .second, .val (.long x1), .second, .val (.long mx), .second, .val (.long ((b1 &&& (4611686018427387903 : Int64)) - ((b1 &&& (4611686018427387903 : Int64)) / (mx + (1 : Int64))) * (mx + (1 : Int64)))), .second, .unset, .unset, .unset, .unset, .unset, .unset, .unset, .unset, .unset, .unset, .unset, .unset] [])) t → Steps p.tables e below (s₁.setTop (entryFrame m #[(.long m1), (.long b1), (.long r1), (.long x1)] maxLocals)) t := fun t k => pre12 t (by
      show Steps p.tables e below (s₁.setTop (mkF m 7 #[.val (.long m1), .second, .val (.long b1), .second, .val (.long r1), .second, .val (.long x1), .second, .val (.long mx), .second, .unset, .unset, .unset, .unset, .unset, .unset, .unset, .unset, .unset, .unset, .unset, .unset, .unset, .unset] [])) _
      refine XS.lloadN X0.here hx rfl (hb hby at_7) rfl ?_
      show Steps p.tables e below (s₁.setTop (mkF m 8 #[.val (.long m1), .second, .val (.long b1), .second, .val (.long r1), .second, .val (.long x1), .second, .val (.long mx), .second, .unset, .unset, .unset, .unset, .unset, .unset, .unset, .unset, .unset, .unset, .unset, .unset, .unset, .unset] [(.long b1)])) _
      refine X0.ldc2Long hx hown (mvT hZ (hw _ (List.mem_of_getElem? (i := 0) rfl))) (g := (mkF m 8 #[.val (.long m1), .second, .val (.long b1), .second, .val (.long r1), .second, .val (.long x1), .second, .val (.long mx), .second, .unset, .unset, .unset, .unset, .unset, .unset, .unset, .unset, .unset, .unset, .unset, .unset, .unset, .unset] [(.long b1)])) rfl (hb hby at_8) _ ?_
      show Steps p.tables e below (s₁.setTop (mkF m 11 #[.val (.long m1), .second, .val (.long b1), .second, .val (.long r1), .second, .val (.long x1), .second, .val (.long mx), .second, .unset, .unset, .unset, .unset, .unset, .unset, .unset, .unset, .unset, .unset, .unset, .unset, .unset, .unset] [(.long (4611686018427387903 : Int64)), (.long b1)])) _
      refine XS.land X0.here hx rfl (hb hby at_11) rfl ?_
      show Steps p.tables e below (s₁.setTop (mkF m 12 #[.val (.long m1), .second, .val (.long b1), .second, .val (.long r1), .second, .val (.long x1), .second, .val (.long mx), .second, .unset, .unset, .unset, .unset, .unset, .unset, .unset, .unset, .unset, .unset, .unset, .unset, .unset, .unset] [(.long (b1 &&& (4611686018427387903 : Int64)))])) _
      refine XS.lload X0.here hx rfl (hb hby at_12) rfl ?_
      show Steps p.tables e below (s₁.setTop (mkF m 14 #[.val (.long m1), .second, .val (.long b1), .second, .val (.long r1), .second, .val (.long x1), .second, .val (.long mx), .second, .unset, .unset, .unset, .unset, .unset, .unset, .unset, .unset, .unset, .unset, .unset, .unset, .unset, .unset] [(.long mx), (.long (b1 &&& (4611686018427387903 : Int64)))])) _
      refine XS.lconst X0.here hx rfl (hb hby at_14) ?_
      show Steps p.tables e below (s₁.setTop (mkF m 15 #[.val (.long m1), .second, .val (.long b1), .second, .val (.long r1), .second, .val (.long x1), .second, .val (.long mx), .second, .unset, .unset, .unset, .unset, .unset, .unset, .unset, .unset, .unset, .unset, .unset, .unset, .unset, .unset] [(.long (1 : Int64)), (.long mx), (.long (b1 &&& (4611686018427387903 : Int64)))])) _
      refine XS.ladd X0.here hx rfl (hb hby at_15) rfl ?_
      show Steps p.tables e below (s₁.setTop (mkF m 16 #[.val (.long m1), .second, .val (.long b1), .second, .val (.long r1), .second, .val (.long x1), .second, .val (.long mx), .second, .unset, .unset, .unset, .unset, .unset, .unset, .unset, .unset, .unset, .unset, .unset, .unset, .unset, .unset] [(.long (mx + (1 : Int64))), (.long (b1 &&& (4611686018427387903 : Int64)))])) _
      refine XS.lrem X0.here hx rfl (hb hby at_16) rfl (own_nz mx hm.1 hm.2) ?_
      show Steps p.tables e below (s₁.setTop (mkF m 17 #[.val (.long m1), .second, .val (.long b1), .second, .val (.long r1), .second, .val (.long x1), .second, .val (.long mx), .second, .unset, .unset, .unset, .unset, .unset, .unset, .unset, .unset, .unset, .unset, .unset, .unset, .unset, .unset] [(.long ((b1 &&& (4611686018427387903 : Int64)) - ((b1 &&& (4611686018427387903 : Int64)) / (mx + (1 : Int64))) * (mx + (1 : Int64))))])) _
      refine XS.lstore X0.here hx rfl (hb hby at_17) rfl (l' := #[.val (.long m1), .second, .val (.long b1), .second, .val (.long r1), .second, .val (.long x1), .second, .val (.long mx), .second, .val (.long ((b1 &&& (4611686018427387903 : Int64)) - ((b1 &&& (4611686018427387903 : Int64)) / (mx + (1 : Int64))) * (mx + (1 : Int64)))), .second, .unset, .unset, .unset, .unset, .unset, .unset, .unset, .unset, .unset, .unset, .unset, .unset]) rfl ?_
      exact k)
  obtain ⟨tt, d_tt⟩ : ∃ z, z = ((b1 &&& (4611686018427387903 : Int64)) - ((b1 &&& (4611686018427387903 : Int64)) / (mx + (1 : Int64))) * (mx + (1 : Int64))) := ⟨_, rfl⟩
  rw [← d_tt] at pre13
  have hbm := own_m62 b1
  have ht := own_t (b1 &&& 4611686018427387903) mx hm.1 hm.2 hbm.1
  rw [← d_tt] at ht
  have pre14 : ∀ t, Steps p.tables e below (s₁.setTop (mkF m 27 #[.val (.long m1), .second, .val (.long b1), .second, .val (.long r1), .second, .val (.long x1), .second, .val (.long mx), .second, .val (.long tt), .second, .val (.long (r1 &&& (4611686018427387903 : Int64))), .second, .unset, .unset, .unset, .unset, .unset, .unset, .unset, .unset, .unset, .unset] [])) t → Steps p.tables e below (s₁.setTop (entryFrame m #[(.long m1), (.long b1), (.long r1), (.long x1)] maxLocals)) t := fun t k => pre13 t (by
      show Steps p.tables e below (s₁.setTop (mkF m 19 #[.val (.long m1), .second, .val (.long b1), .second, .val (.long r1), .second, .val (.long x1), .second, .val (.long mx), .second, .val (.long tt), .second, .unset, .unset, .unset, .unset, .unset, .unset, .unset, .unset, .unset, .unset, .unset, .unset] [])) _
      refine XS.lload X0.here hx rfl (hb hby at_19) rfl ?_
      show Steps p.tables e below (s₁.setTop (mkF m 21 #[.val (.long m1), .second, .val (.long b1), .second, .val (.long r1), .second, .val (.long x1), .second, .val (.long mx), .second, .val (.long tt), .second, .unset, .unset, .unset, .unset, .unset, .unset, .unset, .unset, .unset, .unset, .unset, .unset] [(.long r1)])) _
      refine X0.ldc2Long hx hown (mvT hZ (hw _ (List.mem_of_getElem? (i := 0) rfl))) (g := (mkF m 21 #[.val (.long m1), .second, .val (.long b1), .second, .val (.long r1), .second, .val (.long x1), .second, .val (.long mx), .second, .val (.long tt), .second, .unset, .unset, .unset, .unset, .unset, .unset, .unset, .unset, .unset, .unset, .unset, .unset] [(.long r1)])) rfl (hb hby at_21) _ ?_
      show Steps p.tables e below (s₁.setTop (mkF m 24 #[.val (.long m1), .second, .val (.long b1), .second, .val (.long r1), .second, .val (.long x1), .second, .val (.long mx), .second, .val (.long tt), .second, .unset, .unset, .unset, .unset, .unset, .unset, .unset, .unset, .unset, .unset, .unset, .unset] [(.long (4611686018427387903 : Int64)), (.long r1)])) _
      refine XS.land X0.here hx rfl (hb hby at_24) rfl ?_
      show Steps p.tables e below (s₁.setTop (mkF m 25 #[.val (.long m1), .second, .val (.long b1), .second, .val (.long r1), .second, .val (.long x1), .second, .val (.long mx), .second, .val (.long tt), .second, .unset, .unset, .unset, .unset, .unset, .unset, .unset, .unset, .unset, .unset, .unset, .unset] [(.long (r1 &&& (4611686018427387903 : Int64)))])) _
      refine XS.lstore X0.here hx rfl (hb hby at_25) rfl (l' := #[.val (.long m1), .second, .val (.long b1), .second, .val (.long r1), .second, .val (.long x1), .second, .val (.long mx), .second, .val (.long tt), .second, .val (.long (r1 &&& (4611686018427387903 : Int64))), .second, .unset, .unset, .unset, .unset, .unset, .unset, .unset, .unset, .unset, .unset]) rfl ?_
      exact k)
  obtain ⟨rr, d_rr⟩ : ∃ z, z = (r1 &&& (4611686018427387903 : Int64)) := ⟨_, rfl⟩
  rw [← d_rr] at pre14
  have hr1 := own_m62 r1
  rw [← d_rr] at hr1
  have pre15 : ∀ t, Steps p.tables e below (s₁.setTop (mkF m 33 #[.val (.long m1), .second, .val (.long b1), .second, .val (.long r1), .second, .val (.long x1), .second, .val (.long mx), .second, .val (.long tt), .second, .val (.long rr), .second, .val (.long (x1 >>> ((1 : Int32) &&& 0x3f).toInt64)), .second, .unset, .unset, .unset, .unset, .unset, .unset, .unset, .unset] [])) t → Steps p.tables e below (s₁.setTop (entryFrame m #[(.long m1), (.long b1), (.long r1), (.long x1)] maxLocals)) t := fun t k => pre14 t (by
      show Steps p.tables e below (s₁.setTop (mkF m 27 #[.val (.long m1), .second, .val (.long b1), .second, .val (.long r1), .second, .val (.long x1), .second, .val (.long mx), .second, .val (.long tt), .second, .val (.long rr), .second, .unset, .unset, .unset, .unset, .unset, .unset, .unset, .unset, .unset, .unset] [])) _
      refine XS.lload X0.here hx rfl (hb hby at_27) rfl ?_
      show Steps p.tables e below (s₁.setTop (mkF m 29 #[.val (.long m1), .second, .val (.long b1), .second, .val (.long r1), .second, .val (.long x1), .second, .val (.long mx), .second, .val (.long tt), .second, .val (.long rr), .second, .unset, .unset, .unset, .unset, .unset, .unset, .unset, .unset, .unset, .unset] [(.long x1)])) _
      refine XS.iconst X0.here hx rfl (hb hby at_29) ?_
      show Steps p.tables e below (s₁.setTop (mkF m 30 #[.val (.long m1), .second, .val (.long b1), .second, .val (.long r1), .second, .val (.long x1), .second, .val (.long mx), .second, .val (.long tt), .second, .val (.long rr), .second, .unset, .unset, .unset, .unset, .unset, .unset, .unset, .unset, .unset, .unset] [(.int (1 : Int32)), (.long x1)])) _
      refine XS.lshr X0.here hx rfl (hb hby at_30) rfl ?_
      show Steps p.tables e below (s₁.setTop (mkF m 31 #[.val (.long m1), .second, .val (.long b1), .second, .val (.long r1), .second, .val (.long x1), .second, .val (.long mx), .second, .val (.long tt), .second, .val (.long rr), .second, .unset, .unset, .unset, .unset, .unset, .unset, .unset, .unset, .unset, .unset] [(.long (x1 >>> ((1 : Int32) &&& 0x3f).toInt64))])) _
      refine XS.lstore X0.here hx rfl (hb hby at_31) rfl (l' := #[.val (.long m1), .second, .val (.long b1), .second, .val (.long r1), .second, .val (.long x1), .second, .val (.long mx), .second, .val (.long tt), .second, .val (.long rr), .second, .val (.long (x1 >>> ((1 : Int32) &&& 0x3f).toInt64)), .second, .unset, .unset, .unset, .unset, .unset, .unset, .unset, .unset]) rfl ?_
      exact k)
  obtain ⟨mo, d_mo⟩ : ∃ z, z = (x1 >>> ((1 : Int32) &&& 0x3f).toInt64) := ⟨_, rfl⟩
  rw [← d_mo] at pre15
  have hmo := own_half x1
  rw [← d_mo] at hmo
  obtain ⟨T16, h16, X16, e16, E16, A16, D16, -, st16⟩ := newO X0 hx hZ hown (hw _ (List.mem_of_getElem? (i := 1) rfl)) (hw _ (List.mem_of_getElem? (i := 2) rfl)) (hw _ (List.mem_of_getElem? (i := 3) rfl)) e0 (g := (mkF m 33 #[.val (.long m1), .second, .val (.long b1), .second, .val (.long r1), .second, .val (.long x1), .second, .val (.long mx), .second, .val (.long tt), .second, .val (.long rr), .second, .val (.long mo), .second, .unset, .unset, .unset, .unset, .unset, .unset, .unset, .unset] [])) rfl (hb hby at_33) (by decide) (by decide)
  obtain ⟨b16, g16⟩ : ∃ z, z = h0.size := ⟨_, rfl⟩
  rw [← g16] at A16 D16 st16
  have gb16 : n0 ≤ b16 := Nat.le_trans Z0 (Nat.le_of_eq g16.symm)
  have Z16 : n0 ≤ h16.size := Nat.le_trans Z0 E16.1
  have Fm0 : Fld Z h16 b16 "com/example/offset/offset/group/KeptBytes" "maxBytes" "J" (.long 0) := D16 (Or.inr (hw _ (List.mem_of_getElem? (i := 11) rfl))) (ty := .long) (by decide)
  have Fb0 : Fld Z h16 b16 "com/example/offset/offset/group/KeptBytes" "bytes" "J" (.long 0) := D16 (Or.inl (hw _ (List.mem_of_getElem? (i := 18) rfl))) (ty := .long) (by decide)
  obtain ⟨_, _, ⟨T17, L17, k17, n17⟩, -, X17, ⟨Lc17, hQ17, l17, y17, z17⟩, st17⟩ := X16.specialBack hx (y := (⟨"com/example/offset/offset/group/KeptBytes", "<init>", "(J)V"⟩ : MethodName)) rfl hown (mvT hZ (hw _ (List.mem_of_getElem? (i := 4) rfl))) (mvT hZ (hw _ (List.mem_of_getElem? (i := 5) rfl))) (mvT hZ (hw _ (List.mem_of_getElem? (i := 6) rfl))) (by decide) (backOf (W := 1) (rm1 l Z a0 hw [] b16 mx  h16 n0 Z16 A16 Fm0 Fb0 gb16) hZ (hw _ (List.mem_of_getElem? (i := 6) rfl)) (hw _ (List.mem_of_getElem? (i := 3) rfl)) (by decide) (by decide)) (g := (mkF m 39 #[.val (.long m1), .second, .val (.long b1), .second, .val (.long r1), .second, .val (.long x1), .second, .val (.long mx), .second, .val (.long tt), .second, .val (.long rr), .second, .val (.long mo), .second, .unset, .unset, .unset, .unset, .unset, .unset, .unset, .unset] [(.long mx), (.ref b16), (.ref b16)])) rfl (by rw [hml]; rfl) (Steps.refl _) (a := b16) (argsL := [(.long mx)]) (rest := [(.ref b16)]) (lenOf own_pd1 rfl) rfl (by show 2 * 0 + _ ≤ _; exact Nat.le_of_eq rfl) (hb hby at_39) (fun _ _ => ⟨rfl, e16, (by decide : 1 + 0 ≤ _), (by decide : 2 + 0 ≤ _)⟩)
  dsimp only [Pt.U, Pt.locs, Pt.cells, Pt.slots] at X17 l17 y17 z17 st17 hQ17
  subst l17 y17 z17
  obtain ⟨h17, e17'⟩ : ∃ z, z = T17.heap := ⟨_, rfl⟩
  rw [← e17'] at hQ17
  have e17 := e17'.symm
  obtain ⟨rfl, N17q, Z17, Ex1, Fm1, Fb1⟩ := hQ17
  have N17 := Fr.app N0 N17q
  obtain ⟨cq18, kq18, q18a, q18b, q18c⟩ := isOf hZ e17 Ex1
  obtain ⟨_, _, ⟨T18, L18, k18, n18⟩, -, X18, ⟨Lc18, hQ18, l18, y18, z18⟩, st18⟩ := X17.virtualBack hx (y := (⟨"com/example/offset/offset/group/KeptBytes", "add", "(J)V"⟩ : MethodName)) (z := (⟨"com/example/offset/offset/group/KeptBytes", "add", "(J)V"⟩ : MethodName)) hown (mvT hZ (hw _ (List.mem_of_getElem? (i := 12) rfl))) (mvT hZ (hw _ (List.mem_of_getElem? (i := 13) rfl))) (notFace_of_selects (args := #[]) (mvT hZ (hw _ (List.mem_of_getElem? (i := 15) rfl)))) (mvT hZ (hw _ (List.mem_of_getElem? (i := 15) rfl))) (mvT hZ (hw _ (List.mem_of_getElem? (i := 14) rfl))) (by decide) (backOf (W := 0) (rm3 l Z a0 hw [] b16 (tt + rr) mx 0 h17 n0 Z17 Ex1 Fm1 Fb1 gb16) hZ (hw _ (List.mem_of_getElem? (i := 16) rfl)) (hw _ (List.mem_of_getElem? (i := 3) rfl)) (by decide) (by decide)) q18a q18c (g := (mkF m 51 #[.val (.long m1), .second, .val (.long b1), .second, .val (.long r1), .second, .val (.long x1), .second, .val (.long mx), .second, .val (.long tt), .second, .val (.long rr), .second, .val (.long mo), .second, .val (.ref b16), .unset, .unset, .unset, .unset, .unset, .unset, .unset] [(.long (tt + rr)), (.ref b16)])) rfl (by rw [hml]; rfl) (Steps.refl _) (argsL := [(.long (tt + rr))]) (rest := []) (lenOf own_pd1 rfl) rfl (by show 2 * 0 + _ ≤ _; exact Nat.le_of_eq rfl) (hb hby at_51) (fun _ _ => ⟨rfl, e17, (by decide : 1 + 0 ≤ _), (by decide : 2 + 0 ≤ _)⟩)
  dsimp only [Pt.U, Pt.locs, Pt.cells, Pt.slots] at X18 l18 y18 z18 st18 hQ18
  subst l18 y18 z18
  obtain ⟨h18, e18'⟩ : ∃ z, z = T18.heap := ⟨_, rfl⟩
  rw [← e18'] at hQ18
  have e18 := e18'.symm
  obtain ⟨rfl, N18q, Z18, Ex2, Fm2, Fb2⟩ := hQ18
  have N18 := Fr.app N17 N18q
  obtain ⟨cq19, kq19, q19a, q19b, q19c⟩ := isOf hZ e18 Ex2
  obtain ⟨_, _, ⟨T19, L19, k19, n19⟩, -, X19, ⟨Lc19, hQ19, l19, y19, z19⟩, st19⟩ := X18.virtualBack hx (y := (⟨"com/example/offset/offset/group/KeptBytes", "add", "(J)V"⟩ : MethodName)) (z := (⟨"com/example/offset/offset/group/KeptBytes", "add", "(J)V"⟩ : MethodName)) hown (mvT hZ (hw _ (List.mem_of_getElem? (i := 12) rfl))) (mvT hZ (hw _ (List.mem_of_getElem? (i := 13) rfl))) (notFace_of_selects (args := #[]) (mvT hZ (hw _ (List.mem_of_getElem? (i := 15) rfl)))) (mvT hZ (hw _ (List.mem_of_getElem? (i := 15) rfl))) (mvT hZ (hw _ (List.mem_of_getElem? (i := 14) rfl))) (by decide) (backOf (W := 0) (rm3 l Z a0 hw [] b16 (-rr) mx (0 + (tt + rr)) h18 n0 Z18 Ex2 Fm2 Fb2 gb16) hZ (hw _ (List.mem_of_getElem? (i := 16) rfl)) (hw _ (List.mem_of_getElem? (i := 3) rfl)) (by decide) (by decide)) q19a q19c (g := (mkF m 59 #[.val (.long m1), .second, .val (.long b1), .second, .val (.long r1), .second, .val (.long x1), .second, .val (.long mx), .second, .val (.long tt), .second, .val (.long rr), .second, .val (.long mo), .second, .val (.ref b16), .unset, .unset, .unset, .unset, .unset, .unset, .unset] [(.long (-rr)), (.ref b16)])) rfl (by rw [hml]; rfl) (Steps.refl _) (argsL := [(.long (-rr))]) (rest := []) (lenOf own_pd1 rfl) rfl (by show 2 * 0 + _ ≤ _; exact Nat.le_of_eq rfl) (hb hby at_59) (fun _ _ => ⟨rfl, e18, (by decide : 1 + 0 ≤ _), (by decide : 2 + 0 ≤ _)⟩)
  dsimp only [Pt.U, Pt.locs, Pt.cells, Pt.slots] at X19 l19 y19 z19 st19 hQ19
  subst l19 y19 z19
  obtain ⟨h19, e19'⟩ : ∃ z, z = T19.heap := ⟨_, rfl⟩
  rw [← e19'] at hQ19
  have e19 := e19'.symm
  obtain ⟨rfl, N19q, Z19, Ex3, Fm3, Fb3⟩ := hQ19
  have N19 := Fr.app N18 N19q
  rw [own_back tt rr ht.1 (by omega) hr1.1 hr1.2] at Fb3
  have pre20 : ∀ t, Steps p.tables e below (T19.setTop (mkF m 69 #[.val (.long m1), .second, .val (.long b1), .second, .val (.long r1), .second, .val (.long x1), .second, .val (.long mx), .second, .val (.long tt), .second, .val (.long rr), .second, .val (.long mo), .second, .val (.ref b16), .val (.long (mx - tt)), .second, .unset, .unset, .unset, .unset, .unset] [])) t → Steps p.tables e below (s₁.setTop (entryFrame m #[(.long m1), (.long b1), (.long r1), (.long x1)] maxLocals)) t := fun t k => pre15 t (by
      show Steps p.tables e below (s₁.setTop (mkF m 33 #[.val (.long m1), .second, .val (.long b1), .second, .val (.long r1), .second, .val (.long x1), .second, .val (.long mx), .second, .val (.long tt), .second, .val (.long rr), .second, .val (.long mo), .second, .unset, .unset, .unset, .unset, .unset, .unset, .unset, .unset] [])) _
      refine st16 _ ?_
      show Steps p.tables e below (T16.setTop (mkF m 36 #[.val (.long m1), .second, .val (.long b1), .second, .val (.long r1), .second, .val (.long x1), .second, .val (.long mx), .second, .val (.long tt), .second, .val (.long rr), .second, .val (.long mo), .second, .unset, .unset, .unset, .unset, .unset, .unset, .unset, .unset] [(.ref b16)])) _
      refine XS.dup X16.here hx rfl (hb hby at_36) rfl rfl ?_
      show Steps p.tables e below (T16.setTop (mkF m 37 #[.val (.long m1), .second, .val (.long b1), .second, .val (.long r1), .second, .val (.long x1), .second, .val (.long mx), .second, .val (.long tt), .second, .val (.long rr), .second, .val (.long mo), .second, .unset, .unset, .unset, .unset, .unset, .unset, .unset, .unset] [(.ref b16), (.ref b16)])) _
      refine XS.lload X16.here hx rfl (hb hby at_37) rfl ?_
      show Steps p.tables e below (T16.setTop (mkF m 39 #[.val (.long m1), .second, .val (.long b1), .second, .val (.long r1), .second, .val (.long x1), .second, .val (.long mx), .second, .val (.long tt), .second, .val (.long rr), .second, .val (.long mo), .second, .unset, .unset, .unset, .unset, .unset, .unset, .unset, .unset] [(.long mx), (.ref b16), (.ref b16)])) _
      refine st17.trans ?_
      show Steps p.tables e below (T17.setTop (mkF m 42 #[.val (.long m1), .second, .val (.long b1), .second, .val (.long r1), .second, .val (.long x1), .second, .val (.long mx), .second, .val (.long tt), .second, .val (.long rr), .second, .val (.long mo), .second, .unset, .unset, .unset, .unset, .unset, .unset, .unset, .unset] [(.ref b16)])) _
      refine XS.astore X17.here hx rfl (hb hby at_42) rfl rfl (l' := #[.val (.long m1), .second, .val (.long b1), .second, .val (.long r1), .second, .val (.long x1), .second, .val (.long mx), .second, .val (.long tt), .second, .val (.long rr), .second, .val (.long mo), .second, .val (.ref b16), .unset, .unset, .unset, .unset, .unset, .unset, .unset]) rfl ?_
      show Steps p.tables e below (T17.setTop (mkF m 44 #[.val (.long m1), .second, .val (.long b1), .second, .val (.long r1), .second, .val (.long x1), .second, .val (.long mx), .second, .val (.long tt), .second, .val (.long rr), .second, .val (.long mo), .second, .val (.ref b16), .unset, .unset, .unset, .unset, .unset, .unset, .unset] [])) _
      refine XS.aload X17.here hx rfl (hb hby at_44) rfl rfl ?_
      show Steps p.tables e below (T17.setTop (mkF m 46 #[.val (.long m1), .second, .val (.long b1), .second, .val (.long r1), .second, .val (.long x1), .second, .val (.long mx), .second, .val (.long tt), .second, .val (.long rr), .second, .val (.long mo), .second, .val (.ref b16), .unset, .unset, .unset, .unset, .unset, .unset, .unset] [(.ref b16)])) _
      refine XS.lload X17.here hx rfl (hb hby at_46) rfl ?_
      show Steps p.tables e below (T17.setTop (mkF m 48 #[.val (.long m1), .second, .val (.long b1), .second, .val (.long r1), .second, .val (.long x1), .second, .val (.long mx), .second, .val (.long tt), .second, .val (.long rr), .second, .val (.long mo), .second, .val (.ref b16), .unset, .unset, .unset, .unset, .unset, .unset, .unset] [(.long tt), (.ref b16)])) _
      refine XS.lload X17.here hx rfl (hb hby at_48) rfl ?_
      show Steps p.tables e below (T17.setTop (mkF m 50 #[.val (.long m1), .second, .val (.long b1), .second, .val (.long r1), .second, .val (.long x1), .second, .val (.long mx), .second, .val (.long tt), .second, .val (.long rr), .second, .val (.long mo), .second, .val (.ref b16), .unset, .unset, .unset, .unset, .unset, .unset, .unset] [(.long rr), (.long tt), (.ref b16)])) _
      refine XS.ladd X17.here hx rfl (hb hby at_50) rfl ?_
      show Steps p.tables e below (T17.setTop (mkF m 51 #[.val (.long m1), .second, .val (.long b1), .second, .val (.long r1), .second, .val (.long x1), .second, .val (.long mx), .second, .val (.long tt), .second, .val (.long rr), .second, .val (.long mo), .second, .val (.ref b16), .unset, .unset, .unset, .unset, .unset, .unset, .unset] [(.long (tt + rr)), (.ref b16)])) _
      refine st18.trans ?_
      show Steps p.tables e below (T18.setTop (mkF m 54 #[.val (.long m1), .second, .val (.long b1), .second, .val (.long r1), .second, .val (.long x1), .second, .val (.long mx), .second, .val (.long tt), .second, .val (.long rr), .second, .val (.long mo), .second, .val (.ref b16), .unset, .unset, .unset, .unset, .unset, .unset, .unset] [])) _
      refine XS.aload X18.here hx rfl (hb hby at_54) rfl rfl ?_
      show Steps p.tables e below (T18.setTop (mkF m 56 #[.val (.long m1), .second, .val (.long b1), .second, .val (.long r1), .second, .val (.long x1), .second, .val (.long mx), .second, .val (.long tt), .second, .val (.long rr), .second, .val (.long mo), .second, .val (.ref b16), .unset, .unset, .unset, .unset, .unset, .unset, .unset] [(.ref b16)])) _
      refine XS.lload X18.here hx rfl (hb hby at_56) rfl ?_
      show Steps p.tables e below (T18.setTop (mkF m 58 #[.val (.long m1), .second, .val (.long b1), .second, .val (.long r1), .second, .val (.long x1), .second, .val (.long mx), .second, .val (.long tt), .second, .val (.long rr), .second, .val (.long mo), .second, .val (.ref b16), .unset, .unset, .unset, .unset, .unset, .unset, .unset] [(.long rr), (.ref b16)])) _
      refine XS.lneg X18.here hx rfl (hb hby at_58) rfl ?_
      show Steps p.tables e below (T18.setTop (mkF m 59 #[.val (.long m1), .second, .val (.long b1), .second, .val (.long r1), .second, .val (.long x1), .second, .val (.long mx), .second, .val (.long tt), .second, .val (.long rr), .second, .val (.long mo), .second, .val (.ref b16), .unset, .unset, .unset, .unset, .unset, .unset, .unset] [(.long (-rr)), (.ref b16)])) _
      refine st19.trans ?_
      show Steps p.tables e below (T19.setTop (mkF m 62 #[.val (.long m1), .second, .val (.long b1), .second, .val (.long r1), .second, .val (.long x1), .second, .val (.long mx), .second, .val (.long tt), .second, .val (.long rr), .second, .val (.long mo), .second, .val (.ref b16), .unset, .unset, .unset, .unset, .unset, .unset, .unset] [])) _
      refine XS.lload X19.here hx rfl (hb hby at_62) rfl ?_
      show Steps p.tables e below (T19.setTop (mkF m 64 #[.val (.long m1), .second, .val (.long b1), .second, .val (.long r1), .second, .val (.long x1), .second, .val (.long mx), .second, .val (.long tt), .second, .val (.long rr), .second, .val (.long mo), .second, .val (.ref b16), .unset, .unset, .unset, .unset, .unset, .unset, .unset] [(.long mx)])) _
      refine XS.lload X19.here hx rfl (hb hby at_64) rfl ?_
      show Steps p.tables e below (T19.setTop (mkF m 66 #[.val (.long m1), .second, .val (.long b1), .second, .val (.long r1), .second, .val (.long x1), .second, .val (.long mx), .second, .val (.long tt), .second, .val (.long rr), .second, .val (.long mo), .second, .val (.ref b16), .unset, .unset, .unset, .unset, .unset, .unset, .unset] [(.long tt), (.long mx)])) _
      refine XS.lsub X19.here hx rfl (hb hby at_66) rfl ?_
      show Steps p.tables e below (T19.setTop (mkF m 67 #[.val (.long m1), .second, .val (.long b1), .second, .val (.long r1), .second, .val (.long x1), .second, .val (.long mx), .second, .val (.long tt), .second, .val (.long rr), .second, .val (.long mo), .second, .val (.ref b16), .unset, .unset, .unset, .unset, .unset, .unset, .unset] [(.long (mx - tt))])) _
      refine XS.lstore X19.here hx rfl (hb hby at_67) rfl (l' := #[.val (.long m1), .second, .val (.long b1), .second, .val (.long r1), .second, .val (.long x1), .second, .val (.long mx), .second, .val (.long tt), .second, .val (.long rr), .second, .val (.long mo), .second, .val (.ref b16), .val (.long (mx - tt)), .second, .unset, .unset, .unset, .unset, .unset]) rfl ?_
      exact k)
  obtain ⟨ve, hve, pre21⟩ : ∃ ve : Int32, (own_says (¬ (mx - tt) < mo) ve) ∧ ∀ t, Steps p.tables e below (T19.setTop (mkF m 82 #[.val (.long m1), .second, .val (.long b1), .second, .val (.long r1), .second, .val (.long x1), .second, .val (.long mx), .second, .val (.long tt), .second, .val (.long rr), .second, .val (.long mo), .second, .val (.ref b16), .val (.long (mx - tt)), .second, .unset, .unset, .unset, .unset, .unset] [(.int ve)])) t → Steps p.tables e below (s₁.setTop (entryFrame m #[(.long m1), (.long b1), (.long r1), (.long x1)] maxLocals)) t := by
    have pre22 : ∀ t, Steps p.tables e below (T19.setTop (mkF m 74 #[.val (.long m1), .second, .val (.long b1), .second, .val (.long r1), .second, .val (.long x1), .second, .val (.long mx), .second, .val (.long tt), .second, .val (.long rr), .second, .val (.long mo), .second, .val (.ref b16), .val (.long (mx - tt)), .second, .unset, .unset, .unset, .unset, .unset] [(.int (lcmpW mo (mx - tt)))])) t → Steps p.tables e below (s₁.setTop (entryFrame m #[(.long m1), (.long b1), (.long r1), (.long x1)] maxLocals)) t := fun t k => pre20 t (by
        show Steps p.tables e below (T19.setTop (mkF m 69 #[.val (.long m1), .second, .val (.long b1), .second, .val (.long r1), .second, .val (.long x1), .second, .val (.long mx), .second, .val (.long tt), .second, .val (.long rr), .second, .val (.long mo), .second, .val (.ref b16), .val (.long (mx - tt)), .second, .unset, .unset, .unset, .unset, .unset] [])) _
        refine XS.lload X19.here hx rfl (hb hby at_69) rfl ?_
        show Steps p.tables e below (T19.setTop (mkF m 71 #[.val (.long m1), .second, .val (.long b1), .second, .val (.long r1), .second, .val (.long x1), .second, .val (.long mx), .second, .val (.long tt), .second, .val (.long rr), .second, .val (.long mo), .second, .val (.ref b16), .val (.long (mx - tt)), .second, .unset, .unset, .unset, .unset, .unset] [(.long mo)])) _
        refine XS.lload X19.here hx rfl (hb hby at_71) rfl ?_
        show Steps p.tables e below (T19.setTop (mkF m 73 #[.val (.long m1), .second, .val (.long b1), .second, .val (.long r1), .second, .val (.long x1), .second, .val (.long mx), .second, .val (.long tt), .second, .val (.long rr), .second, .val (.long mo), .second, .val (.ref b16), .val (.long (mx - tt)), .second, .unset, .unset, .unset, .unset, .unset] [(.long (mx - tt)), (.long mo)])) _
        refine XS.lcmp X19.here hx rfl (hb hby at_73) rfl ?_
        exact k)
    by_cases hc74 : (mx - tt) < mo
    · skip
      have pre23 : ∀ t, Steps p.tables e below (T19.setTop (mkF m 82 #[.val (.long m1), .second, .val (.long b1), .second, .val (.long r1), .second, .val (.long x1), .second, .val (.long mx), .second, .val (.long tt), .second, .val (.long rr), .second, .val (.long mo), .second, .val (.ref b16), .val (.long (mx - tt)), .second, .unset, .unset, .unset, .unset, .unset] [(.int (0 : Int32))])) t → Steps p.tables e below (s₁.setTop (entryFrame m #[(.long m1), (.long b1), (.long r1), (.long x1)] maxLocals)) t := fun t k => pre22 t (by
          show Steps p.tables e below (T19.setTop (mkF m 74 #[.val (.long m1), .second, .val (.long b1), .second, .val (.long r1), .second, .val (.long x1), .second, .val (.long mx), .second, .val (.long tt), .second, .val (.long rr), .second, .val (.long mo), .second, .val (.ref b16), .val (.long (mx - tt)), .second, .unset, .unset, .unset, .unset, .unset] [(.int (lcmpW mo (mx - tt)))])) _
          refine XS.ifYes X19.here hx rfl (pc0 := 74) (pc' := 81) rfl (hb hby at_74) rfl ((if0 _ _).trans (tlt ((lw_gt _ _).mpr hc74)).2.2.1) (by decide) (by decide) ?_
          show Steps p.tables e below (T19.setTop (mkF m 81 #[.val (.long m1), .second, .val (.long b1), .second, .val (.long r1), .second, .val (.long x1), .second, .val (.long mx), .second, .val (.long tt), .second, .val (.long rr), .second, .val (.long mo), .second, .val (.ref b16), .val (.long (mx - tt)), .second, .unset, .unset, .unset, .unset, .unset] [])) _
          refine XS.iconst X19.here hx rfl (hb hby at_81) ?_
          exact k)
      exact ⟨_, (by simp [own_says, hc74]), pre23⟩
    · skip
      have pre24 : ∀ t, Steps p.tables e below (T19.setTop (mkF m 82 #[.val (.long m1), .second, .val (.long b1), .second, .val (.long r1), .second, .val (.long x1), .second, .val (.long mx), .second, .val (.long tt), .second, .val (.long rr), .second, .val (.long mo), .second, .val (.ref b16), .val (.long (mx - tt)), .second, .unset, .unset, .unset, .unset, .unset] [(.int (1 : Int32))])) t → Steps p.tables e below (s₁.setTop (entryFrame m #[(.long m1), (.long b1), (.long r1), (.long x1)] maxLocals)) t := fun t k => pre22 t (by
          show Steps p.tables e below (T19.setTop (mkF m 74 #[.val (.long m1), .second, .val (.long b1), .second, .val (.long r1), .second, .val (.long x1), .second, .val (.long mx), .second, .val (.long tt), .second, .val (.long rr), .second, .val (.long mo), .second, .val (.ref b16), .val (.long (mx - tt)), .second, .unset, .unset, .unset, .unset, .unset] [(.int (lcmpW mo (mx - tt)))])) _
          refine XS.ifNo X19.here hx rfl (hb hby at_74) rfl ((if0 _ _).trans (flt (fun q => hc74 ((lw_gt _ _).mp q))).2.2.1) ?_
          show Steps p.tables e below (T19.setTop (mkF m 77 #[.val (.long m1), .second, .val (.long b1), .second, .val (.long r1), .second, .val (.long x1), .second, .val (.long mx), .second, .val (.long tt), .second, .val (.long rr), .second, .val (.long mo), .second, .val (.ref b16), .val (.long (mx - tt)), .second, .unset, .unset, .unset, .unset, .unset] [])) _
          refine XS.iconst X19.here hx rfl (hb hby at_77) ?_
          show Steps p.tables e below (T19.setTop (mkF m 78 #[.val (.long m1), .second, .val (.long b1), .second, .val (.long r1), .second, .val (.long x1), .second, .val (.long mx), .second, .val (.long tt), .second, .val (.long rr), .second, .val (.long mo), .second, .val (.ref b16), .val (.long (mx - tt)), .second, .unset, .unset, .unset, .unset, .unset] [(.int (1 : Int32))])) _
          refine XS.goto X19.here hx rfl (pc0 := 78) (pc' := 82) rfl (hb hby at_78) (by decide) (by decide) ?_
          exact k)
      exact ⟨_, (by simp [own_says, hc74]), pre24⟩
  obtain ⟨cq25, kq25, q25a, q25b, q25c⟩ := isOf hZ e19 Ex3
  obtain ⟨_, _, ⟨T25, L25, k25, n25⟩, -, X25, ⟨Lc25, hQ25, l25, y25, z25⟩, st25⟩ := X19.virtualBack hx (y := (⟨"com/example/offset/offset/group/KeptBytes", "fits", "(J)Z"⟩ : MethodName)) (z := (⟨"com/example/offset/offset/group/KeptBytes", "fits", "(J)Z"⟩ : MethodName)) hown (mvT hZ (hw _ (List.mem_of_getElem? (i := 19) rfl))) (mvT hZ (hw _ (List.mem_of_getElem? (i := 20) rfl))) (notFace_of_selects (args := #[]) (mvT hZ (hw _ (List.mem_of_getElem? (i := 22) rfl)))) (mvT hZ (hw _ (List.mem_of_getElem? (i := 22) rfl))) (mvT hZ (hw _ (List.mem_of_getElem? (i := 21) rfl))) (by decide) (backOf (W := 0) (rm4 l Z a0 hw [] b16 mo mx tt h19 n0 Z19 Fm3 Fb3) hZ (hw _ (List.mem_of_getElem? (i := 23) rfl)) (hw _ (List.mem_of_getElem? (i := 3) rfl)) (by decide) (by decide)) q25a q25c (g := (mkF m 88 #[.val (.long m1), .second, .val (.long b1), .second, .val (.long r1), .second, .val (.long x1), .second, .val (.long mx), .second, .val (.long tt), .second, .val (.long rr), .second, .val (.long mo), .second, .val (.ref b16), .val (.long (mx - tt)), .second, .val (.int ve), .unset, .unset, .unset, .unset] [(.long mo), (.ref b16)])) rfl (by rw [hml]; rfl) (Steps.refl _) (argsL := [(.long mo)]) (rest := []) (lenOf own_pd2 rfl) rfl (by show 2 * 0 + _ ≤ _; exact Nat.le_of_eq rfl) (hb hby at_88) (fun _ _ => ⟨rfl, e19, (by decide : 1 + 0 ≤ _), (by decide : 2 + 0 ≤ _)⟩)
  dsimp only [Pt.U, Pt.locs, Pt.cells, Pt.slots] at X25 l25 y25 z25 st25 hQ25
  subst l25 y25 z25
  obtain ⟨z25, rfl, hz25, N25q, e25⟩ := hQ25
  have N25 := Fr.app N19 N25q
  obtain ⟨cq26, kq26, q26a, q26b, q26c⟩ := isOf hZ e25 Ex3
  obtain ⟨_, _, ⟨T26, L26, k26, n26⟩, -, X26, ⟨Lc26, hQ26, l26, y26, z26⟩, st26⟩ := X25.virtualBack hx (y := (⟨"com/example/offset/offset/group/KeptBytes", "fits", "(J)Z"⟩ : MethodName)) (z := (⟨"com/example/offset/offset/group/KeptBytes", "fits", "(J)Z"⟩ : MethodName)) hown (mvT hZ (hw _ (List.mem_of_getElem? (i := 19) rfl))) (mvT hZ (hw _ (List.mem_of_getElem? (i := 20) rfl))) (notFace_of_selects (args := #[]) (mvT hZ (hw _ (List.mem_of_getElem? (i := 22) rfl)))) (mvT hZ (hw _ (List.mem_of_getElem? (i := 22) rfl))) (mvT hZ (hw _ (List.mem_of_getElem? (i := 21) rfl))) (by decide) (backOf (W := 0) (rm4 l Z a0 hw [] b16 mo mx tt h19 n0 Z19 Fm3 Fb3) hZ (hw _ (List.mem_of_getElem? (i := 23) rfl)) (hw _ (List.mem_of_getElem? (i := 3) rfl)) (by decide) (by decide)) q26a q26c (g := (mkF m 97 #[.val (.long m1), .second, .val (.long b1), .second, .val (.long r1), .second, .val (.long x1), .second, .val (.long mx), .second, .val (.long tt), .second, .val (.long rr), .second, .val (.long mo), .second, .val (.ref b16), .val (.long (mx - tt)), .second, .val (.int ve), .val (.int z25), .unset, .unset, .unset] [(.long mo), (.ref b16)])) rfl (by rw [hml]; rfl) (Steps.refl _) (argsL := [(.long mo)]) (rest := []) (lenOf own_pd2 rfl) rfl (by show 2 * 0 + _ ≤ _; exact Nat.le_of_eq rfl) (hb hby at_97) (fun _ _ => ⟨rfl, e25, (by decide : 1 + 0 ≤ _), (by decide : 2 + 0 ≤ _)⟩)
  dsimp only [Pt.U, Pt.locs, Pt.cells, Pt.slots] at X26 l26 y26 z26 st26 hQ26
  subst l26 y26 z26
  obtain ⟨z26, rfl, hz26, N26q, e26⟩ := hQ26
  have N26 := Fr.app N25 N26q
  obtain ⟨cq27, kq27, q27a, q27b, q27c⟩ := isOf hZ e26 Ex3
  obtain ⟨_, _, ⟨T27, L27, k27, n27⟩, -, X27, ⟨Lc27, hQ27, l27, y27, z27⟩, st27⟩ := X26.virtualBack hx (y := (⟨"com/example/offset/offset/group/KeptBytes", "fits", "(J)Z"⟩ : MethodName)) (z := (⟨"com/example/offset/offset/group/KeptBytes", "fits", "(J)Z"⟩ : MethodName)) hown (mvT hZ (hw _ (List.mem_of_getElem? (i := 19) rfl))) (mvT hZ (hw _ (List.mem_of_getElem? (i := 20) rfl))) (notFace_of_selects (args := #[]) (mvT hZ (hw _ (List.mem_of_getElem? (i := 22) rfl)))) (mvT hZ (hw _ (List.mem_of_getElem? (i := 22) rfl))) (mvT hZ (hw _ (List.mem_of_getElem? (i := 21) rfl))) (by decide) (backOf (W := 0) (rm4 l Z a0 hw [] b16 (mx - tt) mx tt h19 n0 Z19 Fm3 Fb3) hZ (hw _ (List.mem_of_getElem? (i := 23) rfl)) (hw _ (List.mem_of_getElem? (i := 3) rfl)) (by decide) (by decide)) q27a q27c (g := (mkF m 106 #[.val (.long m1), .second, .val (.long b1), .second, .val (.long r1), .second, .val (.long x1), .second, .val (.long mx), .second, .val (.long tt), .second, .val (.long rr), .second, .val (.long mo), .second, .val (.ref b16), .val (.long (mx - tt)), .second, .val (.int ve), .val (.int z25), .val (.int z26), .unset, .unset] [(.long (mx - tt)), (.ref b16)])) rfl (by rw [hml]; rfl) (Steps.refl _) (argsL := [(.long (mx - tt))]) (rest := []) (lenOf own_pd2 rfl) rfl (by show 2 * 0 + _ ≤ _; exact Nat.le_of_eq rfl) (hb hby at_106) (fun _ _ => ⟨rfl, e26, (by decide : 1 + 0 ≤ _), (by decide : 2 + 0 ≤ _)⟩)
  dsimp only [Pt.U, Pt.locs, Pt.cells, Pt.slots] at X27 l27 y27 z27 st27 hQ27
  subst l27 y27 z27
  obtain ⟨z27, rfl, hz27, N27q, e27⟩ := hQ27
  have N27 := Fr.app N26 N27q
  obtain ⟨cq28, kq28, q28a, q28b, q28c⟩ := isOf hZ e27 Ex3
  obtain ⟨_, _, ⟨T28, L28, k28, n28⟩, -, X28, ⟨Lc28, hQ28, l28, y28, z28⟩, st28⟩ := X27.virtualBack hx (y := (⟨"com/example/offset/offset/group/KeptBytes", "fits", "(J)Z"⟩ : MethodName)) (z := (⟨"com/example/offset/offset/group/KeptBytes", "fits", "(J)Z"⟩ : MethodName)) hown (mvT hZ (hw _ (List.mem_of_getElem? (i := 19) rfl))) (mvT hZ (hw _ (List.mem_of_getElem? (i := 20) rfl))) (notFace_of_selects (args := #[]) (mvT hZ (hw _ (List.mem_of_getElem? (i := 22) rfl)))) (mvT hZ (hw _ (List.mem_of_getElem? (i := 22) rfl))) (mvT hZ (hw _ (List.mem_of_getElem? (i := 21) rfl))) (by decide) (backOf (W := 0) (rm4 l Z a0 hw [] b16 ((mx - tt) + (1 : Int64)) mx tt h19 n0 Z19 Fm3 Fb3) hZ (hw _ (List.mem_of_getElem? (i := 23) rfl)) (hw _ (List.mem_of_getElem? (i := 3) rfl)) (by decide) (by decide)) q28a q28c (g := (mkF m 117 #[.val (.long m1), .second, .val (.long b1), .second, .val (.long r1), .second, .val (.long x1), .second, .val (.long mx), .second, .val (.long tt), .second, .val (.long rr), .second, .val (.long mo), .second, .val (.ref b16), .val (.long (mx - tt)), .second, .val (.int ve), .val (.int z25), .val (.int z26), .val (.int z27), .unset] [(.long ((mx - tt) + (1 : Int64))), (.ref b16)])) rfl (by rw [hml]; rfl) (Steps.refl _) (argsL := [(.long ((mx - tt) + (1 : Int64)))]) (rest := []) (lenOf own_pd2 rfl) rfl (by show 2 * 0 + _ ≤ _; exact Nat.le_of_eq rfl) (hb hby at_117) (fun _ _ => ⟨rfl, e27, (by decide : 1 + 0 ≤ _), (by decide : 2 + 0 ≤ _)⟩)
  dsimp only [Pt.U, Pt.locs, Pt.cells, Pt.slots] at X28 l28 y28 z28 st28 hQ28
  subst l28 y28 z28
  obtain ⟨z28, rfl, hz28, N28q, e28⟩ := hQ28
  have N28 := Fr.app N27 N28q
  have iff := own_fits mx tt mo ht.1 ht.2 hm.2 hmo.1 hmo.2
  have he1 : z25 = ve := own_says_eq hz25 hve iff
  have he2 : z26 = ve := own_says_eq hz26 hve iff
  have he3 : ¬ z27 = 0 := fun q => (own_says_ne hz27).mp q (own_atroom mx tt ht.1 ht.2 hm.2)
  have he4 : z28 = 0 := (own_says_ne hz28).mpr fun q => q (own_past mx tt ht.1 ht.2 hm.2)
  have pre29 : ∀ t, Steps p.tables e below (T28.setTop (mkF m 151 #[.val (.long m1), .second, .val (.long b1), .second, .val (.long r1), .second, .val (.long x1), .second, .val (.long mx), .second, .val (.long tt), .second, .val (.long rr), .second, .val (.long mo), .second, .val (.ref b16), .val (.long (mx - tt)), .second, .val (.int ve), .val (.int z25), .val (.int z26), .val (.int z27), .val (.int z28)] [(.int (1 : Int32))])) t → Steps p.tables e below (s₁.setTop (entryFrame m #[(.long m1), (.long b1), (.long r1), (.long x1)] maxLocals)) t := fun t k => pre21 t (by
      show Steps p.tables e below (T19.setTop (mkF m 82 #[.val (.long m1), .second, .val (.long b1), .second, .val (.long r1), .second, .val (.long x1), .second, .val (.long mx), .second, .val (.long tt), .second, .val (.long rr), .second, .val (.long mo), .second, .val (.ref b16), .val (.long (mx - tt)), .second, .unset, .unset, .unset, .unset, .unset] [(.int ve)])) _
      refine XS.istore X19.here hx rfl (hb hby at_82) rfl (l' := #[.val (.long m1), .second, .val (.long b1), .second, .val (.long r1), .second, .val (.long x1), .second, .val (.long mx), .second, .val (.long tt), .second, .val (.long rr), .second, .val (.long mo), .second, .val (.ref b16), .val (.long (mx - tt)), .second, .val (.int ve), .unset, .unset, .unset, .unset]) rfl ?_
      show Steps p.tables e below (T19.setTop (mkF m 84 #[.val (.long m1), .second, .val (.long b1), .second, .val (.long r1), .second, .val (.long x1), .second, .val (.long mx), .second, .val (.long tt), .second, .val (.long rr), .second, .val (.long mo), .second, .val (.ref b16), .val (.long (mx - tt)), .second, .val (.int ve), .unset, .unset, .unset, .unset] [])) _
      refine XS.aload X19.here hx rfl (hb hby at_84) rfl rfl ?_
      show Steps p.tables e below (T19.setTop (mkF m 86 #[.val (.long m1), .second, .val (.long b1), .second, .val (.long r1), .second, .val (.long x1), .second, .val (.long mx), .second, .val (.long tt), .second, .val (.long rr), .second, .val (.long mo), .second, .val (.ref b16), .val (.long (mx - tt)), .second, .val (.int ve), .unset, .unset, .unset, .unset] [(.ref b16)])) _
      refine XS.lload X19.here hx rfl (hb hby at_86) rfl ?_
      show Steps p.tables e below (T19.setTop (mkF m 88 #[.val (.long m1), .second, .val (.long b1), .second, .val (.long r1), .second, .val (.long x1), .second, .val (.long mx), .second, .val (.long tt), .second, .val (.long rr), .second, .val (.long mo), .second, .val (.ref b16), .val (.long (mx - tt)), .second, .val (.int ve), .unset, .unset, .unset, .unset] [(.long mo), (.ref b16)])) _
      refine st25.trans ?_
      show Steps p.tables e below (T25.setTop (mkF m 91 #[.val (.long m1), .second, .val (.long b1), .second, .val (.long r1), .second, .val (.long x1), .second, .val (.long mx), .second, .val (.long tt), .second, .val (.long rr), .second, .val (.long mo), .second, .val (.ref b16), .val (.long (mx - tt)), .second, .val (.int ve), .unset, .unset, .unset, .unset] [(.int z25)])) _
      refine XS.istore X25.here hx rfl (hb hby at_91) rfl (l' := #[.val (.long m1), .second, .val (.long b1), .second, .val (.long r1), .second, .val (.long x1), .second, .val (.long mx), .second, .val (.long tt), .second, .val (.long rr), .second, .val (.long mo), .second, .val (.ref b16), .val (.long (mx - tt)), .second, .val (.int ve), .val (.int z25), .unset, .unset, .unset]) rfl ?_
      show Steps p.tables e below (T25.setTop (mkF m 93 #[.val (.long m1), .second, .val (.long b1), .second, .val (.long r1), .second, .val (.long x1), .second, .val (.long mx), .second, .val (.long tt), .second, .val (.long rr), .second, .val (.long mo), .second, .val (.ref b16), .val (.long (mx - tt)), .second, .val (.int ve), .val (.int z25), .unset, .unset, .unset] [])) _
      refine XS.aload X25.here hx rfl (hb hby at_93) rfl rfl ?_
      show Steps p.tables e below (T25.setTop (mkF m 95 #[.val (.long m1), .second, .val (.long b1), .second, .val (.long r1), .second, .val (.long x1), .second, .val (.long mx), .second, .val (.long tt), .second, .val (.long rr), .second, .val (.long mo), .second, .val (.ref b16), .val (.long (mx - tt)), .second, .val (.int ve), .val (.int z25), .unset, .unset, .unset] [(.ref b16)])) _
      refine XS.lload X25.here hx rfl (hb hby at_95) rfl ?_
      show Steps p.tables e below (T25.setTop (mkF m 97 #[.val (.long m1), .second, .val (.long b1), .second, .val (.long r1), .second, .val (.long x1), .second, .val (.long mx), .second, .val (.long tt), .second, .val (.long rr), .second, .val (.long mo), .second, .val (.ref b16), .val (.long (mx - tt)), .second, .val (.int ve), .val (.int z25), .unset, .unset, .unset] [(.long mo), (.ref b16)])) _
      refine st26.trans ?_
      show Steps p.tables e below (T26.setTop (mkF m 100 #[.val (.long m1), .second, .val (.long b1), .second, .val (.long r1), .second, .val (.long x1), .second, .val (.long mx), .second, .val (.long tt), .second, .val (.long rr), .second, .val (.long mo), .second, .val (.ref b16), .val (.long (mx - tt)), .second, .val (.int ve), .val (.int z25), .unset, .unset, .unset] [(.int z26)])) _
      refine XS.istore X26.here hx rfl (hb hby at_100) rfl (l' := #[.val (.long m1), .second, .val (.long b1), .second, .val (.long r1), .second, .val (.long x1), .second, .val (.long mx), .second, .val (.long tt), .second, .val (.long rr), .second, .val (.long mo), .second, .val (.ref b16), .val (.long (mx - tt)), .second, .val (.int ve), .val (.int z25), .val (.int z26), .unset, .unset]) rfl ?_
      show Steps p.tables e below (T26.setTop (mkF m 102 #[.val (.long m1), .second, .val (.long b1), .second, .val (.long r1), .second, .val (.long x1), .second, .val (.long mx), .second, .val (.long tt), .second, .val (.long rr), .second, .val (.long mo), .second, .val (.ref b16), .val (.long (mx - tt)), .second, .val (.int ve), .val (.int z25), .val (.int z26), .unset, .unset] [])) _
      refine XS.aload X26.here hx rfl (hb hby at_102) rfl rfl ?_
      show Steps p.tables e below (T26.setTop (mkF m 104 #[.val (.long m1), .second, .val (.long b1), .second, .val (.long r1), .second, .val (.long x1), .second, .val (.long mx), .second, .val (.long tt), .second, .val (.long rr), .second, .val (.long mo), .second, .val (.ref b16), .val (.long (mx - tt)), .second, .val (.int ve), .val (.int z25), .val (.int z26), .unset, .unset] [(.ref b16)])) _
      refine XS.lload X26.here hx rfl (hb hby at_104) rfl ?_
      show Steps p.tables e below (T26.setTop (mkF m 106 #[.val (.long m1), .second, .val (.long b1), .second, .val (.long r1), .second, .val (.long x1), .second, .val (.long mx), .second, .val (.long tt), .second, .val (.long rr), .second, .val (.long mo), .second, .val (.ref b16), .val (.long (mx - tt)), .second, .val (.int ve), .val (.int z25), .val (.int z26), .unset, .unset] [(.long (mx - tt)), (.ref b16)])) _
      refine st27.trans ?_
      show Steps p.tables e below (T27.setTop (mkF m 109 #[.val (.long m1), .second, .val (.long b1), .second, .val (.long r1), .second, .val (.long x1), .second, .val (.long mx), .second, .val (.long tt), .second, .val (.long rr), .second, .val (.long mo), .second, .val (.ref b16), .val (.long (mx - tt)), .second, .val (.int ve), .val (.int z25), .val (.int z26), .unset, .unset] [(.int z27)])) _
      refine XS.istore X27.here hx rfl (hb hby at_109) rfl (l' := #[.val (.long m1), .second, .val (.long b1), .second, .val (.long r1), .second, .val (.long x1), .second, .val (.long mx), .second, .val (.long tt), .second, .val (.long rr), .second, .val (.long mo), .second, .val (.ref b16), .val (.long (mx - tt)), .second, .val (.int ve), .val (.int z25), .val (.int z26), .val (.int z27), .unset]) rfl ?_
      show Steps p.tables e below (T27.setTop (mkF m 111 #[.val (.long m1), .second, .val (.long b1), .second, .val (.long r1), .second, .val (.long x1), .second, .val (.long mx), .second, .val (.long tt), .second, .val (.long rr), .second, .val (.long mo), .second, .val (.ref b16), .val (.long (mx - tt)), .second, .val (.int ve), .val (.int z25), .val (.int z26), .val (.int z27), .unset] [])) _
      refine XS.aload X27.here hx rfl (hb hby at_111) rfl rfl ?_
      show Steps p.tables e below (T27.setTop (mkF m 113 #[.val (.long m1), .second, .val (.long b1), .second, .val (.long r1), .second, .val (.long x1), .second, .val (.long mx), .second, .val (.long tt), .second, .val (.long rr), .second, .val (.long mo), .second, .val (.ref b16), .val (.long (mx - tt)), .second, .val (.int ve), .val (.int z25), .val (.int z26), .val (.int z27), .unset] [(.ref b16)])) _
      refine XS.lload X27.here hx rfl (hb hby at_113) rfl ?_
      show Steps p.tables e below (T27.setTop (mkF m 115 #[.val (.long m1), .second, .val (.long b1), .second, .val (.long r1), .second, .val (.long x1), .second, .val (.long mx), .second, .val (.long tt), .second, .val (.long rr), .second, .val (.long mo), .second, .val (.ref b16), .val (.long (mx - tt)), .second, .val (.int ve), .val (.int z25), .val (.int z26), .val (.int z27), .unset] [(.long (mx - tt)), (.ref b16)])) _
      refine XS.lconst X27.here hx rfl (hb hby at_115) ?_
      show Steps p.tables e below (T27.setTop (mkF m 116 #[.val (.long m1), .second, .val (.long b1), .second, .val (.long r1), .second, .val (.long x1), .second, .val (.long mx), .second, .val (.long tt), .second, .val (.long rr), .second, .val (.long mo), .second, .val (.ref b16), .val (.long (mx - tt)), .second, .val (.int ve), .val (.int z25), .val (.int z26), .val (.int z27), .unset] [(.long (1 : Int64)), (.long (mx - tt)), (.ref b16)])) _
      refine XS.ladd X27.here hx rfl (hb hby at_116) rfl ?_
      show Steps p.tables e below (T27.setTop (mkF m 117 #[.val (.long m1), .second, .val (.long b1), .second, .val (.long r1), .second, .val (.long x1), .second, .val (.long mx), .second, .val (.long tt), .second, .val (.long rr), .second, .val (.long mo), .second, .val (.ref b16), .val (.long (mx - tt)), .second, .val (.int ve), .val (.int z25), .val (.int z26), .val (.int z27), .unset] [(.long ((mx - tt) + (1 : Int64))), (.ref b16)])) _
      refine st28.trans ?_
      show Steps p.tables e below (T28.setTop (mkF m 120 #[.val (.long m1), .second, .val (.long b1), .second, .val (.long r1), .second, .val (.long x1), .second, .val (.long mx), .second, .val (.long tt), .second, .val (.long rr), .second, .val (.long mo), .second, .val (.ref b16), .val (.long (mx - tt)), .second, .val (.int ve), .val (.int z25), .val (.int z26), .val (.int z27), .unset] [(.int z28)])) _
      refine XS.istore X28.here hx rfl (hb hby at_120) rfl (l' := #[.val (.long m1), .second, .val (.long b1), .second, .val (.long r1), .second, .val (.long x1), .second, .val (.long mx), .second, .val (.long tt), .second, .val (.long rr), .second, .val (.long mo), .second, .val (.ref b16), .val (.long (mx - tt)), .second, .val (.int ve), .val (.int z25), .val (.int z26), .val (.int z27), .val (.int z28)]) rfl ?_
      show Steps p.tables e below (T28.setTop (mkF m 122 #[.val (.long m1), .second, .val (.long b1), .second, .val (.long r1), .second, .val (.long x1), .second, .val (.long mx), .second, .val (.long tt), .second, .val (.long rr), .second, .val (.long mo), .second, .val (.ref b16), .val (.long (mx - tt)), .second, .val (.int ve), .val (.int z25), .val (.int z26), .val (.int z27), .val (.int z28)] [])) _
      refine XS.iload X28.here hx rfl (hb hby at_122) rfl ?_
      show Steps p.tables e below (T28.setTop (mkF m 124 #[.val (.long m1), .second, .val (.long b1), .second, .val (.long r1), .second, .val (.long x1), .second, .val (.long mx), .second, .val (.long tt), .second, .val (.long rr), .second, .val (.long mo), .second, .val (.ref b16), .val (.long (mx - tt)), .second, .val (.int ve), .val (.int z25), .val (.int z26), .val (.int z27), .val (.int z28)] [(.int z25)])) _
      refine XS.iload X28.here hx rfl (hb hby at_124) rfl ?_
      show Steps p.tables e below (T28.setTop (mkF m 126 #[.val (.long m1), .second, .val (.long b1), .second, .val (.long r1), .second, .val (.long x1), .second, .val (.long mx), .second, .val (.long tt), .second, .val (.long rr), .second, .val (.long mo), .second, .val (.ref b16), .val (.long (mx - tt)), .second, .val (.int ve), .val (.int z25), .val (.int z26), .val (.int z27), .val (.int z28)] [(.int ve), (.int z25)])) _
      refine XS.icmpNo X28.here hx rfl (hb hby at_126) rfl (teq he1).2 ?_
      show Steps p.tables e below (T28.setTop (mkF m 129 #[.val (.long m1), .second, .val (.long b1), .second, .val (.long r1), .second, .val (.long x1), .second, .val (.long mx), .second, .val (.long tt), .second, .val (.long rr), .second, .val (.long mo), .second, .val (.ref b16), .val (.long (mx - tt)), .second, .val (.int ve), .val (.int z25), .val (.int z26), .val (.int z27), .val (.int z28)] [])) _
      refine XS.iload X28.here hx rfl (hb hby at_129) rfl ?_
      show Steps p.tables e below (T28.setTop (mkF m 131 #[.val (.long m1), .second, .val (.long b1), .second, .val (.long r1), .second, .val (.long x1), .second, .val (.long mx), .second, .val (.long tt), .second, .val (.long rr), .second, .val (.long mo), .second, .val (.ref b16), .val (.long (mx - tt)), .second, .val (.int ve), .val (.int z25), .val (.int z26), .val (.int z27), .val (.int z28)] [(.int z26)])) _
      refine XS.iload X28.here hx rfl (hb hby at_131) rfl ?_
      show Steps p.tables e below (T28.setTop (mkF m 133 #[.val (.long m1), .second, .val (.long b1), .second, .val (.long r1), .second, .val (.long x1), .second, .val (.long mx), .second, .val (.long tt), .second, .val (.long rr), .second, .val (.long mo), .second, .val (.ref b16), .val (.long (mx - tt)), .second, .val (.int ve), .val (.int z25), .val (.int z26), .val (.int z27), .val (.int z28)] [(.int ve), (.int z26)])) _
      refine XS.icmpNo X28.here hx rfl (hb hby at_133) rfl (teq he2).2 ?_
      show Steps p.tables e below (T28.setTop (mkF m 136 #[.val (.long m1), .second, .val (.long b1), .second, .val (.long r1), .second, .val (.long x1), .second, .val (.long mx), .second, .val (.long tt), .second, .val (.long rr), .second, .val (.long mo), .second, .val (.ref b16), .val (.long (mx - tt)), .second, .val (.int ve), .val (.int z25), .val (.int z26), .val (.int z27), .val (.int z28)] [])) _
      refine XS.iload X28.here hx rfl (hb hby at_136) rfl ?_
      show Steps p.tables e below (T28.setTop (mkF m 138 #[.val (.long m1), .second, .val (.long b1), .second, .val (.long r1), .second, .val (.long x1), .second, .val (.long mx), .second, .val (.long tt), .second, .val (.long rr), .second, .val (.long mo), .second, .val (.ref b16), .val (.long (mx - tt)), .second, .val (.int ve), .val (.int z25), .val (.int z26), .val (.int z27), .val (.int z28)] [(.int z27)])) _
      refine XS.ifNo X28.here hx rfl (hb hby at_138) rfl ((if0 _ _).trans (feq he3).1) ?_
      show Steps p.tables e below (T28.setTop (mkF m 141 #[.val (.long m1), .second, .val (.long b1), .second, .val (.long r1), .second, .val (.long x1), .second, .val (.long mx), .second, .val (.long tt), .second, .val (.long rr), .second, .val (.long mo), .second, .val (.ref b16), .val (.long (mx - tt)), .second, .val (.int ve), .val (.int z25), .val (.int z26), .val (.int z27), .val (.int z28)] [])) _
      refine XS.iload X28.here hx rfl (hb hby at_141) rfl ?_
      show Steps p.tables e below (T28.setTop (mkF m 143 #[.val (.long m1), .second, .val (.long b1), .second, .val (.long r1), .second, .val (.long x1), .second, .val (.long mx), .second, .val (.long tt), .second, .val (.long rr), .second, .val (.long mo), .second, .val (.ref b16), .val (.long (mx - tt)), .second, .val (.int ve), .val (.int z25), .val (.int z26), .val (.int z27), .val (.int z28)] [(.int z28)])) _
      refine XS.ifNo X28.here hx rfl (hb hby at_143) rfl ((if0 _ _).trans (teq he4).2) ?_
      show Steps p.tables e below (T28.setTop (mkF m 146 #[.val (.long m1), .second, .val (.long b1), .second, .val (.long r1), .second, .val (.long x1), .second, .val (.long mx), .second, .val (.long tt), .second, .val (.long rr), .second, .val (.long mo), .second, .val (.ref b16), .val (.long (mx - tt)), .second, .val (.int ve), .val (.int z25), .val (.int z26), .val (.int z27), .val (.int z28)] [])) _
      refine XS.iconst X28.here hx rfl (hb hby at_146) ?_
      show Steps p.tables e below (T28.setTop (mkF m 147 #[.val (.long m1), .second, .val (.long b1), .second, .val (.long r1), .second, .val (.long x1), .second, .val (.long mx), .second, .val (.long tt), .second, .val (.long rr), .second, .val (.long mo), .second, .val (.ref b16), .val (.long (mx - tt)), .second, .val (.int ve), .val (.int z25), .val (.int z26), .val (.int z27), .val (.int z28)] [(.int (1 : Int32))])) _
      refine XS.goto X28.here hx rfl (pc0 := 147) (pc' := 151) rfl (hb hby at_147) (by decide) (by decide) ?_
      exact k)
  obtain ⟨fs, hr, hrun, hended, hW, hsame⟩ := X28.leave (v := some (.int (1 : Int32))) (fun h => by rw [Bd.returns] at h; cases h)
  refine ⟨_, _, pre29 _ ?_, hrun, hended, _, _, rfl, ?_, ⟨_, rfl⟩, hW, hsame.mono (by decide) (by decide)⟩
  · show Steps p.tables e below (T28.setTop (mkF m 151 #[.val (.long m1), .second, .val (.long b1), .second, .val (.long r1), .second, .val (.long x1), .second, .val (.long mx), .second, .val (.long tt), .second, .val (.long rr), .second, .val (.long mo), .second, .val (.ref b16), .val (.long (mx - tt)), .second, .val (.int ve), .val (.int z25), .val (.int z26), .val (.int z27), .val (.int z28)] [(.int (1 : Int32))])) _
    exact retN X28 hx (t := .boolean) Bd.returns (by simp) (hb hby at_151) hr
  · show Q0 Z m1 b1 r1 x1 h0 n0 _ T28.heap _
    rw [e28]
    exact ⟨rfl, N28⟩
set_option maxRecDepth 65536 in
set_option maxHeartbeats 40000000 in
theorem comes_1 {Post : Tables → Env → Array Value → State → Outcome → State → Prop} (hpost : ∀ tb e args s v u, (limb_1_1.after args s (.returned v) u = true ∧ limb_1_2.after args s (.returned v) u = true ∧ True) → FrameEnd s (.returned v) u (Jvm.fieldLocs frame_1_writes args s ++ Jvm.arrayLocs frame_1_arrays args s ++ Jvm.staticLocs frame_1_statics s) 16 128 → Post tb e args s (.returned v) u) :
    ArmFor flags0 classFile x code maxLocals ret World_1 tables_1 room_1 Calls_1 rest_1 Pre_1 Post := by
  intro l hfl _ _ p e ha hc hk s m args below hf hA hF happ hP
  obtain ⟨hcalls, hrest, hpre⟩ := hP
  obtain ⟨-, -, -, hnamed, -, -, -, hat⟩ := (Spec.applies_iff hf).mp happ
  obtain ⟨hg, hn⟩ := and_e (Cond.before_iff.mp (show (Jvm.Cond.and given_1 narrow_1).before args s = true from hpre))
  obtain ⟨h1, g0⟩ := and_e hg
  obtain ⟨w0, w1, w2, w3, rfl⟩ : ∃ w0 w1 w2 w3 : Value, args = #[w0, w1, w2, w3] := by
    have hs : args.size = 4 := by simpa [Cond.value, given_1] using h1
    obtain ⟨L⟩ := args
    match L, hs with
    | [w0, w1, w2, w3], _ => exact ⟨w0, w1, w2, w3, rfl⟩
  have hw := fun d (hd : d ∈ tables_1) => atoms_spec (ws := Jvm.Cond.code x code maxLocals ret :: tables_1) hat d (List.mem_cons_of_mem _ hd)
  obtain ⟨f0, g1⟩ := and_e g0
  obtain ⟨i0, q0⟩ := isL_v f0
  obtain rfl : w0 = (.long i0) := Option.some.inj q0
  obtain ⟨f1, g2⟩ := and_e g1
  obtain ⟨i1, q1⟩ := isL_v f1
  obtain rfl : w1 = (.long i1) := Option.some.inj q1
  obtain ⟨f2, g3⟩ := and_e g2
  obtain ⟨i2, q2⟩ := isL_v f2
  obtain rfl : w2 = (.long i2) := Option.some.inj q2
  have f3 := g3
  obtain ⟨i3, q3⟩ := isL_v f3
  obtain rfl : w3 = (.long i3) := Option.some.inj q3
  obtain ⟨n, o, h1, h2, h3, _, L, rfl, ⟨rfl, N⟩, hq⟩ := rm0 l s _ hw tables_1 i0 i1 i2 i3 s.heap s.heap.size (Nat.le_refl _)  p e ha hc hk s m _ below hf ((Spec.applies_iff_loose hf).mp happ).1 ⟨rfl, State.Warmed39.refl s, rfl⟩ trivial
  refine ⟨n, _, h1, h2, h3, hpost _ _ _ _ _ _ ⟨Cond.after_iff.mpr rfl, Cond.after_iff.mpr (eq_i res_at (Term.int_eval (1)) rfl), trivial⟩ ⟨hq.1, hq.2.1, (hq.2.2.sift fun y hy => Or.inr (N y hy)).mono (by decide) (by decide)⟩⟩
theorem main_1_1 : Claimed_1_1 := comes_1 fun _ _ _ _ _ _ h hF => ⟨h.1, hF⟩
theorem main_1_2 : Claimed_1_2 := comes_1 fun _ _ _ _ _ _ h hF => ⟨h.2.1, hF⟩
end Jvm.Pilot.@@N@@
namespace Jvm.Pilot.@@N@@
open Jvm Jvm.ClassFile Sem Op Lib Jvm.Free Jvm.Stand Jvm.Pilot.@@N@@.Jvm.D
/-! MADE BY PROGRAM (witnessworld.py) out of the Statement's table words and the real class files: 9 classes; the members and pool entries that the words name. The judged class is class 1, her method 1. -/
namespace start1
open Jvm.ClassFile
def u (s : String) : CpInfo := .utf8 (stringToUtf16 s)
/-- a pool by its gaps: so many unusable entries, then the entry; so many at the end -/
def gap : Nat → List CpInfo → List CpInfo
  | 0, r => r
  | n + 1, r => .unusable :: gap n r
def poolList (es : List (Nat × CpInfo)) (last : Nat) : List CpInfo := es.foldr (fun e r => gap e.1 (e.2 :: r)) (gap last [])
def pool (es : List (Nat × CpInfo)) (last : Nat) : Array CpInfo := ⟨poolList es last⟩
def fileOf (pool : Array CpInfo) (this : Nat) (attrs : Array Attribute := #[]) (ms : Array MethodInfo := #[]) (fl : Nat := 33) (sup : Nat := 0) (ifs : Array Nat := #[]) (fds : Array FieldInfo := #[]) : ClassFile where
  minorVersion := 0
  majorVersion := 65
  constantPool := pool
  accessFlags := fl
  thisClass := this
  superClass := sup
  interfaces := ifs
  fields := fds
  methods := ms
  attributes := attrs
def plain (name : String) (sup : Option ClassId) : Class where
  name := name
  kind := .ordinary
  loader := none
  accessFlags := 33
  super := sup
  interfaces := #[]
  cf := none
  fields := #[]
  methods := #[]
  instanceTypes := #[]
  staticTypes := #[]
  resolved := #[]
  callSites := []
  init := .initialized
  statics := none
  mirror := none

def pool0 : Array CpInfo := pool [(5, u "<init>"), (0, u "()V"), (1, .class_ 10), (1, u "java/lang/Object")] 113

def k0c0 : Code := { maxStack := 0, maxLocals := 1, code := object_method_1_code, exceptionTable := #[], attributes := #[] }
def k0m0 : Method := { name := "<init>", desc := "()V", sig := { parameters := [], returnType := none }, accessFlags := 1, code := some k0c0 }
/-- java/lang/Object -/
def k0 : Class := { plain "java/lang/Object" none with
  accessFlags := 33
  interfaces := #[]
  cf := some (fileOf pool0 8 #[] #[{ accessFlags := 1, nameIndex := 5, descriptorIndex := 6, attributes := #[] }] 33 0 #[] #[])
  fields := #[]
  methods := #[k0m0]
  instanceTypes := #[]
  staticTypes := #[]
  resolved := Array.replicate 124 none
  statics := none }

def pool1 : Array CpInfo := pool [(2, .class_ 4), (1, u "java/lang/Object"), (0, u "<init>"), (0, u "()V"), (0, .class_ 8), (0, u "com/example/offset/offset/group/KeptBytesFitsPinLaw"), (0, .long 4611686018427387903), (1, .class_ 12), (0, u "com/example/offset/offset/group/KeptBytes"), (0, .methodref 11 14), (0, .nameAndType 5 15), (0, u "(J)V"), (0, .methodref 11 17), (0, .nameAndType 18 15), (0, u "add"), (0, .methodref 11 20), (0, .nameAndType 21 22), (0, u "fits"), (0, u "(J)Z"), (0, u "MASK"), (0, u "J"), (3, u "law"), (0, u "(JJJJ)Z")] 3

def k1m0 : Method := { name := "<init>", desc := "()V", sig := { parameters := [], returnType := none }, accessFlags := 1, code := none }
def k1c1 : Code := { maxStack := 6, maxLocals := 24, code := code, exceptionTable := #[], attributes := #[] }
def k1m1 : Method := { name := "law", desc := "(JJJJ)Z", sig := { parameters := [.long, .long, .long, .long], returnType := some .boolean }, accessFlags := 9, code := some k1c1 }
/-- com/example/offset/offset/group/KeptBytesFitsPinLaw -/
def k1 : Class := { plain "com/example/offset/offset/group/KeptBytesFitsPinLaw" (some 0) with
  accessFlags := 49
  interfaces := #[]
  cf := some (fileOf pool1 7 #[] #[{ accessFlags := 1, nameIndex := 5, descriptorIndex := 6, attributes := #[] }, { accessFlags := 9, nameIndex := 28, descriptorIndex := 29, attributes := #[] }] 49 2 #[] #[{ accessFlags := 26, nameIndex := 23, descriptorIndex := 24, attributes := #[] }])
  fields := #[{ name := "MASK", type := .long, accessFlags := 26, slot := 0, constantValue := 0 }]
  methods := #[k1m0, k1m1]
  instanceTypes := #[]
  staticTypes := #[.long]
  resolved := Array.replicate 33 none
  statics := none }

def pool2 : Array CpInfo := pool [(1, .methodref 2 3), (0, .class_ 4), (0, .nameAndType 5 6), (0, u "java/lang/Object"), (0, u "<init>"), (0, u "()V"), (0, .fieldref 8 9), (0, .class_ 10), (0, .nameAndType 11 12), (0, u "com/example/offset/offset/group/KeptBytes"), (0, u "maxBytes"), (0, u "J"), (0, .fieldref 8 14), (0, .nameAndType 15 12), (0, u "bytes"), (0, u "(J)V"), (2, u "fits"), (0, u "(J)Z"), (1, u "add")] 2

def k2c0 : Code := { maxStack := 3, maxLocals := 3, code := prog_20_method_1_code, exceptionTable := #[], attributes := #[] }
def k2m0 : Method := { name := "<init>", desc := "(J)V", sig := { parameters := [.long], returnType := none }, accessFlags := 0, code := some k2c0 }
def k2c1 : Code := { maxStack := 4, maxLocals := 3, code := prog_20_method_2_code, exceptionTable := #[], attributes := #[] }
def k2m1 : Method := { name := "fits", desc := "(J)Z", sig := { parameters := [.long], returnType := some .boolean }, accessFlags := 0, code := some k2c1 }
def k2c2 : Code := { maxStack := 5, maxLocals := 3, code := prog_20_method_3_code, exceptionTable := #[], attributes := #[] }
def k2m2 : Method := { name := "add", desc := "(J)V", sig := { parameters := [.long], returnType := none }, accessFlags := 0, code := some k2c2 }
/-- com/example/offset/offset/group/KeptBytes -/
def k2 : Class := { plain "com/example/offset/offset/group/KeptBytes" (some 0) with
  accessFlags := 32
  interfaces := #[]
  cf := some (fileOf pool2 8 #[] #[{ accessFlags := 0, nameIndex := 5, descriptorIndex := 16, attributes := #[] }, { accessFlags := 0, nameIndex := 19, descriptorIndex := 20, attributes := #[] }, { accessFlags := 0, nameIndex := 22, descriptorIndex := 16, attributes := #[] }] 32 2 #[] #[{ accessFlags := 18, nameIndex := 11, descriptorIndex := 12, attributes := #[] }, { accessFlags := 2, nameIndex := 15, descriptorIndex := 12, attributes := #[] }])
  fields := #[{ name := "maxBytes", type := .long, accessFlags := 18, slot := 0, constantValue := 0 }, { name := "bytes", type := .long, accessFlags := 2, slot := 1, constantValue := 0 }]
  methods := #[k2m0, k2m1, k2m2]
  instanceTypes := #[.long, .long]
  staticTypes := #[]
  resolved := Array.replicate 25 none
  statics := none }

def pool3 : Array CpInfo := pool [(1, u "java/lang/Cloneable"), (0, .class_ 1), (0, u "java/lang/Object"), (0, .class_ 3)] 3

/-- java/lang/Cloneable -/
def k3 : Class := { plain "java/lang/Cloneable" (some 0) with
  accessFlags := 1537
  interfaces := #[]
  cf := some (fileOf pool3 2 #[] #[] 1537 4 #[] #[])
  fields := #[]
  methods := #[]
  instanceTypes := #[]
  staticTypes := #[]
  resolved := Array.replicate 8 none
  statics := none }

def pool4 : Array CpInfo := pool [(1, u "java/io/Serializable"), (0, .class_ 1), (0, u "java/lang/Object"), (0, .class_ 3)] 3

/-- java/io/Serializable -/
def k4 : Class := { plain "java/io/Serializable" (some 0) with
  accessFlags := 1537
  interfaces := #[]
  cf := some (fileOf pool4 2 #[] #[] 1537 4 #[] #[])
  fields := #[]
  methods := #[]
  instanceTypes := #[]
  staticTypes := #[]
  resolved := Array.replicate 8 none
  statics := none }

/-- the primitive byte -/
def k5 : Class := { plain "byte" none with kind := .primitive 'B', accessFlags := 0x411 }
/-- [B -/
def k6 : Class := { plain "[B" (some 0) with kind := .array 5 .byte, interfaces := #[3, 4], accessFlags := 1041 }

/-- the primitive int -/
def k7 : Class := { plain "int" none with kind := .primitive 'I', accessFlags := 0x411 }
/-- [I -/
def k8 : Class := { plain "[I" (some 0) with kind := .array 7 .int, interfaces := #[3, 4], accessFlags := 1041 }

def heap : Heap := #[]
def classes : Array Class := #[k0, k1, k2, k3, k4, k5, k6, k7, k8]
def interned : List (Array UInt16 × Addr) := []
def slotsUsed : Nat := 0
def theMethod : MethodId := ⟨1, 1⟩
def args0 : Array Value := #[.long 7, .long 9, .long 11, .long 5]
def aboutOver (below : List Frame) : State where
  vm := { classes := classes, interned := interned.toArray }
  heap := heap
  slotsUsed := slotsUsed
  threads := #[{ frames := .invoking theMethod args0 :: below }]
def below0 : List Frame := [.native { method := ⟨0, 0⟩, args := #[] }]
def about1 : State := aboutOver below0
def p0 : Program := .bare "" "" ""
def e0 : Env := launch0.env 0 0 0
theorem w_frames : about1.frames = Frame.invoking theMethod args0 :: below0 := rfl
set_option maxRecDepth 65536 in
theorem w_args : argsFit about1.vm theMethod args0 = true := by decide +kernel
set_option maxRecDepth 65536 in
theorem w_heap : heapFits about1 = true := by decide +kernel
set_option maxRecDepth 65536 in
theorem w_runnable : about1.curStatus? = some .runnable := by decide +kernel
set_option maxRecDepth 65536 in
theorem w_alone : about1.alone = true := by decide +kernel
set_option maxRecDepth 65536 in
theorem w_named : about1.methodNamed? x = some theMethod := by decide +kernel
set_option maxRecDepth 65536 in
theorem w_hears : about1.hears theMethod below0 = true := by decide +kernel
set_option maxRecDepth 65536 in
theorem w_ripe : about1.ripe theMethod args0 below0 = true := by decide +kernel
theorem w_running : about1.status = .running := rfl
set_option maxRecDepth 65536 in
theorem w_room : about1.hasRoom e0.platform room_1 = true :=
  launch0.hasRoom_least _ room_1 (by decide +kernel) (by decide +kernel) (by decide +kernel) (by decide +kernel) (by decide +kernel) (by decide +kernel)
theorem allAtoms_all (ts : List Jvm.Cond) (a : Array Jvm.Value) (st : Jvm.State) : (allAtoms ts).before a st = ts.all (fun c => c.before a st) := by
  induction ts with
  | nil => rfl
  | cons c t ih =>
    show (Jvm.Cond.and c (allAtoms t)).before a st = _
    rw [Jvm.Cond.before_and, ih, List.all_cons]
def words1 : List Jvm.Cond := Jvm.Cond.code x code maxLocals ret :: tables_1
/-- a 'code' word, met by the world's own term for the bytes: nothing is compared byte by byte -/
theorem code_word {y : MethodName} {bytes : ByteArray} {mx : Nat} {rt : Option FieldType} {a : Array Value} {s : State} {m : MethodId} {meth : Method} {c : Code} (h1 : s.methodNamed? y = some m) (h2 : s.vm.method? m = some meth) (h3 : meth.code = some c) (h4 : c.code = bytes)
    (h5 : (c.maxLocals == mx && c.exceptionTable.isEmpty && decide (c.maxStack ≤ mostOperands) && decide (meth.sig.returnType = rt) && !meth.locks && decide (parseMethodDescriptor y.desc = some meth.sig)) = true) : (Jvm.Cond.code y bytes mx rt).before a s = true := by
  simp only [Bool.and_eq_true, beq_iff_eq, Bool.not_eq_true', decide_eq_true_eq] at h5
  obtain ⟨⟨⟨⟨⟨g1, g2⟩, g3⟩, g4⟩, g5⟩, g6⟩ := h5
  simp [Cond.before, Cond.holds, Cond.value, h1, h2, h3, h4, g1, g2, g3, g4, g5, g6]
def isCode : Jvm.Cond → Bool
  | .code _ _ _ _ => true
  | _ => false
theorem all_split {L : List Jvm.Cond} {P : Jvm.Cond → Bool} (h1 : L.all (fun c => isCode c || P c) = true) (h2 : ∀ c ∈ L.filter isCode, P c = true) : L.all P = true := by
  refine List.all_eq_true.mpr fun c hc => ?_
  have h := List.all_eq_true.mp h1 c hc
  rcases Bool.eq_false_or_eq_true (isCode c) with hi | hi
  · exact h2 c (List.mem_filter.mpr ⟨hc, hi⟩)
  · simpa [hi] using h
set_option maxRecDepth 65536 in
theorem w_c0 : (Jvm.Cond.code x code maxLocals ret).before args0 about1 = true := code_word (m := ⟨1, 1⟩) (meth := k1m1) (c := k1c1) (by decide +kernel) rfl rfl rfl (by decide +kernel)
set_option maxRecDepth 65536 in
theorem w_c1 : (Jvm.Cond.code ({ cls := "com/example/offset/offset/group/KeptBytes", name := "<init>", desc := "(J)V" } : Jvm.MethodName) prog_20_method_1_code (3 : Nat) (Option.none : Option Jvm.ClassFile.FieldType)).before args0 about1 = true := code_word (m := ⟨2, 0⟩) (meth := k2m0) (c := k2c0) (by decide +kernel) rfl rfl rfl (by decide +kernel)
set_option maxRecDepth 65536 in
theorem w_c2 : (Jvm.Cond.code ({ cls := "java/lang/Object", name := "<init>", desc := "()V" } : Jvm.MethodName) object_method_1_code (1 : Nat) (Option.none : Option Jvm.ClassFile.FieldType)).before args0 about1 = true := code_word (m := ⟨0, 0⟩) (meth := k0m0) (c := k0c0) (by decide +kernel) rfl rfl rfl (by decide +kernel)
set_option maxRecDepth 65536 in
theorem w_c3 : (Jvm.Cond.code ({ cls := "com/example/offset/offset/group/KeptBytes", name := "add", desc := "(J)V" } : Jvm.MethodName) prog_20_method_3_code (3 : Nat) (Option.none : Option Jvm.ClassFile.FieldType)).before args0 about1 = true := code_word (m := ⟨2, 2⟩) (meth := k2m2) (c := k2c2) (by decide +kernel) rfl rfl rfl (by decide +kernel)
set_option maxRecDepth 65536 in
theorem w_c4 : (Jvm.Cond.code ({ cls := "com/example/offset/offset/group/KeptBytes", name := "fits", desc := "(J)Z" } : Jvm.MethodName) prog_20_method_2_code (3 : Nat) (Option.some Jvm.ClassFile.FieldType.boolean)).before args0 about1 = true := code_word (m := ⟨2, 1⟩) (meth := k2m1) (c := k2c1) (by decide +kernel) rfl rfl rfl (by decide +kernel)
def codes1 : List Jvm.Cond := [Jvm.Cond.code x code maxLocals ret, Jvm.Cond.code ({ cls := "com/example/offset/offset/group/KeptBytes", name := "<init>", desc := "(J)V" } : Jvm.MethodName) prog_20_method_1_code (3 : Nat) (Option.none : Option Jvm.ClassFile.FieldType), Jvm.Cond.code ({ cls := "java/lang/Object", name := "<init>", desc := "()V" } : Jvm.MethodName) object_method_1_code (1 : Nat) (Option.none : Option Jvm.ClassFile.FieldType), Jvm.Cond.code ({ cls := "com/example/offset/offset/group/KeptBytes", name := "add", desc := "(J)V" } : Jvm.MethodName) prog_20_method_3_code (3 : Nat) (Option.none : Option Jvm.ClassFile.FieldType), Jvm.Cond.code ({ cls := "com/example/offset/offset/group/KeptBytes", name := "fits", desc := "(J)Z" } : Jvm.MethodName) prog_20_method_2_code (3 : Nat) (Option.some Jvm.ClassFile.FieldType.boolean)]
set_option maxRecDepth 65536 in
theorem codes_eq : words1.filter isCode = codes1 := rfl
theorem w_codes : ∀ c ∈ words1.filter isCode, c.before args0 about1 = true := by
  rw [codes_eq]
  intro c hc
  simp only [codes1, List.mem_cons, List.not_mem_nil, or_false] at hc
  rcases hc with rfl | rfl | rfl | rfl | rfl
  · exact w_c0
  · exact w_c1
  · exact w_c2
  · exact w_c3
  · exact w_c4
set_option maxRecDepth 65536 in
theorem w_t1 : (words1.take 24).all (fun c => isCode c || c.before args0 about1) = true := by decide +kernel
set_option maxRecDepth 65536 in
theorem w_t2 : (words1.drop 24).all (fun c => isCode c || c.before args0 about1) = true := by decide +kernel
theorem w_tables : (allAtoms (Jvm.Cond.code x code maxLocals ret :: tables_1)).before args0 about1 = true := by
  rw [allAtoms_all]
  show words1.all (fun c => c.before args0 about1) = true
  refine all_split ?_ w_codes
  rw [← List.take_append_drop 24 words1, List.all_append, w_t1, w_t2]
  rfl
set_option maxRecDepth 65536 in
theorem w_case : (Jvm.Cond.and given_1 narrow_1).before args0 about1 = true := by decide +kernel
theorem w_applies : (headSpec (Jvm.Cond.code x code maxLocals ret :: tables_1) room_1).applies x e0.platform about1 = true :=
  (Spec.applies_iff w_frames).mpr ⟨w_running, w_runnable, w_alone, w_named, w_hears, w_ripe, w_room, w_tables⟩
theorem atStart : AtStart classFile x code maxLocals ret World_1 tables_1 room_1 Calls_1 rest_1 Pre_1 launch0 p0 e0 about1 theMethod args0 below0 :=
  ⟨lists_1, trivial, launch0.admits_env _ _ _, launch0.least_env, fairChoices_fair.cas, fairChoices_fair.clock, w_frames, w_args, w_heap, w_applies, trivial, trivial, w_case⟩
end start1
theorem witness_1 : WitnessClaimed_1 := ⟨start1.p0, start1.e0, start1.about1, start1.theMethod, start1.args0, start1.below0, start1.atStart⟩
end Jvm.Pilot.@@N@@
