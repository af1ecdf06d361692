import JvmDerived
import JvmDerived.Pilot.@@N@@Statement
import JvmDerived.Pilot.@@N@@Code
set_option linter.unusedVariables false
set_option linter.unusedSimpArgs false
namespace Jvm.RoadKit
open Sem ClassFile Op Lib Jvm.Stand Jvm.Free Jvm.LawKit
section New
variable {p : Program} {l : Launch} {e : Env} {R : Room} {s : State} {m : MethodId} {args : Array Value} {below : List Frame} {meth : Method} {c : Code} {T : State} {locs : List Loc} {cells slots : Nat}
theorem retI (X : Stand p l e R s m args below meth c T locs cells slots) (hx : p.tables.exec = Jvm.exec) {pc : Nat} {Ls : Array Slot} {z : Int32} {rest : List Value} (hret : meth.sig.returnType = some .int) (hd : decode c.code pc = .ok (.ireturn, 1)) {fs : List Frame}
    (hl : ∀ (f : JFrame) (acts : List Action), f.method = m → f.locked = none → f.entered = [] → (doReturn e (T.setTop f) acts (some (.int z))).1 = T.setFrames fs) : Steps p.tables e below (T.setTop (mkF m pc Ls (.int z :: rest))) (T.setFrames fs) := by
  have hm' : T.vm.method? m = some meth := X.method'
  have hn : narrow .int (.int z) = .int z := rfl
  show Steps p.tables e below (T.setTop { method := m, pc := pc, locals := Ls, stack := _ :: rest, locked := none }) _
  jvm_step X.here [X.here.top, hx, hd, hm', hret, hn]
  first | (intro acts; rw [hl _ acts rfl rfl rfl]) | rw [hl _ _ rfl rfl rfl]
  exact Steps.refl _
end New
end Jvm.RoadKit
namespace Jvm.Pilot.@@N@@
open Jvm Jvm.ClassFile Sem Op Lib Jvm.Free Jvm.Stand Jvm.LawKit Jvm.RoadKit Bundle Jvm.Pilot.@@N@@.Jvm.D
theorem own_bytes (p : Int32) : 1 ≤ ((p &&& 4095) + 1).toInt ∧ ((p &&& 4095) + 1).toInt ≤ 4096 := by
  have h := Jvm.RoadKit.c_mask p 4095 12 (by decide) (by decide)
  have a := Jvm.RoadKit.c_iadd (p &&& 4095) 1
  have r := Jvm.RoadKit.rng32 ((p &&& 4095) + 1)
  have e : (1 : Int32).toInt = 1 := by decide
  omega
theorem own_m62 (p : Int64) : 0 ≤ (p &&& 4611686018427387903).toInt ∧ (p &&& 4611686018427387903).toInt < 4611686018427387904 := by
  have := Jvm.RoadKit.c_maskL p 4611686018427387903 62 (by decide) (by decide)
  rw [this]; omega
theorem own_ne0 (b : Int32) (h : 1 ≤ b.toInt) : b ≠ 0 := fun q => by
  rw [q] at h; exact absurd h (by decide)
theorem own_ne0L (b : Int64) (h : 1 ≤ b.toInt) : b ≠ 0 := fun q => by
  rw [q] at h; exact absurd h (by decide)
theorem own_per (b : Int32) (h : 1 ≤ b.toInt) (h1 : b.toInt ≤ 4096) : 1 ≤ ((4096 : Int32) / b).toInt64.toInt ∧ ((4096 : Int32) / b).toInt64.toInt ≤ 4096 := by
  rw [Jvm.RoadKit.c_i2l]
  have hne : b ≠ -1 := fun q => by rw [q] at h; exact absurd h (by decide)
  have e : (4096 : Int32).toInt = 4096 := by decide
  have d := (Jvm.RoadKit.c_idiv 4096 b b.toInt rfl hne).1 (by rw [e]; decide)
  rw [d, e]
  have b1 : 4096 / b.toInt ≤ 4096 := Int.ediv_le_self _ (by decide)
  have b2 : 1 ≤ 4096 / b.toInt := by
    rw [Int.le_ediv_iff_mul_le (by omega)]; omega
  exact ⟨b2, b1⟩
theorem own_ceil (R k : Int) (hR : 0 ≤ R) (hk : 1 ≤ k) : (R % k = 0 → (R + k - 1) / k = R / k) ∧ (R % k ≠ 0 → (R + k - 1) / k = R / k + 1) := by
  have e := Int.emod_add_mul_ediv R k
  have h1 := Int.emod_nonneg R (b := k) (by omega)
  have h2 := Int.emod_lt_of_pos R (b := k) (by omega)
  generalize R % k = r at *
  generalize hq : R / k = q at *
  constructor
  · intro h
    have : R + k - 1 = (k - 1) + k * q := by omega
    rw [this, Int.add_mul_ediv_left _ _ (by omega), Int.ediv_eq_zero_of_lt (by omega) (by omega)]; omega
  · intro h
    have : R + k - 1 = (r - 1) + k * (q + 1) := by rw [Int.mul_add]; omega
    rw [this, Int.add_mul_ediv_left _ _ (by omega), Int.ediv_eq_zero_of_lt (by omega) (by omega)]; omega
theorem own_blocks (R k : Int64) (hR : 0 ≤ R.toInt) (hR1 : R.toInt < 4611686018427387904) (hk : 1 ≤ k.toInt) (hk1 : k.toInt ≤ 4096) :
    (R - (R / k) * k = 0 → ((R + k) - 1) / k = R / k) ∧ (¬ (R - (R / k) * k = 0) → ((R + k) - 1) / k = R / k + 1) := by
  have hne : k ≠ -1 := fun q => by rw [q] at hk; exact absurd hk (by decide)
  have e1 : (1 : Int64).toInt = 1 := by decide
  have e0 : (0 : Int64).toInt = 0 := by decide
  have a := Jvm.RoadKit.c_ladd R k
  have b := Jvm.RoadKit.c_lsub (R + k) 1
  have ra := Jvm.RoadKit.rng64 (R + k)
  have rb := Jvm.RoadKit.rng64 (R + k - 1)
  have es : (R + k - 1).toInt = R.toInt + k.toInt - 1 := by rw [e1] at b; omega
  have d1 := (Jvm.RoadKit.c_ldiv (R + k - 1) k k.toInt rfl hne).1 (by rw [es]; omega)
  have d2 := (Jvm.RoadKit.c_ldiv R k k.toInt rfl hne).1 hR
  have m := (Jvm.RoadKit.c_lrem R k k.toInt rfl).1 hR
  obtain ⟨c1, c2⟩ := own_ceil R.toInt k.toInt hR hk
  have q0 : 0 ≤ R.toInt / k.toInt := Int.ediv_nonneg hR (by omega)
  have q1 : R.toInt / k.toInt ≤ R.toInt := Int.ediv_le_self _ hR
  have p := Jvm.RoadKit.c_ladd (R / k) 1
  have rp := Jvm.RoadKit.rng64 (R / k + 1)
  rw [es] at d1
  constructor
  · intro h
    have hm : R.toInt % k.toInt = 0 := by rw [← m, h, e0]
    apply Int64.toInt_inj.mp
    rw [d1, d2, c1 hm]
  · intro h
    have hm : R.toInt % k.toInt ≠ 0 := fun q => h (by apply Int64.toInt_inj.mp; rw [m, q, e0])
    apply Int64.toInt_inj.mp
    rw [d1, c2 hm]
    rw [d2, e1] at p
    omega
theorem d2_0 : decode jdk_30_method_1_code 0 = .ok (.aload_n 0, 1) := by decide +kernel
theorem d2_1 : decode jdk_30_method_1_code 1 = .ok (.invokespecial 1, 3) := by decide +kernel
theorem d2_4 : decode jdk_30_method_1_code 4 = .ok (.return_, 1) := by decide +kernel
theorem own_pd0 : parseMethodDescriptor "()V" = some ⟨[], none⟩ := by decide +kernel
theorem pn_2 : plainName "java/lang/Record" = true := by first | (simp [plainName, overriddenIn]; done) | decide +kernel
theorem ef_2 (m : MethodId) (a0 : Addr) : entryFrame m #[(.ref a0)] 1 = mkF m 0 #[.val (.ref a0)] [] := by first | (simp [entryFrame, mkF, argsToLocals, Value.category]; done) | rfl
def Q2 (Z : State) (ob : Addr)  (h0 : Heap) (n0 : Nat) (v : Option Value) (h : Heap) (L : List Loc) : Prop := v = none ∧ Fr n0 L ∧ h = h0
set_option maxRecDepth 65536 in
set_option maxHeartbeats 40000000 in
theorem rm2 (l : Launch) (Z : State) (a0 : Array Value) (hw : ∀ d ∈ tables_1, d.before a0 Z = true) (ws : List Jvm.Cond) (ob : Addr)  (h0 : Heap) (n0 : Nat) (Z0 : n0 ≤ h0.size)  :
    MetFree l (⟨"java/lang/Record", "<init>", "()V"⟩ : MethodName) (head1 (Jvm.Cond.code (⟨"java/lang/Record", "<init>", "()V"⟩ : MethodName) jdk_30_method_1_code 1 none :: ws) ({ frames := 1, cells := 0, slots := 0, locals := 12 } : Room)) (fun a U => a = #[(.ref ob)] ∧ Z.Warmed39 U.vm ∧ U.heap = h0) (fun _ _ _ _ _ => True) (fun _ U o U' => ∃ v L, o = .returned v ∧ Q2 Z ob h0 n0 v U'.heap L ∧ FrameEnd U o U' L ({ frames := 1, cells := 0, slots := 0, locals := 12 } : Room).cells ({ frames := 1, cells := 0, slots := 0, locals := 12 } : Room).slots) := by
  refine MetFree.of_bodySF (plainFor_of_name pn_2) hisR ?_
  intro p e s m args below meth c s₁ Bd hml0 hP hK
  obtain ⟨rfl, hZ, hh⟩ := hP
  have hx := Bd.exec
  have hby := Bd.bytes
  have hml : c.maxLocals = 1 := hml0
  have hown : s.vm.findClass "java/lang/Record" = some m.cls := findClass_of_methodNamed Bd.named
  have hnm := (name_of_methodNamed Bd.named Bd.method).1
  have X0 : Stand p l e ({ frames := 1, cells := 0, slots := 0, locals := 12 } : Room) s m #[(.ref ob)] below meth c s₁ [] 0 0 := Stand.of_body Bd
  have e0 : s₁.heap = h0 := by rw [← hh, Bd.state]; rfl
  have N0 := Fr.nil n0
  have pre0 : ∀ t, Steps p.tables e below (s₁.setTop (mkF m 0 #[.val (.ref ob)] [])) t → Steps p.tables e below (s₁.setTop (entryFrame m #[(.ref ob)] 1)) t := fun t k => castTop (ef_2 m ob) k
  obtain ⟨T1, X1, e1, st1⟩ := initO X0 hx hZ hown (hw _ (List.mem_of_getElem? (i := 12) rfl)) (hw _ (List.mem_of_getElem? (i := 13) rfl)) (hw _ (List.mem_of_getElem? (i := 14) rfl)) e0 (g := (mkF m 1 #[.val (.ref ob)] [(.ref ob)])) rfl (by rw [hml]; rfl) rfl (hb hby d2_1) (by decide) (W := 0) (by show 2 * 0 + _ ≤ _; exact Nat.le_of_eq rfl) (by decide)
  have pre2 : ∀ t, Steps p.tables e below (T1.setTop (mkF m 4 #[.val (.ref ob)] [])) t → Steps p.tables e below (s₁.setTop (entryFrame m #[(.ref ob)] 1)) t := fun t k => pre0 t (by
      show Steps p.tables e below (s₁.setTop (mkF m 0 #[.val (.ref ob)] [])) _
      refine XS.aloadN X0.here hx rfl (hb hby d2_0) rfl rfl ?_
      show Steps p.tables e below (s₁.setTop (mkF m 1 #[.val (.ref ob)] [(.ref ob)])) _
      refine st1 _ ?_
      exact k)
  obtain ⟨fs, hr, hrun, hended, hW, hsame⟩ := X1.leave (v := none) (fun _ => rfl)
  refine ⟨_, _, pre2 _ ?_, hrun, hended, _, _, rfl, ?_, ⟨_, rfl⟩, hW, hsame.mono (by decide) (by decide)⟩
  · show Steps p.tables e below (T1.setTop (mkF m 4 #[.val (.ref ob)] [])) _
    exact X1.returnOut hx Bd.returns (hb hby d2_4) hr
  · show Q2 Z ob h0 n0 _ T1.heap _
    rw [e1]
    exact ⟨rfl, N0, rfl⟩
theorem d4_0 : decode prog_112_method_5_code 0 = .ok (.lload_n 0, 1) := by decide +kernel
theorem d4_1 : decode prog_112_method_5_code 1 = .ok (.lconst 1, 1) := by decide +kernel
theorem d4_2 : decode prog_112_method_5_code 2 = .ok (.lcmp, 1) := by decide +kernel
theorem d4_3 : decode prog_112_method_5_code 3 = .ok (.ifCond .lt 11, 3) := by decide +kernel
theorem d4_6 : decode prog_112_method_5_code 6 = .ok (.lload_n 0, 1) := by decide +kernel
theorem d4_7 : decode prog_112_method_5_code 7 = .ok (.ldc2_w 26, 3) := by decide +kernel
theorem d4_10 : decode prog_112_method_5_code 10 = .ok (.lcmp, 1) := by decide +kernel
theorem d4_11 : decode prog_112_method_5_code 11 = .ok (.ifCond .le 36, 3) := by decide +kernel
theorem d4_14 : decode prog_112_method_5_code 14 = .ok (.new 28, 3) := by decide +kernel
theorem d4_17 : decode prog_112_method_5_code 17 = .ok (.dup, 1) := by decide +kernel
theorem d4_18 : decode prog_112_method_5_code 18 = .ok (.ldc 30, 2) := by decide +kernel
theorem d4_20 : decode prog_112_method_5_code 20 = .ok (.iconst 2, 1) := by decide +kernel
theorem d4_21 : decode prog_112_method_5_code 21 = .ok (.anewarray 32, 3) := by decide +kernel
theorem d4_24 : decode prog_112_method_5_code 24 = .ok (.dup, 1) := by decide +kernel
theorem d4_25 : decode prog_112_method_5_code 25 = .ok (.iconst 0, 1) := by decide +kernel
theorem d4_26 : decode prog_112_method_5_code 26 = .ok (.sipush 4096, 3) := by decide +kernel
theorem d4_29 : decode prog_112_method_5_code 29 = .ok (.invokestatic 34, 3) := by decide +kernel
theorem d4_32 : decode prog_112_method_5_code 32 = .ok (.aastore, 1) := by decide +kernel
theorem d4_33 : decode prog_112_method_5_code 33 = .ok (.dup, 1) := by decide +kernel
theorem d4_34 : decode prog_112_method_5_code 34 = .ok (.iconst 1, 1) := by decide +kernel
theorem d4_35 : decode prog_112_method_5_code 35 = .ok (.lload_n 0, 1) := by decide +kernel
theorem d4_36 : decode prog_112_method_5_code 36 = .ok (.invokestatic 40, 3) := by decide +kernel
theorem d4_39 : decode prog_112_method_5_code 39 = .ok (.aastore, 1) := by decide +kernel
theorem d4_40 : decode prog_112_method_5_code 40 = .ok (.invokestatic 45, 3) := by decide +kernel
theorem d4_43 : decode prog_112_method_5_code 43 = .ok (.invokespecial 51, 3) := by decide +kernel
theorem d4_46 : decode prog_112_method_5_code 46 = .ok (.athrow, 1) := by decide +kernel
theorem d4_47 : decode prog_112_method_5_code 47 = .ok (.return_, 1) := by decide +kernel
theorem pn_4 : plainName "com/example/bufferwise/bufferwise/planner/RowWidth" = true := by first | (simp [plainName, overriddenIn]; done) | decide +kernel
theorem ef_4 (m : MethodId) (q0 : Int64) : entryFrame m #[(.long q0)] 2 = mkF m 0 #[.val (.long q0), .second] [] := by first | (simp [entryFrame, mkF, argsToLocals, Value.category]; done) | rfl
def Q4 (Z : State) (ck : Int64)  (h0 : Heap) (n0 : Nat) (v : Option Value) (h : Heap) (L : List Loc) : Prop := v = none ∧ Fr n0 L ∧ h = h0
set_option maxRecDepth 65536 in
set_option maxHeartbeats 40000000 in
theorem rm4 (l : Launch) (Z : State) (a0 : Array Value) (hw : ∀ d ∈ tables_1, d.before a0 Z = true) (ws : List Jvm.Cond) (ck : Int64)  (h0 : Heap) (n0 : Nat) (Z0 : n0 ≤ h0.size) (hk1 : ¬ ck < 1) (hk2 : ¬ (4096 : Int64) < ck) :
    MetFree l (⟨"com/example/bufferwise/bufferwise/planner/RowWidth", "check", "(J)V"⟩ : MethodName) (head1 (Jvm.Cond.code (⟨"com/example/bufferwise/bufferwise/planner/RowWidth", "check", "(J)V"⟩ : MethodName) prog_112_method_5_code 2 none :: ws) ({ frames := 0, cells := 0, slots := 0, locals := 0 } : Room)) (fun a U => a = #[(.long ck)] ∧ Z.Warmed39 U.vm ∧ U.heap = h0) (fun _ _ _ _ _ => True) (fun _ U o U' => ∃ v L, o = .returned v ∧ Q4 Z ck h0 n0 v U'.heap L ∧ FrameEnd U o U' L ({ frames := 0, cells := 0, slots := 0, locals := 0 } : Room).cells ({ frames := 0, cells := 0, slots := 0, locals := 0 } : Room).slots) := by
  refine MetFree.of_bodySF (plainFor_of_name pn_4) hisR ?_
  intro p e s m args below meth c s₁ Bd hml0 hP hK
  obtain ⟨rfl, hZ, hh⟩ := hP
  have hx := Bd.exec
  have hby := Bd.bytes
  have hml : c.maxLocals = 2 := hml0
  have hown : s.vm.findClass "com/example/bufferwise/bufferwise/planner/RowWidth" = some m.cls := findClass_of_methodNamed Bd.named
  have hnm := (name_of_methodNamed Bd.named Bd.method).1
  have X0 : Stand p l e ({ frames := 0, cells := 0, slots := 0, locals := 0 } : Room) s m #[(.long ck)] below meth c s₁ [] 0 0 := Stand.of_body Bd
  have e0 : s₁.heap = h0 := by rw [← hh, Bd.state]; rfl
  have N0 := Fr.nil n0
  have pre0 : ∀ t, Steps p.tables e below (s₁.setTop (mkF m 0 #[.val (.long ck), .second] [])) t → Steps p.tables e below (s₁.setTop (entryFrame m #[(.long ck)] 2)) t := fun t k => castTop (ef_4 m ck) k
  have pre3 : ∀ t, Steps p.tables e below (s₁.setTop (mkF m 47 #[.val (.long ck), .second] [])) t → Steps p.tables e below (s₁.setTop (entryFrame m #[(.long ck)] 2)) t := fun t k => pre0 t (by
      show Steps p.tables e below (s₁.setTop (mkF m 0 #[.val (.long ck), .second] [])) _
      refine XS.lloadN X0.here hx rfl (hb hby d4_0) rfl ?_
      show Steps p.tables e below (s₁.setTop (mkF m 1 #[.val (.long ck), .second] [(.long ck)])) _
      refine XS.lconst X0.here hx rfl (hb hby d4_1) ?_
      show Steps p.tables e below (s₁.setTop (mkF m 2 #[.val (.long ck), .second] [(.long (1 : Int64)), (.long ck)])) _
      refine XS.lcmp X0.here hx rfl (hb hby d4_2) rfl ?_
      show Steps p.tables e below (s₁.setTop (mkF m 3 #[.val (.long ck), .second] [(.int (lcmpW ck (1 : Int64)))])) _
      refine XS.ifNo X0.here hx rfl (hb hby d4_3) rfl ((if0 _ _).trans (flt (fun q => hk1 ((lw_lt _ _).mp q))).1) ?_
      show Steps p.tables e below (s₁.setTop (mkF m 6 #[.val (.long ck), .second] [])) _
      refine XS.lloadN X0.here hx rfl (hb hby d4_6) rfl ?_
      show Steps p.tables e below (s₁.setTop (mkF m 7 #[.val (.long ck), .second] [(.long ck)])) _
      refine X0.ldc2Long hx hown (mvT hZ (hw _ (List.mem_of_getElem? (i := 18) rfl))) (g := (mkF m 7 #[.val (.long ck), .second] [(.long ck)])) rfl (hb hby d4_7) _ ?_
      show Steps p.tables e below (s₁.setTop (mkF m 10 #[.val (.long ck), .second] [(.long (4096 : Int64)), (.long ck)])) _
      refine XS.lcmp X0.here hx rfl (hb hby d4_10) rfl ?_
      show Steps p.tables e below (s₁.setTop (mkF m 11 #[.val (.long ck), .second] [(.int (lcmpW ck (4096 : Int64)))])) _
      refine XS.ifYes X0.here hx rfl (pc0 := 11) (pc' := 47) rfl (hb hby d4_11) rfl ((if0 _ _).trans (flt (fun q => hk2 ((lw_gt _ _).mp q))).2.2.2) (by decide) (by decide) ?_
      exact k)
  obtain ⟨fs, hr, hrun, hended, hW, hsame⟩ := X0.leave (v := none) (fun _ => rfl)
  refine ⟨_, _, pre3 _ ?_, hrun, hended, _, _, rfl, ?_, ⟨_, rfl⟩, hW, hsame.mono (by decide) (by decide)⟩
  · show Steps p.tables e below (s₁.setTop (mkF m 47 #[.val (.long ck), .second] [])) _
    exact X0.returnOut hx Bd.returns (hb hby d4_47) hr
  · show Q4 Z ck h0 n0 _ s₁.heap _
    rw [e0]
    exact ⟨rfl, N0, rfl⟩
theorem d1_0 : decode prog_112_method_1_code 0 = .ok (.aload_n 0, 1) := by decide +kernel
theorem d1_1 : decode prog_112_method_1_code 1 = .ok (.invokespecial 1, 3) := by decide +kernel
theorem d1_4 : decode prog_112_method_1_code 4 = .ok (.iload_n 1, 1) := by decide +kernel
theorem d1_5 : decode prog_112_method_1_code 5 = .ok (.i2l, 1) := by decide +kernel
theorem d1_6 : decode prog_112_method_1_code 6 = .ok (.invokestatic 7, 3) := by decide +kernel
theorem d1_9 : decode prog_112_method_1_code 9 = .ok (.aload_n 0, 1) := by decide +kernel
theorem d1_10 : decode prog_112_method_1_code 10 = .ok (.iload_n 1, 1) := by decide +kernel
theorem d1_11 : decode prog_112_method_1_code 11 = .ok (.putfield 13, 3) := by decide +kernel
theorem d1_14 : decode prog_112_method_1_code 14 = .ok (.return_, 1) := by decide +kernel
theorem own_pd1 : parseMethodDescriptor "(J)V" = some ⟨[.long], none⟩ := by decide +kernel
theorem pn_1 : plainName "com/example/bufferwise/bufferwise/planner/RowWidth" = true := by first | (simp [plainName, overriddenIn]; done) | decide +kernel
theorem ef_1 (m : MethodId) (a0 : Addr) (p1 : Int32) : entryFrame m #[(.ref a0), (.int p1)] 2 = mkF m 0 #[.val (.ref a0), .val (.int p1)] [] := by first | (simp [entryFrame, mkF, argsToLocals, Value.category]; done) | rfl
def Q1 (Z : State) (ob : Addr) (by0 : Int32)  (h0 : Heap) (n0 : Nat) (v : Option Value) (h : Heap) (L : List Loc) : Prop := v = none ∧ Fr n0 L ∧ n0 ≤ h.size ∧ Exa Z h ob "com/example/bufferwise/bufferwise/planner/RowWidth" ∧ Fld Z h ob "com/example/bufferwise/bufferwise/planner/RowWidth" "bytes" "I" (.int by0)
set_option maxRecDepth 65536 in
set_option maxHeartbeats 40000000 in
theorem rm1 (l : Launch) (Z : State) (a0 : Array Value) (hw : ∀ d ∈ tables_1, d.before a0 Z = true) (ws : List Jvm.Cond) (ob : Addr) (by0 : Int32)  (h0 : Heap) (n0 : Nat) (Z0 : n0 ≤ h0.size) (Ex : Exa Z h0 ob "com/example/bufferwise/bufferwise/planner/RowWidth") (Fb : Fld Z h0 ob "com/example/bufferwise/bufferwise/planner/RowWidth" "bytes" "I" (.int 0)) (ga : n0 ≤ ob) (hk1 : ¬ by0.toInt64 < 1) (hk2 : ¬ (4096 : Int64) < by0.toInt64) :
    MetFree l (⟨"com/example/bufferwise/bufferwise/planner/RowWidth", "<init>", "(I)V"⟩ : MethodName) (head1 (Jvm.Cond.code (⟨"com/example/bufferwise/bufferwise/planner/RowWidth", "<init>", "(I)V"⟩ : MethodName) prog_112_method_1_code 2 none :: ws) ({ frames := 2, cells := 0, slots := 0, locals := 24 } : Room)) (fun a U => a = #[(.ref ob), (.int by0)] ∧ Z.Warmed39 U.vm ∧ U.heap = h0) (fun _ _ _ _ _ => True) (fun _ U o U' => ∃ v L, o = .returned v ∧ Q1 Z ob by0 h0 n0 v U'.heap L ∧ FrameEnd U o U' L ({ frames := 2, cells := 0, slots := 0, locals := 24 } : Room).cells ({ frames := 2, cells := 0, slots := 0, locals := 24 } : Room).slots) := by
  refine MetFree.of_bodySF (plainFor_of_name pn_1) hisR ?_
  intro p e s m args below meth c s₁ Bd hml0 hP hK
  obtain ⟨rfl, hZ, hh⟩ := hP
  have hx := Bd.exec
  have hby := Bd.bytes
  have hml : c.maxLocals = 2 := hml0
  have hown : s.vm.findClass "com/example/bufferwise/bufferwise/planner/RowWidth" = some m.cls := findClass_of_methodNamed Bd.named
  have hnm := (name_of_methodNamed Bd.named Bd.method).1
  have X0 : Stand p l e ({ frames := 2, cells := 0, slots := 0, locals := 24 } : Room) s m #[(.ref ob), (.int by0)] below meth c s₁ [] 0 0 := Stand.of_body Bd
  have e0 : s₁.heap = h0 := by rw [← hh, Bd.state]; rfl
  have N0 := Fr.nil n0
  have pre0 : ∀ t, Steps p.tables e below (s₁.setTop (mkF m 0 #[.val (.ref ob), .val (.int by0)] [])) t → Steps p.tables e below (s₁.setTop (entryFrame m #[(.ref ob), (.int by0)] 2)) t := fun t k => castTop (ef_1 m ob by0) k
  obtain ⟨_, _, ⟨T4, L4, k4, n4⟩, -, X4, ⟨Lc4, hQ4, l4, y4, z4⟩, st4⟩ := X0.specialBack hx (y := (⟨"java/lang/Record", "<init>", "()V"⟩ : MethodName)) rfl hown (mvT hZ (hw _ (List.mem_of_getElem? (i := 7) rfl))) (mvT hZ (hw _ (List.mem_of_getElem? (i := 8) rfl))) (mvT hZ (hw _ (List.mem_of_getElem? (i := 11) rfl))) (by decide) (backOf (W := 0) (rm2 l Z a0 hw [] ob  h0 n0 Z0) hZ (hw _ (List.mem_of_getElem? (i := 11) rfl)) (hw _ (List.mem_of_getElem? (i := 10) rfl)) (by decide) (by decide)) (g := (mkF m 1 #[.val (.ref ob), .val (.int by0)] [(.ref ob)])) rfl (by rw [hml]; rfl) (Steps.refl _) (a := ob) (argsL := []) (rest := []) (lenOf own_pd0 rfl) rfl (by show 2 * 0 + _ ≤ _; exact Nat.le_of_eq rfl) (hb hby d1_1) (fun _ _ => ⟨rfl, e0, (by decide : 0 + 0 ≤ _), (by decide : 0 + 0 ≤ _)⟩)
  dsimp only [Pt.U, Pt.locs, Pt.cells, Pt.slots] at X4 l4 y4 z4 st4 hQ4
  subst l4 y4 z4
  obtain ⟨rfl, N4q, e4⟩ := hQ4
  have N4 := Fr.app N0 N4q
  obtain ⟨_, _, ⟨T5, L5, k5, n5⟩, -, X5, ⟨Lc5, hQ5, l5, y5, z5⟩, st5⟩ := Jvm.LawKit.callS X4 hx (y := (⟨"com/example/bufferwise/bufferwise/planner/RowWidth", "check", "(J)V"⟩ : MethodName)) hown (mvT hZ (hw _ (List.mem_of_getElem? (i := 15) rfl))) (mvT hZ (hw _ (List.mem_of_getElem? (i := 16) rfl))) (mvT hZ (hw _ (List.mem_of_getElem? (i := 3) rfl))) (mvT hZ (hw _ (List.mem_of_getElem? (i := 17) rfl))) (by decide) (backOf (W := 0) (rm4 l Z a0 hw [] (by0.toInt64)  h0 n0 Z0 hk1 hk2) hZ (hw _ (List.mem_of_getElem? (i := 17) rfl)) (hw _ (List.mem_of_getElem? (i := 3) rfl)) (by decide) (by decide)) (g := (mkF m 6 #[.val (.ref ob), .val (.int by0)] [(.long (by0.toInt64))])) rfl (by rw [hml]; rfl) (argsL := [(.long (by0.toInt64))]) (rest := []) (lenOf own_pd1 rfl) rfl (by show 2 * 0 + _ ≤ _; exact Nat.le_of_eq rfl) (hb hby d1_6) (fun _ _ => ⟨rfl, e4, (by decide : 0 + 0 ≤ _), (by decide : 0 + 0 ≤ _)⟩)
  dsimp only [Pt.U, Pt.locs, Pt.cells, Pt.slots] at X5 l5 y5 z5 st5 hQ5
  subst l5 y5 z5
  obtain ⟨rfl, N5q, e5⟩ := hQ5
  have N5 := Fr.app N4 N5q
  obtain ⟨T6, h6, X6, e6, W6, st6⟩ := putF X5 hx hZ hown (host := "") (Or.inl (hw _ (List.mem_of_getElem? (i := 19) rfl))) Via.refl e5 Fb Ex (Or.inr ⟨(hw _ (List.mem_of_getElem? (i := 20) rfl)), rfl, hnm⟩) (hw _ (List.mem_of_getElem? (i := 2) rfl)) (ty := .int) (by decide) rfl rfl (g := (mkF m 11 #[.val (.ref ob), .val (.int by0)] [(.int by0), (.ref ob)])) rfl rfl (hb hby d1_11)
  have N6 := Fr.snoc X6 N5 ga
  have Z6 : n0 ≤ h6.size := Nat.le_trans Z0 (Nat.le_of_eq W6.size.symm)
  have pre7 : ∀ t, Steps p.tables e below (T6.setTop (mkF m 14 #[.val (.ref ob), .val (.int by0)] [])) t → Steps p.tables e below (s₁.setTop (entryFrame m #[(.ref ob), (.int by0)] 2)) t := fun t k => pre0 t (by
      show Steps p.tables e below (s₁.setTop (mkF m 0 #[.val (.ref ob), .val (.int by0)] [])) _
      refine XS.aloadN X0.here hx rfl (hb hby d1_0) rfl rfl ?_
      show Steps p.tables e below (s₁.setTop (mkF m 1 #[.val (.ref ob), .val (.int by0)] [(.ref ob)])) _
      refine st4.trans ?_
      show Steps p.tables e below (T4.setTop (mkF m 4 #[.val (.ref ob), .val (.int by0)] [])) _
      refine XS.iloadN X4.here hx rfl (hb hby d1_4) rfl ?_
      show Steps p.tables e below (T4.setTop (mkF m 5 #[.val (.ref ob), .val (.int by0)] [(.int by0)])) _
      refine XS.i2l X4.here hx rfl (hb hby d1_5) rfl ?_
      show Steps p.tables e below (T4.setTop (mkF m 6 #[.val (.ref ob), .val (.int by0)] [(.long (by0.toInt64))])) _
      refine st5 _ ?_
      show Steps p.tables e below (T5.setTop (mkF m 9 #[.val (.ref ob), .val (.int by0)] [])) _
      refine XS.aloadN X5.here hx rfl (hb hby d1_9) rfl rfl ?_
      show Steps p.tables e below (T5.setTop (mkF m 10 #[.val (.ref ob), .val (.int by0)] [(.ref ob)])) _
      refine XS.iloadN X5.here hx rfl (hb hby d1_10) rfl ?_
      show Steps p.tables e below (T5.setTop (mkF m 11 #[.val (.ref ob), .val (.int by0)] [(.int by0), (.ref ob)])) _
      refine st6 _ ?_
      exact k)
  obtain ⟨fs, hr, hrun, hended, hW, hsame⟩ := X6.leave (v := none) (fun _ => rfl)
  refine ⟨_, _, pre7 _ ?_, hrun, hended, _, _, rfl, ?_, ⟨_, rfl⟩, hW, hsame.mono (by decide) (by decide)⟩
  · show Steps p.tables e below (T6.setTop (mkF m 14 #[.val (.ref ob), .val (.int by0)] [])) _
    exact X6.returnOut hx Bd.returns (hb hby d1_14) hr
  · show Q1 Z ob by0 h0 n0 _ T6.heap _
    rw [e6]
    exact ⟨rfl, N6, Z6, Ex.wr W6, Fb.same W6⟩
theorem d6_0 : decode prog_112_method_3_code 0 = .ok (.sipush 4096, 3) := by decide +kernel
theorem d6_3 : decode prog_112_method_3_code 3 = .ok (.aload_n 0, 1) := by decide +kernel
theorem d6_4 : decode prog_112_method_3_code 4 = .ok (.getfield 13, 3) := by decide +kernel
theorem d6_7 : decode prog_112_method_3_code 7 = .ok (.idiv, 1) := by decide +kernel
theorem d6_8 : decode prog_112_method_3_code 8 = .ok (.ireturn, 1) := by decide +kernel
theorem pn_6 : plainName "com/example/bufferwise/bufferwise/planner/RowWidth" = true := by first | (simp [plainName, overriddenIn]; done) | decide +kernel
theorem ef_6 (m : MethodId) (a0 : Addr) : entryFrame m #[(.ref a0)] 1 = mkF m 0 #[.val (.ref a0)] [] := by first | (simp [entryFrame, mkF, argsToLocals, Value.category]; done) | rfl
def Q6 (Z : State) (ob : Addr) (by0 : Int32) (h0 : Heap) (n0 : Nat) (v : Option Value) (h : Heap) (L : List Loc) : Prop := v = some (.int ((4096 : Int32) / by0)) ∧ Fr n0 L ∧ h = h0
set_option maxRecDepth 65536 in
set_option maxHeartbeats 40000000 in
theorem rm6 (l : Launch) (Z : State) (a0 : Array Value) (hw : ∀ d ∈ tables_1, d.before a0 Z = true) (ws : List Jvm.Cond) (ob : Addr) (by0 : Int32) (h0 : Heap) (n0 : Nat) (Z0 : n0 ≤ h0.size) (Fb : Fld Z h0 ob "com/example/bufferwise/bufferwise/planner/RowWidth" "bytes" "I" (.int by0)) (hnz7 : by0 ≠ 0) :
    MetFree l (⟨"com/example/bufferwise/bufferwise/planner/RowWidth", "rowsPerBlock", "()I"⟩ : MethodName) (head1 (Jvm.Cond.code (⟨"com/example/bufferwise/bufferwise/planner/RowWidth", "rowsPerBlock", "()I"⟩ : MethodName) prog_112_method_3_code 1 (some .int) :: ws) ({ frames := 0, cells := 0, slots := 0, locals := 0 } : Room)) (fun a U => a = #[(.ref ob)] ∧ Z.Warmed39 U.vm ∧ U.heap = h0) (fun _ _ _ _ _ => True) (fun _ U o U' => ∃ v L, o = .returned v ∧ Q6 Z ob by0 h0 n0 v U'.heap L ∧ FrameEnd U o U' L ({ frames := 0, cells := 0, slots := 0, locals := 0 } : Room).cells ({ frames := 0, cells := 0, slots := 0, locals := 0 } : Room).slots) := by
  refine MetFree.of_bodySF (plainFor_of_name pn_6) hisR ?_
  intro p e s m args below meth c s₁ Bd hml0 hP hK
  obtain ⟨rfl, hZ, hh⟩ := hP
  have hx := Bd.exec
  have hby := Bd.bytes
  have hml : c.maxLocals = 1 := hml0
  have hown : s.vm.findClass "com/example/bufferwise/bufferwise/planner/RowWidth" = some m.cls := findClass_of_methodNamed Bd.named
  have hnm := (name_of_methodNamed Bd.named Bd.method).1
  have X0 : Stand p l e ({ frames := 0, cells := 0, slots := 0, locals := 0 } : Room) s m #[(.ref ob)] below meth c s₁ [] 0 0 := Stand.of_body Bd
  have e0 : s₁.heap = h0 := by rw [← hh, Bd.state]; rfl
  have N0 := Fr.nil n0
  have pre0 : ∀ t, Steps p.tables e below (s₁.setTop (mkF m 0 #[.val (.ref ob)] [])) t → Steps p.tables e below (s₁.setTop (entryFrame m #[(.ref ob)] 1)) t := fun t k => castTop (ef_6 m ob) k
  obtain ⟨T8, X8, e8, st8⟩ := getF X0 hx hZ hown (host := "") (Or.inl (hw _ (List.mem_of_getElem? (i := 19) rfl))) Via.refl e0 Fb (g := (mkF m 4 #[.val (.ref ob)] [(.ref ob), (.int (4096 : Int32))])) rfl rfl (hb hby d6_4)
  have pre9 : ∀ t, Steps p.tables e below (T8.setTop (mkF m 8 #[.val (.ref ob)] [(.int ((4096 : Int32) / by0))])) t → Steps p.tables e below (s₁.setTop (entryFrame m #[(.ref ob)] 1)) t := fun t k => pre0 t (by
      show Steps p.tables e below (s₁.setTop (mkF m 0 #[.val (.ref ob)] [])) _
      refine XS.sipush X0.here hx rfl (hb hby d6_0) ?_
      show Steps p.tables e below (s₁.setTop (mkF m 3 #[.val (.ref ob)] [(.int (4096 : Int32))])) _
      refine XS.aloadN X0.here hx rfl (hb hby d6_3) rfl rfl ?_
      show Steps p.tables e below (s₁.setTop (mkF m 4 #[.val (.ref ob)] [(.ref ob), (.int (4096 : Int32))])) _
      refine st8 _ ?_
      show Steps p.tables e below (T8.setTop (mkF m 7 #[.val (.ref ob)] [(.int by0), (.int (4096 : Int32))])) _
      refine XS.idiv X8.here hx rfl (hb hby d6_7) rfl hnz7 ?_
      exact k)
  obtain ⟨fs, hr, hrun, hended, hW, hsame⟩ := X8.leave (v := some (.int ((4096 : Int32) / by0))) (fun h => by rw [Bd.returns] at h; cases h)
  refine ⟨_, _, pre9 _ ?_, hrun, hended, _, _, rfl, ?_, ⟨_, rfl⟩, hW, hsame.mono (by decide) (by decide)⟩
  · show Steps p.tables e below (T8.setTop (mkF m 8 #[.val (.ref ob)] [(.int ((4096 : Int32) / by0))])) _
    exact retI X8 hx Bd.returns (hb hby d6_8) hr
  · show Q6 Z ob by0 h0 n0 _ T8.heap _
    rw [e8]
    exact ⟨rfl, N0, rfl⟩
theorem d5_0 : decode prog_112_method_4_code 0 = .ok (.aload_n 0, 1) := by decide +kernel
theorem d5_1 : decode prog_112_method_4_code 1 = .ok (.invokevirtual 22, 3) := by decide +kernel
theorem d5_4 : decode prog_112_method_4_code 4 = .ok (.istore_n 3, 1) := by decide +kernel
theorem d5_5 : decode prog_112_method_4_code 5 = .ok (.lload_n 1, 1) := by decide +kernel
theorem d5_6 : decode prog_112_method_4_code 6 = .ok (.iload_n 3, 1) := by decide +kernel
theorem d5_7 : decode prog_112_method_4_code 7 = .ok (.i2l, 1) := by decide +kernel
theorem d5_8 : decode prog_112_method_4_code 8 = .ok (.ladd, 1) := by decide +kernel
theorem d5_9 : decode prog_112_method_4_code 9 = .ok (.lconst 1, 1) := by decide +kernel
theorem d5_10 : decode prog_112_method_4_code 10 = .ok (.lsub, 1) := by decide +kernel
theorem d5_11 : decode prog_112_method_4_code 11 = .ok (.iload_n 3, 1) := by decide +kernel
theorem d5_12 : decode prog_112_method_4_code 12 = .ok (.i2l, 1) := by decide +kernel
theorem d5_13 : decode prog_112_method_4_code 13 = .ok (.ldiv, 1) := by decide +kernel
theorem d5_14 : decode prog_112_method_4_code 14 = .ok (.lreturn, 1) := by decide +kernel
theorem own_pd2 : parseMethodDescriptor "()I" = some ⟨[], some .int⟩ := by decide +kernel
theorem pn_5 : plainName "com/example/bufferwise/bufferwise/planner/RowWidth" = true := by first | (simp [plainName, overriddenIn]; done) | decide +kernel
theorem ef_5 (m : MethodId) (a0 : Addr) (q1 : Int64) : entryFrame m #[(.ref a0), (.long q1)] 4 = mkF m 0 #[.val (.ref a0), .val (.long q1), .second, .unset] [] := by first | (simp [entryFrame, mkF, argsToLocals, Value.category]; done) | rfl
def Q5 (Z : State) (ob : Addr) (rw0 : Int64) (by0 : Int32) (h0 : Heap) (n0 : Nat) (v : Option Value) (h : Heap) (L : List Loc) : Prop := v = some (.long (((rw0 + ((4096 : Int32) / by0).toInt64) - 1) / ((4096 : Int32) / by0).toInt64)) ∧ Fr n0 L ∧ h = h0
set_option maxRecDepth 65536 in
set_option maxHeartbeats 40000000 in
theorem rm5 (l : Launch) (Z : State) (a0 : Array Value) (hw : ∀ d ∈ tables_1, d.before a0 Z = true) (ws : List Jvm.Cond) (ob : Addr) (rw0 : Int64) (by0 : Int32) (h0 : Heap) (n0 : Nat) (Z0 : n0 ≤ h0.size) (Ex : Exa Z h0 ob "com/example/bufferwise/bufferwise/planner/RowWidth") (Fb : Fld Z h0 ob "com/example/bufferwise/bufferwise/planner/RowWidth" "bytes" "I" (.int by0)) (hnz : by0 ≠ 0) (hnz13 : ((4096 : Int32) / by0).toInt64 ≠ 0) :
    MetFree l (⟨"com/example/bufferwise/bufferwise/planner/RowWidth", "blocksFor", "(J)J"⟩ : MethodName) (head1 (Jvm.Cond.code (⟨"com/example/bufferwise/bufferwise/planner/RowWidth", "blocksFor", "(J)J"⟩ : MethodName) prog_112_method_4_code 4 (some .long) :: ws) ({ frames := 1, cells := 0, slots := 0, locals := 12 } : Room)) (fun a U => a = #[(.ref ob), (.long rw0)] ∧ Z.Warmed39 U.vm ∧ U.heap = h0) (fun _ _ _ _ _ => True) (fun _ U o U' => ∃ v L, o = .returned v ∧ Q5 Z ob rw0 by0 h0 n0 v U'.heap L ∧ FrameEnd U o U' L ({ frames := 1, cells := 0, slots := 0, locals := 12 } : Room).cells ({ frames := 1, cells := 0, slots := 0, locals := 12 } : Room).slots) := by
  refine MetFree.of_bodySF (plainFor_of_name pn_5) hisR ?_
  intro p e s m args below meth c s₁ Bd hml0 hP hK
  obtain ⟨rfl, hZ, hh⟩ := hP
  have hx := Bd.exec
  have hby := Bd.bytes
  have hml : c.maxLocals = 4 := hml0
  have hown : s.vm.findClass "com/example/bufferwise/bufferwise/planner/RowWidth" = some m.cls := findClass_of_methodNamed Bd.named
  have hnm := (name_of_methodNamed Bd.named Bd.method).1
  have X0 : Stand p l e ({ frames := 1, cells := 0, slots := 0, locals := 12 } : Room) s m #[(.ref ob), (.long rw0)] below meth c s₁ [] 0 0 := Stand.of_body Bd
  have e0 : s₁.heap = h0 := by rw [← hh, Bd.state]; rfl
  have N0 := Fr.nil n0
  have pre0 : ∀ t, Steps p.tables e below (s₁.setTop (mkF m 0 #[.val (.ref ob), .val (.long rw0), .second, .unset] [])) t → Steps p.tables e below (s₁.setTop (entryFrame m #[(.ref ob), (.long rw0)] 4)) t := fun t k => castTop (ef_5 m ob rw0) k
  obtain ⟨cq10, kq10, q10a, q10b, q10c⟩ := isOf hZ e0 Ex
  obtain ⟨_, _, ⟨T10, L10, k10, n10⟩, -, X10, ⟨Lc10, hQ10, l10, y10, z10⟩, st10⟩ := X0.virtualBack hx (y := (⟨"com/example/bufferwise/bufferwise/planner/RowWidth", "rowsPerBlock", "()I"⟩ : MethodName)) (z := (⟨"com/example/bufferwise/bufferwise/planner/RowWidth", "rowsPerBlock", "()I"⟩ : MethodName)) hown (mvT hZ (hw _ (List.mem_of_getElem? (i := 26) rfl))) (mvT hZ (hw _ (List.mem_of_getElem? (i := 27) rfl))) (notFace_of_selects (args := #[]) (mvT hZ (hw _ (List.mem_of_getElem? (i := 29) rfl)))) (mvT hZ (hw _ (List.mem_of_getElem? (i := 29) rfl))) (mvT hZ (hw _ (List.mem_of_getElem? (i := 28) rfl))) (by decide) (backOf (W := 0) (rm6 l Z a0 hw [] ob by0 h0 n0 Z0 Fb hnz) hZ (hw _ (List.mem_of_getElem? (i := 30) rfl)) (hw _ (List.mem_of_getElem? (i := 3) rfl)) (by decide) (by decide)) q10a q10c (g := (mkF m 1 #[.val (.ref ob), .val (.long rw0), .second, .unset] [(.ref ob)])) rfl (by rw [hml]; rfl) (Steps.refl _) (argsL := []) (rest := []) (lenOf own_pd2 rfl) rfl (by show 2 * 0 + _ ≤ _; exact Nat.le_of_eq rfl) (hb hby d5_1) (fun _ _ => ⟨rfl, e0, (by decide : 0 + 0 ≤ _), (by decide : 0 + 0 ≤ _)⟩)
  dsimp only [Pt.U, Pt.locs, Pt.cells, Pt.slots] at X10 l10 y10 z10 st10 hQ10
  subst l10 y10 z10
  obtain ⟨rfl, N10q, e10⟩ := hQ10
  have N10 := Fr.app N0 N10q
  have pre11 : ∀ t, Steps p.tables e below (T10.setTop (mkF m 14 #[.val (.ref ob), .val (.long rw0), .second, .val (.int ((4096 : Int32) / by0))] [(.long (((rw0 + (((4096 : Int32) / by0).toInt64)) - (1 : Int64)) / (((4096 : Int32) / by0).toInt64)))])) t → Steps p.tables e below (s₁.setTop (entryFrame m #[(.ref ob), (.long rw0)] 4)) t := fun t k => pre0 t (by
      show Steps p.tables e below (s₁.setTop (mkF m 0 #[.val (.ref ob), .val (.long rw0), .second, .unset] [])) _
      refine XS.aloadN X0.here hx rfl (hb hby d5_0) rfl rfl ?_
      show Steps p.tables e below (s₁.setTop (mkF m 1 #[.val (.ref ob), .val (.long rw0), .second, .unset] [(.ref ob)])) _
      refine st10.trans ?_
      show Steps p.tables e below (T10.setTop (mkF m 4 #[.val (.ref ob), .val (.long rw0), .second, .unset] [(.int ((4096 : Int32) / by0))])) _
      refine XS.istoreN X10.here hx rfl (hb hby d5_4) rfl (l' := #[.val (.ref ob), .val (.long rw0), .second, .val (.int ((4096 : Int32) / by0))]) rfl ?_
      show Steps p.tables e below (T10.setTop (mkF m 5 #[.val (.ref ob), .val (.long rw0), .second, .val (.int ((4096 : Int32) / by0))] [])) _
      refine XS.lloadN X10.here hx rfl (hb hby d5_5) rfl ?_
      show Steps p.tables e below (T10.setTop (mkF m 6 #[.val (.ref ob), .val (.long rw0), .second, .val (.int ((4096 : Int32) / by0))] [(.long rw0)])) _
      refine XS.iloadN X10.here hx rfl (hb hby d5_6) rfl ?_
      show Steps p.tables e below (T10.setTop (mkF m 7 #[.val (.ref ob), .val (.long rw0), .second, .val (.int ((4096 : Int32) / by0))] [(.int ((4096 : Int32) / by0)), (.long rw0)])) _
      refine XS.i2l X10.here hx rfl (hb hby d5_7) rfl ?_
      show Steps p.tables e below (T10.setTop (mkF m 8 #[.val (.ref ob), .val (.long rw0), .second, .val (.int ((4096 : Int32) / by0))] [(.long (((4096 : Int32) / by0).toInt64)), (.long rw0)])) _
      refine XS.ladd X10.here hx rfl (hb hby d5_8) rfl ?_
      show Steps p.tables e below (T10.setTop (mkF m 9 #[.val (.ref ob), .val (.long rw0), .second, .val (.int ((4096 : Int32) / by0))] [(.long (rw0 + (((4096 : Int32) / by0).toInt64)))])) _
      refine XS.lconst X10.here hx rfl (hb hby d5_9) ?_
      show Steps p.tables e below (T10.setTop (mkF m 10 #[.val (.ref ob), .val (.long rw0), .second, .val (.int ((4096 : Int32) / by0))] [(.long (1 : Int64)), (.long (rw0 + (((4096 : Int32) / by0).toInt64)))])) _
      refine XS.lsub X10.here hx rfl (hb hby d5_10) rfl ?_
      show Steps p.tables e below (T10.setTop (mkF m 11 #[.val (.ref ob), .val (.long rw0), .second, .val (.int ((4096 : Int32) / by0))] [(.long ((rw0 + (((4096 : Int32) / by0).toInt64)) - (1 : Int64)))])) _
      refine XS.iloadN X10.here hx rfl (hb hby d5_11) rfl ?_
      show Steps p.tables e below (T10.setTop (mkF m 12 #[.val (.ref ob), .val (.long rw0), .second, .val (.int ((4096 : Int32) / by0))] [(.int ((4096 : Int32) / by0)), (.long ((rw0 + (((4096 : Int32) / by0).toInt64)) - (1 : Int64)))])) _
      refine XS.i2l X10.here hx rfl (hb hby d5_12) rfl ?_
      show Steps p.tables e below (T10.setTop (mkF m 13 #[.val (.ref ob), .val (.long rw0), .second, .val (.int ((4096 : Int32) / by0))] [(.long (((4096 : Int32) / by0).toInt64)), (.long ((rw0 + (((4096 : Int32) / by0).toInt64)) - (1 : Int64)))])) _
      refine XS.ldiv X10.here hx rfl (hb hby d5_13) rfl hnz13 ?_
      exact k)
  obtain ⟨fs, hr, hrun, hended, hW, hsame⟩ := X10.leave (v := some (.long (((rw0 + (((4096 : Int32) / by0).toInt64)) - (1 : Int64)) / (((4096 : Int32) / by0).toInt64)))) (fun h => by rw [Bd.returns] at h; cases h)
  refine ⟨_, _, pre11 _ ?_, hrun, hended, _, _, rfl, ?_, ⟨_, rfl⟩, hW, hsame.mono (by decide) (by decide)⟩
  · show Steps p.tables e below (T10.setTop (mkF m 14 #[.val (.ref ob), .val (.long rw0), .second, .val (.int ((4096 : Int32) / by0))] [(.long (((rw0 + (((4096 : Int32) / by0).toInt64)) - (1 : Int64)) / (((4096 : Int32) / by0).toInt64)))])) _
    exact X10.lreturnOut hx Bd.returns (hb hby d5_14) hr
  · show Q5 Z ob rw0 by0 h0 n0 _ T10.heap _
    rw [e10]
    exact ⟨rfl, N10, rfl⟩
theorem own_pd3 : parseMethodDescriptor "(I)V" = some ⟨[.int], none⟩ := by decide +kernel
theorem own_pd4 : parseMethodDescriptor "(J)J" = some ⟨[.long], some .long⟩ := by decide +kernel
theorem pn_0 : plainName "com/example/bufferwise/bufferwise/planner/RowWidthBlocksForPinLaw" = true := by first | (simp [plainName, overriddenIn]; done) | decide +kernel
theorem ef_0 (m : MethodId) (p0 : Int32) (q1 : Int64) : entryFrame m #[(.int p0), (.long q1)] maxLocals = mkF m 0 #[.val (.int p0), .val (.long q1), .second, .unset, .unset, .unset, .unset, .unset, .unset, .unset, .unset, .unset, .unset, .unset, .unset, .unset, .unset] [] := by first | (simp [entryFrame, mkF, argsToLocals, Value.category, maxLocals]; done) | rfl
def Q0 (Z : State) (bs : Int32) (rs : Int64)  (h0 : Heap) (n0 : Nat) (v : Option Value) (h : Heap) (L : List Loc) : Prop := v = some (.int 1) ∧ Fr n0 L
set_option maxRecDepth 65536 in
set_option maxHeartbeats 40000000 in
theorem rm0 (l : Launch) (Z : State) (a0 : Array Value) (hw : ∀ d ∈ tables_1, d.before a0 Z = true) (ws : List Jvm.Cond) (bs : Int32) (rs : Int64)  (h0 : Heap) (n0 : Nat) (Z0 : n0 ≤ h0.size)  :
    MetFree l x (head1 (Jvm.Cond.code x code maxLocals ret :: ws) room_1) (fun a U => a = #[(.int bs), (.long rs)] ∧ Z.Warmed39 U.vm ∧ U.heap = h0) (fun _ _ _ _ _ => True) (fun _ U o U' => ∃ v L, o = .returned v ∧ Q0 Z bs rs h0 n0 v U'.heap L ∧ FrameEnd U o U' L room_1.cells room_1.slots) := by
  refine MetFree.of_bodySF (plainFor_of_name pn_0) hisR ?_
  intro p e s m args below meth c s₁ Bd hml0 hP hK
  obtain ⟨rfl, hZ, hh⟩ := hP
  have hx := Bd.exec
  have hby := Bd.bytes
  have hml : c.maxLocals = 17 := hml0
  have hown : s.vm.findClass "com/example/bufferwise/bufferwise/planner/RowWidthBlocksForPinLaw" = some m.cls := findClass_of_methodNamed Bd.named
  have hnm := (name_of_methodNamed Bd.named Bd.method).1
  have X0 : Stand p l e room_1 s m #[(.int bs), (.long rs)] below meth c s₁ [] 0 0 := Stand.of_body Bd
  have e0 : s₁.heap = h0 := by rw [← hh, Bd.state]; rfl
  have N0 := Fr.nil n0
  have pre0 : ∀ t, Steps p.tables e below (s₁.setTop (mkF m 0 #[.val (.int bs), .val (.long rs), .second, .unset, .unset, .unset, .unset, .unset, .unset, .unset, .unset, .unset, .unset, .unset, .unset, .unset, .unset] [])) t → Steps p.tables e below (s₁.setTop (entryFrame m #[(.int bs), (.long rs)] maxLocals)) t := fun t k => castTop (ef_0 m bs rs) k
  have pre12 : ∀ t, Steps p.tables e below (s₁.setTop (mkF m 8 #[.val (.int bs), .val (.long rs), .second, .val (.int ((bs &&& (4095 : Int32)) + (1 : Int32))), .unset, .unset, .unset, .unset, .unset, .unset, .unset, .unset, .unset, .unset, .unset, .unset, .unset] [])) t → Steps p.tables e below (s₁.setTop (entryFrame m #[(.int bs), (.long rs)] maxLocals)) t := fun t k => pre0 t (by
      show Steps p.tables e below (s₁.setTop (mkF m 0 #[.val (.int bs), .val (.long rs), .second, .unset, .unset, .unset, .unset, .unset, .unset, .unset, .unset, .unset, .unset, .unset, .unset, .unset, .unset] [])) _
      refine XS.iloadN X0.here hx rfl (hb hby at_0) rfl ?_
      show Steps p.tables e below (s₁.setTop (mkF m 1 #[.val (.int bs), .val (.long rs), .second, .unset, .unset, .unset, .unset, .unset, .unset, .unset, .unset, .unset, .unset, .unset, .unset, .unset, .unset] [(.int bs)])) _
      refine XS.sipush X0.here hx rfl (hb hby at_1) ?_
      show Steps p.tables e below (s₁.setTop (mkF m 4 #[.val (.int bs), .val (.long rs), .second, .unset, .unset, .unset, .unset, .unset, .unset, .unset, .unset, .unset, .unset, .unset, .unset, .unset, .unset] [(.int (4095 : Int32)), (.int bs)])) _
      refine XS.iand X0.here hx rfl (hb hby at_4) rfl ?_
      show Steps p.tables e below (s₁.setTop (mkF m 5 #[.val (.int bs), .val (.long rs), .second, .unset, .unset, .unset, .unset, .unset, .unset, .unset, .unset, .unset, .unset, .unset, .unset, .unset, .unset] [(.int (bs &&& (4095 : Int32)))])) _
      refine XS.iconst X0.here hx rfl (hb hby at_5) ?_
      show Steps p.tables e below (s₁.setTop (mkF m 6 #[.val (.int bs), .val (.long rs), .second, .unset, .unset, .unset, .unset, .unset, .unset, .unset, .unset, .unset, .unset, .unset, .unset, .unset, .unset] [(.int (1 : Int32)), (.int (bs &&& (4095 : Int32)))])) _
      refine XS.iadd X0.here hx rfl (hb hby at_6) rfl ?_
      show Steps p.tables e below (s₁.setTop (mkF m 7 #[.val (.int bs), .val (.long rs), .second, .unset, .unset, .unset, .unset, .unset, .unset, .unset, .unset, .unset, .unset, .unset, .unset, .unset, .unset] [(.int ((bs &&& (4095 : Int32)) + (1 : Int32)))])) _
      refine XS.istoreN X0.here hx rfl (hb hby at_7) rfl (l' := #[.val (.int bs), .val (.long rs), .second, .val (.int ((bs &&& (4095 : Int32)) + (1 : Int32))), .unset, .unset, .unset, .unset, .unset, .unset, .unset, .unset, .unset, .unset, .unset, .unset, .unset]) rfl ?_
      exact k)
  obtain ⟨by1, d_by1⟩ : ∃ z, z = ((bs &&& (4095 : Int32)) + (1 : Int32)) := ⟨_, rfl⟩
  rw [← d_by1] at pre12
  have hb1 := own_bytes bs
  rw [← d_by1] at hb1
  have pre13 : ∀ t, Steps p.tables e below (s₁.setTop (mkF m 15 #[.val (.int bs), .val (.long rs), .second, .val (.int by1), .val (.long (rs &&& (4611686018427387903 : Int64))), .second, .unset, .unset, .unset, .unset, .unset, .unset, .unset, .unset, .unset, .unset, .unset] [])) t → Steps p.tables e below (s₁.setTop (entryFrame m #[(.int bs), (.long rs)] maxLocals)) t := fun t k => pre12 t (by
      show Steps p.tables e below (s₁.setTop (mkF m 8 #[.val (.int bs), .val (.long rs), .second, .val (.int by1), .unset, .unset, .unset, .unset, .unset, .unset, .unset, .unset, .unset, .unset, .unset, .unset, .unset] [])) _
      refine XS.lloadN X0.here hx rfl (hb hby at_8) rfl ?_
      show Steps p.tables e below (s₁.setTop (mkF m 9 #[.val (.int bs), .val (.long rs), .second, .val (.int by1), .unset, .unset, .unset, .unset, .unset, .unset, .unset, .unset, .unset, .unset, .unset, .unset, .unset] [(.long rs)])) _
      refine X0.ldc2Long hx hown (mvT hZ (hw _ (List.mem_of_getElem? (i := 0) rfl))) (g := (mkF m 9 #[.val (.int bs), .val (.long rs), .second, .val (.int by1), .unset, .unset, .unset, .unset, .unset, .unset, .unset, .unset, .unset, .unset, .unset, .unset, .unset] [(.long rs)])) rfl (hb hby at_9) _ ?_
      show Steps p.tables e below (s₁.setTop (mkF m 12 #[.val (.int bs), .val (.long rs), .second, .val (.int by1), .unset, .unset, .unset, .unset, .unset, .unset, .unset, .unset, .unset, .unset, .unset, .unset, .unset] [(.long (4611686018427387903 : Int64)), (.long rs)])) _
      refine XS.land X0.here hx rfl (hb hby at_12) rfl ?_
      show Steps p.tables e below (s₁.setTop (mkF m 13 #[.val (.int bs), .val (.long rs), .second, .val (.int by1), .unset, .unset, .unset, .unset, .unset, .unset, .unset, .unset, .unset, .unset, .unset, .unset, .unset] [(.long (rs &&& (4611686018427387903 : Int64)))])) _
      refine XS.lstore X0.here hx rfl (hb hby at_13) rfl (l' := #[.val (.int bs), .val (.long rs), .second, .val (.int by1), .val (.long (rs &&& (4611686018427387903 : Int64))), .second, .unset, .unset, .unset, .unset, .unset, .unset, .unset, .unset, .unset, .unset, .unset]) rfl ?_
      exact k)
  obtain ⟨rw1, d_rw1⟩ : ∃ z, z = (rs &&& (4611686018427387903 : Int64)) := ⟨_, rfl⟩
  rw [← d_rw1] at pre13
  have hr1 := own_m62 rs
  rw [← d_rw1] at hr1
  have hne := own_ne0 by1 hb1.1
  have hper := own_per by1 hb1.1 hb1.2
  have hpn := own_ne0L _ hper.1
  have hk1 : ¬ by1.toInt64 < 1 := by rw [Int64.lt_iff_toInt_lt, Jvm.RoadKit.c_i2l]; simp only [Int64.reduceToInt]; omega
  have hk2 : ¬ (4096 : Int64) < by1.toInt64 := by rw [Int64.lt_iff_toInt_lt, Jvm.RoadKit.c_i2l]; simp only [Int64.reduceToInt]; omega
  obtain ⟨T14, h14, X14, e14, E14, A14, D14, -, st14⟩ := newO X0 hx hZ hown (hw _ (List.mem_of_getElem? (i := 1) rfl)) (hw _ (List.mem_of_getElem? (i := 2) rfl)) (hw _ (List.mem_of_getElem? (i := 3) rfl)) e0 (g := (mkF m 15 #[.val (.int bs), .val (.long rs), .second, .val (.int by1), .val (.long rw1), .second, .unset, .unset, .unset, .unset, .unset, .unset, .unset, .unset, .unset, .unset, .unset] [])) rfl (hb hby at_15) (by decide) (by decide)
  obtain ⟨b14, g14⟩ : ∃ z, z = h0.size := ⟨_, rfl⟩
  rw [← g14] at A14 D14 st14
  have gb14 : n0 ≤ b14 := Nat.le_trans Z0 (Nat.le_of_eq g14.symm)
  have Z14 : n0 ≤ h14.size := Nat.le_trans Z0 E14.1
  have Fb0 : Fld Z h14 b14 "com/example/bufferwise/bufferwise/planner/RowWidth" "bytes" "I" (.int 0) := D14 (Or.inr (hw _ (List.mem_of_getElem? (i := 20) rfl))) (ty := .int) (by decide)
  obtain ⟨_, _, ⟨T15, L15, k15, n15⟩, -, X15, ⟨Lc15, hQ15, l15, y15, z15⟩, st15⟩ := X14.specialBack hx (y := (⟨"com/example/bufferwise/bufferwise/planner/RowWidth", "<init>", "(I)V"⟩ : MethodName)) rfl hown (mvT hZ (hw _ (List.mem_of_getElem? (i := 4) rfl))) (mvT hZ (hw _ (List.mem_of_getElem? (i := 5) rfl))) (mvT hZ (hw _ (List.mem_of_getElem? (i := 6) rfl))) (by decide) (backOf (W := 1) (rm1 l Z a0 hw [] b14 by1  h14 n0 Z14 A14 Fb0 gb14 hk1 hk2) hZ (hw _ (List.mem_of_getElem? (i := 6) rfl)) (hw _ (List.mem_of_getElem? (i := 3) rfl)) (by decide) (by decide)) (g := (mkF m 20 #[.val (.int bs), .val (.long rs), .second, .val (.int by1), .val (.long rw1), .second, .unset, .unset, .unset, .unset, .unset, .unset, .unset, .unset, .unset, .unset, .unset] [(.int by1), (.ref b14), (.ref b14)])) rfl (by rw [hml]; rfl) (Steps.refl _) (a := b14) (argsL := [(.int by1)]) (rest := [(.ref b14)]) (lenOf own_pd3 rfl) rfl (by show 2 * 0 + _ ≤ _; exact Nat.le_of_eq rfl) (hb hby at_20) (fun _ _ => ⟨rfl, e14, (by decide : 1 + 0 ≤ _), (by decide : 1 + 0 ≤ _)⟩)
  dsimp only [Pt.U, Pt.locs, Pt.cells, Pt.slots] at X15 l15 y15 z15 st15 hQ15
  subst l15 y15 z15
  obtain ⟨h15, e15'⟩ : ∃ z, z = T15.heap := ⟨_, rfl⟩
  rw [← e15'] at hQ15
  have e15 := e15'.symm
  obtain ⟨rfl, N15q, Z15, Ex1, Fb1⟩ := hQ15
  have N15 := Fr.app N0 N15q
  obtain ⟨cq16, kq16, q16a, q16b, q16c⟩ := isOf hZ e15 Ex1
  obtain ⟨_, _, ⟨T16, L16, k16, n16⟩, -, X16, ⟨Lc16, hQ16, l16, y16, z16⟩, st16⟩ := X15.virtualBack hx (y := (⟨"com/example/bufferwise/bufferwise/planner/RowWidth", "blocksFor", "(J)J"⟩ : MethodName)) (z := (⟨"com/example/bufferwise/bufferwise/planner/RowWidth", "blocksFor", "(J)J"⟩ : MethodName)) hown (mvT hZ (hw _ (List.mem_of_getElem? (i := 21) rfl))) (mvT hZ (hw _ (List.mem_of_getElem? (i := 22) rfl))) (notFace_of_selects (args := #[]) (mvT hZ (hw _ (List.mem_of_getElem? (i := 24) rfl)))) (mvT hZ (hw _ (List.mem_of_getElem? (i := 24) rfl))) (mvT hZ (hw _ (List.mem_of_getElem? (i := 23) rfl))) (by decide) (backOf (W := 0) (rm5 l Z a0 hw [] b14 rw1 by1 h15 n0 Z15 Ex1 Fb1 hne hpn) hZ (hw _ (List.mem_of_getElem? (i := 25) rfl)) (hw _ (List.mem_of_getElem? (i := 3) rfl)) (by decide) (by decide)) q16a q16c (g := (mkF m 29 #[.val (.int bs), .val (.long rs), .second, .val (.int by1), .val (.long rw1), .second, .val (.ref b14), .unset, .unset, .unset, .unset, .unset, .unset, .unset, .unset, .unset, .unset] [(.long rw1), (.ref b14)])) rfl (by rw [hml]; rfl) (Steps.refl _) (argsL := [(.long rw1)]) (rest := []) (lenOf own_pd4 rfl) rfl (by show 2 * 0 + _ ≤ _; exact Nat.le_of_eq rfl) (hb hby at_29) (fun _ _ => ⟨rfl, e15, (by decide : 1 + 0 ≤ _), (by decide : 1 + 0 ≤ _)⟩)
  dsimp only [Pt.U, Pt.locs, Pt.cells, Pt.slots] at X16 l16 y16 z16 st16 hQ16
  subst l16 y16 z16
  obtain ⟨rfl, N16q, e16⟩ := hQ16
  have N16 := Fr.app N15 N16q
  have pre17 : ∀ t, Steps p.tables e below (T16.setTop (mkF m 42 #[.val (.int bs), .val (.long rs), .second, .val (.int by1), .val (.long rw1), .second, .val (.ref b14), .val (.long (((rw1 + ((4096 : Int32) / by1).toInt64) - 1) / ((4096 : Int32) / by1).toInt64)), .second, .val (.long (((4096 : Int32) / by1).toInt64)), .second, .unset, .unset, .unset, .unset, .unset, .unset] [])) t → Steps p.tables e below (s₁.setTop (entryFrame m #[(.int bs), (.long rs)] maxLocals)) t := fun t k => pre13 t (by
      show Steps p.tables e below (s₁.setTop (mkF m 15 #[.val (.int bs), .val (.long rs), .second, .val (.int by1), .val (.long rw1), .second, .unset, .unset, .unset, .unset, .unset, .unset, .unset, .unset, .unset, .unset, .unset] [])) _
      refine st14 _ ?_
      show Steps p.tables e below (T14.setTop (mkF m 18 #[.val (.int bs), .val (.long rs), .second, .val (.int by1), .val (.long rw1), .second, .unset, .unset, .unset, .unset, .unset, .unset, .unset, .unset, .unset, .unset, .unset] [(.ref b14)])) _
      refine XS.dup X14.here hx rfl (hb hby at_18) rfl rfl ?_
      show Steps p.tables e below (T14.setTop (mkF m 19 #[.val (.int bs), .val (.long rs), .second, .val (.int by1), .val (.long rw1), .second, .unset, .unset, .unset, .unset, .unset, .unset, .unset, .unset, .unset, .unset, .unset] [(.ref b14), (.ref b14)])) _
      refine XS.iloadN X14.here hx rfl (hb hby at_19) rfl ?_
      show Steps p.tables e below (T14.setTop (mkF m 20 #[.val (.int bs), .val (.long rs), .second, .val (.int by1), .val (.long rw1), .second, .unset, .unset, .unset, .unset, .unset, .unset, .unset, .unset, .unset, .unset, .unset] [(.int by1), (.ref b14), (.ref b14)])) _
      refine st15.trans ?_
      show Steps p.tables e below (T15.setTop (mkF m 23 #[.val (.int bs), .val (.long rs), .second, .val (.int by1), .val (.long rw1), .second, .unset, .unset, .unset, .unset, .unset, .unset, .unset, .unset, .unset, .unset, .unset] [(.ref b14)])) _
      refine XS.astore X15.here hx rfl (hb hby at_23) rfl rfl (l' := #[.val (.int bs), .val (.long rs), .second, .val (.int by1), .val (.long rw1), .second, .val (.ref b14), .unset, .unset, .unset, .unset, .unset, .unset, .unset, .unset, .unset, .unset]) rfl ?_
      show Steps p.tables e below (T15.setTop (mkF m 25 #[.val (.int bs), .val (.long rs), .second, .val (.int by1), .val (.long rw1), .second, .val (.ref b14), .unset, .unset, .unset, .unset, .unset, .unset, .unset, .unset, .unset, .unset] [])) _
      refine XS.aload X15.here hx rfl (hb hby at_25) rfl rfl ?_
      show Steps p.tables e below (T15.setTop (mkF m 27 #[.val (.int bs), .val (.long rs), .second, .val (.int by1), .val (.long rw1), .second, .val (.ref b14), .unset, .unset, .unset, .unset, .unset, .unset, .unset, .unset, .unset, .unset] [(.ref b14)])) _
      refine XS.lload X15.here hx rfl (hb hby at_27) rfl ?_
      show Steps p.tables e below (T15.setTop (mkF m 29 #[.val (.int bs), .val (.long rs), .second, .val (.int by1), .val (.long rw1), .second, .val (.ref b14), .unset, .unset, .unset, .unset, .unset, .unset, .unset, .unset, .unset, .unset] [(.long rw1), (.ref b14)])) _
      refine st16.trans ?_
      show Steps p.tables e below (T16.setTop (mkF m 32 #[.val (.int bs), .val (.long rs), .second, .val (.int by1), .val (.long rw1), .second, .val (.ref b14), .unset, .unset, .unset, .unset, .unset, .unset, .unset, .unset, .unset, .unset] [(.long (((rw1 + ((4096 : Int32) / by1).toInt64) - 1) / ((4096 : Int32) / by1).toInt64))])) _
      refine XS.lstore X16.here hx rfl (hb hby at_32) rfl (l' := #[.val (.int bs), .val (.long rs), .second, .val (.int by1), .val (.long rw1), .second, .val (.ref b14), .val (.long (((rw1 + ((4096 : Int32) / by1).toInt64) - 1) / ((4096 : Int32) / by1).toInt64)), .second, .unset, .unset, .unset, .unset, .unset, .unset, .unset, .unset]) rfl ?_
      show Steps p.tables e below (T16.setTop (mkF m 34 #[.val (.int bs), .val (.long rs), .second, .val (.int by1), .val (.long rw1), .second, .val (.ref b14), .val (.long (((rw1 + ((4096 : Int32) / by1).toInt64) - 1) / ((4096 : Int32) / by1).toInt64)), .second, .unset, .unset, .unset, .unset, .unset, .unset, .unset, .unset] [])) _
      refine XS.sipush X16.here hx rfl (hb hby at_34) ?_
      show Steps p.tables e below (T16.setTop (mkF m 37 #[.val (.int bs), .val (.long rs), .second, .val (.int by1), .val (.long rw1), .second, .val (.ref b14), .val (.long (((rw1 + ((4096 : Int32) / by1).toInt64) - 1) / ((4096 : Int32) / by1).toInt64)), .second, .unset, .unset, .unset, .unset, .unset, .unset, .unset, .unset] [(.int (4096 : Int32))])) _
      refine XS.iloadN X16.here hx rfl (hb hby at_37) rfl ?_
      show Steps p.tables e below (T16.setTop (mkF m 38 #[.val (.int bs), .val (.long rs), .second, .val (.int by1), .val (.long rw1), .second, .val (.ref b14), .val (.long (((rw1 + ((4096 : Int32) / by1).toInt64) - 1) / ((4096 : Int32) / by1).toInt64)), .second, .unset, .unset, .unset, .unset, .unset, .unset, .unset, .unset] [(.int by1), (.int (4096 : Int32))])) _
      refine XS.idiv X16.here hx rfl (hb hby at_38) rfl hne ?_
      show Steps p.tables e below (T16.setTop (mkF m 39 #[.val (.int bs), .val (.long rs), .second, .val (.int by1), .val (.long rw1), .second, .val (.ref b14), .val (.long (((rw1 + ((4096 : Int32) / by1).toInt64) - 1) / ((4096 : Int32) / by1).toInt64)), .second, .unset, .unset, .unset, .unset, .unset, .unset, .unset, .unset] [(.int ((4096 : Int32) / by1))])) _
      refine XS.i2l X16.here hx rfl (hb hby at_39) rfl ?_
      show Steps p.tables e below (T16.setTop (mkF m 40 #[.val (.int bs), .val (.long rs), .second, .val (.int by1), .val (.long rw1), .second, .val (.ref b14), .val (.long (((rw1 + ((4096 : Int32) / by1).toInt64) - 1) / ((4096 : Int32) / by1).toInt64)), .second, .unset, .unset, .unset, .unset, .unset, .unset, .unset, .unset] [(.long (((4096 : Int32) / by1).toInt64))])) _
      refine XS.lstore X16.here hx rfl (hb hby at_40) rfl (l' := #[.val (.int bs), .val (.long rs), .second, .val (.int by1), .val (.long rw1), .second, .val (.ref b14), .val (.long (((rw1 + ((4096 : Int32) / by1).toInt64) - 1) / ((4096 : Int32) / by1).toInt64)), .second, .val (.long (((4096 : Int32) / by1).toInt64)), .second, .unset, .unset, .unset, .unset, .unset, .unset]) rfl ?_
      exact k)
  obtain ⟨kk, d_kk⟩ : ∃ z, z = (((4096 : Int32) / by1).toInt64) := ⟨_, rfl⟩
  rw [← d_kk] at pre17
  rw [← d_kk] at hper hpn
  obtain ⟨q0, q1⟩ := own_blocks rw1 kk hr1.1 hr1.2 hper.1 hper.2
  have pre18 : ∀ t, Steps p.tables e below (T16.setTop (mkF m 60 #[.val (.int bs), .val (.long rs), .second, .val (.int by1), .val (.long rw1), .second, .val (.ref b14), .val (.long (((rw1 + kk) - 1) / kk)), .second, .val (.long kk), .second, .val (.long (rw1 / kk)), .second, .val (.long (rw1 - (rw1 / kk) * kk)), .second, .unset, .unset] [(.int (lcmpW (rw1 - (rw1 / kk) * kk) (0 : Int64)))])) t → Steps p.tables e below (s₁.setTop (entryFrame m #[(.int bs), (.long rs)] maxLocals)) t := fun t k => pre17 t (by
      show Steps p.tables e below (T16.setTop (mkF m 42 #[.val (.int bs), .val (.long rs), .second, .val (.int by1), .val (.long rw1), .second, .val (.ref b14), .val (.long (((rw1 + kk) - 1) / kk)), .second, .val (.long kk), .second, .unset, .unset, .unset, .unset, .unset, .unset] [])) _
      refine XS.lload X16.here hx rfl (hb hby at_42) rfl ?_
      show Steps p.tables e below (T16.setTop (mkF m 44 #[.val (.int bs), .val (.long rs), .second, .val (.int by1), .val (.long rw1), .second, .val (.ref b14), .val (.long (((rw1 + kk) - 1) / kk)), .second, .val (.long kk), .second, .unset, .unset, .unset, .unset, .unset, .unset] [(.long rw1)])) _
      refine XS.lload X16.here hx rfl (hb hby at_44) rfl ?_
      show Steps p.tables e below (T16.setTop (mkF m 46 #[.val (.int bs), .val (.long rs), .second, .val (.int by1), .val (.long rw1), .second, .val (.ref b14), .val (.long (((rw1 + kk) - 1) / kk)), .second, .val (.long kk), .second, .unset, .unset, .unset, .unset, .unset, .unset] [(.long kk), (.long rw1)])) _
      refine XS.ldiv X16.here hx rfl (hb hby at_46) rfl hpn ?_
      show Steps p.tables e below (T16.setTop (mkF m 47 #[.val (.int bs), .val (.long rs), .second, .val (.int by1), .val (.long rw1), .second, .val (.ref b14), .val (.long (((rw1 + kk) - 1) / kk)), .second, .val (.long kk), .second, .unset, .unset, .unset, .unset, .unset, .unset] [(.long (rw1 / kk))])) _
      refine XS.lstore X16.here hx rfl (hb hby at_47) rfl (l' := #[.val (.int bs), .val (.long rs), .second, .val (.int by1), .val (.long rw1), .second, .val (.ref b14), .val (.long (((rw1 + kk) - 1) / kk)), .second, .val (.long kk), .second, .val (.long (rw1 / kk)), .second, .unset, .unset, .unset, .unset]) rfl ?_
      show Steps p.tables e below (T16.setTop (mkF m 49 #[.val (.int bs), .val (.long rs), .second, .val (.int by1), .val (.long rw1), .second, .val (.ref b14), .val (.long (((rw1 + kk) - 1) / kk)), .second, .val (.long kk), .second, .val (.long (rw1 / kk)), .second, .unset, .unset, .unset, .unset] [])) _
      refine XS.lload X16.here hx rfl (hb hby at_49) rfl ?_
      show Steps p.tables e below (T16.setTop (mkF m 51 #[.val (.int bs), .val (.long rs), .second, .val (.int by1), .val (.long rw1), .second, .val (.ref b14), .val (.long (((rw1 + kk) - 1) / kk)), .second, .val (.long kk), .second, .val (.long (rw1 / kk)), .second, .unset, .unset, .unset, .unset] [(.long rw1)])) _
      refine XS.lload X16.here hx rfl (hb hby at_51) rfl ?_
      show Steps p.tables e below (T16.setTop (mkF m 53 #[.val (.int bs), .val (.long rs), .second, .val (.int by1), .val (.long rw1), .second, .val (.ref b14), .val (.long (((rw1 + kk) - 1) / kk)), .second, .val (.long kk), .second, .val (.long (rw1 / kk)), .second, .unset, .unset, .unset, .unset] [(.long kk), (.long rw1)])) _
      refine XS.lrem X16.here hx rfl (hb hby at_53) rfl hpn ?_
      show Steps p.tables e below (T16.setTop (mkF m 54 #[.val (.int bs), .val (.long rs), .second, .val (.int by1), .val (.long rw1), .second, .val (.ref b14), .val (.long (((rw1 + kk) - 1) / kk)), .second, .val (.long kk), .second, .val (.long (rw1 / kk)), .second, .unset, .unset, .unset, .unset] [(.long (rw1 - (rw1 / kk) * kk))])) _
      refine XS.lstore X16.here hx rfl (hb hby at_54) rfl (l' := #[.val (.int bs), .val (.long rs), .second, .val (.int by1), .val (.long rw1), .second, .val (.ref b14), .val (.long (((rw1 + kk) - 1) / kk)), .second, .val (.long kk), .second, .val (.long (rw1 / kk)), .second, .val (.long (rw1 - (rw1 / kk) * kk)), .second, .unset, .unset]) rfl ?_
      show Steps p.tables e below (T16.setTop (mkF m 56 #[.val (.int bs), .val (.long rs), .second, .val (.int by1), .val (.long rw1), .second, .val (.ref b14), .val (.long (((rw1 + kk) - 1) / kk)), .second, .val (.long kk), .second, .val (.long (rw1 / kk)), .second, .val (.long (rw1 - (rw1 / kk) * kk)), .second, .unset, .unset] [])) _
      refine XS.lload X16.here hx rfl (hb hby at_56) rfl ?_
      show Steps p.tables e below (T16.setTop (mkF m 58 #[.val (.int bs), .val (.long rs), .second, .val (.int by1), .val (.long rw1), .second, .val (.ref b14), .val (.long (((rw1 + kk) - 1) / kk)), .second, .val (.long kk), .second, .val (.long (rw1 / kk)), .second, .val (.long (rw1 - (rw1 / kk) * kk)), .second, .unset, .unset] [(.long (rw1 - (rw1 / kk) * kk))])) _
      refine XS.lconst X16.here hx rfl (hb hby at_58) ?_
      show Steps p.tables e below (T16.setTop (mkF m 59 #[.val (.int bs), .val (.long rs), .second, .val (.int by1), .val (.long rw1), .second, .val (.ref b14), .val (.long (((rw1 + kk) - 1) / kk)), .second, .val (.long kk), .second, .val (.long (rw1 / kk)), .second, .val (.long (rw1 - (rw1 / kk) * kk)), .second, .unset, .unset] [(.long (0 : Int64)), (.long (rw1 - (rw1 / kk) * kk))])) _
      refine XS.lcmp X16.here hx rfl (hb hby at_59) rfl ?_
      exact k)
  by_cases hc60 : (rw1 - (rw1 / kk) * kk) = (0 : Int64)
  · skip
    have he : (((rw1 + kk) - 1) / kk) = (rw1 / kk) := q0 hc60
    have pre19 : ∀ t, Steps p.tables e below (T16.setTop (mkF m 87 #[.val (.int bs), .val (.long rs), .second, .val (.int by1), .val (.long rw1), .second, .val (.ref b14), .val (.long (((rw1 + kk) - 1) / kk)), .second, .val (.long kk), .second, .val (.long (rw1 / kk)), .second, .val (.long (rw1 - (rw1 / kk) * kk)), .second, .val (.long (rw1 / kk)), .second] [(.int (1 : Int32))])) t → Steps p.tables e below (s₁.setTop (entryFrame m #[(.int bs), (.long rs)] maxLocals)) t := fun t k => pre18 t (by
        show Steps p.tables e below (T16.setTop (mkF m 60 #[.val (.int bs), .val (.long rs), .second, .val (.int by1), .val (.long rw1), .second, .val (.ref b14), .val (.long (((rw1 + kk) - 1) / kk)), .second, .val (.long kk), .second, .val (.long (rw1 / kk)), .second, .val (.long (rw1 - (rw1 / kk) * kk)), .second, .unset, .unset] [(.int (lcmpW (rw1 - (rw1 / kk) * kk) (0 : Int64)))])) _
        refine XS.ifNo X16.here hx rfl (hb hby at_60) rfl ((if0 _ _).trans (teq ((lw_eq _ _).mpr hc60)).2) ?_
        show Steps p.tables e below (T16.setTop (mkF m 63 #[.val (.int bs), .val (.long rs), .second, .val (.int by1), .val (.long rw1), .second, .val (.ref b14), .val (.long (((rw1 + kk) - 1) / kk)), .second, .val (.long kk), .second, .val (.long (rw1 / kk)), .second, .val (.long (rw1 - (rw1 / kk) * kk)), .second, .unset, .unset] [])) _
        refine XS.lload X16.here hx rfl (hb hby at_63) rfl ?_
        show Steps p.tables e below (T16.setTop (mkF m 65 #[.val (.int bs), .val (.long rs), .second, .val (.int by1), .val (.long rw1), .second, .val (.ref b14), .val (.long (((rw1 + kk) - 1) / kk)), .second, .val (.long kk), .second, .val (.long (rw1 / kk)), .second, .val (.long (rw1 - (rw1 / kk) * kk)), .second, .unset, .unset] [(.long (rw1 / kk))])) _
        refine XS.goto X16.here hx rfl (pc0 := 65) (pc' := 72) rfl (hb hby at_65) (by decide) (by decide) ?_
        show Steps p.tables e below (T16.setTop (mkF m 72 #[.val (.int bs), .val (.long rs), .second, .val (.int by1), .val (.long rw1), .second, .val (.ref b14), .val (.long (((rw1 + kk) - 1) / kk)), .second, .val (.long kk), .second, .val (.long (rw1 / kk)), .second, .val (.long (rw1 - (rw1 / kk) * kk)), .second, .unset, .unset] [(.long (rw1 / kk))])) _
        refine XS.lstore X16.here hx rfl (hb hby at_72) rfl (l' := #[.val (.int bs), .val (.long rs), .second, .val (.int by1), .val (.long rw1), .second, .val (.ref b14), .val (.long (((rw1 + kk) - 1) / kk)), .second, .val (.long kk), .second, .val (.long (rw1 / kk)), .second, .val (.long (rw1 - (rw1 / kk) * kk)), .second, .val (.long (rw1 / kk)), .second]) rfl ?_
        show Steps p.tables e below (T16.setTop (mkF m 74 #[.val (.int bs), .val (.long rs), .second, .val (.int by1), .val (.long rw1), .second, .val (.ref b14), .val (.long (((rw1 + kk) - 1) / kk)), .second, .val (.long kk), .second, .val (.long (rw1 / kk)), .second, .val (.long (rw1 - (rw1 / kk) * kk)), .second, .val (.long (rw1 / kk)), .second] [])) _
        refine XS.lload X16.here hx rfl (hb hby at_74) rfl ?_
        show Steps p.tables e below (T16.setTop (mkF m 76 #[.val (.int bs), .val (.long rs), .second, .val (.int by1), .val (.long rw1), .second, .val (.ref b14), .val (.long (((rw1 + kk) - 1) / kk)), .second, .val (.long kk), .second, .val (.long (rw1 / kk)), .second, .val (.long (rw1 - (rw1 / kk) * kk)), .second, .val (.long (rw1 / kk)), .second] [(.long (((rw1 + kk) - 1) / kk))])) _
        refine XS.lload X16.here hx rfl (hb hby at_76) rfl ?_
        show Steps p.tables e below (T16.setTop (mkF m 78 #[.val (.int bs), .val (.long rs), .second, .val (.int by1), .val (.long rw1), .second, .val (.ref b14), .val (.long (((rw1 + kk) - 1) / kk)), .second, .val (.long kk), .second, .val (.long (rw1 / kk)), .second, .val (.long (rw1 - (rw1 / kk) * kk)), .second, .val (.long (rw1 / kk)), .second] [(.long (rw1 / kk)), (.long (((rw1 + kk) - 1) / kk))])) _
        refine XS.lcmp X16.here hx rfl (hb hby at_78) rfl ?_
        show Steps p.tables e below (T16.setTop (mkF m 79 #[.val (.int bs), .val (.long rs), .second, .val (.int by1), .val (.long rw1), .second, .val (.ref b14), .val (.long (((rw1 + kk) - 1) / kk)), .second, .val (.long kk), .second, .val (.long (rw1 / kk)), .second, .val (.long (rw1 - (rw1 / kk) * kk)), .second, .val (.long (rw1 / kk)), .second] [(.int (lcmpW (((rw1 + kk) - 1) / kk) (rw1 / kk)))])) _
        refine XS.ifNo X16.here hx rfl (hb hby at_79) rfl ((if0 _ _).trans (teq ((lw_eq _ _).mpr he)).2) ?_
        show Steps p.tables e below (T16.setTop (mkF m 82 #[.val (.int bs), .val (.long rs), .second, .val (.int by1), .val (.long rw1), .second, .val (.ref b14), .val (.long (((rw1 + kk) - 1) / kk)), .second, .val (.long kk), .second, .val (.long (rw1 / kk)), .second, .val (.long (rw1 - (rw1 / kk) * kk)), .second, .val (.long (rw1 / kk)), .second] [])) _
        refine XS.iconst X16.here hx rfl (hb hby at_82) ?_
        show Steps p.tables e below (T16.setTop (mkF m 83 #[.val (.int bs), .val (.long rs), .second, .val (.int by1), .val (.long rw1), .second, .val (.ref b14), .val (.long (((rw1 + kk) - 1) / kk)), .second, .val (.long kk), .second, .val (.long (rw1 / kk)), .second, .val (.long (rw1 - (rw1 / kk) * kk)), .second, .val (.long (rw1 / kk)), .second] [(.int (1 : Int32))])) _
        refine XS.goto X16.here hx rfl (pc0 := 83) (pc' := 87) rfl (hb hby at_83) (by decide) (by decide) ?_
        exact k)
    obtain ⟨fs, hr, hrun, hended, hW, hsame⟩ := X16.leave (v := some (.int (1 : Int32))) (fun h => by rw [Bd.returns] at h; cases h)
    refine ⟨_, _, pre19 _ ?_, hrun, hended, _, _, rfl, ?_, ⟨_, rfl⟩, hW, hsame.mono (by decide) (by decide)⟩
    · show Steps p.tables e below (T16.setTop (mkF m 87 #[.val (.int bs), .val (.long rs), .second, .val (.int by1), .val (.long rw1), .second, .val (.ref b14), .val (.long (((rw1 + kk) - 1) / kk)), .second, .val (.long kk), .second, .val (.long (rw1 / kk)), .second, .val (.long (rw1 - (rw1 / kk) * kk)), .second, .val (.long (rw1 / kk)), .second] [(.int (1 : Int32))])) _
      exact retN X16 hx (t := .boolean) Bd.returns (by simp) (hb hby at_87) hr
    · show Q0 Z bs rs h0 n0 _ T16.heap _
      rw [e16]
      exact ⟨rfl, N16⟩
  · skip
    have he : (((rw1 + kk) - 1) / kk) = ((rw1 / kk) + (1 : Int64)) := q1 hc60
    have pre20 : ∀ t, Steps p.tables e below (T16.setTop (mkF m 87 #[.val (.int bs), .val (.long rs), .second, .val (.int by1), .val (.long rw1), .second, .val (.ref b14), .val (.long (((rw1 + kk) - 1) / kk)), .second, .val (.long kk), .second, .val (.long (rw1 / kk)), .second, .val (.long (rw1 - (rw1 / kk) * kk)), .second, .val (.long ((rw1 / kk) + (1 : Int64))), .second] [(.int (1 : Int32))])) t → Steps p.tables e below (s₁.setTop (entryFrame m #[(.int bs), (.long rs)] maxLocals)) t := fun t k => pre18 t (by
        show Steps p.tables e below (T16.setTop (mkF m 60 #[.val (.int bs), .val (.long rs), .second, .val (.int by1), .val (.long rw1), .second, .val (.ref b14), .val (.long (((rw1 + kk) - 1) / kk)), .second, .val (.long kk), .second, .val (.long (rw1 / kk)), .second, .val (.long (rw1 - (rw1 / kk) * kk)), .second, .unset, .unset] [(.int (lcmpW (rw1 - (rw1 / kk) * kk) (0 : Int64)))])) _
        refine XS.ifYes X16.here hx rfl (pc0 := 60) (pc' := 68) rfl (hb hby at_60) rfl ((if0 _ _).trans (feq (fun q => hc60 ((lw_eq _ _).mp q))).2) (by decide) (by decide) ?_
        show Steps p.tables e below (T16.setTop (mkF m 68 #[.val (.int bs), .val (.long rs), .second, .val (.int by1), .val (.long rw1), .second, .val (.ref b14), .val (.long (((rw1 + kk) - 1) / kk)), .second, .val (.long kk), .second, .val (.long (rw1 / kk)), .second, .val (.long (rw1 - (rw1 / kk) * kk)), .second, .unset, .unset] [])) _
        refine XS.lload X16.here hx rfl (hb hby at_68) rfl ?_
        show Steps p.tables e below (T16.setTop (mkF m 70 #[.val (.int bs), .val (.long rs), .second, .val (.int by1), .val (.long rw1), .second, .val (.ref b14), .val (.long (((rw1 + kk) - 1) / kk)), .second, .val (.long kk), .second, .val (.long (rw1 / kk)), .second, .val (.long (rw1 - (rw1 / kk) * kk)), .second, .unset, .unset] [(.long (rw1 / kk))])) _
        refine XS.lconst X16.here hx rfl (hb hby at_70) ?_
        show Steps p.tables e below (T16.setTop (mkF m 71 #[.val (.int bs), .val (.long rs), .second, .val (.int by1), .val (.long rw1), .second, .val (.ref b14), .val (.long (((rw1 + kk) - 1) / kk)), .second, .val (.long kk), .second, .val (.long (rw1 / kk)), .second, .val (.long (rw1 - (rw1 / kk) * kk)), .second, .unset, .unset] [(.long (1 : Int64)), (.long (rw1 / kk))])) _
        refine XS.ladd X16.here hx rfl (hb hby at_71) rfl ?_
        show Steps p.tables e below (T16.setTop (mkF m 72 #[.val (.int bs), .val (.long rs), .second, .val (.int by1), .val (.long rw1), .second, .val (.ref b14), .val (.long (((rw1 + kk) - 1) / kk)), .second, .val (.long kk), .second, .val (.long (rw1 / kk)), .second, .val (.long (rw1 - (rw1 / kk) * kk)), .second, .unset, .unset] [(.long ((rw1 / kk) + (1 : Int64)))])) _
        refine XS.lstore X16.here hx rfl (hb hby at_72) rfl (l' := #[.val (.int bs), .val (.long rs), .second, .val (.int by1), .val (.long rw1), .second, .val (.ref b14), .val (.long (((rw1 + kk) - 1) / kk)), .second, .val (.long kk), .second, .val (.long (rw1 / kk)), .second, .val (.long (rw1 - (rw1 / kk) * kk)), .second, .val (.long ((rw1 / kk) + (1 : Int64))), .second]) rfl ?_
        show Steps p.tables e below (T16.setTop (mkF m 74 #[.val (.int bs), .val (.long rs), .second, .val (.int by1), .val (.long rw1), .second, .val (.ref b14), .val (.long (((rw1 + kk) - 1) / kk)), .second, .val (.long kk), .second, .val (.long (rw1 / kk)), .second, .val (.long (rw1 - (rw1 / kk) * kk)), .second, .val (.long ((rw1 / kk) + (1 : Int64))), .second] [])) _
        refine XS.lload X16.here hx rfl (hb hby at_74) rfl ?_
        show Steps p.tables e below (T16.setTop (mkF m 76 #[.val (.int bs), .val (.long rs), .second, .val (.int by1), .val (.long rw1), .second, .val (.ref b14), .val (.long (((rw1 + kk) - 1) / kk)), .second, .val (.long kk), .second, .val (.long (rw1 / kk)), .second, .val (.long (rw1 - (rw1 / kk) * kk)), .second, .val (.long ((rw1 / kk) + (1 : Int64))), .second] [(.long (((rw1 + kk) - 1) / kk))])) _
        refine XS.lload X16.here hx rfl (hb hby at_76) rfl ?_
        show Steps p.tables e below (T16.setTop (mkF m 78 #[.val (.int bs), .val (.long rs), .second, .val (.int by1), .val (.long rw1), .second, .val (.ref b14), .val (.long (((rw1 + kk) - 1) / kk)), .second, .val (.long kk), .second, .val (.long (rw1 / kk)), .second, .val (.long (rw1 - (rw1 / kk) * kk)), .second, .val (.long ((rw1 / kk) + (1 : Int64))), .second] [(.long ((rw1 / kk) + (1 : Int64))), (.long (((rw1 + kk) - 1) / kk))])) _
        refine XS.lcmp X16.here hx rfl (hb hby at_78) rfl ?_
        show Steps p.tables e below (T16.setTop (mkF m 79 #[.val (.int bs), .val (.long rs), .second, .val (.int by1), .val (.long rw1), .second, .val (.ref b14), .val (.long (((rw1 + kk) - 1) / kk)), .second, .val (.long kk), .second, .val (.long (rw1 / kk)), .second, .val (.long (rw1 - (rw1 / kk) * kk)), .second, .val (.long ((rw1 / kk) + (1 : Int64))), .second] [(.int (lcmpW (((rw1 + kk) - 1) / kk) ((rw1 / kk) + (1 : Int64))))])) _
        refine XS.ifNo X16.here hx rfl (hb hby at_79) rfl ((if0 _ _).trans (teq ((lw_eq _ _).mpr he)).2) ?_
        show Steps p.tables e below (T16.setTop (mkF m 82 #[.val (.int bs), .val (.long rs), .second, .val (.int by1), .val (.long rw1), .second, .val (.ref b14), .val (.long (((rw1 + kk) - 1) / kk)), .second, .val (.long kk), .second, .val (.long (rw1 / kk)), .second, .val (.long (rw1 - (rw1 / kk) * kk)), .second, .val (.long ((rw1 / kk) + (1 : Int64))), .second] [])) _
        refine XS.iconst X16.here hx rfl (hb hby at_82) ?_
        show Steps p.tables e below (T16.setTop (mkF m 83 #[.val (.int bs), .val (.long rs), .second, .val (.int by1), .val (.long rw1), .second, .val (.ref b14), .val (.long (((rw1 + kk) - 1) / kk)), .second, .val (.long kk), .second, .val (.long (rw1 / kk)), .second, .val (.long (rw1 - (rw1 / kk) * kk)), .second, .val (.long ((rw1 / kk) + (1 : Int64))), .second] [(.int (1 : Int32))])) _
        refine XS.goto X16.here hx rfl (pc0 := 83) (pc' := 87) rfl (hb hby at_83) (by decide) (by decide) ?_
        exact k)
    obtain ⟨fs, hr, hrun, hended, hW, hsame⟩ := X16.leave (v := some (.int (1 : Int32))) (fun h => by rw [Bd.returns] at h; cases h)
    refine ⟨_, _, pre20 _ ?_, hrun, hended, _, _, rfl, ?_, ⟨_, rfl⟩, hW, hsame.mono (by decide) (by decide)⟩
    · show Steps p.tables e below (T16.setTop (mkF m 87 #[.val (.int bs), .val (.long rs), .second, .val (.int by1), .val (.long rw1), .second, .val (.ref b14), .val (.long (((rw1 + kk) - 1) / kk)), .second, .val (.long kk), .second, .val (.long (rw1 / kk)), .second, .val (.long (rw1 - (rw1 / kk) * kk)), .second, .val (.long ((rw1 / kk) + (1 : Int64))), .second] [(.int (1 : Int32))])) _
      exact retN X16 hx (t := .boolean) Bd.returns (by simp) (hb hby at_87) hr
    · show Q0 Z bs rs h0 n0 _ T16.heap _
      rw [e16]
      exact ⟨rfl, N16⟩
set_option maxRecDepth 65536 in
set_option maxHeartbeats 40000000 in
theorem comes_1 {Post : Tables → Env → Array Value → State → Outcome → State → Prop} (hpost : ∀ tb e args s v u, (limb_1_1.after args s (.returned v) u = true ∧ limb_1_2.after args s (.returned v) u = true ∧ True) → FrameEnd s (.returned v) u (Jvm.fieldLocs frame_1_writes args s ++ Jvm.arrayLocs frame_1_arrays args s ++ Jvm.staticLocs frame_1_statics s) 16 128 → Post tb e args s (.returned v) u) :
    ArmFor flags0 classFile x code maxLocals ret World_1 tables_1 room_1 Calls_1 rest_1 Pre_1 Post := by
  intro l hfl _ _ p e ha hc hk s m args below hf hA hF happ hP
  obtain ⟨hcalls, hrest, hpre⟩ := hP
  obtain ⟨-, -, -, hnamed, -, -, -, hat⟩ := (Spec.applies_iff hf).mp happ
  obtain ⟨hg, hn⟩ := and_e (Cond.before_iff.mp (show (Jvm.Cond.and given_1 narrow_1).before args s = true from hpre))
  obtain ⟨h1, g0⟩ := and_e hg
  obtain ⟨w0, w1, rfl⟩ : ∃ w0 w1 : Value, args = #[w0, w1] := by
    have hs : args.size = 2 := by simpa [Cond.value, given_1] using h1
    obtain ⟨L⟩ := args
    match L, hs with
    | [w0, w1], _ => exact ⟨w0, w1, rfl⟩
  have hw := fun d (hd : d ∈ tables_1) => atoms_spec (ws := Jvm.Cond.code x code maxLocals ret :: tables_1) hat d (List.mem_cons_of_mem _ hd)
  obtain ⟨f0, g1⟩ := and_e g0
  obtain ⟨i0, q0⟩ := is_v f0
  obtain rfl : w0 = (.int i0) := Option.some.inj q0
  have f1 := g1
  obtain ⟨i1, q1⟩ := isL_v f1
  obtain rfl : w1 = (.long i1) := Option.some.inj q1
  obtain ⟨n, o, h1, h2, h3, _, L, rfl, ⟨rfl, N⟩, hq⟩ := rm0 l s _ hw tables_1 i0 i1 s.heap s.heap.size (Nat.le_refl _)  p e ha hc hk s m _ below hf ((Spec.applies_iff_loose hf).mp happ).1 ⟨rfl, State.Warmed39.refl s, rfl⟩ trivial
  refine ⟨n, _, h1, h2, h3, hpost _ _ _ _ _ _ ⟨Cond.after_iff.mpr rfl, Cond.after_iff.mpr (eq_i res_at (Term.int_eval (1)) rfl), trivial⟩ ⟨hq.1, hq.2.1, (hq.2.2.sift fun y hy => Or.inr (N y hy)).mono (by decide) (by decide)⟩⟩
theorem main_1_1 : Claimed_1_1 := comes_1 fun _ _ _ _ _ _ h hF => ⟨h.1, hF⟩
theorem main_1_2 : Claimed_1_2 := comes_1 fun _ _ _ _ _ _ h hF => ⟨h.2.1, hF⟩
end Jvm.Pilot.@@N@@
namespace Jvm.Pilot.@@N@@
open Jvm Jvm.ClassFile Sem Op Lib Jvm.Free Jvm.Stand Jvm.Pilot.@@N@@.Jvm.D
/-! MADE BY PROGRAM (witnessworld.py) out of the Statement's table words and the real class files: 10 classes; the members and pool entries that the words name. The judged class is class 1, her method 1. -/
namespace start1
open Jvm.ClassFile
def u (s : String) : CpInfo := .utf8 (stringToUtf16 s)
/-- a pool by its gaps: so many unusable entries, then the entry; so many at the end -/
def gap : Nat → List CpInfo → List CpInfo
  | 0, r => r
  | n + 1, r => .unusable :: gap n r
def poolList (es : List (Nat × CpInfo)) (last : Nat) : List CpInfo := es.foldr (fun e r => gap e.1 (e.2 :: r)) (gap last [])
def pool (es : List (Nat × CpInfo)) (last : Nat) : Array CpInfo := ⟨poolList es last⟩
def fileOf (pool : Array CpInfo) (this : Nat) (attrs : Array Attribute := #[]) (ms : Array MethodInfo := #[]) (fl : Nat := 33) (sup : Nat := 0) (ifs : Array Nat := #[]) (fds : Array FieldInfo := #[]) : ClassFile where
  minorVersion := 0
  majorVersion := 65
  constantPool := pool
  accessFlags := fl
  thisClass := this
  superClass := sup
  interfaces := ifs
  fields := fds
  methods := ms
  attributes := attrs
def plain (name : String) (sup : Option ClassId) : Class where
  name := name
  kind := .ordinary
  loader := none
  accessFlags := 33
  super := sup
  interfaces := #[]
  cf := none
  fields := #[]
  methods := #[]
  instanceTypes := #[]
  staticTypes := #[]
  resolved := #[]
  callSites := []
  init := .initialized
  statics := none
  mirror := none

def pool0 : Array CpInfo := pool [(5, u "<init>"), (0, u "()V"), (1, .class_ 10), (1, u "java/lang/Object")] 113

def k0c0 : Code := { maxStack := 0, maxLocals := 1, code := object_method_1_code, exceptionTable := #[], attributes := #[] }
def k0m0 : Method := { name := "<init>", desc := "()V", sig := { parameters := [], returnType := none }, accessFlags := 1, code := some k0c0 }
/-- java/lang/Object -/
def k0 : Class := { plain "java/lang/Object" none with
  accessFlags := 33
  interfaces := #[]
  cf := some (fileOf pool0 8 #[] #[{ accessFlags := 1, nameIndex := 5, descriptorIndex := 6, attributes := #[] }] 33 0 #[] #[])
  fields := #[]
  methods := #[k0m0]
  instanceTypes := #[]
  staticTypes := #[]
  resolved := Array.replicate 124 none
  statics := none }

def pool1 : Array CpInfo := pool [(2, .class_ 4), (1, u "java/lang/Object"), (0, u "<init>"), (0, u "()V"), (0, .long 4611686018427387903), (1, .class_ 10), (0, u "com/example/bufferwise/bufferwise/planner/RowWidth"), (0, .methodref 9 12), (0, .nameAndType 5 13), (0, u "(I)V"), (0, .methodref 9 15), (0, .nameAndType 16 17), (0, u "blocksFor"), (0, u "(J)J"), (0, .class_ 19), (0, u "com/example/bufferwise/bufferwise/planner/RowWidthBlocksForPinLaw"), (2, u "law"), (0, u "(IJ)Z")] 3

def k1m0 : Method := { name := "<init>", desc := "()V", sig := { parameters := [], returnType := none }, accessFlags := 2, code := none }
def k1c1 : Code := { maxStack := 4, maxLocals := 17, code := code, exceptionTable := #[], attributes := #[] }
def k1m1 : Method := { name := "law", desc := "(IJ)Z", sig := { parameters := [.int, .long], returnType := some .boolean }, accessFlags := 9, code := some k1c1 }
/-- com/example/bufferwise/bufferwise/planner/RowWidthBlocksForPinLaw -/
def k1 : Class := { plain "com/example/bufferwise/bufferwise/planner/RowWidthBlocksForPinLaw" (some 0) with
  accessFlags := 49
  interfaces := #[]
  cf := some (fileOf pool1 18 #[] #[{ accessFlags := 2, nameIndex := 5, descriptorIndex := 6, attributes := #[] }, { accessFlags := 9, nameIndex := 22, descriptorIndex := 23, attributes := #[] }] 49 2 #[] #[])
  fields := #[]
  methods := #[k1m0, k1m1]
  instanceTypes := #[]
  staticTypes := #[]
  resolved := Array.replicate 27 none
  statics := none }

def pool2 : Array CpInfo := pool [(1, .methodref 2 3), (0, .class_ 4), (0, .nameAndType 5 6), (0, u "java/lang/Object"), (0, u "<init>"), (0, u "()V"), (0, .class_ 8), (0, u "java/lang/Record")] 13

def k2c0 : Code := { maxStack := 1, maxLocals := 1, code := jdk_30_method_1_code, exceptionTable := #[], attributes := #[] }
def k2m0 : Method := { name := "<init>", desc := "()V", sig := { parameters := [], returnType := none }, accessFlags := 4, code := some k2c0 }
/-- java/lang/Record -/
def k2 : Class := { plain "java/lang/Record" (some 0) with
  accessFlags := 1057
  interfaces := #[]
  cf := some (fileOf pool2 7 #[] #[{ accessFlags := 4, nameIndex := 5, descriptorIndex := 6, attributes := #[] }] 1057 2 #[] #[])
  fields := #[]
  methods := #[k2m0]
  instanceTypes := #[]
  staticTypes := #[]
  resolved := Array.replicate 22 none
  statics := none }

def pool3 : Array CpInfo := pool [(1, .methodref 2 3), (0, .class_ 4), (0, .nameAndType 5 6), (0, u "java/lang/Record"), (0, u "<init>"), (0, u "()V"), (0, .methodref 8 9), (0, .class_ 10), (0, .nameAndType 11 12), (0, u "com/example/bufferwise/bufferwise/planner/RowWidth"), (0, u "check"), (0, u "(J)V"), (0, .fieldref 8 14), (0, .nameAndType 15 16), (0, u "bytes"), (0, u "I"), (2, u "(I)V"), (2, .methodref 8 23), (0, .nameAndType 24 25), (0, u "rowsPerBlock"), (0, u "()I"), (0, .long 4096), (44, u "blocksFor"), (0, u "(J)J")] 22

def k3c0 : Code := { maxStack := 2, maxLocals := 2, code := prog_112_method_1_code, exceptionTable := #[], attributes := #[] }
def k3m0 : Method := { name := "<init>", desc := "(I)V", sig := { parameters := [.int], returnType := none }, accessFlags := 1, code := some k3c0 }
def k3c1 : Code := { maxStack := 2, maxLocals := 1, code := prog_112_method_3_code, exceptionTable := #[], attributes := #[] }
def k3m1 : Method := { name := "rowsPerBlock", desc := "()I", sig := { parameters := [], returnType := some .int }, accessFlags := 1, code := some k3c1 }
def k3c2 : Code := { maxStack := 4, maxLocals := 4, code := prog_112_method_4_code, exceptionTable := #[], attributes := #[] }
def k3m2 : Method := { name := "blocksFor", desc := "(J)J", sig := { parameters := [.long], returnType := some .long }, accessFlags := 1, code := some k3c2 }
def k3c3 : Code := { maxStack := 8, maxLocals := 2, code := prog_112_method_5_code, exceptionTable := #[], attributes := #[] }
def k3m3 : Method := { name := "check", desc := "(J)V", sig := { parameters := [.long], returnType := none }, accessFlags := 10, code := some k3c3 }
/-- com/example/bufferwise/bufferwise/planner/RowWidth -/
def k3 : Class := { plain "com/example/bufferwise/bufferwise/planner/RowWidth" (some 2) with
  accessFlags := 49
  interfaces := #[]
  cf := some (fileOf pool3 8 #[] #[{ accessFlags := 1, nameIndex := 5, descriptorIndex := 19, attributes := #[] }, { accessFlags := 1, nameIndex := 24, descriptorIndex := 25, attributes := #[] }, { accessFlags := 1, nameIndex := 71, descriptorIndex := 72, attributes := #[] }, { accessFlags := 10, nameIndex := 11, descriptorIndex := 12, attributes := #[] }] 49 2 #[] #[{ accessFlags := 18, nameIndex := 15, descriptorIndex := 16, attributes := #[] }])
  fields := #[{ name := "bytes", type := .int, accessFlags := 18, slot := 0, constantValue := 0 }]
  methods := #[k3m0, k3m1, k3m2, k3m3]
  instanceTypes := #[.int]
  staticTypes := #[]
  resolved := Array.replicate 95 none
  statics := none }

def pool4 : Array CpInfo := pool [(1, u "java/lang/Cloneable"), (0, .class_ 1), (0, u "java/lang/Object"), (0, .class_ 3)] 3

/-- java/lang/Cloneable -/
def k4 : Class := { plain "java/lang/Cloneable" (some 0) with
  accessFlags := 1537
  interfaces := #[]
  cf := some (fileOf pool4 2 #[] #[] 1537 4 #[] #[])
  fields := #[]
  methods := #[]
  instanceTypes := #[]
  staticTypes := #[]
  resolved := Array.replicate 8 none
  statics := none }

def pool5 : Array CpInfo := pool [(1, u "java/io/Serializable"), (0, .class_ 1), (0, u "java/lang/Object"), (0, .class_ 3)] 3

/-- java/io/Serializable -/
def k5 : Class := { plain "java/io/Serializable" (some 0) with
  accessFlags := 1537
  interfaces := #[]
  cf := some (fileOf pool5 2 #[] #[] 1537 4 #[] #[])
  fields := #[]
  methods := #[]
  instanceTypes := #[]
  staticTypes := #[]
  resolved := Array.replicate 8 none
  statics := none }

/-- the primitive byte -/
def k6 : Class := { plain "byte" none with kind := .primitive 'B', accessFlags := 0x411 }
/-- [B -/
def k7 : Class := { plain "[B" (some 0) with kind := .array 6 .byte, interfaces := #[4, 5], accessFlags := 1041 }

/-- the primitive int -/
def k8 : Class := { plain "int" none with kind := .primitive 'I', accessFlags := 0x411 }
/-- [I -/
def k9 : Class := { plain "[I" (some 0) with kind := .array 8 .int, interfaces := #[4, 5], accessFlags := 1041 }

def heap : Heap := #[]
def classes : Array Class := #[k0, k1, k2, k3, k4, k5, k6, k7, k8, k9]
def interned : List (Array UInt16 × Addr) := []
def slotsUsed : Nat := 0
def theMethod : MethodId := ⟨1, 1⟩
def args0 : Array Value := #[.int 5, .long 300]
def aboutOver (below : List Frame) : State where
  vm := { classes := classes, interned := interned.toArray }
  heap := heap
  slotsUsed := slotsUsed
  threads := #[{ frames := .invoking theMethod args0 :: below }]
def below0 : List Frame := [.native { method := ⟨0, 0⟩, args := #[] }]
def about1 : State := aboutOver below0
def p0 : Program := .bare "" "" ""
def e0 : Env := launch0.env 0 0 0
theorem w_frames : about1.frames = Frame.invoking theMethod args0 :: below0 := rfl
set_option maxRecDepth 65536 in
theorem w_args : argsFit about1.vm theMethod args0 = true := by decide +kernel
set_option maxRecDepth 65536 in
theorem w_heap : heapFits about1 = true := by decide +kernel
set_option maxRecDepth 65536 in
theorem w_runnable : about1.curStatus? = some .runnable := by decide +kernel
set_option maxRecDepth 65536 in
theorem w_alone : about1.alone = true := by decide +kernel
set_option maxRecDepth 65536 in
theorem w_named : about1.methodNamed? x = some theMethod := by decide +kernel
set_option maxRecDepth 65536 in
theorem w_hears : about1.hears theMethod below0 = true := by decide +kernel
set_option maxRecDepth 65536 in
theorem w_ripe : about1.ripe theMethod args0 below0 = true := by decide +kernel
theorem w_running : about1.status = .running := rfl
set_option maxRecDepth 65536 in
theorem w_room : about1.hasRoom e0.platform room_1 = true :=
  launch0.hasRoom_least _ room_1 (by decide +kernel) (by decide +kernel) (by decide +kernel) (by decide +kernel) (by decide +kernel) (by decide +kernel)
theorem allAtoms_all (ts : List Jvm.Cond) (a : Array Jvm.Value) (st : Jvm.State) : (allAtoms ts).before a st = ts.all (fun c => c.before a st) := by
  induction ts with
  | nil => rfl
  | cons c t ih =>
    show (Jvm.Cond.and c (allAtoms t)).before a st = _
    rw [Jvm.Cond.before_and, ih, List.all_cons]
def words1 : List Jvm.Cond := Jvm.Cond.code x code maxLocals ret :: tables_1
/-- a 'code' word, met by the world's own term for the bytes: nothing is compared byte by byte -/
theorem code_word {y : MethodName} {bytes : ByteArray} {mx : Nat} {rt : Option FieldType} {a : Array Value} {s : State} {m : MethodId} {meth : Method} {c : Code} (h1 : s.methodNamed? y = some m) (h2 : s.vm.method? m = some meth) (h3 : meth.code = some c) (h4 : c.code = bytes)
    (h5 : (c.maxLocals == mx && c.exceptionTable.isEmpty && decide (c.maxStack ≤ mostOperands) && decide (meth.sig.returnType = rt) && !meth.locks && decide (parseMethodDescriptor y.desc = some meth.sig)) = true) : (Jvm.Cond.code y bytes mx rt).before a s = true := by
  simp only [Bool.and_eq_true, beq_iff_eq, Bool.not_eq_true', decide_eq_true_eq] at h5
  obtain ⟨⟨⟨⟨⟨g1, g2⟩, g3⟩, g4⟩, g5⟩, g6⟩ := h5
  simp [Cond.before, Cond.holds, Cond.value, h1, h2, h3, h4, g1, g2, g3, g4, g5, g6]
def isCode : Jvm.Cond → Bool
  | .code _ _ _ _ => true
  | _ => false
theorem all_split {L : List Jvm.Cond} {P : Jvm.Cond → Bool} (h1 : L.all (fun c => isCode c || P c) = true) (h2 : ∀ c ∈ L.filter isCode, P c = true) : L.all P = true := by
  refine List.all_eq_true.mpr fun c hc => ?_
  have h := List.all_eq_true.mp h1 c hc
  rcases Bool.eq_false_or_eq_true (isCode c) with hi | hi
  · exact h2 c (List.mem_filter.mpr ⟨hc, hi⟩)
  · simpa [hi] using h
set_option maxRecDepth 65536 in
theorem w_c0 : (Jvm.Cond.code x code maxLocals ret).before args0 about1 = true := code_word (m := ⟨1, 1⟩) (meth := k1m1) (c := k1c1) (by decide +kernel) rfl rfl rfl (by decide +kernel)
set_option maxRecDepth 65536 in
theorem w_c1 : (Jvm.Cond.code ({ cls := "com/example/bufferwise/bufferwise/planner/RowWidth", name := "<init>", desc := "(I)V" } : Jvm.MethodName) prog_112_method_1_code (2 : Nat) (Option.none : Option Jvm.ClassFile.FieldType)).before args0 about1 = true := code_word (m := ⟨3, 0⟩) (meth := k3m0) (c := k3c0) (by decide +kernel) rfl rfl rfl (by decide +kernel)
set_option maxRecDepth 65536 in
theorem w_c2 : (Jvm.Cond.code ({ cls := "java/lang/Record", name := "<init>", desc := "()V" } : Jvm.MethodName) jdk_30_method_1_code (1 : Nat) (Option.none : Option Jvm.ClassFile.FieldType)).before args0 about1 = true := code_word (m := ⟨2, 0⟩) (meth := k2m0) (c := k2c0) (by decide +kernel) rfl rfl rfl (by decide +kernel)
set_option maxRecDepth 65536 in
theorem w_c3 : (Jvm.Cond.code ({ cls := "java/lang/Object", name := "<init>", desc := "()V" } : Jvm.MethodName) object_method_1_code (1 : Nat) (Option.none : Option Jvm.ClassFile.FieldType)).before args0 about1 = true := code_word (m := ⟨0, 0⟩) (meth := k0m0) (c := k0c0) (by decide +kernel) rfl rfl rfl (by decide +kernel)
set_option maxRecDepth 65536 in
theorem w_c4 : (Jvm.Cond.code ({ cls := "com/example/bufferwise/bufferwise/planner/RowWidth", name := "check", desc := "(J)V" } : Jvm.MethodName) prog_112_method_5_code (2 : Nat) (Option.none : Option Jvm.ClassFile.FieldType)).before args0 about1 = true := code_word (m := ⟨3, 3⟩) (meth := k3m3) (c := k3c3) (by decide +kernel) rfl rfl rfl (by decide +kernel)
set_option maxRecDepth 65536 in
theorem w_c5 : (Jvm.Cond.code ({ cls := "com/example/bufferwise/bufferwise/planner/RowWidth", name := "blocksFor", desc := "(J)J" } : Jvm.MethodName) prog_112_method_4_code (4 : Nat) (Option.some Jvm.ClassFile.FieldType.long)).before args0 about1 = true := code_word (m := ⟨3, 2⟩) (meth := k3m2) (c := k3c2) (by decide +kernel) rfl rfl rfl (by decide +kernel)
set_option maxRecDepth 65536 in
theorem w_c6 : (Jvm.Cond.code ({ cls := "com/example/bufferwise/bufferwise/planner/RowWidth", name := "rowsPerBlock", desc := "()I" } : Jvm.MethodName) prog_112_method_3_code (1 : Nat) (Option.some Jvm.ClassFile.FieldType.int)).before args0 about1 = true := code_word (m := ⟨3, 1⟩) (meth := k3m1) (c := k3c1) (by decide +kernel) rfl rfl rfl (by decide +kernel)
def codes1 : List Jvm.Cond := [Jvm.Cond.code x code maxLocals ret, Jvm.Cond.code ({ cls := "com/example/bufferwise/bufferwise/planner/RowWidth", name := "<init>", desc := "(I)V" } : Jvm.MethodName) prog_112_method_1_code (2 : Nat) (Option.none : Option Jvm.ClassFile.FieldType), Jvm.Cond.code ({ cls := "java/lang/Record", name := "<init>", desc := "()V" } : Jvm.MethodName) jdk_30_method_1_code (1 : Nat) (Option.none : Option Jvm.ClassFile.FieldType), Jvm.Cond.code ({ cls := "java/lang/Object", name := "<init>", desc := "()V" } : Jvm.MethodName) object_method_1_code (1 : Nat) (Option.none : Option Jvm.ClassFile.FieldType), Jvm.Cond.code ({ cls := "com/example/bufferwise/bufferwise/planner/RowWidth", name := "check", desc := "(J)V" } : Jvm.MethodName) prog_112_method_5_code (2 : Nat) (Option.none : Option Jvm.ClassFile.FieldType), Jvm.Cond.code ({ cls := "com/example/bufferwise/bufferwise/planner/RowWidth", name := "blocksFor", desc := "(J)J" } : Jvm.MethodName) prog_112_method_4_code (4 : Nat) (Option.some Jvm.ClassFile.FieldType.long), Jvm.Cond.code ({ cls := "com/example/bufferwise/bufferwise/planner/RowWidth", name := "rowsPerBlock", desc := "()I" } : Jvm.MethodName) prog_112_method_3_code (1 : Nat) (Option.some Jvm.ClassFile.FieldType.int)]
set_option maxRecDepth 65536 in
theorem codes_eq : words1.filter isCode = codes1 := rfl
theorem w_codes : ∀ c ∈ words1.filter isCode, c.before args0 about1 = true := by
  rw [codes_eq]
  intro c hc
  simp only [codes1, List.mem_cons, List.not_mem_nil, or_false] at hc
  rcases hc with rfl | rfl | rfl | rfl | rfl | rfl | rfl
  · exact w_c0
  · exact w_c1
  · exact w_c2
  · exact w_c3
  · exact w_c4
  · exact w_c5
  · exact w_c6
set_option maxRecDepth 65536 in
theorem w_t1 : (words1.take 24).all (fun c => isCode c || c.before args0 about1) = true := by decide +kernel
set_option maxRecDepth 65536 in
theorem w_t2 : (words1.drop 24).all (fun c => isCode c || c.before args0 about1) = true := by decide +kernel
theorem w_tables : (allAtoms (Jvm.Cond.code x code maxLocals ret :: tables_1)).before args0 about1 = true := by
  rw [allAtoms_all]
  show words1.all (fun c => c.before args0 about1) = true
  refine all_split ?_ w_codes
  rw [← List.take_append_drop 24 words1, List.all_append, w_t1, w_t2]
  rfl
set_option maxRecDepth 65536 in
theorem w_case : (Jvm.Cond.and given_1 narrow_1).before args0 about1 = true := by decide +kernel
theorem w_applies : (headSpec (Jvm.Cond.code x code maxLocals ret :: tables_1) room_1).applies x e0.platform about1 = true :=
  (Spec.applies_iff w_frames).mpr ⟨w_running, w_runnable, w_alone, w_named, w_hears, w_ripe, w_room, w_tables⟩
theorem atStart : AtStart classFile x code maxLocals ret World_1 tables_1 room_1 Calls_1 rest_1 Pre_1 launch0 p0 e0 about1 theMethod args0 below0 :=
  ⟨lists_1, trivial, launch0.admits_env _ _ _, launch0.least_env, fairChoices_fair.cas, fairChoices_fair.clock, w_frames, w_args, w_heap, w_applies, trivial, trivial, w_case⟩
end start1
theorem witness_1 : WitnessClaimed_1 := ⟨start1.p0, start1.e0, start1.about1, start1.theMethod, start1.args0, start1.below0, start1.atStart⟩
end Jvm.Pilot.@@N@@
