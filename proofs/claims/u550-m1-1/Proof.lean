import JvmDerived
import JvmDerived.Pilot.@@N@@Statement
import JvmDerived.Pilot.@@N@@Code
set_option linter.unusedVariables false
set_option linter.unusedSimpArgs false
namespace Jvm.RoadKit
open Sem ClassFile Op Lib Jvm.Stand Jvm.Free Jvm.LawKit
section New
variable {p : Program} {l : Launch} {e : Env} {R : Room} {s : State} {m : MethodId} {args : Array Value} {below : List Frame} {meth : Method} {c : Code} {T : State} {locs : List Loc} {cells slots : Nat}
theorem retI (X : Stand p l e R s m args below meth c T locs cells slots) (hx : p.tables.exec = Jvm.exec) {pc : Nat} {Ls : Array Slot} {z : Int32} {rest : List Value} (hret : meth.sig.returnType = some .int) (hd : decode c.code pc = .ok (.ireturn, 1)) {fs : List Frame}
    (hl : ∀ (f : JFrame) (acts : List Action), f.method = m → f.locked = none → f.entered = [] → (doReturn e (T.setTop f) acts (some (.int z))).1 = T.setFrames fs) : Steps p.tables e below (T.setTop (mkF m pc Ls (.int z :: rest))) (T.setFrames fs) := by
  have hm' : T.vm.method? m = some meth := X.method'
  have hn : narrow .int (.int z) = .int z := rfl
  show Steps p.tables e below (T.setTop { method := m, pc := pc, locals := Ls, stack := _ :: rest, locked := none }) _
  jvm_step X.here [X.here.top, hx, hd, hm', hret, hn]
  first | (intro acts; rw [hl _ acts rfl rfl rfl]) | rw [hl _ _ rfl rfl rfl]
  exact Steps.refl _
end New
end Jvm.RoadKit
namespace Jvm.Pilot.@@N@@
open Jvm Jvm.ClassFile Sem Op Lib Jvm.Free Jvm.Stand Jvm.LawKit Jvm.RoadKit Bundle Jvm.Pilot.@@N@@.Jvm.D
/-- r is the first place from a on, below b, at which f holds c; else b -/
def own_First (f : Nat → Int32) (c a b r : Int32) : Prop := a.toInt ≤ r.toInt ∧ r.toInt ≤ b.toInt ∧ (∀ k : Nat, a.toInt ≤ k → (k : Int) < r.toInt → ¬ f k = c) ∧ (r.toInt < b.toInt → f r.toInt.toNat = c)
def own_pick (x0 x1 x2 x3 : Int32) : Nat → Int32
  | 0 => x0
  | 1 => x1
  | 2 => x2
  | _ => x3
theorem own_clamp (i : Int32) (h : 0 ≤ i.toInt) : i.toNatClampNeg = i.toInt.toNat := rfl
theorem own_in (i b : Int32) (n : Nat) (h : 0 ≤ i.toInt) (h1 : i.toInt < b.toInt) (h2 : b.toInt ≤ n) : ¬ (i < 0 ∨ n ≤ i.toNatClampNeg) := by
  have e0 : (0 : Int32).toInt = 0 := by decide
  rw [own_clamp i h, Int32.lt_iff_toInt_lt, e0]
  omega
theorem own_succ (i b : Int32) (h : 0 ≤ i.toInt) (h1 : i.toInt < b.toInt) : (i + 1).toInt = i.toInt + 1 := by
  have a := Jvm.RoadKit.c_iadd i 1
  have e : (1 : Int32).toInt = 1 := by decide
  have r := Jvm.RoadKit.rng32 (i + 1)
  have r2 := Jvm.RoadKit.rng32 b
  omega
theorem own_first_at (f : Nat → Int32) (c a b i : Int32) (ha : a.toInt ≤ i.toInt) (hb : i.toInt ≤ b.toInt) (hn : ∀ k : Nat, a.toInt ≤ k → (k : Int) < i.toInt → ¬ f k = c) (he : i.toInt < b.toInt → f i.toInt.toNat = c) : own_First f c a b i := ⟨ha, hb, hn, he⟩
theorem own_from (g : Int32) : 0 ≤ ((g &&& 2147483647) % 5).toInt ∧ ((g &&& 2147483647) % 5).toInt ≤ 4 := by
  have m := Jvm.RoadKit.c_mask g 2147483647 31 (by decide) (by decide)
  have r := Jvm.RoadKit.c_irem (g &&& 2147483647) 5 5 (by decide)
  omega
theorem own_five (a : Int32) (h : 0 ≤ a.toInt) (h1 : a.toInt ≤ 4) : 1 ≤ (5 - a).toInt ∧ (5 - a).toInt = 5 - a.toInt ∧ (5 - a) ≠ 0 := by
  have s := Jvm.RoadKit.c_isub 5 a
  have e : (5 : Int32).toInt = 5 := by decide
  have r := Jvm.RoadKit.rng32 (5 - a)
  refine ⟨by omega, by omega, fun q => ?_⟩
  have : (5 - a).toInt = 0 := by rw [q]; decide
  omega
theorem own_to (g a : Int32) (h : 0 ≤ a.toInt) (h1 : a.toInt ≤ 4) : a.toInt ≤ (a + ((g.toUInt32 >>> ((8 : Int32) &&& 31).toUInt32).toInt32 % (5 - a))).toInt ∧ (a + ((g.toUInt32 >>> ((8 : Int32) &&& 31).toUInt32).toInt32 % (5 - a))).toInt ≤ 4 := by
  have u := Jvm.RoadKit.c_iushr g 8 8 (by decide) (by decide)
  have rg := Jvm.RoadKit.rng32 g
  generalize (g.toUInt32 >>> ((8 : Int32) &&& 31).toUInt32).toInt32 = y at *
  obtain ⟨f1, f2, -⟩ := own_five a h h1
  have r := (Jvm.RoadKit.c_iremV y (5 - a)).1 (by omega) (by omega)
  have s := Jvm.RoadKit.c_iadd a (y % (5 - a))
  have rr := Jvm.RoadKit.rng32 (a + y % (5 - a))
  omega
/-- one rung of the law's own ladder: where P, the new value, else the old one -/
def own_rung (P : Prop) (new old e : Int32) : Prop := (P ∧ e = new) ∨ (¬ P ∧ e = old)
theorem own_ladder_core (x0 x1 x2 x3 c a b r e3 e2 e1 e0 : Int) (ha : 0 ≤ a) (hab : a ≤ b) (hb : b ≤ 4) (f1 : a ≤ r) (f2 : r ≤ b)
    (k0 : a ≤ 0 → 0 < r → ¬ x0 = c) (k1 : a ≤ 1 → 1 < r → ¬ x1 = c) (k2 : a ≤ 2 → 2 < r → ¬ x2 = c) (k3 : a ≤ 3 → 3 < r → ¬ x3 = c)
    (j0 : r = 0 → r < b → x0 = c) (j1 : r = 1 → r < b → x1 = c) (j2 : r = 2 → r < b → x2 = c) (j3 : r = 3 → r < b → x3 = c)
    (h3 : ((¬ 3 < a ∧ 3 < b ∧ x3 = c) ∧ e3 = 3) ∨ (¬ (¬ 3 < a ∧ 3 < b ∧ x3 = c) ∧ e3 = b)) (h2 : ((¬ 2 < a ∧ 2 < b ∧ x2 = c) ∧ e2 = 2) ∨ (¬ (¬ 2 < a ∧ 2 < b ∧ x2 = c) ∧ e2 = e3))
    (h1 : ((¬ 1 < a ∧ 1 < b ∧ x1 = c) ∧ e1 = 1) ∨ (¬ (¬ 1 < a ∧ 1 < b ∧ x1 = c) ∧ e1 = e2)) (h0 : ((¬ 0 < a ∧ 0 < b ∧ x0 = c) ∧ e0 = 0) ∨ (¬ (¬ 0 < a ∧ 0 < b ∧ x0 = c) ∧ e0 = e1)) : r = e0 := by
  have s3 : (a ≤ 3 ∧ 3 < b ∧ x3 = c → e3 = 3) ∧ (¬ (a ≤ 3 ∧ 3 < b ∧ x3 = c) → e3 = b) := by
    rcases h3 with ⟨u, v⟩ | ⟨u, v⟩
    · exact ⟨fun _ => v, fun w => absurd ⟨Int.not_lt.mp u.1, u.2⟩ w⟩
    · exact ⟨fun w => absurd ⟨Int.not_lt.mpr w.1, w.2⟩ u, fun _ => v⟩
  have s2 : (a ≤ 2 ∧ 2 < b ∧ x2 = c → e2 = 2) ∧ (¬ (a ≤ 2 ∧ 2 < b ∧ x2 = c) → e2 = e3) := by
    rcases h2 with ⟨u, v⟩ | ⟨u, v⟩
    · exact ⟨fun _ => v, fun w => absurd ⟨Int.not_lt.mp u.1, u.2⟩ w⟩
    · exact ⟨fun w => absurd ⟨Int.not_lt.mpr w.1, w.2⟩ u, fun _ => v⟩
  have s1 : (a ≤ 1 ∧ 1 < b ∧ x1 = c → e1 = 1) ∧ (¬ (a ≤ 1 ∧ 1 < b ∧ x1 = c) → e1 = e2) := by
    rcases h1 with ⟨u, v⟩ | ⟨u, v⟩
    · exact ⟨fun _ => v, fun w => absurd ⟨Int.not_lt.mp u.1, u.2⟩ w⟩
    · exact ⟨fun w => absurd ⟨Int.not_lt.mpr w.1, w.2⟩ u, fun _ => v⟩
  have s0 : (a ≤ 0 ∧ 0 < b ∧ x0 = c → e0 = 0) ∧ (¬ (a ≤ 0 ∧ 0 < b ∧ x0 = c) → e0 = e1) := by
    rcases h0 with ⟨u, v⟩ | ⟨u, v⟩
    · exact ⟨fun _ => v, fun w => absurd ⟨Int.not_lt.mp u.1, u.2⟩ w⟩
    · exact ⟨fun w => absurd ⟨Int.not_lt.mpr w.1, w.2⟩ u, fun _ => v⟩
  clear h0 h1 h2 h3
  have t0 : (a ≤ 0 ∧ 0 < b ∧ x0 = c) ∨ ¬ (a ≤ 0 ∧ 0 < b ∧ x0 = c) := Decidable.em _
  rcases t0 with t | t
  · have := s0.1 t
    have : ¬ 0 < r := fun q => k0 t.1 q t.2.2
    omega
  · have g0 := s0.2 t
    have n0 : ¬ (r = 0 ∧ r < b) := fun q => t ⟨by omega, by omega, j0 q.1 q.2⟩
    rcases (Decidable.em (a ≤ 1 ∧ 1 < b ∧ x1 = c)) with u | u
    · have := s1.1 u
      have : ¬ 1 < r := fun q => k1 u.1 q u.2.2
      omega
    · have g1 := s1.2 u
      have n1 : ¬ (r = 1 ∧ r < b) := fun q => u ⟨by omega, by omega, j1 q.1 q.2⟩
      rcases (Decidable.em (a ≤ 2 ∧ 2 < b ∧ x2 = c)) with v | v
      · have := s2.1 v
        have : ¬ 2 < r := fun q => k2 v.1 q v.2.2
        omega
      · have g2 := s2.2 v
        have n2 : ¬ (r = 2 ∧ r < b) := fun q => v ⟨by omega, by omega, j2 q.1 q.2⟩
        rcases (Decidable.em (a ≤ 3 ∧ 3 < b ∧ x3 = c)) with w | w
        · have := s3.1 w
          have : ¬ 3 < r := fun q => k3 w.1 q w.2.2
          omega
        · have g3 := s3.2 w
          have n3 : ¬ (r = 3 ∧ r < b) := fun q => w ⟨by omega, by omega, j3 q.1 q.2⟩
          omega
theorem own_ladder (x0 x1 x2 x3 c a b r e3 e2 e1 e0 : Int32) (ha : 0 ≤ a.toInt) (hab : a.toInt ≤ b.toInt) (hb : b.toInt ≤ 4)
    (F : own_First (own_pick x0 x1 x2 x3) c a b r)
    (h3 : own_rung (¬ (3 : Int32) < a ∧ (3 : Int32) < b ∧ x3 = c) 3 b e3) (h2 : own_rung (¬ (2 : Int32) < a ∧ (2 : Int32) < b ∧ x2 = c) 2 e3 e2)
    (h1 : own_rung (¬ (1 : Int32) < a ∧ (1 : Int32) < b ∧ x1 = c) 1 e2 e1) (h0 : own_rung (¬ (0 : Int32) < a ∧ (0 : Int32) < b ∧ x0 = c) 0 e1 e0) : r = e0 := by
  obtain ⟨f1, f2, f3, f4⟩ := F
  have k0 : a.toInt ≤ 0 → 0 < r.toInt → ¬ x0 = c := f3 0
  have k1 : a.toInt ≤ 1 → 1 < r.toInt → ¬ x1 = c := f3 1
  have k2 : a.toInt ≤ 2 → 2 < r.toInt → ¬ x2 = c := f3 2
  have k3 : a.toInt ≤ 3 → 3 < r.toInt → ¬ x3 = c := f3 3
  have j0 : r.toInt = 0 → r.toInt < b.toInt → x0 = c := fun q z => by have y := f4 z; rw [q] at y; exact y
  have j1 : r.toInt = 1 → r.toInt < b.toInt → x1 = c := fun q z => by have y := f4 z; rw [q] at y; exact y
  have j2 : r.toInt = 2 → r.toInt < b.toInt → x2 = c := fun q z => by have y := f4 z; rw [q] at y; exact y
  have j3 : r.toInt = 3 → r.toInt < b.toInt → x3 = c := fun q z => by have y := f4 z; rw [q] at y; exact y
  simp only [own_rung, Int32.lt_iff_toInt_lt, ← Int32.toInt_inj, Int32.reduceToInt] at k0 k1 k2 k3 j0 j1 j2 j3 h0 h1 h2 h3 ⊢
  exact own_ladder_core x0.toInt x1.toInt x2.toInt x3.toInt c.toInt a.toInt b.toInt r.toInt e3.toInt e2.toInt e1.toInt e0.toInt ha hab hb f1 f2 k0 k1 k2 k3 j0 j1 j2 j3 h3 h2 h1 h0
theorem d1_0 : decode prog_27_method_10_code 0 = .ok (.iload_n 2, 1) := by decide +kernel
theorem d1_1 : decode prog_27_method_10_code 1 = .ok (.istore 4, 2) := by decide +kernel
theorem d1_3 : decode prog_27_method_10_code 3 = .ok (.iload 4, 2) := by decide +kernel
theorem d1_5 : decode prog_27_method_10_code 5 = .ok (.iload_n 3, 1) := by decide +kernel
theorem d1_6 : decode prog_27_method_10_code 6 = .ok (.if_icmp .ge 17, 3) := by decide +kernel
theorem d1_9 : decode prog_27_method_10_code 9 = .ok (.aload_n 0, 1) := by decide +kernel
theorem d1_10 : decode prog_27_method_10_code 10 = .ok (.iload 4, 2) := by decide +kernel
theorem d1_12 : decode prog_27_method_10_code 12 = .ok (.baload, 1) := by decide +kernel
theorem d1_13 : decode prog_27_method_10_code 13 = .ok (.iload_n 1, 1) := by decide +kernel
theorem d1_14 : decode prog_27_method_10_code 14 = .ok (.if_icmp .eq 9, 3) := by decide +kernel
theorem d1_17 : decode prog_27_method_10_code 17 = .ok (.iinc 4 1, 3) := by decide +kernel
theorem d1_20 : decode prog_27_method_10_code 20 = .ok (.goto (-17), 3) := by decide +kernel
theorem d1_23 : decode prog_27_method_10_code 23 = .ok (.iload 4, 2) := by decide +kernel
theorem d1_25 : decode prog_27_method_10_code 25 = .ok (.ireturn, 1) := by decide +kernel
theorem pn_1 : plainName "com/example/crawl_rules/crawlrules/rules/PathPattern" = true := by first | (simp [plainName, overriddenIn]; done) | decide +kernel
theorem ef_1 (m : MethodId) (a0 : Addr) (p1 : Int32) (p2 : Int32) (p3 : Int32) : entryFrame m #[(.ref a0), (.int p1), (.int p2), (.int p3)] 5 = mkF m 0 #[.val (.ref a0), .val (.int p1), .val (.int p2), .val (.int p3), .unset] [] := by first | (simp [entryFrame, mkF, argsToLocals, Value.category]; done) | rfl
def Q1 (Z : State) (ar : Addr) (ch : Int32) (fa : Int32) (fb : Int32) (cl : Cell) (ff : Nat → Int32) (h0 : Heap) (n0 : Nat) (v : Option Value) (h : Heap) (L : List Loc) : Prop := ∃ r : Int32, v = some (.int r) ∧ own_First ff ch fa fb r ∧ Fr n0 L ∧ h = h0
set_option maxRecDepth 65536 in
set_option maxHeartbeats 40000000 in
theorem rm1 (l : Launch) (Z : State) (a0 : Array Value) (hw : ∀ d ∈ tables_1, d.before a0 Z = true) (ws : List Jvm.Cond) (ar : Addr) (ch : Int32) (fa : Int32) (fb : Int32) (cl : Cell) (ff : Nat → Int32) (h0 : Heap) (n0 : Nat) (Z0 : n0 ≤ h0.size) (Ar : Arr Z h0 ar cl .byte) (Sz : cl.slots.size = 4) (Hs : ∀ k : Nat, k < 4 → cl.slots[k]? = some (.int (ff k))) (ha : 0 ≤ fa.toInt) (hab : fa.toInt ≤ fb.toInt) (hb4 : fb.toInt ≤ 4) :
    MetFree l (⟨"com/example/crawl_rules/crawlrules/rules/PathPattern", "indexOf", "([BCII)I"⟩ : MethodName) (head1 (Jvm.Cond.code (⟨"com/example/crawl_rules/crawlrules/rules/PathPattern", "indexOf", "([BCII)I"⟩ : MethodName) prog_27_method_10_code 5 (some .int) :: ws) ({ frames := 0, cells := 0, slots := 0, locals := 0 } : Room)) (fun a U => a = #[(.ref ar), (.int ch), (.int fa), (.int fb)] ∧ Z.Warmed39 U.vm ∧ U.heap = h0) (fun _ _ _ _ _ => True) (fun _ U o U' => ∃ v L, o = .returned v ∧ Q1 Z ar ch fa fb cl ff h0 n0 v U'.heap L ∧ FrameEnd U o U' L ({ frames := 0, cells := 0, slots := 0, locals := 0 } : Room).cells ({ frames := 0, cells := 0, slots := 0, locals := 0 } : Room).slots) := by
  refine MetFree.of_bodySF (plainFor_of_name pn_1) hisR ?_
  intro p e s m args below meth c s₁ Bd hml0 hP hK
  obtain ⟨rfl, hZ, hh⟩ := hP
  have hx := Bd.exec
  have hby := Bd.bytes
  have hml : c.maxLocals = 5 := hml0
  have hown : s.vm.findClass "com/example/crawl_rules/crawlrules/rules/PathPattern" = some m.cls := findClass_of_methodNamed Bd.named
  have hnm := (name_of_methodNamed Bd.named Bd.method).1
  have X0 : Stand p l e ({ frames := 0, cells := 0, slots := 0, locals := 0 } : Room) s m #[(.ref ar), (.int ch), (.int fa), (.int fb)] below meth c s₁ [] 0 0 := Stand.of_body Bd
  have e0 : s₁.heap = h0 := by rw [← hh, Bd.state]; rfl
  have N0 := Fr.nil n0
  have pre0 : ∀ t, Steps p.tables e below (s₁.setTop (mkF m 0 #[.val (.ref ar), .val (.int ch), .val (.int fa), .val (.int fb), .unset] [])) t → Steps p.tables e below (s₁.setTop (entryFrame m #[(.ref ar), (.int ch), (.int fa), (.int fb)] 5)) t := fun t k => castTop (ef_1 m ar ch fa fb) k
  have pre1 : ∀ t, Steps p.tables e below (s₁.setTop (mkF m 3 #[.val (.ref ar), .val (.int ch), .val (.int fa), .val (.int fb), .val (.int fa)] [])) t → Steps p.tables e below (s₁.setTop (entryFrame m #[(.ref ar), (.int ch), (.int fa), (.int fb)] 5)) t := fun t k => pre0 t (by
      show Steps p.tables e below (s₁.setTop (mkF m 0 #[.val (.ref ar), .val (.int ch), .val (.int fa), .val (.int fb), .unset] [])) _
      refine XS.iloadN X0.here hx rfl (hb hby d1_0) rfl ?_
      show Steps p.tables e below (s₁.setTop (mkF m 1 #[.val (.ref ar), .val (.int ch), .val (.int fa), .val (.int fb), .unset] [(.int fa)])) _
      refine XS.istore X0.here hx rfl (hb hby d1_1) rfl (l' := #[.val (.ref ar), .val (.int ch), .val (.int fa), .val (.int fb), .val (.int fa)]) rfl ?_
      exact k)
  have loop : ∀ (n : Nat) (i : Int32), fb.toInt - i.toInt = n → fa.toInt ≤ i.toInt → (∀ k : Nat, fa.toInt ≤ k → (k : Int) < i.toInt → ¬ ff k = ch) → (∀ t, Steps p.tables e below (s₁.setTop (mkF m 3 #[.val (.ref ar), .val (.int ch), .val (.int fa), .val (.int fb), .val (.int i)] [])) t → Steps p.tables e below (s₁.setTop (entryFrame m #[(.ref ar), (.int ch), (.int fa), (.int fb)] 5)) t) → ∃ r, own_First ff ch fa fb r ∧ ∀ t, Steps p.tables e below (s₁.setTop (mkF m 23 #[.val (.ref ar), .val (.int ch), .val (.int fa), .val (.int fb), .val (.int r)] [])) t → Steps p.tables e below (s₁.setTop (entryFrame m #[(.ref ar), (.int ch), (.int fa), (.int fb)] 5)) t := by
    intro n
    induction n with
    | zero =>
      intro i hn hi hf prei
      have hc : ¬ i < fb := by rw [Int32.lt_iff_toInt_lt]; omega
      have pre2 : ∀ t, Steps p.tables e below (s₁.setTop (mkF m 23 #[.val (.ref ar), .val (.int ch), .val (.int fa), .val (.int fb), .val (.int i)] [])) t → Steps p.tables e below (s₁.setTop (entryFrame m #[(.ref ar), (.int ch), (.int fa), (.int fb)] 5)) t := fun t k => prei t (by
          show Steps p.tables e below (s₁.setTop (mkF m 3 #[.val (.ref ar), .val (.int ch), .val (.int fa), .val (.int fb), .val (.int i)] [])) _
          refine XS.iload X0.here hx rfl (hb hby d1_3) rfl ?_
          show Steps p.tables e below (s₁.setTop (mkF m 5 #[.val (.ref ar), .val (.int ch), .val (.int fa), .val (.int fb), .val (.int i)] [(.int i)])) _
          refine XS.iloadN X0.here hx rfl (hb hby d1_5) rfl ?_
          show Steps p.tables e below (s₁.setTop (mkF m 6 #[.val (.ref ar), .val (.int ch), .val (.int fa), .val (.int fb), .val (.int i)] [(.int fb), (.int i)])) _
          refine XS.icmpYes X0.here hx rfl (pc0 := 6) (pc' := 23) rfl (hb hby d1_6) rfl (flt hc).2.1 (by decide) (by decide) ?_
          exact k)
      exact ⟨i, own_first_at ff ch fa fb i hi (by omega) hf (fun q => absurd q (by omega)), pre2⟩
    | succ n ih =>
      intro i hn hi hf prei
      have hlt : i.toInt < fb.toInt := by omega
      have hc : i < fb := by rw [Int32.lt_iff_toInt_lt]; omega
      have hin : ¬ (i < 0 ∨ cl.slots.size ≤ i.toNatClampNeg) := by rw [Sz]; exact own_in i fb 4 (by omega) hlt hb4
      have hat : cl.slots[i.toNatClampNeg]? = some (.int (ff i.toInt.toNat)) := by rw [own_clamp i (by omega)]; exact Hs _ (by omega)
      have pre3 : ∀ t, Steps p.tables e below (s₁.setTop (mkF m 14 #[.val (.ref ar), .val (.int ch), .val (.int fa), .val (.int fb), .val (.int i)] [(.int ch), (.int (ff i.toInt.toNat))])) t → Steps p.tables e below (s₁.setTop (entryFrame m #[(.ref ar), (.int ch), (.int fa), (.int fb)] 5)) t := fun t k => prei t (by
          show Steps p.tables e below (s₁.setTop (mkF m 3 #[.val (.ref ar), .val (.int ch), .val (.int fa), .val (.int fb), .val (.int i)] [])) _
          refine XS.iload X0.here hx rfl (hb hby d1_3) rfl ?_
          show Steps p.tables e below (s₁.setTop (mkF m 5 #[.val (.ref ar), .val (.int ch), .val (.int fa), .val (.int fb), .val (.int i)] [(.int i)])) _
          refine XS.iloadN X0.here hx rfl (hb hby d1_5) rfl ?_
          show Steps p.tables e below (s₁.setTop (mkF m 6 #[.val (.ref ar), .val (.int ch), .val (.int fa), .val (.int fb), .val (.int i)] [(.int fb), (.int i)])) _
          refine XS.icmpNo X0.here hx rfl (hb hby d1_6) rfl (tlt hc).2.1 ?_
          show Steps p.tables e below (s₁.setTop (mkF m 9 #[.val (.ref ar), .val (.int ch), .val (.int fa), .val (.int fb), .val (.int i)] [])) _
          refine XS.aloadN X0.here hx rfl (hb hby d1_9) rfl rfl ?_
          show Steps p.tables e below (s₁.setTop (mkF m 10 #[.val (.ref ar), .val (.int ch), .val (.int fa), .val (.int fb), .val (.int i)] [(.ref ar)])) _
          refine XS.iload X0.here hx rfl (hb hby d1_10) rfl ?_
          show Steps p.tables e below (s₁.setTop (mkF m 12 #[.val (.ref ar), .val (.int ch), .val (.int fa), .val (.int fb), .val (.int i)] [(.int i), (.ref ar)])) _
          refine X0.baloadBytes hx (j := i) (v := (.int (ff i.toInt.toNat))) (by rw [e0]; exact Ar.1) (State.isArrayOf_alike hZ.alike Ar.2.1) Ar.2.2 hin hat (g := (mkF m 12 #[.val (.ref ar), .val (.int ch), .val (.int fa), .val (.int fb), .val (.int i)] [(.int i), (.ref ar)])) rfl rfl (hb hby d1_12) _ ?_
          show Steps p.tables e below (s₁.setTop (mkF m 13 #[.val (.ref ar), .val (.int ch), .val (.int fa), .val (.int fb), .val (.int i)] [(.int (ff i.toInt.toNat))])) _
          refine XS.iloadN X0.here hx rfl (hb hby d1_13) rfl ?_
          exact k)
      by_cases hq : (ff i.toInt.toNat) = ch
      · skip
        have pre4 : ∀ t, Steps p.tables e below (s₁.setTop (mkF m 23 #[.val (.ref ar), .val (.int ch), .val (.int fa), .val (.int fb), .val (.int i)] [])) t → Steps p.tables e below (s₁.setTop (entryFrame m #[(.ref ar), (.int ch), (.int fa), (.int fb)] 5)) t := fun t k => pre3 t (by
            show Steps p.tables e below (s₁.setTop (mkF m 14 #[.val (.ref ar), .val (.int ch), .val (.int fa), .val (.int fb), .val (.int i)] [(.int ch), (.int (ff i.toInt.toNat))])) _
            refine XS.icmpYes X0.here hx rfl (pc0 := 14) (pc' := 23) rfl (hb hby d1_14) rfl (teq hq).1 (by decide) (by decide) ?_
            exact k)
        exact ⟨i, own_first_at ff ch fa fb i hi (by omega) hf (fun _ => hq), pre4⟩
      · skip
        have pre5 : ∀ t, Steps p.tables e below (s₁.setTop (mkF m 3 #[.val (.ref ar), .val (.int ch), .val (.int fa), .val (.int fb), .val (.int (i + (1 : Int32)))] [])) t → Steps p.tables e below (s₁.setTop (entryFrame m #[(.ref ar), (.int ch), (.int fa), (.int fb)] 5)) t := fun t k => pre3 t (by
            show Steps p.tables e below (s₁.setTop (mkF m 14 #[.val (.ref ar), .val (.int ch), .val (.int fa), .val (.int fb), .val (.int i)] [(.int ch), (.int (ff i.toInt.toNat))])) _
            refine XS.icmpNo X0.here hx rfl (hb hby d1_14) rfl (feq hq).1 ?_
            show Steps p.tables e below (s₁.setTop (mkF m 17 #[.val (.ref ar), .val (.int ch), .val (.int fa), .val (.int fb), .val (.int i)] [])) _
            refine XS.iinc X0.here hx rfl (hb hby d1_17) rfl (l' := #[.val (.ref ar), .val (.int ch), .val (.int fa), .val (.int fb), .val (.int (i + (1 : Int32)))]) rfl ?_
            show Steps p.tables e below (s₁.setTop (mkF m 20 #[.val (.ref ar), .val (.int ch), .val (.int fa), .val (.int fb), .val (.int (i + (1 : Int32)))] [])) _
            refine XS.goto X0.here hx rfl (pc0 := 20) (pc' := 3) rfl (hb hby d1_20) (by decide) (by decide) ?_
            exact k)
        have hs := own_succ i fb (by omega) hlt
        refine ih (i + 1) (by omega) (by omega) (fun k hk1 hk2 => ?_) pre5
        by_cases hk : (k : Int) < i.toInt
        · exact hf k hk1 hk
        · have : k = i.toInt.toNat := by omega
          rw [this]; exact hq
  obtain ⟨r, hF, prer⟩ := loop (fb.toInt - fa.toInt).toNat fa (by omega) (by omega) (fun k h1 h2 => absurd h2 (by omega)) pre1
  have pre6 : ∀ t, Steps p.tables e below (s₁.setTop (mkF m 25 #[.val (.ref ar), .val (.int ch), .val (.int fa), .val (.int fb), .val (.int r)] [(.int r)])) t → Steps p.tables e below (s₁.setTop (entryFrame m #[(.ref ar), (.int ch), (.int fa), (.int fb)] 5)) t := fun t k => prer t (by
      show Steps p.tables e below (s₁.setTop (mkF m 23 #[.val (.ref ar), .val (.int ch), .val (.int fa), .val (.int fb), .val (.int r)] [])) _
      refine XS.iload X0.here hx rfl (hb hby d1_23) rfl ?_
      exact k)
  obtain ⟨fs, hr, hrun, hended, hW, hsame⟩ := X0.leave (v := some (.int r)) (fun h => by rw [Bd.returns] at h; cases h)
  refine ⟨_, _, pre6 _ ?_, hrun, hended, _, _, rfl, ?_, ⟨_, rfl⟩, hW, hsame.mono (by decide) (by decide)⟩
  · show Steps p.tables e below (s₁.setTop (mkF m 25 #[.val (.ref ar), .val (.int ch), .val (.int fa), .val (.int fb), .val (.int r)] [(.int r)])) _
    exact retI X0 hx Bd.returns (hb hby d1_25) hr
  · show Q1 Z ar ch fa fb cl ff h0 n0 _ s₁.heap _
    rw [e0]
    exact ⟨r, rfl, hF, N0, rfl⟩
theorem own_pd0 : parseMethodDescriptor "([BCII)I" = some ⟨[(.array .byte), .char, .int, .int], some .int⟩ := by decide +kernel
theorem pn_0 : plainName "com/example/crawl_rules/crawlrules/rules/PathPatternIndexOfPinLaw" = true := by first | (simp [plainName, overriddenIn]; done) | decide +kernel
theorem ef_0 (m : MethodId) (p0 : Int32) (p1 : Int32) (p2 : Int32) (p3 : Int32) : entryFrame m #[(.int p0), (.int p1), (.int p2), (.int p3)] maxLocals = mkF m 0 #[.val (.int p0), .val (.int p1), .val (.int p2), .val (.int p3), .unset, .unset, .unset, .unset, .unset] [] := by first | (simp [entryFrame, mkF, argsToLocals, Value.category, maxLocals]; done) | rfl
def Q0 (Z : State) (pk : Int32) (cr : Int32) (rg : Int32) (fl : Int32)  (h0 : Heap) (n0 : Nat) (v : Option Value) (h : Heap) (L : List Loc) : Prop := v = some (.int 1) ∧ Fr n0 L
set_option maxRecDepth 65536 in
set_option maxHeartbeats 40000000 in
theorem rm0 (l : Launch) (Z : State) (a0 : Array Value) (hw : ∀ d ∈ tables_1, d.before a0 Z = true) (ws : List Jvm.Cond) (pk : Int32) (cr : Int32) (rg : Int32) (fl : Int32)  (h0 : Heap) (n0 : Nat) (Z0 : n0 ≤ h0.size)  :
    MetFree l x (head1 (Jvm.Cond.code x code maxLocals ret :: ws) room_1) (fun a U => a = #[(.int pk), (.int cr), (.int rg), (.int fl)] ∧ Z.Warmed39 U.vm ∧ U.heap = h0) (fun _ _ _ _ _ => True) (fun _ U o U' => ∃ v L, o = .returned v ∧ Q0 Z pk cr rg fl h0 n0 v U'.heap L ∧ FrameEnd U o U' L room_1.cells room_1.slots) := by
  refine MetFree.of_bodySF (plainFor_of_name pn_0) hisR ?_
  intro p e s m args below meth c s₁ Bd hml0 hP hK
  obtain ⟨rfl, hZ, hh⟩ := hP
  have hx := Bd.exec
  have hby := Bd.bytes
  have hml : c.maxLocals = 9 := hml0
  have hown : s.vm.findClass "com/example/crawl_rules/crawlrules/rules/PathPatternIndexOfPinLaw" = some m.cls := findClass_of_methodNamed Bd.named
  have hnm := (name_of_methodNamed Bd.named Bd.method).1
  have X0 : Stand p l e room_1 s m #[(.int pk), (.int cr), (.int rg), (.int fl)] below meth c s₁ [] 0 0 := Stand.of_body Bd
  have e0 : s₁.heap = h0 := by rw [← hh, Bd.state]; rfl
  have N0 := Fr.nil n0
  have pre0 : ∀ t, Steps p.tables e below (s₁.setTop (mkF m 0 #[.val (.int pk), .val (.int cr), .val (.int rg), .val (.int fl), .unset, .unset, .unset, .unset, .unset] [])) t → Steps p.tables e below (s₁.setTop (entryFrame m #[(.int pk), (.int cr), (.int rg), (.int fl)] maxLocals)) t := fun t k => castTop (ef_0 m pk cr rg fl) k
  obtain ⟨ch, hch, pre7⟩ : ∃ ch : Int32, (True) ∧ ∀ t, Steps p.tables e below (s₁.setTop (mkF m 17 #[.val (.int pk), .val (.int cr), .val (.int rg), .val (.int fl), .unset, .unset, .unset, .unset, .unset] [(.int ch)])) t → Steps p.tables e below (s₁.setTop (entryFrame m #[(.int pk), (.int cr), (.int rg), (.int fl)] maxLocals)) t := by
    have pre8 : ∀ t, Steps p.tables e below (s₁.setTop (mkF m 4 #[.val (.int pk), .val (.int cr), .val (.int rg), .val (.int fl), .unset, .unset, .unset, .unset, .unset] [(.int (fl &&& (16 : Int32)))])) t → Steps p.tables e below (s₁.setTop (entryFrame m #[(.int pk), (.int cr), (.int rg), (.int fl)] maxLocals)) t := fun t k => pre0 t (by
        show Steps p.tables e below (s₁.setTop (mkF m 0 #[.val (.int pk), .val (.int cr), .val (.int rg), .val (.int fl), .unset, .unset, .unset, .unset, .unset] [])) _
        refine XS.iloadN X0.here hx rfl (hb hby at_0) rfl ?_
        show Steps p.tables e below (s₁.setTop (mkF m 1 #[.val (.int pk), .val (.int cr), .val (.int rg), .val (.int fl), .unset, .unset, .unset, .unset, .unset] [(.int fl)])) _
        refine XS.bipush X0.here hx rfl (hb hby at_1) ?_
        show Steps p.tables e below (s₁.setTop (mkF m 3 #[.val (.int pk), .val (.int cr), .val (.int rg), .val (.int fl), .unset, .unset, .unset, .unset, .unset] [(.int (16 : Int32)), (.int fl)])) _
        refine XS.iand X0.here hx rfl (hb hby at_3) rfl ?_
        exact k)
    by_cases hc4 : (fl &&& (16 : Int32)) = (0 : Int32)
    · skip
      have pre9 : ∀ t, Steps p.tables e below (s₁.setTop (mkF m 17 #[.val (.int pk), .val (.int cr), .val (.int rg), .val (.int fl), .unset, .unset, .unset, .unset, .unset] [(.int (cr.toUInt32.toUInt16.toUInt32.toInt32))])) t → Steps p.tables e below (s₁.setTop (entryFrame m #[(.int pk), (.int cr), (.int rg), (.int fl)] maxLocals)) t := fun t k => pre8 t (by
          show Steps p.tables e below (s₁.setTop (mkF m 4 #[.val (.int pk), .val (.int cr), .val (.int rg), .val (.int fl), .unset, .unset, .unset, .unset, .unset] [(.int (fl &&& (16 : Int32)))])) _
          refine XS.ifYes X0.here hx rfl (pc0 := 4) (pc' := 15) rfl (hb hby at_4) rfl ((if0 _ _).trans (teq hc4).1) (by decide) (by decide) ?_
          show Steps p.tables e below (s₁.setTop (mkF m 15 #[.val (.int pk), .val (.int cr), .val (.int rg), .val (.int fl), .unset, .unset, .unset, .unset, .unset] [])) _
          refine XS.iloadN X0.here hx rfl (hb hby at_15) rfl ?_
          show Steps p.tables e below (s₁.setTop (mkF m 16 #[.val (.int pk), .val (.int cr), .val (.int rg), .val (.int fl), .unset, .unset, .unset, .unset, .unset] [(.int cr)])) _
          refine XS.i2c X0.here hx rfl (hb hby at_16) rfl ?_
          exact k)
      exact ⟨_, trivial, pre9⟩
    · skip
      have pre10 : ∀ t, Steps p.tables e below (s₁.setTop (mkF m 17 #[.val (.int pk), .val (.int cr), .val (.int rg), .val (.int fl), .unset, .unset, .unset, .unset, .unset] [(.int ((cr &&& (127 : Int32)).toUInt32.toUInt16.toUInt32.toInt32))])) t → Steps p.tables e below (s₁.setTop (entryFrame m #[(.int pk), (.int cr), (.int rg), (.int fl)] maxLocals)) t := fun t k => pre8 t (by
          show Steps p.tables e below (s₁.setTop (mkF m 4 #[.val (.int pk), .val (.int cr), .val (.int rg), .val (.int fl), .unset, .unset, .unset, .unset, .unset] [(.int (fl &&& (16 : Int32)))])) _
          refine XS.ifNo X0.here hx rfl (hb hby at_4) rfl ((if0 _ _).trans (feq hc4).1) ?_
          show Steps p.tables e below (s₁.setTop (mkF m 7 #[.val (.int pk), .val (.int cr), .val (.int rg), .val (.int fl), .unset, .unset, .unset, .unset, .unset] [])) _
          refine XS.iloadN X0.here hx rfl (hb hby at_7) rfl ?_
          show Steps p.tables e below (s₁.setTop (mkF m 8 #[.val (.int pk), .val (.int cr), .val (.int rg), .val (.int fl), .unset, .unset, .unset, .unset, .unset] [(.int cr)])) _
          refine XS.bipush X0.here hx rfl (hb hby at_8) ?_
          show Steps p.tables e below (s₁.setTop (mkF m 10 #[.val (.int pk), .val (.int cr), .val (.int rg), .val (.int fl), .unset, .unset, .unset, .unset, .unset] [(.int (127 : Int32)), (.int cr)])) _
          refine XS.iand X0.here hx rfl (hb hby at_10) rfl ?_
          show Steps p.tables e below (s₁.setTop (mkF m 11 #[.val (.int pk), .val (.int cr), .val (.int rg), .val (.int fl), .unset, .unset, .unset, .unset, .unset] [(.int (cr &&& (127 : Int32)))])) _
          refine XS.i2c X0.here hx rfl (hb hby at_11) rfl ?_
          show Steps p.tables e below (s₁.setTop (mkF m 12 #[.val (.int pk), .val (.int cr), .val (.int rg), .val (.int fl), .unset, .unset, .unset, .unset, .unset] [(.int ((cr &&& (127 : Int32)).toUInt32.toUInt16.toUInt32.toInt32))])) _
          refine XS.goto X0.here hx rfl (pc0 := 12) (pc' := 17) rfl (hb hby at_12) (by decide) (by decide) ?_
          exact k)
      exact ⟨_, trivial, pre10⟩
  obtain ⟨T11, h11, k11, X11, e11, E11, A11, st11⟩ := newP X0 hx hZ (hw _ (List.mem_of_getElem? (i := 0) rfl)) e0 (g := (mkF m 20 #[.val (.int pk), .val (.int cr), .val (.int rg), .val (.int fl), .val (.int ch), .unset, .unset, .unset, .unset] [(.int (4 : Int32))])) rfl (hb hby at_20) rfl (by decide) (cap := 4) (by decide) (by decide) (by decide) (by decide)
  obtain ⟨b11, g11⟩ : ∃ z, z = h0.size := ⟨_, rfl⟩
  rw [← g11] at A11 st11
  have V11 : Arv Z h11 b11 k11 .byte (4 : Int32) [(.int (0 : Int32)), (.int (0 : Int32)), (.int (0 : Int32)), (.int (0 : Int32))] (.int (0 : Int32)) := (Arv.new A11 (by decide)).pad (pad_rep [] (.int (0 : Int32)) 4)
  have gb11 : n0 ≤ b11 := Nat.le_trans Z0 (Nat.le_of_eq g11.symm)
  have Z11 : n0 ≤ h11.size := Nat.le_trans Z0 E11.1
  have pre12 : ∀ t, Steps p.tables e below (T11.setTop (mkF m 27 #[.val (.int pk), .val (.int cr), .val (.int rg), .val (.int fl), .val (.int ch), .val (.ref b11), .unset, .unset, .unset] [(.int (0 : Int32)), (.ref b11)])) t → Steps p.tables e below (s₁.setTop (entryFrame m #[(.int pk), (.int cr), (.int rg), (.int fl)] maxLocals)) t := fun t k => pre7 t (by
      show Steps p.tables e below (s₁.setTop (mkF m 17 #[.val (.int pk), .val (.int cr), .val (.int rg), .val (.int fl), .unset, .unset, .unset, .unset, .unset] [(.int ch)])) _
      refine XS.istore X0.here hx rfl (hb hby at_17) rfl (l' := #[.val (.int pk), .val (.int cr), .val (.int rg), .val (.int fl), .val (.int ch), .unset, .unset, .unset, .unset]) rfl ?_
      show Steps p.tables e below (s₁.setTop (mkF m 19 #[.val (.int pk), .val (.int cr), .val (.int rg), .val (.int fl), .val (.int ch), .unset, .unset, .unset, .unset] [])) _
      refine XS.iconst X0.here hx rfl (hb hby at_19) ?_
      show Steps p.tables e below (s₁.setTop (mkF m 20 #[.val (.int pk), .val (.int cr), .val (.int rg), .val (.int fl), .val (.int ch), .unset, .unset, .unset, .unset] [(.int (4 : Int32))])) _
      refine st11 _ ?_
      show Steps p.tables e below (T11.setTop (mkF m 22 #[.val (.int pk), .val (.int cr), .val (.int rg), .val (.int fl), .val (.int ch), .unset, .unset, .unset, .unset] [(.ref b11)])) _
      refine XS.astore X11.here hx rfl (hb hby at_22) rfl rfl (l' := #[.val (.int pk), .val (.int cr), .val (.int rg), .val (.int fl), .val (.int ch), .val (.ref b11), .unset, .unset, .unset]) rfl ?_
      show Steps p.tables e below (T11.setTop (mkF m 24 #[.val (.int pk), .val (.int cr), .val (.int rg), .val (.int fl), .val (.int ch), .val (.ref b11), .unset, .unset, .unset] [])) _
      refine XS.aload X11.here hx rfl (hb hby at_24) rfl rfl ?_
      show Steps p.tables e below (T11.setTop (mkF m 26 #[.val (.int pk), .val (.int cr), .val (.int rg), .val (.int fl), .val (.int ch), .val (.ref b11), .unset, .unset, .unset] [(.ref b11)])) _
      refine XS.iconst X11.here hx rfl (hb hby at_26) ?_
      exact k)
  obtain ⟨y0, hy0, pre13⟩ : ∃ y0 : Int32, (True) ∧ ∀ t, Steps p.tables e below (T11.setTop (mkF m 41 #[.val (.int pk), .val (.int cr), .val (.int rg), .val (.int fl), .val (.int ch), .val (.ref b11), .unset, .unset, .unset] [(.int y0), (.int (0 : Int32)), (.ref b11)])) t → Steps p.tables e below (s₁.setTop (entryFrame m #[(.int pk), (.int cr), (.int rg), (.int fl)] maxLocals)) t := by
    have pre14 : ∀ t, Steps p.tables e below (T11.setTop (mkF m 30 #[.val (.int pk), .val (.int cr), .val (.int rg), .val (.int fl), .val (.int ch), .val (.ref b11), .unset, .unset, .unset] [(.int (fl &&& (1 : Int32))), (.int (0 : Int32)), (.ref b11)])) t → Steps p.tables e below (s₁.setTop (entryFrame m #[(.int pk), (.int cr), (.int rg), (.int fl)] maxLocals)) t := fun t k => pre12 t (by
        show Steps p.tables e below (T11.setTop (mkF m 27 #[.val (.int pk), .val (.int cr), .val (.int rg), .val (.int fl), .val (.int ch), .val (.ref b11), .unset, .unset, .unset] [(.int (0 : Int32)), (.ref b11)])) _
        refine XS.iloadN X11.here hx rfl (hb hby at_27) rfl ?_
        show Steps p.tables e below (T11.setTop (mkF m 28 #[.val (.int pk), .val (.int cr), .val (.int rg), .val (.int fl), .val (.int ch), .val (.ref b11), .unset, .unset, .unset] [(.int fl), (.int (0 : Int32)), (.ref b11)])) _
        refine XS.iconst X11.here hx rfl (hb hby at_28) ?_
        show Steps p.tables e below (T11.setTop (mkF m 29 #[.val (.int pk), .val (.int cr), .val (.int rg), .val (.int fl), .val (.int ch), .val (.ref b11), .unset, .unset, .unset] [(.int (1 : Int32)), (.int fl), (.int (0 : Int32)), (.ref b11)])) _
        refine XS.iand X11.here hx rfl (hb hby at_29) rfl ?_
        exact k)
    by_cases hc30 : (fl &&& (1 : Int32)) = (0 : Int32)
    · skip
      have pre15 : ∀ t, Steps p.tables e below (T11.setTop (mkF m 41 #[.val (.int pk), .val (.int cr), .val (.int rg), .val (.int fl), .val (.int ch), .val (.ref b11), .unset, .unset, .unset] [(.int (pk.toInt8.toInt32)), (.int (0 : Int32)), (.ref b11)])) t → Steps p.tables e below (s₁.setTop (entryFrame m #[(.int pk), (.int cr), (.int rg), (.int fl)] maxLocals)) t := fun t k => pre14 t (by
          show Steps p.tables e below (T11.setTop (mkF m 30 #[.val (.int pk), .val (.int cr), .val (.int rg), .val (.int fl), .val (.int ch), .val (.ref b11), .unset, .unset, .unset] [(.int (fl &&& (1 : Int32))), (.int (0 : Int32)), (.ref b11)])) _
          refine XS.ifYes X11.here hx rfl (pc0 := 30) (pc' := 39) rfl (hb hby at_30) rfl ((if0 _ _).trans (teq hc30).1) (by decide) (by decide) ?_
          show Steps p.tables e below (T11.setTop (mkF m 39 #[.val (.int pk), .val (.int cr), .val (.int rg), .val (.int fl), .val (.int ch), .val (.ref b11), .unset, .unset, .unset] [(.int (0 : Int32)), (.ref b11)])) _
          refine XS.iloadN X11.here hx rfl (hb hby at_39) rfl ?_
          show Steps p.tables e below (T11.setTop (mkF m 40 #[.val (.int pk), .val (.int cr), .val (.int rg), .val (.int fl), .val (.int ch), .val (.ref b11), .unset, .unset, .unset] [(.int pk), (.int (0 : Int32)), (.ref b11)])) _
          refine XS.i2b X11.here hx rfl (hb hby at_40) rfl ?_
          exact k)
      exact ⟨_, trivial, pre15⟩
    · skip
      have pre16 : ∀ t, Steps p.tables e below (T11.setTop (mkF m 41 #[.val (.int pk), .val (.int cr), .val (.int rg), .val (.int fl), .val (.int ch), .val (.ref b11), .unset, .unset, .unset] [(.int (ch.toInt8.toInt32)), (.int (0 : Int32)), (.ref b11)])) t → Steps p.tables e below (s₁.setTop (entryFrame m #[(.int pk), (.int cr), (.int rg), (.int fl)] maxLocals)) t := fun t k => pre14 t (by
          show Steps p.tables e below (T11.setTop (mkF m 30 #[.val (.int pk), .val (.int cr), .val (.int rg), .val (.int fl), .val (.int ch), .val (.ref b11), .unset, .unset, .unset] [(.int (fl &&& (1 : Int32))), (.int (0 : Int32)), (.ref b11)])) _
          refine XS.ifNo X11.here hx rfl (hb hby at_30) rfl ((if0 _ _).trans (feq hc30).1) ?_
          show Steps p.tables e below (T11.setTop (mkF m 33 #[.val (.int pk), .val (.int cr), .val (.int rg), .val (.int fl), .val (.int ch), .val (.ref b11), .unset, .unset, .unset] [(.int (0 : Int32)), (.ref b11)])) _
          refine XS.iload X11.here hx rfl (hb hby at_33) rfl ?_
          show Steps p.tables e below (T11.setTop (mkF m 35 #[.val (.int pk), .val (.int cr), .val (.int rg), .val (.int fl), .val (.int ch), .val (.ref b11), .unset, .unset, .unset] [(.int ch), (.int (0 : Int32)), (.ref b11)])) _
          refine XS.i2b X11.here hx rfl (hb hby at_35) rfl ?_
          show Steps p.tables e below (T11.setTop (mkF m 36 #[.val (.int pk), .val (.int cr), .val (.int rg), .val (.int fl), .val (.int ch), .val (.ref b11), .unset, .unset, .unset] [(.int (ch.toInt8.toInt32)), (.int (0 : Int32)), (.ref b11)])) _
          refine XS.goto X11.here hx rfl (pc0 := 36) (pc' := 41) rfl (hb hby at_36) (by decide) (by decide) ?_
          exact k)
      exact ⟨_, trivial, pre16⟩
  obtain ⟨cl17, Ar17, q17, S17, M17, Hs17, G17⟩ := V11
  have hin17 : ¬ ((0 : Int32) < 0 ∨ cl17.slots.size ≤ ((0 : Int32)).toNatClampNeg) := inb_of S17 ⟨by decide, by decide⟩
  obtain ⟨T17, h17, X17, e17, W17, st17⟩ := stB X11 hx hZ e11 Ar17 (j := (0 : Int32)) hin17 (g := (mkF m 41 #[.val (.int pk), .val (.int cr), .val (.int rg), .val (.int fl), .val (.int ch), .val (.ref b11), .unset, .unset, .unset] [(.int y0), (.int (0 : Int32)), (.ref b11)])) rfl rfl (hb hby at_41)
  have V17 := Arv.set Ar17 q17 S17 M17 Hs17 G17 (fits_nar_byte _) W17 0 rfl (Nat.le_of_ble_eq_true rfl)
  have N17 := Fr.snoc X17 N0 gb11
  have Z17 : n0 ≤ h17.size := Nat.le_trans Z11 (Nat.le_of_eq W17.size.symm)
  have pre18 : ∀ t, Steps p.tables e below (T17.setTop (mkF m 45 #[.val (.int pk), .val (.int cr), .val (.int rg), .val (.int fl), .val (.int ch), .val (.ref b11), .unset, .unset, .unset] [(.int (1 : Int32)), (.ref b11)])) t → Steps p.tables e below (s₁.setTop (entryFrame m #[(.int pk), (.int cr), (.int rg), (.int fl)] maxLocals)) t := fun t k => pre13 t (by
      show Steps p.tables e below (T11.setTop (mkF m 41 #[.val (.int pk), .val (.int cr), .val (.int rg), .val (.int fl), .val (.int ch), .val (.ref b11), .unset, .unset, .unset] [(.int y0), (.int (0 : Int32)), (.ref b11)])) _
      refine st17 _ ?_
      show Steps p.tables e below (T17.setTop (mkF m 42 #[.val (.int pk), .val (.int cr), .val (.int rg), .val (.int fl), .val (.int ch), .val (.ref b11), .unset, .unset, .unset] [])) _
      refine XS.aload X17.here hx rfl (hb hby at_42) rfl rfl ?_
      show Steps p.tables e below (T17.setTop (mkF m 44 #[.val (.int pk), .val (.int cr), .val (.int rg), .val (.int fl), .val (.int ch), .val (.ref b11), .unset, .unset, .unset] [(.ref b11)])) _
      refine XS.iconst X17.here hx rfl (hb hby at_44) ?_
      exact k)
  obtain ⟨y1, hy1, pre19⟩ : ∃ y1 : Int32, (True) ∧ ∀ t, Steps p.tables e below (T17.setTop (mkF m 62 #[.val (.int pk), .val (.int cr), .val (.int rg), .val (.int fl), .val (.int ch), .val (.ref b11), .unset, .unset, .unset] [(.int y1), (.int (1 : Int32)), (.ref b11)])) t → Steps p.tables e below (s₁.setTop (entryFrame m #[(.int pk), (.int cr), (.int rg), (.int fl)] maxLocals)) t := by
    have pre20 : ∀ t, Steps p.tables e below (T17.setTop (mkF m 48 #[.val (.int pk), .val (.int cr), .val (.int rg), .val (.int fl), .val (.int ch), .val (.ref b11), .unset, .unset, .unset] [(.int (fl &&& (2 : Int32))), (.int (1 : Int32)), (.ref b11)])) t → Steps p.tables e below (s₁.setTop (entryFrame m #[(.int pk), (.int cr), (.int rg), (.int fl)] maxLocals)) t := fun t k => pre18 t (by
        show Steps p.tables e below (T17.setTop (mkF m 45 #[.val (.int pk), .val (.int cr), .val (.int rg), .val (.int fl), .val (.int ch), .val (.ref b11), .unset, .unset, .unset] [(.int (1 : Int32)), (.ref b11)])) _
        refine XS.iloadN X17.here hx rfl (hb hby at_45) rfl ?_
        show Steps p.tables e below (T17.setTop (mkF m 46 #[.val (.int pk), .val (.int cr), .val (.int rg), .val (.int fl), .val (.int ch), .val (.ref b11), .unset, .unset, .unset] [(.int fl), (.int (1 : Int32)), (.ref b11)])) _
        refine XS.iconst X17.here hx rfl (hb hby at_46) ?_
        show Steps p.tables e below (T17.setTop (mkF m 47 #[.val (.int pk), .val (.int cr), .val (.int rg), .val (.int fl), .val (.int ch), .val (.ref b11), .unset, .unset, .unset] [(.int (2 : Int32)), (.int fl), (.int (1 : Int32)), (.ref b11)])) _
        refine XS.iand X17.here hx rfl (hb hby at_47) rfl ?_
        exact k)
    by_cases hc48 : (fl &&& (2 : Int32)) = (0 : Int32)
    · skip
      have pre21 : ∀ t, Steps p.tables e below (T17.setTop (mkF m 62 #[.val (.int pk), .val (.int cr), .val (.int rg), .val (.int fl), .val (.int ch), .val (.ref b11), .unset, .unset, .unset] [(.int (((pk.toUInt32 >>> ((8 : Int32) &&& 31).toUInt32).toInt32).toInt8.toInt32)), (.int (1 : Int32)), (.ref b11)])) t → Steps p.tables e below (s₁.setTop (entryFrame m #[(.int pk), (.int cr), (.int rg), (.int fl)] maxLocals)) t := fun t k => pre20 t (by
          show Steps p.tables e below (T17.setTop (mkF m 48 #[.val (.int pk), .val (.int cr), .val (.int rg), .val (.int fl), .val (.int ch), .val (.ref b11), .unset, .unset, .unset] [(.int (fl &&& (2 : Int32))), (.int (1 : Int32)), (.ref b11)])) _
          refine XS.ifYes X17.here hx rfl (pc0 := 48) (pc' := 57) rfl (hb hby at_48) rfl ((if0 _ _).trans (teq hc48).1) (by decide) (by decide) ?_
          show Steps p.tables e below (T17.setTop (mkF m 57 #[.val (.int pk), .val (.int cr), .val (.int rg), .val (.int fl), .val (.int ch), .val (.ref b11), .unset, .unset, .unset] [(.int (1 : Int32)), (.ref b11)])) _
          refine XS.iloadN X17.here hx rfl (hb hby at_57) rfl ?_
          show Steps p.tables e below (T17.setTop (mkF m 58 #[.val (.int pk), .val (.int cr), .val (.int rg), .val (.int fl), .val (.int ch), .val (.ref b11), .unset, .unset, .unset] [(.int pk), (.int (1 : Int32)), (.ref b11)])) _
          refine XS.bipush X17.here hx rfl (hb hby at_58) ?_
          show Steps p.tables e below (T17.setTop (mkF m 60 #[.val (.int pk), .val (.int cr), .val (.int rg), .val (.int fl), .val (.int ch), .val (.ref b11), .unset, .unset, .unset] [(.int (8 : Int32)), (.int pk), (.int (1 : Int32)), (.ref b11)])) _
          refine XS.iushr X17.here hx rfl (hb hby at_60) rfl ?_
          show Steps p.tables e below (T17.setTop (mkF m 61 #[.val (.int pk), .val (.int cr), .val (.int rg), .val (.int fl), .val (.int ch), .val (.ref b11), .unset, .unset, .unset] [(.int ((pk.toUInt32 >>> ((8 : Int32) &&& 31).toUInt32).toInt32)), (.int (1 : Int32)), (.ref b11)])) _
          refine XS.i2b X17.here hx rfl (hb hby at_61) rfl ?_
          exact k)
      exact ⟨_, trivial, pre21⟩
    · skip
      have pre22 : ∀ t, Steps p.tables e below (T17.setTop (mkF m 62 #[.val (.int pk), .val (.int cr), .val (.int rg), .val (.int fl), .val (.int ch), .val (.ref b11), .unset, .unset, .unset] [(.int (ch.toInt8.toInt32)), (.int (1 : Int32)), (.ref b11)])) t → Steps p.tables e below (s₁.setTop (entryFrame m #[(.int pk), (.int cr), (.int rg), (.int fl)] maxLocals)) t := fun t k => pre20 t (by
          show Steps p.tables e below (T17.setTop (mkF m 48 #[.val (.int pk), .val (.int cr), .val (.int rg), .val (.int fl), .val (.int ch), .val (.ref b11), .unset, .unset, .unset] [(.int (fl &&& (2 : Int32))), (.int (1 : Int32)), (.ref b11)])) _
          refine XS.ifNo X17.here hx rfl (hb hby at_48) rfl ((if0 _ _).trans (feq hc48).1) ?_
          show Steps p.tables e below (T17.setTop (mkF m 51 #[.val (.int pk), .val (.int cr), .val (.int rg), .val (.int fl), .val (.int ch), .val (.ref b11), .unset, .unset, .unset] [(.int (1 : Int32)), (.ref b11)])) _
          refine XS.iload X17.here hx rfl (hb hby at_51) rfl ?_
          show Steps p.tables e below (T17.setTop (mkF m 53 #[.val (.int pk), .val (.int cr), .val (.int rg), .val (.int fl), .val (.int ch), .val (.ref b11), .unset, .unset, .unset] [(.int ch), (.int (1 : Int32)), (.ref b11)])) _
          refine XS.i2b X17.here hx rfl (hb hby at_53) rfl ?_
          show Steps p.tables e below (T17.setTop (mkF m 54 #[.val (.int pk), .val (.int cr), .val (.int rg), .val (.int fl), .val (.int ch), .val (.ref b11), .unset, .unset, .unset] [(.int (ch.toInt8.toInt32)), (.int (1 : Int32)), (.ref b11)])) _
          refine XS.goto X17.here hx rfl (pc0 := 54) (pc' := 62) rfl (hb hby at_54) (by decide) (by decide) ?_
          exact k)
      exact ⟨_, trivial, pre22⟩
  obtain ⟨cl23, Ar23, q23, S23, M23, Hs23, G23⟩ := V17
  have hin23 : ¬ ((1 : Int32) < 0 ∨ cl23.slots.size ≤ ((1 : Int32)).toNatClampNeg) := inb_of S23 ⟨by decide, by decide⟩
  obtain ⟨T23, h23, X23, e23, W23, st23⟩ := stB X17 hx hZ e17 Ar23 (j := (1 : Int32)) hin23 (g := (mkF m 62 #[.val (.int pk), .val (.int cr), .val (.int rg), .val (.int fl), .val (.int ch), .val (.ref b11), .unset, .unset, .unset] [(.int y1), (.int (1 : Int32)), (.ref b11)])) rfl rfl (hb hby at_62)
  have V23 := Arv.set Ar23 q23 S23 M23 Hs23 G23 (fits_nar_byte _) W23 1 rfl (Nat.le_of_ble_eq_true rfl)
  have N23 := Fr.snoc X23 N17 gb11
  have Z23 : n0 ≤ h23.size := Nat.le_trans Z17 (Nat.le_of_eq W23.size.symm)
  have pre24 : ∀ t, Steps p.tables e below (T23.setTop (mkF m 66 #[.val (.int pk), .val (.int cr), .val (.int rg), .val (.int fl), .val (.int ch), .val (.ref b11), .unset, .unset, .unset] [(.int (2 : Int32)), (.ref b11)])) t → Steps p.tables e below (s₁.setTop (entryFrame m #[(.int pk), (.int cr), (.int rg), (.int fl)] maxLocals)) t := fun t k => pre19 t (by
      show Steps p.tables e below (T17.setTop (mkF m 62 #[.val (.int pk), .val (.int cr), .val (.int rg), .val (.int fl), .val (.int ch), .val (.ref b11), .unset, .unset, .unset] [(.int y1), (.int (1 : Int32)), (.ref b11)])) _
      refine st23 _ ?_
      show Steps p.tables e below (T23.setTop (mkF m 63 #[.val (.int pk), .val (.int cr), .val (.int rg), .val (.int fl), .val (.int ch), .val (.ref b11), .unset, .unset, .unset] [])) _
      refine XS.aload X23.here hx rfl (hb hby at_63) rfl rfl ?_
      show Steps p.tables e below (T23.setTop (mkF m 65 #[.val (.int pk), .val (.int cr), .val (.int rg), .val (.int fl), .val (.int ch), .val (.ref b11), .unset, .unset, .unset] [(.ref b11)])) _
      refine XS.iconst X23.here hx rfl (hb hby at_65) ?_
      exact k)
  obtain ⟨y2, hy2, pre25⟩ : ∃ y2 : Int32, (True) ∧ ∀ t, Steps p.tables e below (T23.setTop (mkF m 83 #[.val (.int pk), .val (.int cr), .val (.int rg), .val (.int fl), .val (.int ch), .val (.ref b11), .unset, .unset, .unset] [(.int y2), (.int (2 : Int32)), (.ref b11)])) t → Steps p.tables e below (s₁.setTop (entryFrame m #[(.int pk), (.int cr), (.int rg), (.int fl)] maxLocals)) t := by
    have pre26 : ∀ t, Steps p.tables e below (T23.setTop (mkF m 69 #[.val (.int pk), .val (.int cr), .val (.int rg), .val (.int fl), .val (.int ch), .val (.ref b11), .unset, .unset, .unset] [(.int (fl &&& (4 : Int32))), (.int (2 : Int32)), (.ref b11)])) t → Steps p.tables e below (s₁.setTop (entryFrame m #[(.int pk), (.int cr), (.int rg), (.int fl)] maxLocals)) t := fun t k => pre24 t (by
        show Steps p.tables e below (T23.setTop (mkF m 66 #[.val (.int pk), .val (.int cr), .val (.int rg), .val (.int fl), .val (.int ch), .val (.ref b11), .unset, .unset, .unset] [(.int (2 : Int32)), (.ref b11)])) _
        refine XS.iloadN X23.here hx rfl (hb hby at_66) rfl ?_
        show Steps p.tables e below (T23.setTop (mkF m 67 #[.val (.int pk), .val (.int cr), .val (.int rg), .val (.int fl), .val (.int ch), .val (.ref b11), .unset, .unset, .unset] [(.int fl), (.int (2 : Int32)), (.ref b11)])) _
        refine XS.iconst X23.here hx rfl (hb hby at_67) ?_
        show Steps p.tables e below (T23.setTop (mkF m 68 #[.val (.int pk), .val (.int cr), .val (.int rg), .val (.int fl), .val (.int ch), .val (.ref b11), .unset, .unset, .unset] [(.int (4 : Int32)), (.int fl), (.int (2 : Int32)), (.ref b11)])) _
        refine XS.iand X23.here hx rfl (hb hby at_68) rfl ?_
        exact k)
    by_cases hc69 : (fl &&& (4 : Int32)) = (0 : Int32)
    · skip
      have pre27 : ∀ t, Steps p.tables e below (T23.setTop (mkF m 83 #[.val (.int pk), .val (.int cr), .val (.int rg), .val (.int fl), .val (.int ch), .val (.ref b11), .unset, .unset, .unset] [(.int (((pk.toUInt32 >>> ((16 : Int32) &&& 31).toUInt32).toInt32).toInt8.toInt32)), (.int (2 : Int32)), (.ref b11)])) t → Steps p.tables e below (s₁.setTop (entryFrame m #[(.int pk), (.int cr), (.int rg), (.int fl)] maxLocals)) t := fun t k => pre26 t (by
          show Steps p.tables e below (T23.setTop (mkF m 69 #[.val (.int pk), .val (.int cr), .val (.int rg), .val (.int fl), .val (.int ch), .val (.ref b11), .unset, .unset, .unset] [(.int (fl &&& (4 : Int32))), (.int (2 : Int32)), (.ref b11)])) _
          refine XS.ifYes X23.here hx rfl (pc0 := 69) (pc' := 78) rfl (hb hby at_69) rfl ((if0 _ _).trans (teq hc69).1) (by decide) (by decide) ?_
          show Steps p.tables e below (T23.setTop (mkF m 78 #[.val (.int pk), .val (.int cr), .val (.int rg), .val (.int fl), .val (.int ch), .val (.ref b11), .unset, .unset, .unset] [(.int (2 : Int32)), (.ref b11)])) _
          refine XS.iloadN X23.here hx rfl (hb hby at_78) rfl ?_
          show Steps p.tables e below (T23.setTop (mkF m 79 #[.val (.int pk), .val (.int cr), .val (.int rg), .val (.int fl), .val (.int ch), .val (.ref b11), .unset, .unset, .unset] [(.int pk), (.int (2 : Int32)), (.ref b11)])) _
          refine XS.bipush X23.here hx rfl (hb hby at_79) ?_
          show Steps p.tables e below (T23.setTop (mkF m 81 #[.val (.int pk), .val (.int cr), .val (.int rg), .val (.int fl), .val (.int ch), .val (.ref b11), .unset, .unset, .unset] [(.int (16 : Int32)), (.int pk), (.int (2 : Int32)), (.ref b11)])) _
          refine XS.iushr X23.here hx rfl (hb hby at_81) rfl ?_
          show Steps p.tables e below (T23.setTop (mkF m 82 #[.val (.int pk), .val (.int cr), .val (.int rg), .val (.int fl), .val (.int ch), .val (.ref b11), .unset, .unset, .unset] [(.int ((pk.toUInt32 >>> ((16 : Int32) &&& 31).toUInt32).toInt32)), (.int (2 : Int32)), (.ref b11)])) _
          refine XS.i2b X23.here hx rfl (hb hby at_82) rfl ?_
          exact k)
      exact ⟨_, trivial, pre27⟩
    · skip
      have pre28 : ∀ t, Steps p.tables e below (T23.setTop (mkF m 83 #[.val (.int pk), .val (.int cr), .val (.int rg), .val (.int fl), .val (.int ch), .val (.ref b11), .unset, .unset, .unset] [(.int (ch.toInt8.toInt32)), (.int (2 : Int32)), (.ref b11)])) t → Steps p.tables e below (s₁.setTop (entryFrame m #[(.int pk), (.int cr), (.int rg), (.int fl)] maxLocals)) t := fun t k => pre26 t (by
          show Steps p.tables e below (T23.setTop (mkF m 69 #[.val (.int pk), .val (.int cr), .val (.int rg), .val (.int fl), .val (.int ch), .val (.ref b11), .unset, .unset, .unset] [(.int (fl &&& (4 : Int32))), (.int (2 : Int32)), (.ref b11)])) _
          refine XS.ifNo X23.here hx rfl (hb hby at_69) rfl ((if0 _ _).trans (feq hc69).1) ?_
          show Steps p.tables e below (T23.setTop (mkF m 72 #[.val (.int pk), .val (.int cr), .val (.int rg), .val (.int fl), .val (.int ch), .val (.ref b11), .unset, .unset, .unset] [(.int (2 : Int32)), (.ref b11)])) _
          refine XS.iload X23.here hx rfl (hb hby at_72) rfl ?_
          show Steps p.tables e below (T23.setTop (mkF m 74 #[.val (.int pk), .val (.int cr), .val (.int rg), .val (.int fl), .val (.int ch), .val (.ref b11), .unset, .unset, .unset] [(.int ch), (.int (2 : Int32)), (.ref b11)])) _
          refine XS.i2b X23.here hx rfl (hb hby at_74) rfl ?_
          show Steps p.tables e below (T23.setTop (mkF m 75 #[.val (.int pk), .val (.int cr), .val (.int rg), .val (.int fl), .val (.int ch), .val (.ref b11), .unset, .unset, .unset] [(.int (ch.toInt8.toInt32)), (.int (2 : Int32)), (.ref b11)])) _
          refine XS.goto X23.here hx rfl (pc0 := 75) (pc' := 83) rfl (hb hby at_75) (by decide) (by decide) ?_
          exact k)
      exact ⟨_, trivial, pre28⟩
  obtain ⟨cl29, Ar29, q29, S29, M29, Hs29, G29⟩ := V23
  have hin29 : ¬ ((2 : Int32) < 0 ∨ cl29.slots.size ≤ ((2 : Int32)).toNatClampNeg) := inb_of S29 ⟨by decide, by decide⟩
  obtain ⟨T29, h29, X29, e29, W29, st29⟩ := stB X23 hx hZ e23 Ar29 (j := (2 : Int32)) hin29 (g := (mkF m 83 #[.val (.int pk), .val (.int cr), .val (.int rg), .val (.int fl), .val (.int ch), .val (.ref b11), .unset, .unset, .unset] [(.int y2), (.int (2 : Int32)), (.ref b11)])) rfl rfl (hb hby at_83)
  have V29 := Arv.set Ar29 q29 S29 M29 Hs29 G29 (fits_nar_byte _) W29 2 rfl (Nat.le_of_ble_eq_true rfl)
  have N29 := Fr.snoc X29 N23 gb11
  have Z29 : n0 ≤ h29.size := Nat.le_trans Z23 (Nat.le_of_eq W29.size.symm)
  have pre30 : ∀ t, Steps p.tables e below (T29.setTop (mkF m 87 #[.val (.int pk), .val (.int cr), .val (.int rg), .val (.int fl), .val (.int ch), .val (.ref b11), .unset, .unset, .unset] [(.int (3 : Int32)), (.ref b11)])) t → Steps p.tables e below (s₁.setTop (entryFrame m #[(.int pk), (.int cr), (.int rg), (.int fl)] maxLocals)) t := fun t k => pre25 t (by
      show Steps p.tables e below (T23.setTop (mkF m 83 #[.val (.int pk), .val (.int cr), .val (.int rg), .val (.int fl), .val (.int ch), .val (.ref b11), .unset, .unset, .unset] [(.int y2), (.int (2 : Int32)), (.ref b11)])) _
      refine st29 _ ?_
      show Steps p.tables e below (T29.setTop (mkF m 84 #[.val (.int pk), .val (.int cr), .val (.int rg), .val (.int fl), .val (.int ch), .val (.ref b11), .unset, .unset, .unset] [])) _
      refine XS.aload X29.here hx rfl (hb hby at_84) rfl rfl ?_
      show Steps p.tables e below (T29.setTop (mkF m 86 #[.val (.int pk), .val (.int cr), .val (.int rg), .val (.int fl), .val (.int ch), .val (.ref b11), .unset, .unset, .unset] [(.ref b11)])) _
      refine XS.iconst X29.here hx rfl (hb hby at_86) ?_
      exact k)
  obtain ⟨y3, hy3, pre31⟩ : ∃ y3 : Int32, (True) ∧ ∀ t, Steps p.tables e below (T29.setTop (mkF m 105 #[.val (.int pk), .val (.int cr), .val (.int rg), .val (.int fl), .val (.int ch), .val (.ref b11), .unset, .unset, .unset] [(.int y3), (.int (3 : Int32)), (.ref b11)])) t → Steps p.tables e below (s₁.setTop (entryFrame m #[(.int pk), (.int cr), (.int rg), (.int fl)] maxLocals)) t := by
    have pre32 : ∀ t, Steps p.tables e below (T29.setTop (mkF m 91 #[.val (.int pk), .val (.int cr), .val (.int rg), .val (.int fl), .val (.int ch), .val (.ref b11), .unset, .unset, .unset] [(.int (fl &&& (8 : Int32))), (.int (3 : Int32)), (.ref b11)])) t → Steps p.tables e below (s₁.setTop (entryFrame m #[(.int pk), (.int cr), (.int rg), (.int fl)] maxLocals)) t := fun t k => pre30 t (by
        show Steps p.tables e below (T29.setTop (mkF m 87 #[.val (.int pk), .val (.int cr), .val (.int rg), .val (.int fl), .val (.int ch), .val (.ref b11), .unset, .unset, .unset] [(.int (3 : Int32)), (.ref b11)])) _
        refine XS.iloadN X29.here hx rfl (hb hby at_87) rfl ?_
        show Steps p.tables e below (T29.setTop (mkF m 88 #[.val (.int pk), .val (.int cr), .val (.int rg), .val (.int fl), .val (.int ch), .val (.ref b11), .unset, .unset, .unset] [(.int fl), (.int (3 : Int32)), (.ref b11)])) _
        refine XS.bipush X29.here hx rfl (hb hby at_88) ?_
        show Steps p.tables e below (T29.setTop (mkF m 90 #[.val (.int pk), .val (.int cr), .val (.int rg), .val (.int fl), .val (.int ch), .val (.ref b11), .unset, .unset, .unset] [(.int (8 : Int32)), (.int fl), (.int (3 : Int32)), (.ref b11)])) _
        refine XS.iand X29.here hx rfl (hb hby at_90) rfl ?_
        exact k)
    by_cases hc91 : (fl &&& (8 : Int32)) = (0 : Int32)
    · skip
      have pre33 : ∀ t, Steps p.tables e below (T29.setTop (mkF m 105 #[.val (.int pk), .val (.int cr), .val (.int rg), .val (.int fl), .val (.int ch), .val (.ref b11), .unset, .unset, .unset] [(.int (((pk.toUInt32 >>> ((24 : Int32) &&& 31).toUInt32).toInt32).toInt8.toInt32)), (.int (3 : Int32)), (.ref b11)])) t → Steps p.tables e below (s₁.setTop (entryFrame m #[(.int pk), (.int cr), (.int rg), (.int fl)] maxLocals)) t := fun t k => pre32 t (by
          show Steps p.tables e below (T29.setTop (mkF m 91 #[.val (.int pk), .val (.int cr), .val (.int rg), .val (.int fl), .val (.int ch), .val (.ref b11), .unset, .unset, .unset] [(.int (fl &&& (8 : Int32))), (.int (3 : Int32)), (.ref b11)])) _
          refine XS.ifYes X29.here hx rfl (pc0 := 91) (pc' := 100) rfl (hb hby at_91) rfl ((if0 _ _).trans (teq hc91).1) (by decide) (by decide) ?_
          show Steps p.tables e below (T29.setTop (mkF m 100 #[.val (.int pk), .val (.int cr), .val (.int rg), .val (.int fl), .val (.int ch), .val (.ref b11), .unset, .unset, .unset] [(.int (3 : Int32)), (.ref b11)])) _
          refine XS.iloadN X29.here hx rfl (hb hby at_100) rfl ?_
          show Steps p.tables e below (T29.setTop (mkF m 101 #[.val (.int pk), .val (.int cr), .val (.int rg), .val (.int fl), .val (.int ch), .val (.ref b11), .unset, .unset, .unset] [(.int pk), (.int (3 : Int32)), (.ref b11)])) _
          refine XS.bipush X29.here hx rfl (hb hby at_101) ?_
          show Steps p.tables e below (T29.setTop (mkF m 103 #[.val (.int pk), .val (.int cr), .val (.int rg), .val (.int fl), .val (.int ch), .val (.ref b11), .unset, .unset, .unset] [(.int (24 : Int32)), (.int pk), (.int (3 : Int32)), (.ref b11)])) _
          refine XS.iushr X29.here hx rfl (hb hby at_103) rfl ?_
          show Steps p.tables e below (T29.setTop (mkF m 104 #[.val (.int pk), .val (.int cr), .val (.int rg), .val (.int fl), .val (.int ch), .val (.ref b11), .unset, .unset, .unset] [(.int ((pk.toUInt32 >>> ((24 : Int32) &&& 31).toUInt32).toInt32)), (.int (3 : Int32)), (.ref b11)])) _
          refine XS.i2b X29.here hx rfl (hb hby at_104) rfl ?_
          exact k)
      exact ⟨_, trivial, pre33⟩
    · skip
      have pre34 : ∀ t, Steps p.tables e below (T29.setTop (mkF m 105 #[.val (.int pk), .val (.int cr), .val (.int rg), .val (.int fl), .val (.int ch), .val (.ref b11), .unset, .unset, .unset] [(.int (ch.toInt8.toInt32)), (.int (3 : Int32)), (.ref b11)])) t → Steps p.tables e below (s₁.setTop (entryFrame m #[(.int pk), (.int cr), (.int rg), (.int fl)] maxLocals)) t := fun t k => pre32 t (by
          show Steps p.tables e below (T29.setTop (mkF m 91 #[.val (.int pk), .val (.int cr), .val (.int rg), .val (.int fl), .val (.int ch), .val (.ref b11), .unset, .unset, .unset] [(.int (fl &&& (8 : Int32))), (.int (3 : Int32)), (.ref b11)])) _
          refine XS.ifNo X29.here hx rfl (hb hby at_91) rfl ((if0 _ _).trans (feq hc91).1) ?_
          show Steps p.tables e below (T29.setTop (mkF m 94 #[.val (.int pk), .val (.int cr), .val (.int rg), .val (.int fl), .val (.int ch), .val (.ref b11), .unset, .unset, .unset] [(.int (3 : Int32)), (.ref b11)])) _
          refine XS.iload X29.here hx rfl (hb hby at_94) rfl ?_
          show Steps p.tables e below (T29.setTop (mkF m 96 #[.val (.int pk), .val (.int cr), .val (.int rg), .val (.int fl), .val (.int ch), .val (.ref b11), .unset, .unset, .unset] [(.int ch), (.int (3 : Int32)), (.ref b11)])) _
          refine XS.i2b X29.here hx rfl (hb hby at_96) rfl ?_
          show Steps p.tables e below (T29.setTop (mkF m 97 #[.val (.int pk), .val (.int cr), .val (.int rg), .val (.int fl), .val (.int ch), .val (.ref b11), .unset, .unset, .unset] [(.int (ch.toInt8.toInt32)), (.int (3 : Int32)), (.ref b11)])) _
          refine XS.goto X29.here hx rfl (pc0 := 97) (pc' := 105) rfl (hb hby at_97) (by decide) (by decide) ?_
          exact k)
      exact ⟨_, trivial, pre34⟩
  obtain ⟨cl35, Ar35, q35, S35, M35, Hs35, G35⟩ := V29
  have hin35 : ¬ ((3 : Int32) < 0 ∨ cl35.slots.size ≤ ((3 : Int32)).toNatClampNeg) := inb_of S35 ⟨by decide, by decide⟩
  obtain ⟨T35, h35, X35, e35, W35, st35⟩ := stB X29 hx hZ e29 Ar35 (j := (3 : Int32)) hin35 (g := (mkF m 105 #[.val (.int pk), .val (.int cr), .val (.int rg), .val (.int fl), .val (.int ch), .val (.ref b11), .unset, .unset, .unset] [(.int y3), (.int (3 : Int32)), (.ref b11)])) rfl rfl (hb hby at_105)
  have V35 := Arv.set Ar35 q35 S35 M35 Hs35 G35 (fits_nar_byte _) W35 3 rfl (Nat.le_of_ble_eq_true rfl)
  have N35 := Fr.snoc X35 N29 gb11
  have Z35 : n0 ≤ h35.size := Nat.le_trans Z29 (Nat.le_of_eq W35.size.symm)
  obtain ⟨cl, Ar, q, Sz, M, Hs, G⟩ := V35
  have Sz4 : cl.slots.size = 4 := Sz
  obtain ⟨x0, d_x0⟩ : ∃ z, z = nar .byte y0 := ⟨_, rfl⟩
  obtain ⟨x1, d_x1⟩ : ∃ z, z = nar .byte y1 := ⟨_, rfl⟩
  obtain ⟨x2, d_x2⟩ : ∃ z, z = nar .byte y2 := ⟨_, rfl⟩
  obtain ⟨x3, d_x3⟩ : ∃ z, z = nar .byte y3 := ⟨_, rfl⟩
  have at0 : cl.slots[0]? = some (.int x0) := by rw [d_x0]; exact Hs 0 (by rw [Sz4]; decide)
  have at1 : cl.slots[1]? = some (.int x1) := by rw [d_x1]; exact Hs 1 (by rw [Sz4]; decide)
  have at2 : cl.slots[2]? = some (.int x2) := by rw [d_x2]; exact Hs 2 (by rw [Sz4]; decide)
  have at3 : cl.slots[3]? = some (.int x3) := by rw [d_x3]; exact Hs 3 (by rw [Sz4]; decide)
  have hall : ∀ k : Nat, k < 4 → cl.slots[k]? = some (.int (own_pick x0 x1 x2 x3 k)) := by
    intro k hk
    match k, hk with
    | 0, _ => exact at0
    | 1, _ => exact at1
    | 2, _ => exact at2
    | 3, _ => exact at3
  have pre36 : ∀ t, Steps p.tables e below (T35.setTop (mkF m 114 #[.val (.int pk), .val (.int cr), .val (.int rg), .val (.int fl), .val (.int ch), .val (.ref b11), .val (.int ((rg &&& (2147483647 : Int32)) % (5 : Int32))), .unset, .unset] [])) t → Steps p.tables e below (s₁.setTop (entryFrame m #[(.int pk), (.int cr), (.int rg), (.int fl)] maxLocals)) t := fun t k => pre31 t (by
      show Steps p.tables e below (T29.setTop (mkF m 105 #[.val (.int pk), .val (.int cr), .val (.int rg), .val (.int fl), .val (.int ch), .val (.ref b11), .unset, .unset, .unset] [(.int y3), (.int (3 : Int32)), (.ref b11)])) _
      refine st35 _ ?_
      show Steps p.tables e below (T35.setTop (mkF m 106 #[.val (.int pk), .val (.int cr), .val (.int rg), .val (.int fl), .val (.int ch), .val (.ref b11), .unset, .unset, .unset] [])) _
      refine XS.iloadN X35.here hx rfl (hb hby at_106) rfl ?_
      show Steps p.tables e below (T35.setTop (mkF m 107 #[.val (.int pk), .val (.int cr), .val (.int rg), .val (.int fl), .val (.int ch), .val (.ref b11), .unset, .unset, .unset] [(.int rg)])) _
      refine X35.ldcInt hx hown (mvT hZ (hw _ (List.mem_of_getElem? (i := 1) rfl))) (g := (mkF m 107 #[.val (.int pk), .val (.int cr), .val (.int rg), .val (.int fl), .val (.int ch), .val (.ref b11), .unset, .unset, .unset] [(.int rg)])) rfl (hb hby at_107) _ ?_
      show Steps p.tables e below (T35.setTop (mkF m 109 #[.val (.int pk), .val (.int cr), .val (.int rg), .val (.int fl), .val (.int ch), .val (.ref b11), .unset, .unset, .unset] [(.int (2147483647 : Int32)), (.int rg)])) _
      refine XS.iand X35.here hx rfl (hb hby at_109) rfl ?_
      show Steps p.tables e below (T35.setTop (mkF m 110 #[.val (.int pk), .val (.int cr), .val (.int rg), .val (.int fl), .val (.int ch), .val (.ref b11), .unset, .unset, .unset] [(.int (rg &&& (2147483647 : Int32)))])) _
      refine XS.iconst X35.here hx rfl (hb hby at_110) ?_
      show Steps p.tables e below (T35.setTop (mkF m 111 #[.val (.int pk), .val (.int cr), .val (.int rg), .val (.int fl), .val (.int ch), .val (.ref b11), .unset, .unset, .unset] [(.int (5 : Int32)), (.int (rg &&& (2147483647 : Int32)))])) _
      refine iremM X35 hx rfl (hb hby at_111) rfl (by decide) ?_
      show Steps p.tables e below (T35.setTop (mkF m 112 #[.val (.int pk), .val (.int cr), .val (.int rg), .val (.int fl), .val (.int ch), .val (.ref b11), .unset, .unset, .unset] [(.int ((rg &&& (2147483647 : Int32)) % (5 : Int32)))])) _
      refine XS.istore X35.here hx rfl (hb hby at_112) rfl (l' := #[.val (.int pk), .val (.int cr), .val (.int rg), .val (.int fl), .val (.int ch), .val (.ref b11), .val (.int ((rg &&& (2147483647 : Int32)) % (5 : Int32))), .unset, .unset]) rfl ?_
      exact k)
  obtain ⟨fa, d_fa⟩ : ∃ z, z = ((rg &&& (2147483647 : Int32)) % (5 : Int32)) := ⟨_, rfl⟩
  rw [← d_fa] at pre36
  have hfa := own_from rg
  rw [← d_fa] at hfa
  have pre37 : ∀ t, Steps p.tables e below (T35.setTop (mkF m 128 #[.val (.int pk), .val (.int cr), .val (.int rg), .val (.int fl), .val (.int ch), .val (.ref b11), .val (.int fa), .val (.int (fa + (((rg.toUInt32 >>> ((8 : Int32) &&& 31).toUInt32).toInt32) % ((5 : Int32) - fa)))), .unset] [])) t → Steps p.tables e below (s₁.setTop (entryFrame m #[(.int pk), (.int cr), (.int rg), (.int fl)] maxLocals)) t := fun t k => pre36 t (by
      show Steps p.tables e below (T35.setTop (mkF m 114 #[.val (.int pk), .val (.int cr), .val (.int rg), .val (.int fl), .val (.int ch), .val (.ref b11), .val (.int fa), .unset, .unset] [])) _
      refine XS.iload X35.here hx rfl (hb hby at_114) rfl ?_
      show Steps p.tables e below (T35.setTop (mkF m 116 #[.val (.int pk), .val (.int cr), .val (.int rg), .val (.int fl), .val (.int ch), .val (.ref b11), .val (.int fa), .unset, .unset] [(.int fa)])) _
      refine XS.iloadN X35.here hx rfl (hb hby at_116) rfl ?_
      show Steps p.tables e below (T35.setTop (mkF m 117 #[.val (.int pk), .val (.int cr), .val (.int rg), .val (.int fl), .val (.int ch), .val (.ref b11), .val (.int fa), .unset, .unset] [(.int rg), (.int fa)])) _
      refine XS.bipush X35.here hx rfl (hb hby at_117) ?_
      show Steps p.tables e below (T35.setTop (mkF m 119 #[.val (.int pk), .val (.int cr), .val (.int rg), .val (.int fl), .val (.int ch), .val (.ref b11), .val (.int fa), .unset, .unset] [(.int (8 : Int32)), (.int rg), (.int fa)])) _
      refine XS.iushr X35.here hx rfl (hb hby at_119) rfl ?_
      show Steps p.tables e below (T35.setTop (mkF m 120 #[.val (.int pk), .val (.int cr), .val (.int rg), .val (.int fl), .val (.int ch), .val (.ref b11), .val (.int fa), .unset, .unset] [(.int ((rg.toUInt32 >>> ((8 : Int32) &&& 31).toUInt32).toInt32)), (.int fa)])) _
      refine XS.iconst X35.here hx rfl (hb hby at_120) ?_
      show Steps p.tables e below (T35.setTop (mkF m 121 #[.val (.int pk), .val (.int cr), .val (.int rg), .val (.int fl), .val (.int ch), .val (.ref b11), .val (.int fa), .unset, .unset] [(.int (5 : Int32)), (.int ((rg.toUInt32 >>> ((8 : Int32) &&& 31).toUInt32).toInt32)), (.int fa)])) _
      refine XS.iload X35.here hx rfl (hb hby at_121) rfl ?_
      show Steps p.tables e below (T35.setTop (mkF m 123 #[.val (.int pk), .val (.int cr), .val (.int rg), .val (.int fl), .val (.int ch), .val (.ref b11), .val (.int fa), .unset, .unset] [(.int fa), (.int (5 : Int32)), (.int ((rg.toUInt32 >>> ((8 : Int32) &&& 31).toUInt32).toInt32)), (.int fa)])) _
      refine XS.isub X35.here hx rfl (hb hby at_123) rfl ?_
      show Steps p.tables e below (T35.setTop (mkF m 124 #[.val (.int pk), .val (.int cr), .val (.int rg), .val (.int fl), .val (.int ch), .val (.ref b11), .val (.int fa), .unset, .unset] [(.int ((5 : Int32) - fa)), (.int ((rg.toUInt32 >>> ((8 : Int32) &&& 31).toUInt32).toInt32)), (.int fa)])) _
      refine iremM X35 hx rfl (hb hby at_124) rfl (own_five fa hfa.1 hfa.2).2.2 ?_
      show Steps p.tables e below (T35.setTop (mkF m 125 #[.val (.int pk), .val (.int cr), .val (.int rg), .val (.int fl), .val (.int ch), .val (.ref b11), .val (.int fa), .unset, .unset] [(.int (((rg.toUInt32 >>> ((8 : Int32) &&& 31).toUInt32).toInt32) % ((5 : Int32) - fa))), (.int fa)])) _
      refine XS.iadd X35.here hx rfl (hb hby at_125) rfl ?_
      show Steps p.tables e below (T35.setTop (mkF m 126 #[.val (.int pk), .val (.int cr), .val (.int rg), .val (.int fl), .val (.int ch), .val (.ref b11), .val (.int fa), .unset, .unset] [(.int (fa + (((rg.toUInt32 >>> ((8 : Int32) &&& 31).toUInt32).toInt32) % ((5 : Int32) - fa))))])) _
      refine XS.istore X35.here hx rfl (hb hby at_126) rfl (l' := #[.val (.int pk), .val (.int cr), .val (.int rg), .val (.int fl), .val (.int ch), .val (.ref b11), .val (.int fa), .val (.int (fa + (((rg.toUInt32 >>> ((8 : Int32) &&& 31).toUInt32).toInt32) % ((5 : Int32) - fa)))), .unset]) rfl ?_
      exact k)
  obtain ⟨fb, d_fb⟩ : ∃ z, z = (fa + (((rg.toUInt32 >>> ((8 : Int32) &&& 31).toUInt32).toInt32) % ((5 : Int32) - fa))) := ⟨_, rfl⟩
  rw [← d_fb] at pre37
  have hfb := own_to rg fa hfa.1 hfa.2
  rw [← d_fb] at hfb
  have pre38 : ∀ t, Steps p.tables e below (T35.setTop (mkF m 132 #[.val (.int pk), .val (.int cr), .val (.int rg), .val (.int fl), .val (.int ch), .val (.ref b11), .val (.int fa), .val (.int fb), .val (.int fb)] [])) t → Steps p.tables e below (s₁.setTop (entryFrame m #[(.int pk), (.int cr), (.int rg), (.int fl)] maxLocals)) t := fun t k => pre37 t (by
      show Steps p.tables e below (T35.setTop (mkF m 128 #[.val (.int pk), .val (.int cr), .val (.int rg), .val (.int fl), .val (.int ch), .val (.ref b11), .val (.int fa), .val (.int fb), .unset] [])) _
      refine XS.iload X35.here hx rfl (hb hby at_128) rfl ?_
      show Steps p.tables e below (T35.setTop (mkF m 130 #[.val (.int pk), .val (.int cr), .val (.int rg), .val (.int fl), .val (.int ch), .val (.ref b11), .val (.int fa), .val (.int fb), .unset] [(.int fb)])) _
      refine XS.istore X35.here hx rfl (hb hby at_130) rfl (l' := #[.val (.int pk), .val (.int cr), .val (.int rg), .val (.int fl), .val (.int ch), .val (.ref b11), .val (.int fa), .val (.int fb), .val (.int fb)]) rfl ?_
      exact k)
  obtain ⟨e83, he83, pre39⟩ : ∃ e83 : Int32, (own_rung (¬ (3 : Int32) < fa ∧ (3 : Int32) < fb ∧ x3 = ch) 3 fb e83) ∧ ∀ t, Steps p.tables e below (T35.setTop (mkF m 156 #[.val (.int pk), .val (.int cr), .val (.int rg), .val (.int fl), .val (.int ch), .val (.ref b11), .val (.int fa), .val (.int fb), .val (.int e83)] [])) t → Steps p.tables e below (s₁.setTop (entryFrame m #[(.int pk), (.int cr), (.int rg), (.int fl)] maxLocals)) t := by
    have pre40 : ∀ t, Steps p.tables e below (T35.setTop (mkF m 135 #[.val (.int pk), .val (.int cr), .val (.int rg), .val (.int fl), .val (.int ch), .val (.ref b11), .val (.int fa), .val (.int fb), .val (.int fb)] [(.int (3 : Int32)), (.int fa)])) t → Steps p.tables e below (s₁.setTop (entryFrame m #[(.int pk), (.int cr), (.int rg), (.int fl)] maxLocals)) t := fun t k => pre38 t (by
        show Steps p.tables e below (T35.setTop (mkF m 132 #[.val (.int pk), .val (.int cr), .val (.int rg), .val (.int fl), .val (.int ch), .val (.ref b11), .val (.int fa), .val (.int fb), .val (.int fb)] [])) _
        refine XS.iload X35.here hx rfl (hb hby at_132) rfl ?_
        show Steps p.tables e below (T35.setTop (mkF m 134 #[.val (.int pk), .val (.int cr), .val (.int rg), .val (.int fl), .val (.int ch), .val (.ref b11), .val (.int fa), .val (.int fb), .val (.int fb)] [(.int fa)])) _
        refine XS.iconst X35.here hx rfl (hb hby at_134) ?_
        exact k)
    by_cases hc135 : (3 : Int32) < fa
    · skip
      have pre41 : ∀ t, Steps p.tables e below (T35.setTop (mkF m 156 #[.val (.int pk), .val (.int cr), .val (.int rg), .val (.int fl), .val (.int ch), .val (.ref b11), .val (.int fa), .val (.int fb), .val (.int fb)] [])) t → Steps p.tables e below (s₁.setTop (entryFrame m #[(.int pk), (.int cr), (.int rg), (.int fl)] maxLocals)) t := fun t k => pre40 t (by
          show Steps p.tables e below (T35.setTop (mkF m 135 #[.val (.int pk), .val (.int cr), .val (.int rg), .val (.int fl), .val (.int ch), .val (.ref b11), .val (.int fa), .val (.int fb), .val (.int fb)] [(.int (3 : Int32)), (.int fa)])) _
          refine XS.icmpYes X35.here hx rfl (pc0 := 135) (pc' := 156) rfl (hb hby at_135) rfl (tlt hc135).2.2.1 (by decide) (by decide) ?_
          exact k)
      exact ⟨_, (by simp [own_rung, hc135]), pre41⟩
    · skip
      have pre42 : ∀ t, Steps p.tables e below (T35.setTop (mkF m 141 #[.val (.int pk), .val (.int cr), .val (.int rg), .val (.int fl), .val (.int ch), .val (.ref b11), .val (.int fa), .val (.int fb), .val (.int fb)] [(.int fb), (.int (3 : Int32))])) t → Steps p.tables e below (s₁.setTop (entryFrame m #[(.int pk), (.int cr), (.int rg), (.int fl)] maxLocals)) t := fun t k => pre40 t (by
          show Steps p.tables e below (T35.setTop (mkF m 135 #[.val (.int pk), .val (.int cr), .val (.int rg), .val (.int fl), .val (.int ch), .val (.ref b11), .val (.int fa), .val (.int fb), .val (.int fb)] [(.int (3 : Int32)), (.int fa)])) _
          refine XS.icmpNo X35.here hx rfl (hb hby at_135) rfl (flt hc135).2.2.1 ?_
          show Steps p.tables e below (T35.setTop (mkF m 138 #[.val (.int pk), .val (.int cr), .val (.int rg), .val (.int fl), .val (.int ch), .val (.ref b11), .val (.int fa), .val (.int fb), .val (.int fb)] [])) _
          refine XS.iconst X35.here hx rfl (hb hby at_138) ?_
          show Steps p.tables e below (T35.setTop (mkF m 139 #[.val (.int pk), .val (.int cr), .val (.int rg), .val (.int fl), .val (.int ch), .val (.ref b11), .val (.int fa), .val (.int fb), .val (.int fb)] [(.int (3 : Int32))])) _
          refine XS.iload X35.here hx rfl (hb hby at_139) rfl ?_
          exact k)
      by_cases hc141 : (3 : Int32) < fb
      · skip
        have pre43 : ∀ t, Steps p.tables e below (T35.setTop (mkF m 150 #[.val (.int pk), .val (.int cr), .val (.int rg), .val (.int fl), .val (.int ch), .val (.ref b11), .val (.int fa), .val (.int fb), .val (.int fb)] [(.int ch), (.int x3)])) t → Steps p.tables e below (s₁.setTop (entryFrame m #[(.int pk), (.int cr), (.int rg), (.int fl)] maxLocals)) t := fun t k => pre42 t (by
            show Steps p.tables e below (T35.setTop (mkF m 141 #[.val (.int pk), .val (.int cr), .val (.int rg), .val (.int fl), .val (.int ch), .val (.ref b11), .val (.int fa), .val (.int fb), .val (.int fb)] [(.int fb), (.int (3 : Int32))])) _
            refine XS.icmpNo X35.here hx rfl (hb hby at_141) rfl (tlt hc141).2.1 ?_
            show Steps p.tables e below (T35.setTop (mkF m 144 #[.val (.int pk), .val (.int cr), .val (.int rg), .val (.int fl), .val (.int ch), .val (.ref b11), .val (.int fa), .val (.int fb), .val (.int fb)] [])) _
            refine XS.aload X35.here hx rfl (hb hby at_144) rfl rfl ?_
            show Steps p.tables e below (T35.setTop (mkF m 146 #[.val (.int pk), .val (.int cr), .val (.int rg), .val (.int fl), .val (.int ch), .val (.ref b11), .val (.int fa), .val (.int fb), .val (.int fb)] [(.ref b11)])) _
            refine XS.iconst X35.here hx rfl (hb hby at_146) ?_
            show Steps p.tables e below (T35.setTop (mkF m 147 #[.val (.int pk), .val (.int cr), .val (.int rg), .val (.int fl), .val (.int ch), .val (.ref b11), .val (.int fa), .val (.int fb), .val (.int fb)] [(.int (3 : Int32)), (.ref b11)])) _
            refine X35.baloadBytes hx (j := (3 : Int32)) (v := (.int x3)) (by rw [e35]; exact Ar.1) (State.isArrayOf_alike hZ.alike Ar.2.1) Ar.2.2 (by rw [Sz4]; decide) at3 (g := (mkF m 147 #[.val (.int pk), .val (.int cr), .val (.int rg), .val (.int fl), .val (.int ch), .val (.ref b11), .val (.int fa), .val (.int fb), .val (.int fb)] [(.int (3 : Int32)), (.ref b11)])) rfl rfl (hb hby at_147) _ ?_
            show Steps p.tables e below (T35.setTop (mkF m 148 #[.val (.int pk), .val (.int cr), .val (.int rg), .val (.int fl), .val (.int ch), .val (.ref b11), .val (.int fa), .val (.int fb), .val (.int fb)] [(.int x3)])) _
            refine XS.iload X35.here hx rfl (hb hby at_148) rfl ?_
            exact k)
        by_cases hc150 : x3 = ch
        · skip
          have pre44 : ∀ t, Steps p.tables e below (T35.setTop (mkF m 156 #[.val (.int pk), .val (.int cr), .val (.int rg), .val (.int fl), .val (.int ch), .val (.ref b11), .val (.int fa), .val (.int fb), .val (.int (3 : Int32))] [])) t → Steps p.tables e below (s₁.setTop (entryFrame m #[(.int pk), (.int cr), (.int rg), (.int fl)] maxLocals)) t := fun t k => pre43 t (by
              show Steps p.tables e below (T35.setTop (mkF m 150 #[.val (.int pk), .val (.int cr), .val (.int rg), .val (.int fl), .val (.int ch), .val (.ref b11), .val (.int fa), .val (.int fb), .val (.int fb)] [(.int ch), (.int x3)])) _
              refine XS.icmpNo X35.here hx rfl (hb hby at_150) rfl (teq hc150).2 ?_
              show Steps p.tables e below (T35.setTop (mkF m 153 #[.val (.int pk), .val (.int cr), .val (.int rg), .val (.int fl), .val (.int ch), .val (.ref b11), .val (.int fa), .val (.int fb), .val (.int fb)] [])) _
              refine XS.iconst X35.here hx rfl (hb hby at_153) ?_
              show Steps p.tables e below (T35.setTop (mkF m 154 #[.val (.int pk), .val (.int cr), .val (.int rg), .val (.int fl), .val (.int ch), .val (.ref b11), .val (.int fa), .val (.int fb), .val (.int fb)] [(.int (3 : Int32))])) _
              refine XS.istore X35.here hx rfl (hb hby at_154) rfl (l' := #[.val (.int pk), .val (.int cr), .val (.int rg), .val (.int fl), .val (.int ch), .val (.ref b11), .val (.int fa), .val (.int fb), .val (.int (3 : Int32))]) rfl ?_
              exact k)
          exact ⟨_, (by simp [own_rung, hc135, hc141, hc150]), pre44⟩
        · skip
          have pre45 : ∀ t, Steps p.tables e below (T35.setTop (mkF m 156 #[.val (.int pk), .val (.int cr), .val (.int rg), .val (.int fl), .val (.int ch), .val (.ref b11), .val (.int fa), .val (.int fb), .val (.int fb)] [])) t → Steps p.tables e below (s₁.setTop (entryFrame m #[(.int pk), (.int cr), (.int rg), (.int fl)] maxLocals)) t := fun t k => pre43 t (by
              show Steps p.tables e below (T35.setTop (mkF m 150 #[.val (.int pk), .val (.int cr), .val (.int rg), .val (.int fl), .val (.int ch), .val (.ref b11), .val (.int fa), .val (.int fb), .val (.int fb)] [(.int ch), (.int x3)])) _
              refine XS.icmpYes X35.here hx rfl (pc0 := 150) (pc' := 156) rfl (hb hby at_150) rfl (feq hc150).2 (by decide) (by decide) ?_
              exact k)
          exact ⟨_, (by simp [own_rung, hc135, hc141, hc150]), pre45⟩
      · skip
        have pre46 : ∀ t, Steps p.tables e below (T35.setTop (mkF m 156 #[.val (.int pk), .val (.int cr), .val (.int rg), .val (.int fl), .val (.int ch), .val (.ref b11), .val (.int fa), .val (.int fb), .val (.int fb)] [])) t → Steps p.tables e below (s₁.setTop (entryFrame m #[(.int pk), (.int cr), (.int rg), (.int fl)] maxLocals)) t := fun t k => pre42 t (by
            show Steps p.tables e below (T35.setTop (mkF m 141 #[.val (.int pk), .val (.int cr), .val (.int rg), .val (.int fl), .val (.int ch), .val (.ref b11), .val (.int fa), .val (.int fb), .val (.int fb)] [(.int fb), (.int (3 : Int32))])) _
            refine XS.icmpYes X35.here hx rfl (pc0 := 141) (pc' := 156) rfl (hb hby at_141) rfl (flt hc141).2.1 (by decide) (by decide) ?_
            exact k)
        exact ⟨_, (by simp [own_rung, hc135, hc141]), pre46⟩
  obtain ⟨e82, he82, pre47⟩ : ∃ e82 : Int32, (own_rung (¬ (2 : Int32) < fa ∧ (2 : Int32) < fb ∧ x2 = ch) 2 e83 e82) ∧ ∀ t, Steps p.tables e below (T35.setTop (mkF m 180 #[.val (.int pk), .val (.int cr), .val (.int rg), .val (.int fl), .val (.int ch), .val (.ref b11), .val (.int fa), .val (.int fb), .val (.int e82)] [])) t → Steps p.tables e below (s₁.setTop (entryFrame m #[(.int pk), (.int cr), (.int rg), (.int fl)] maxLocals)) t := by
    have pre48 : ∀ t, Steps p.tables e below (T35.setTop (mkF m 159 #[.val (.int pk), .val (.int cr), .val (.int rg), .val (.int fl), .val (.int ch), .val (.ref b11), .val (.int fa), .val (.int fb), .val (.int e83)] [(.int (2 : Int32)), (.int fa)])) t → Steps p.tables e below (s₁.setTop (entryFrame m #[(.int pk), (.int cr), (.int rg), (.int fl)] maxLocals)) t := fun t k => pre39 t (by
        show Steps p.tables e below (T35.setTop (mkF m 156 #[.val (.int pk), .val (.int cr), .val (.int rg), .val (.int fl), .val (.int ch), .val (.ref b11), .val (.int fa), .val (.int fb), .val (.int e83)] [])) _
        refine XS.iload X35.here hx rfl (hb hby at_156) rfl ?_
        show Steps p.tables e below (T35.setTop (mkF m 158 #[.val (.int pk), .val (.int cr), .val (.int rg), .val (.int fl), .val (.int ch), .val (.ref b11), .val (.int fa), .val (.int fb), .val (.int e83)] [(.int fa)])) _
        refine XS.iconst X35.here hx rfl (hb hby at_158) ?_
        exact k)
    by_cases hc159 : (2 : Int32) < fa
    · skip
      have pre49 : ∀ t, Steps p.tables e below (T35.setTop (mkF m 180 #[.val (.int pk), .val (.int cr), .val (.int rg), .val (.int fl), .val (.int ch), .val (.ref b11), .val (.int fa), .val (.int fb), .val (.int e83)] [])) t → Steps p.tables e below (s₁.setTop (entryFrame m #[(.int pk), (.int cr), (.int rg), (.int fl)] maxLocals)) t := fun t k => pre48 t (by
          show Steps p.tables e below (T35.setTop (mkF m 159 #[.val (.int pk), .val (.int cr), .val (.int rg), .val (.int fl), .val (.int ch), .val (.ref b11), .val (.int fa), .val (.int fb), .val (.int e83)] [(.int (2 : Int32)), (.int fa)])) _
          refine XS.icmpYes X35.here hx rfl (pc0 := 159) (pc' := 180) rfl (hb hby at_159) rfl (tlt hc159).2.2.1 (by decide) (by decide) ?_
          exact k)
      exact ⟨_, (by simp [own_rung, hc159]), pre49⟩
    · skip
      have pre50 : ∀ t, Steps p.tables e below (T35.setTop (mkF m 165 #[.val (.int pk), .val (.int cr), .val (.int rg), .val (.int fl), .val (.int ch), .val (.ref b11), .val (.int fa), .val (.int fb), .val (.int e83)] [(.int fb), (.int (2 : Int32))])) t → Steps p.tables e below (s₁.setTop (entryFrame m #[(.int pk), (.int cr), (.int rg), (.int fl)] maxLocals)) t := fun t k => pre48 t (by
          show Steps p.tables e below (T35.setTop (mkF m 159 #[.val (.int pk), .val (.int cr), .val (.int rg), .val (.int fl), .val (.int ch), .val (.ref b11), .val (.int fa), .val (.int fb), .val (.int e83)] [(.int (2 : Int32)), (.int fa)])) _
          refine XS.icmpNo X35.here hx rfl (hb hby at_159) rfl (flt hc159).2.2.1 ?_
          show Steps p.tables e below (T35.setTop (mkF m 162 #[.val (.int pk), .val (.int cr), .val (.int rg), .val (.int fl), .val (.int ch), .val (.ref b11), .val (.int fa), .val (.int fb), .val (.int e83)] [])) _
          refine XS.iconst X35.here hx rfl (hb hby at_162) ?_
          show Steps p.tables e below (T35.setTop (mkF m 163 #[.val (.int pk), .val (.int cr), .val (.int rg), .val (.int fl), .val (.int ch), .val (.ref b11), .val (.int fa), .val (.int fb), .val (.int e83)] [(.int (2 : Int32))])) _
          refine XS.iload X35.here hx rfl (hb hby at_163) rfl ?_
          exact k)
      by_cases hc165 : (2 : Int32) < fb
      · skip
        have pre51 : ∀ t, Steps p.tables e below (T35.setTop (mkF m 174 #[.val (.int pk), .val (.int cr), .val (.int rg), .val (.int fl), .val (.int ch), .val (.ref b11), .val (.int fa), .val (.int fb), .val (.int e83)] [(.int ch), (.int x2)])) t → Steps p.tables e below (s₁.setTop (entryFrame m #[(.int pk), (.int cr), (.int rg), (.int fl)] maxLocals)) t := fun t k => pre50 t (by
            show Steps p.tables e below (T35.setTop (mkF m 165 #[.val (.int pk), .val (.int cr), .val (.int rg), .val (.int fl), .val (.int ch), .val (.ref b11), .val (.int fa), .val (.int fb), .val (.int e83)] [(.int fb), (.int (2 : Int32))])) _
            refine XS.icmpNo X35.here hx rfl (hb hby at_165) rfl (tlt hc165).2.1 ?_
            show Steps p.tables e below (T35.setTop (mkF m 168 #[.val (.int pk), .val (.int cr), .val (.int rg), .val (.int fl), .val (.int ch), .val (.ref b11), .val (.int fa), .val (.int fb), .val (.int e83)] [])) _
            refine XS.aload X35.here hx rfl (hb hby at_168) rfl rfl ?_
            show Steps p.tables e below (T35.setTop (mkF m 170 #[.val (.int pk), .val (.int cr), .val (.int rg), .val (.int fl), .val (.int ch), .val (.ref b11), .val (.int fa), .val (.int fb), .val (.int e83)] [(.ref b11)])) _
            refine XS.iconst X35.here hx rfl (hb hby at_170) ?_
            show Steps p.tables e below (T35.setTop (mkF m 171 #[.val (.int pk), .val (.int cr), .val (.int rg), .val (.int fl), .val (.int ch), .val (.ref b11), .val (.int fa), .val (.int fb), .val (.int e83)] [(.int (2 : Int32)), (.ref b11)])) _
            refine X35.baloadBytes hx (j := (2 : Int32)) (v := (.int x2)) (by rw [e35]; exact Ar.1) (State.isArrayOf_alike hZ.alike Ar.2.1) Ar.2.2 (by rw [Sz4]; decide) at2 (g := (mkF m 171 #[.val (.int pk), .val (.int cr), .val (.int rg), .val (.int fl), .val (.int ch), .val (.ref b11), .val (.int fa), .val (.int fb), .val (.int e83)] [(.int (2 : Int32)), (.ref b11)])) rfl rfl (hb hby at_171) _ ?_
            show Steps p.tables e below (T35.setTop (mkF m 172 #[.val (.int pk), .val (.int cr), .val (.int rg), .val (.int fl), .val (.int ch), .val (.ref b11), .val (.int fa), .val (.int fb), .val (.int e83)] [(.int x2)])) _
            refine XS.iload X35.here hx rfl (hb hby at_172) rfl ?_
            exact k)
        by_cases hc174 : x2 = ch
        · skip
          have pre52 : ∀ t, Steps p.tables e below (T35.setTop (mkF m 180 #[.val (.int pk), .val (.int cr), .val (.int rg), .val (.int fl), .val (.int ch), .val (.ref b11), .val (.int fa), .val (.int fb), .val (.int (2 : Int32))] [])) t → Steps p.tables e below (s₁.setTop (entryFrame m #[(.int pk), (.int cr), (.int rg), (.int fl)] maxLocals)) t := fun t k => pre51 t (by
              show Steps p.tables e below (T35.setTop (mkF m 174 #[.val (.int pk), .val (.int cr), .val (.int rg), .val (.int fl), .val (.int ch), .val (.ref b11), .val (.int fa), .val (.int fb), .val (.int e83)] [(.int ch), (.int x2)])) _
              refine XS.icmpNo X35.here hx rfl (hb hby at_174) rfl (teq hc174).2 ?_
              show Steps p.tables e below (T35.setTop (mkF m 177 #[.val (.int pk), .val (.int cr), .val (.int rg), .val (.int fl), .val (.int ch), .val (.ref b11), .val (.int fa), .val (.int fb), .val (.int e83)] [])) _
              refine XS.iconst X35.here hx rfl (hb hby at_177) ?_
              show Steps p.tables e below (T35.setTop (mkF m 178 #[.val (.int pk), .val (.int cr), .val (.int rg), .val (.int fl), .val (.int ch), .val (.ref b11), .val (.int fa), .val (.int fb), .val (.int e83)] [(.int (2 : Int32))])) _
              refine XS.istore X35.here hx rfl (hb hby at_178) rfl (l' := #[.val (.int pk), .val (.int cr), .val (.int rg), .val (.int fl), .val (.int ch), .val (.ref b11), .val (.int fa), .val (.int fb), .val (.int (2 : Int32))]) rfl ?_
              exact k)
          exact ⟨_, (by simp [own_rung, hc159, hc165, hc174]), pre52⟩
        · skip
          have pre53 : ∀ t, Steps p.tables e below (T35.setTop (mkF m 180 #[.val (.int pk), .val (.int cr), .val (.int rg), .val (.int fl), .val (.int ch), .val (.ref b11), .val (.int fa), .val (.int fb), .val (.int e83)] [])) t → Steps p.tables e below (s₁.setTop (entryFrame m #[(.int pk), (.int cr), (.int rg), (.int fl)] maxLocals)) t := fun t k => pre51 t (by
              show Steps p.tables e below (T35.setTop (mkF m 174 #[.val (.int pk), .val (.int cr), .val (.int rg), .val (.int fl), .val (.int ch), .val (.ref b11), .val (.int fa), .val (.int fb), .val (.int e83)] [(.int ch), (.int x2)])) _
              refine XS.icmpYes X35.here hx rfl (pc0 := 174) (pc' := 180) rfl (hb hby at_174) rfl (feq hc174).2 (by decide) (by decide) ?_
              exact k)
          exact ⟨_, (by simp [own_rung, hc159, hc165, hc174]), pre53⟩
      · skip
        have pre54 : ∀ t, Steps p.tables e below (T35.setTop (mkF m 180 #[.val (.int pk), .val (.int cr), .val (.int rg), .val (.int fl), .val (.int ch), .val (.ref b11), .val (.int fa), .val (.int fb), .val (.int e83)] [])) t → Steps p.tables e below (s₁.setTop (entryFrame m #[(.int pk), (.int cr), (.int rg), (.int fl)] maxLocals)) t := fun t k => pre50 t (by
            show Steps p.tables e below (T35.setTop (mkF m 165 #[.val (.int pk), .val (.int cr), .val (.int rg), .val (.int fl), .val (.int ch), .val (.ref b11), .val (.int fa), .val (.int fb), .val (.int e83)] [(.int fb), (.int (2 : Int32))])) _
            refine XS.icmpYes X35.here hx rfl (pc0 := 165) (pc' := 180) rfl (hb hby at_165) rfl (flt hc165).2.1 (by decide) (by decide) ?_
            exact k)
        exact ⟨_, (by simp [own_rung, hc159, hc165]), pre54⟩
  obtain ⟨e81, he81, pre55⟩ : ∃ e81 : Int32, (own_rung (¬ (1 : Int32) < fa ∧ (1 : Int32) < fb ∧ x1 = ch) 1 e82 e81) ∧ ∀ t, Steps p.tables e below (T35.setTop (mkF m 204 #[.val (.int pk), .val (.int cr), .val (.int rg), .val (.int fl), .val (.int ch), .val (.ref b11), .val (.int fa), .val (.int fb), .val (.int e81)] [])) t → Steps p.tables e below (s₁.setTop (entryFrame m #[(.int pk), (.int cr), (.int rg), (.int fl)] maxLocals)) t := by
    have pre56 : ∀ t, Steps p.tables e below (T35.setTop (mkF m 183 #[.val (.int pk), .val (.int cr), .val (.int rg), .val (.int fl), .val (.int ch), .val (.ref b11), .val (.int fa), .val (.int fb), .val (.int e82)] [(.int (1 : Int32)), (.int fa)])) t → Steps p.tables e below (s₁.setTop (entryFrame m #[(.int pk), (.int cr), (.int rg), (.int fl)] maxLocals)) t := fun t k => pre47 t (by
        show Steps p.tables e below (T35.setTop (mkF m 180 #[.val (.int pk), .val (.int cr), .val (.int rg), .val (.int fl), .val (.int ch), .val (.ref b11), .val (.int fa), .val (.int fb), .val (.int e82)] [])) _
        refine XS.iload X35.here hx rfl (hb hby at_180) rfl ?_
        show Steps p.tables e below (T35.setTop (mkF m 182 #[.val (.int pk), .val (.int cr), .val (.int rg), .val (.int fl), .val (.int ch), .val (.ref b11), .val (.int fa), .val (.int fb), .val (.int e82)] [(.int fa)])) _
        refine XS.iconst X35.here hx rfl (hb hby at_182) ?_
        exact k)
    by_cases hc183 : (1 : Int32) < fa
    · skip
      have pre57 : ∀ t, Steps p.tables e below (T35.setTop (mkF m 204 #[.val (.int pk), .val (.int cr), .val (.int rg), .val (.int fl), .val (.int ch), .val (.ref b11), .val (.int fa), .val (.int fb), .val (.int e82)] [])) t → Steps p.tables e below (s₁.setTop (entryFrame m #[(.int pk), (.int cr), (.int rg), (.int fl)] maxLocals)) t := fun t k => pre56 t (by
          show Steps p.tables e below (T35.setTop (mkF m 183 #[.val (.int pk), .val (.int cr), .val (.int rg), .val (.int fl), .val (.int ch), .val (.ref b11), .val (.int fa), .val (.int fb), .val (.int e82)] [(.int (1 : Int32)), (.int fa)])) _
          refine XS.icmpYes X35.here hx rfl (pc0 := 183) (pc' := 204) rfl (hb hby at_183) rfl (tlt hc183).2.2.1 (by decide) (by decide) ?_
          exact k)
      exact ⟨_, (by simp [own_rung, hc183]), pre57⟩
    · skip
      have pre58 : ∀ t, Steps p.tables e below (T35.setTop (mkF m 189 #[.val (.int pk), .val (.int cr), .val (.int rg), .val (.int fl), .val (.int ch), .val (.ref b11), .val (.int fa), .val (.int fb), .val (.int e82)] [(.int fb), (.int (1 : Int32))])) t → Steps p.tables e below (s₁.setTop (entryFrame m #[(.int pk), (.int cr), (.int rg), (.int fl)] maxLocals)) t := fun t k => pre56 t (by
          show Steps p.tables e below (T35.setTop (mkF m 183 #[.val (.int pk), .val (.int cr), .val (.int rg), .val (.int fl), .val (.int ch), .val (.ref b11), .val (.int fa), .val (.int fb), .val (.int e82)] [(.int (1 : Int32)), (.int fa)])) _
          refine XS.icmpNo X35.here hx rfl (hb hby at_183) rfl (flt hc183).2.2.1 ?_
          show Steps p.tables e below (T35.setTop (mkF m 186 #[.val (.int pk), .val (.int cr), .val (.int rg), .val (.int fl), .val (.int ch), .val (.ref b11), .val (.int fa), .val (.int fb), .val (.int e82)] [])) _
          refine XS.iconst X35.here hx rfl (hb hby at_186) ?_
          show Steps p.tables e below (T35.setTop (mkF m 187 #[.val (.int pk), .val (.int cr), .val (.int rg), .val (.int fl), .val (.int ch), .val (.ref b11), .val (.int fa), .val (.int fb), .val (.int e82)] [(.int (1 : Int32))])) _
          refine XS.iload X35.here hx rfl (hb hby at_187) rfl ?_
          exact k)
      by_cases hc189 : (1 : Int32) < fb
      · skip
        have pre59 : ∀ t, Steps p.tables e below (T35.setTop (mkF m 198 #[.val (.int pk), .val (.int cr), .val (.int rg), .val (.int fl), .val (.int ch), .val (.ref b11), .val (.int fa), .val (.int fb), .val (.int e82)] [(.int ch), (.int x1)])) t → Steps p.tables e below (s₁.setTop (entryFrame m #[(.int pk), (.int cr), (.int rg), (.int fl)] maxLocals)) t := fun t k => pre58 t (by
            show Steps p.tables e below (T35.setTop (mkF m 189 #[.val (.int pk), .val (.int cr), .val (.int rg), .val (.int fl), .val (.int ch), .val (.ref b11), .val (.int fa), .val (.int fb), .val (.int e82)] [(.int fb), (.int (1 : Int32))])) _
            refine XS.icmpNo X35.here hx rfl (hb hby at_189) rfl (tlt hc189).2.1 ?_
            show Steps p.tables e below (T35.setTop (mkF m 192 #[.val (.int pk), .val (.int cr), .val (.int rg), .val (.int fl), .val (.int ch), .val (.ref b11), .val (.int fa), .val (.int fb), .val (.int e82)] [])) _
            refine XS.aload X35.here hx rfl (hb hby at_192) rfl rfl ?_
            show Steps p.tables e below (T35.setTop (mkF m 194 #[.val (.int pk), .val (.int cr), .val (.int rg), .val (.int fl), .val (.int ch), .val (.ref b11), .val (.int fa), .val (.int fb), .val (.int e82)] [(.ref b11)])) _
            refine XS.iconst X35.here hx rfl (hb hby at_194) ?_
            show Steps p.tables e below (T35.setTop (mkF m 195 #[.val (.int pk), .val (.int cr), .val (.int rg), .val (.int fl), .val (.int ch), .val (.ref b11), .val (.int fa), .val (.int fb), .val (.int e82)] [(.int (1 : Int32)), (.ref b11)])) _
            refine X35.baloadBytes hx (j := (1 : Int32)) (v := (.int x1)) (by rw [e35]; exact Ar.1) (State.isArrayOf_alike hZ.alike Ar.2.1) Ar.2.2 (by rw [Sz4]; decide) at1 (g := (mkF m 195 #[.val (.int pk), .val (.int cr), .val (.int rg), .val (.int fl), .val (.int ch), .val (.ref b11), .val (.int fa), .val (.int fb), .val (.int e82)] [(.int (1 : Int32)), (.ref b11)])) rfl rfl (hb hby at_195) _ ?_
            show Steps p.tables e below (T35.setTop (mkF m 196 #[.val (.int pk), .val (.int cr), .val (.int rg), .val (.int fl), .val (.int ch), .val (.ref b11), .val (.int fa), .val (.int fb), .val (.int e82)] [(.int x1)])) _
            refine XS.iload X35.here hx rfl (hb hby at_196) rfl ?_
            exact k)
        by_cases hc198 : x1 = ch
        · skip
          have pre60 : ∀ t, Steps p.tables e below (T35.setTop (mkF m 204 #[.val (.int pk), .val (.int cr), .val (.int rg), .val (.int fl), .val (.int ch), .val (.ref b11), .val (.int fa), .val (.int fb), .val (.int (1 : Int32))] [])) t → Steps p.tables e below (s₁.setTop (entryFrame m #[(.int pk), (.int cr), (.int rg), (.int fl)] maxLocals)) t := fun t k => pre59 t (by
              show Steps p.tables e below (T35.setTop (mkF m 198 #[.val (.int pk), .val (.int cr), .val (.int rg), .val (.int fl), .val (.int ch), .val (.ref b11), .val (.int fa), .val (.int fb), .val (.int e82)] [(.int ch), (.int x1)])) _
              refine XS.icmpNo X35.here hx rfl (hb hby at_198) rfl (teq hc198).2 ?_
              show Steps p.tables e below (T35.setTop (mkF m 201 #[.val (.int pk), .val (.int cr), .val (.int rg), .val (.int fl), .val (.int ch), .val (.ref b11), .val (.int fa), .val (.int fb), .val (.int e82)] [])) _
              refine XS.iconst X35.here hx rfl (hb hby at_201) ?_
              show Steps p.tables e below (T35.setTop (mkF m 202 #[.val (.int pk), .val (.int cr), .val (.int rg), .val (.int fl), .val (.int ch), .val (.ref b11), .val (.int fa), .val (.int fb), .val (.int e82)] [(.int (1 : Int32))])) _
              refine XS.istore X35.here hx rfl (hb hby at_202) rfl (l' := #[.val (.int pk), .val (.int cr), .val (.int rg), .val (.int fl), .val (.int ch), .val (.ref b11), .val (.int fa), .val (.int fb), .val (.int (1 : Int32))]) rfl ?_
              exact k)
          exact ⟨_, (by simp [own_rung, hc183, hc189, hc198]), pre60⟩
        · skip
          have pre61 : ∀ t, Steps p.tables e below (T35.setTop (mkF m 204 #[.val (.int pk), .val (.int cr), .val (.int rg), .val (.int fl), .val (.int ch), .val (.ref b11), .val (.int fa), .val (.int fb), .val (.int e82)] [])) t → Steps p.tables e below (s₁.setTop (entryFrame m #[(.int pk), (.int cr), (.int rg), (.int fl)] maxLocals)) t := fun t k => pre59 t (by
              show Steps p.tables e below (T35.setTop (mkF m 198 #[.val (.int pk), .val (.int cr), .val (.int rg), .val (.int fl), .val (.int ch), .val (.ref b11), .val (.int fa), .val (.int fb), .val (.int e82)] [(.int ch), (.int x1)])) _
              refine XS.icmpYes X35.here hx rfl (pc0 := 198) (pc' := 204) rfl (hb hby at_198) rfl (feq hc198).2 (by decide) (by decide) ?_
              exact k)
          exact ⟨_, (by simp [own_rung, hc183, hc189, hc198]), pre61⟩
      · skip
        have pre62 : ∀ t, Steps p.tables e below (T35.setTop (mkF m 204 #[.val (.int pk), .val (.int cr), .val (.int rg), .val (.int fl), .val (.int ch), .val (.ref b11), .val (.int fa), .val (.int fb), .val (.int e82)] [])) t → Steps p.tables e below (s₁.setTop (entryFrame m #[(.int pk), (.int cr), (.int rg), (.int fl)] maxLocals)) t := fun t k => pre58 t (by
            show Steps p.tables e below (T35.setTop (mkF m 189 #[.val (.int pk), .val (.int cr), .val (.int rg), .val (.int fl), .val (.int ch), .val (.ref b11), .val (.int fa), .val (.int fb), .val (.int e82)] [(.int fb), (.int (1 : Int32))])) _
            refine XS.icmpYes X35.here hx rfl (pc0 := 189) (pc' := 204) rfl (hb hby at_189) rfl (flt hc189).2.1 (by decide) (by decide) ?_
            exact k)
        exact ⟨_, (by simp [own_rung, hc183, hc189]), pre62⟩
  obtain ⟨e80, he80, pre63⟩ : ∃ e80 : Int32, (own_rung (¬ (0 : Int32) < fa ∧ (0 : Int32) < fb ∧ x0 = ch) 0 e81 e80) ∧ ∀ t, Steps p.tables e below (T35.setTop (mkF m 227 #[.val (.int pk), .val (.int cr), .val (.int rg), .val (.int fl), .val (.int ch), .val (.ref b11), .val (.int fa), .val (.int fb), .val (.int e80)] [])) t → Steps p.tables e below (s₁.setTop (entryFrame m #[(.int pk), (.int cr), (.int rg), (.int fl)] maxLocals)) t := by
    have pre64 : ∀ t, Steps p.tables e below (T35.setTop (mkF m 206 #[.val (.int pk), .val (.int cr), .val (.int rg), .val (.int fl), .val (.int ch), .val (.ref b11), .val (.int fa), .val (.int fb), .val (.int e81)] [(.int fa)])) t → Steps p.tables e below (s₁.setTop (entryFrame m #[(.int pk), (.int cr), (.int rg), (.int fl)] maxLocals)) t := fun t k => pre55 t (by
        show Steps p.tables e below (T35.setTop (mkF m 204 #[.val (.int pk), .val (.int cr), .val (.int rg), .val (.int fl), .val (.int ch), .val (.ref b11), .val (.int fa), .val (.int fb), .val (.int e81)] [])) _
        refine XS.iload X35.here hx rfl (hb hby at_204) rfl ?_
        exact k)
    by_cases hc206 : (0 : Int32) < fa
    · skip
      have pre65 : ∀ t, Steps p.tables e below (T35.setTop (mkF m 227 #[.val (.int pk), .val (.int cr), .val (.int rg), .val (.int fl), .val (.int ch), .val (.ref b11), .val (.int fa), .val (.int fb), .val (.int e81)] [])) t → Steps p.tables e below (s₁.setTop (entryFrame m #[(.int pk), (.int cr), (.int rg), (.int fl)] maxLocals)) t := fun t k => pre64 t (by
          show Steps p.tables e below (T35.setTop (mkF m 206 #[.val (.int pk), .val (.int cr), .val (.int rg), .val (.int fl), .val (.int ch), .val (.ref b11), .val (.int fa), .val (.int fb), .val (.int e81)] [(.int fa)])) _
          refine XS.ifYes X35.here hx rfl (pc0 := 206) (pc' := 227) rfl (hb hby at_206) rfl ((if0 _ _).trans (tlt hc206).2.2.1) (by decide) (by decide) ?_
          exact k)
      exact ⟨_, (by simp [own_rung, hc206]), pre65⟩
    · skip
      have pre66 : ∀ t, Steps p.tables e below (T35.setTop (mkF m 212 #[.val (.int pk), .val (.int cr), .val (.int rg), .val (.int fl), .val (.int ch), .val (.ref b11), .val (.int fa), .val (.int fb), .val (.int e81)] [(.int fb), (.int (0 : Int32))])) t → Steps p.tables e below (s₁.setTop (entryFrame m #[(.int pk), (.int cr), (.int rg), (.int fl)] maxLocals)) t := fun t k => pre64 t (by
          show Steps p.tables e below (T35.setTop (mkF m 206 #[.val (.int pk), .val (.int cr), .val (.int rg), .val (.int fl), .val (.int ch), .val (.ref b11), .val (.int fa), .val (.int fb), .val (.int e81)] [(.int fa)])) _
          refine XS.ifNo X35.here hx rfl (hb hby at_206) rfl ((if0 _ _).trans (flt hc206).2.2.1) ?_
          show Steps p.tables e below (T35.setTop (mkF m 209 #[.val (.int pk), .val (.int cr), .val (.int rg), .val (.int fl), .val (.int ch), .val (.ref b11), .val (.int fa), .val (.int fb), .val (.int e81)] [])) _
          refine XS.iconst X35.here hx rfl (hb hby at_209) ?_
          show Steps p.tables e below (T35.setTop (mkF m 210 #[.val (.int pk), .val (.int cr), .val (.int rg), .val (.int fl), .val (.int ch), .val (.ref b11), .val (.int fa), .val (.int fb), .val (.int e81)] [(.int (0 : Int32))])) _
          refine XS.iload X35.here hx rfl (hb hby at_210) rfl ?_
          exact k)
      by_cases hc212 : (0 : Int32) < fb
      · skip
        have pre67 : ∀ t, Steps p.tables e below (T35.setTop (mkF m 221 #[.val (.int pk), .val (.int cr), .val (.int rg), .val (.int fl), .val (.int ch), .val (.ref b11), .val (.int fa), .val (.int fb), .val (.int e81)] [(.int ch), (.int x0)])) t → Steps p.tables e below (s₁.setTop (entryFrame m #[(.int pk), (.int cr), (.int rg), (.int fl)] maxLocals)) t := fun t k => pre66 t (by
            show Steps p.tables e below (T35.setTop (mkF m 212 #[.val (.int pk), .val (.int cr), .val (.int rg), .val (.int fl), .val (.int ch), .val (.ref b11), .val (.int fa), .val (.int fb), .val (.int e81)] [(.int fb), (.int (0 : Int32))])) _
            refine XS.icmpNo X35.here hx rfl (hb hby at_212) rfl (tlt hc212).2.1 ?_
            show Steps p.tables e below (T35.setTop (mkF m 215 #[.val (.int pk), .val (.int cr), .val (.int rg), .val (.int fl), .val (.int ch), .val (.ref b11), .val (.int fa), .val (.int fb), .val (.int e81)] [])) _
            refine XS.aload X35.here hx rfl (hb hby at_215) rfl rfl ?_
            show Steps p.tables e below (T35.setTop (mkF m 217 #[.val (.int pk), .val (.int cr), .val (.int rg), .val (.int fl), .val (.int ch), .val (.ref b11), .val (.int fa), .val (.int fb), .val (.int e81)] [(.ref b11)])) _
            refine XS.iconst X35.here hx rfl (hb hby at_217) ?_
            show Steps p.tables e below (T35.setTop (mkF m 218 #[.val (.int pk), .val (.int cr), .val (.int rg), .val (.int fl), .val (.int ch), .val (.ref b11), .val (.int fa), .val (.int fb), .val (.int e81)] [(.int (0 : Int32)), (.ref b11)])) _
            refine X35.baloadBytes hx (j := (0 : Int32)) (v := (.int x0)) (by rw [e35]; exact Ar.1) (State.isArrayOf_alike hZ.alike Ar.2.1) Ar.2.2 (by rw [Sz4]; decide) at0 (g := (mkF m 218 #[.val (.int pk), .val (.int cr), .val (.int rg), .val (.int fl), .val (.int ch), .val (.ref b11), .val (.int fa), .val (.int fb), .val (.int e81)] [(.int (0 : Int32)), (.ref b11)])) rfl rfl (hb hby at_218) _ ?_
            show Steps p.tables e below (T35.setTop (mkF m 219 #[.val (.int pk), .val (.int cr), .val (.int rg), .val (.int fl), .val (.int ch), .val (.ref b11), .val (.int fa), .val (.int fb), .val (.int e81)] [(.int x0)])) _
            refine XS.iload X35.here hx rfl (hb hby at_219) rfl ?_
            exact k)
        by_cases hc221 : x0 = ch
        · skip
          have pre68 : ∀ t, Steps p.tables e below (T35.setTop (mkF m 227 #[.val (.int pk), .val (.int cr), .val (.int rg), .val (.int fl), .val (.int ch), .val (.ref b11), .val (.int fa), .val (.int fb), .val (.int (0 : Int32))] [])) t → Steps p.tables e below (s₁.setTop (entryFrame m #[(.int pk), (.int cr), (.int rg), (.int fl)] maxLocals)) t := fun t k => pre67 t (by
              show Steps p.tables e below (T35.setTop (mkF m 221 #[.val (.int pk), .val (.int cr), .val (.int rg), .val (.int fl), .val (.int ch), .val (.ref b11), .val (.int fa), .val (.int fb), .val (.int e81)] [(.int ch), (.int x0)])) _
              refine XS.icmpNo X35.here hx rfl (hb hby at_221) rfl (teq hc221).2 ?_
              show Steps p.tables e below (T35.setTop (mkF m 224 #[.val (.int pk), .val (.int cr), .val (.int rg), .val (.int fl), .val (.int ch), .val (.ref b11), .val (.int fa), .val (.int fb), .val (.int e81)] [])) _
              refine XS.iconst X35.here hx rfl (hb hby at_224) ?_
              show Steps p.tables e below (T35.setTop (mkF m 225 #[.val (.int pk), .val (.int cr), .val (.int rg), .val (.int fl), .val (.int ch), .val (.ref b11), .val (.int fa), .val (.int fb), .val (.int e81)] [(.int (0 : Int32))])) _
              refine XS.istore X35.here hx rfl (hb hby at_225) rfl (l' := #[.val (.int pk), .val (.int cr), .val (.int rg), .val (.int fl), .val (.int ch), .val (.ref b11), .val (.int fa), .val (.int fb), .val (.int (0 : Int32))]) rfl ?_
              exact k)
          exact ⟨_, (by simp [own_rung, hc206, hc212, hc221]), pre68⟩
        · skip
          have pre69 : ∀ t, Steps p.tables e below (T35.setTop (mkF m 227 #[.val (.int pk), .val (.int cr), .val (.int rg), .val (.int fl), .val (.int ch), .val (.ref b11), .val (.int fa), .val (.int fb), .val (.int e81)] [])) t → Steps p.tables e below (s₁.setTop (entryFrame m #[(.int pk), (.int cr), (.int rg), (.int fl)] maxLocals)) t := fun t k => pre67 t (by
              show Steps p.tables e below (T35.setTop (mkF m 221 #[.val (.int pk), .val (.int cr), .val (.int rg), .val (.int fl), .val (.int ch), .val (.ref b11), .val (.int fa), .val (.int fb), .val (.int e81)] [(.int ch), (.int x0)])) _
              refine XS.icmpYes X35.here hx rfl (pc0 := 221) (pc' := 227) rfl (hb hby at_221) rfl (feq hc221).2 (by decide) (by decide) ?_
              exact k)
          exact ⟨_, (by simp [own_rung, hc206, hc212, hc221]), pre69⟩
      · skip
        have pre70 : ∀ t, Steps p.tables e below (T35.setTop (mkF m 227 #[.val (.int pk), .val (.int cr), .val (.int rg), .val (.int fl), .val (.int ch), .val (.ref b11), .val (.int fa), .val (.int fb), .val (.int e81)] [])) t → Steps p.tables e below (s₁.setTop (entryFrame m #[(.int pk), (.int cr), (.int rg), (.int fl)] maxLocals)) t := fun t k => pre66 t (by
            show Steps p.tables e below (T35.setTop (mkF m 212 #[.val (.int pk), .val (.int cr), .val (.int rg), .val (.int fl), .val (.int ch), .val (.ref b11), .val (.int fa), .val (.int fb), .val (.int e81)] [(.int fb), (.int (0 : Int32))])) _
            refine XS.icmpYes X35.here hx rfl (pc0 := 212) (pc' := 227) rfl (hb hby at_212) rfl (flt hc212).2.1 (by decide) (by decide) ?_
            exact k)
        exact ⟨_, (by simp [own_rung, hc206, hc212]), pre70⟩
  obtain ⟨_, _, ⟨T71, L71, k71, n71⟩, -, X71, ⟨Lc71, hQ71, l71, y71, z71⟩, st71⟩ := Jvm.LawKit.callS X35 hx (y := (⟨"com/example/crawl_rules/crawlrules/rules/PathPattern", "indexOf", "([BCII)I"⟩ : MethodName)) hown (mvT hZ (hw _ (List.mem_of_getElem? (i := 2) rfl))) (mvT hZ (hw _ (List.mem_of_getElem? (i := 3) rfl))) (mvT hZ (hw _ (List.mem_of_getElem? (i := 4) rfl))) (mvT hZ (hw _ (List.mem_of_getElem? (i := 5) rfl))) (by decide) (backOf (W := 0) (rm1 l Z a0 hw [] b11 ch fa fb cl (own_pick x0 x1 x2 x3) h35 n0 Z35 Ar Sz4 hall hfa.1 hfb.1 hfb.2) hZ (hw _ (List.mem_of_getElem? (i := 5) rfl)) (hw _ (List.mem_of_getElem? (i := 4) rfl)) (by decide) (by decide)) (g := (mkF m 235 #[.val (.int pk), .val (.int cr), .val (.int rg), .val (.int fl), .val (.int ch), .val (.ref b11), .val (.int fa), .val (.int fb), .val (.int e80)] [(.int fb), (.int fa), (.int ch), (.ref b11)])) rfl (by rw [hml]; rfl) (argsL := [(.ref b11), (.int ch), (.int fa), (.int fb)]) (rest := []) (lenOf own_pd0 rfl) rfl (by show 2 * 0 + _ ≤ _; exact Nat.le_of_eq rfl) (hb hby at_235) (fun _ _ => ⟨rfl, e35, (by decide : 1 + 0 ≤ _), (by decide : 4 + 0 ≤ _)⟩)
  dsimp only [Pt.U, Pt.locs, Pt.cells, Pt.slots] at X71 l71 y71 z71 st71 hQ71
  subst l71 y71 z71
  obtain ⟨r71, rfl, hF71, N71q, e71⟩ := hQ71
  have N71 := Fr.app N35 N71q
  have he : r71 = e80 := own_ladder x0 x1 x2 x3 ch fa fb r71 e83 e82 e81 e80 hfa.1 hfb.1 hfb.2 hF71 he83 he82 he81 he80
  have pre72 : ∀ t, Steps p.tables e below (T71.setTop (mkF m 248 #[.val (.int pk), .val (.int cr), .val (.int rg), .val (.int fl), .val (.int ch), .val (.ref b11), .val (.int fa), .val (.int fb), .val (.int e80)] [(.int (1 : Int32))])) t → Steps p.tables e below (s₁.setTop (entryFrame m #[(.int pk), (.int cr), (.int rg), (.int fl)] maxLocals)) t := fun t k => pre63 t (by
      show Steps p.tables e below (T35.setTop (mkF m 227 #[.val (.int pk), .val (.int cr), .val (.int rg), .val (.int fl), .val (.int ch), .val (.ref b11), .val (.int fa), .val (.int fb), .val (.int e80)] [])) _
      refine XS.aload X35.here hx rfl (hb hby at_227) rfl rfl ?_
      show Steps p.tables e below (T35.setTop (mkF m 229 #[.val (.int pk), .val (.int cr), .val (.int rg), .val (.int fl), .val (.int ch), .val (.ref b11), .val (.int fa), .val (.int fb), .val (.int e80)] [(.ref b11)])) _
      refine XS.iload X35.here hx rfl (hb hby at_229) rfl ?_
      show Steps p.tables e below (T35.setTop (mkF m 231 #[.val (.int pk), .val (.int cr), .val (.int rg), .val (.int fl), .val (.int ch), .val (.ref b11), .val (.int fa), .val (.int fb), .val (.int e80)] [(.int ch), (.ref b11)])) _
      refine XS.iload X35.here hx rfl (hb hby at_231) rfl ?_
      show Steps p.tables e below (T35.setTop (mkF m 233 #[.val (.int pk), .val (.int cr), .val (.int rg), .val (.int fl), .val (.int ch), .val (.ref b11), .val (.int fa), .val (.int fb), .val (.int e80)] [(.int fa), (.int ch), (.ref b11)])) _
      refine XS.iload X35.here hx rfl (hb hby at_233) rfl ?_
      show Steps p.tables e below (T35.setTop (mkF m 235 #[.val (.int pk), .val (.int cr), .val (.int rg), .val (.int fl), .val (.int ch), .val (.ref b11), .val (.int fa), .val (.int fb), .val (.int e80)] [(.int fb), (.int fa), (.int ch), (.ref b11)])) _
      refine st71 _ ?_
      show Steps p.tables e below (T71.setTop (mkF m 238 #[.val (.int pk), .val (.int cr), .val (.int rg), .val (.int fl), .val (.int ch), .val (.ref b11), .val (.int fa), .val (.int fb), .val (.int e80)] [(.int r71)])) _
      refine XS.iload X71.here hx rfl (hb hby at_238) rfl ?_
      show Steps p.tables e below (T71.setTop (mkF m 240 #[.val (.int pk), .val (.int cr), .val (.int rg), .val (.int fl), .val (.int ch), .val (.ref b11), .val (.int fa), .val (.int fb), .val (.int e80)] [(.int e80), (.int r71)])) _
      refine XS.icmpNo X71.here hx rfl (hb hby at_240) rfl (teq he).2 ?_
      show Steps p.tables e below (T71.setTop (mkF m 243 #[.val (.int pk), .val (.int cr), .val (.int rg), .val (.int fl), .val (.int ch), .val (.ref b11), .val (.int fa), .val (.int fb), .val (.int e80)] [])) _
      refine XS.iconst X71.here hx rfl (hb hby at_243) ?_
      show Steps p.tables e below (T71.setTop (mkF m 244 #[.val (.int pk), .val (.int cr), .val (.int rg), .val (.int fl), .val (.int ch), .val (.ref b11), .val (.int fa), .val (.int fb), .val (.int e80)] [(.int (1 : Int32))])) _
      refine XS.goto X71.here hx rfl (pc0 := 244) (pc' := 248) rfl (hb hby at_244) (by decide) (by decide) ?_
      exact k)
  obtain ⟨fs, hr, hrun, hended, hW, hsame⟩ := X71.leave (v := some (.int (1 : Int32))) (fun h => by rw [Bd.returns] at h; cases h)
  refine ⟨_, _, pre72 _ ?_, hrun, hended, _, _, rfl, ?_, ⟨_, rfl⟩, hW, hsame.mono (by decide) (by decide)⟩
  · show Steps p.tables e below (T71.setTop (mkF m 248 #[.val (.int pk), .val (.int cr), .val (.int rg), .val (.int fl), .val (.int ch), .val (.ref b11), .val (.int fa), .val (.int fb), .val (.int e80)] [(.int (1 : Int32))])) _
    exact retN X71 hx (t := .boolean) Bd.returns (by simp) (hb hby at_248) hr
  · show Q0 Z pk cr rg fl h0 n0 _ T71.heap _
    rw [e71]
    exact ⟨rfl, N71⟩
set_option maxRecDepth 65536 in
set_option maxHeartbeats 40000000 in
theorem comes_1 {Post : Tables → Env → Array Value → State → Outcome → State → Prop} (hpost : ∀ tb e args s v u, (limb_1_1.after args s (.returned v) u = true ∧ limb_1_2.after args s (.returned v) u = true ∧ True) → FrameEnd s (.returned v) u (Jvm.fieldLocs frame_1_writes args s ++ Jvm.arrayLocs frame_1_arrays args s ++ Jvm.staticLocs frame_1_statics s) 16 128 → Post tb e args s (.returned v) u) :
    ArmFor flags0 classFile x code maxLocals ret World_1 tables_1 room_1 Calls_1 rest_1 Pre_1 Post := by
  intro l hfl _ _ p e ha hc hk s m args below hf hA hF happ hP
  obtain ⟨hcalls, hrest, hpre⟩ := hP
  obtain ⟨-, -, -, hnamed, -, -, -, hat⟩ := (Spec.applies_iff hf).mp happ
  obtain ⟨hg, hn⟩ := and_e (Cond.before_iff.mp (show (Jvm.Cond.and given_1 narrow_1).before args s = true from hpre))
  obtain ⟨h1, g0⟩ := and_e hg
  obtain ⟨w0, w1, w2, w3, rfl⟩ : ∃ w0 w1 w2 w3 : Value, args = #[w0, w1, w2, w3] := by
    have hs : args.size = 4 := by simpa [Cond.value, given_1] using h1
    obtain ⟨L⟩ := args
    match L, hs with
    | [w0, w1, w2, w3], _ => exact ⟨w0, w1, w2, w3, rfl⟩
  have hw := fun d (hd : d ∈ tables_1) => atoms_spec (ws := Jvm.Cond.code x code maxLocals ret :: tables_1) hat d (List.mem_cons_of_mem _ hd)
  obtain ⟨f0, g1⟩ := and_e g0
  obtain ⟨i0, q0⟩ := is_v f0
  obtain rfl : w0 = (.int i0) := Option.some.inj q0
  obtain ⟨f1, g2⟩ := and_e g1
  obtain ⟨i1, q1⟩ := is_v f1
  obtain rfl : w1 = (.int i1) := Option.some.inj q1
  obtain ⟨f2, g3⟩ := and_e g2
  obtain ⟨i2, q2⟩ := is_v f2
  obtain rfl : w2 = (.int i2) := Option.some.inj q2
  have f3 := g3
  obtain ⟨i3, q3⟩ := is_v f3
  obtain rfl : w3 = (.int i3) := Option.some.inj q3
  obtain ⟨n, o, h1, h2, h3, _, L, rfl, ⟨rfl, N⟩, hq⟩ := rm0 l s _ hw tables_1 i0 i1 i2 i3 s.heap s.heap.size (Nat.le_refl _)  p e ha hc hk s m _ below hf ((Spec.applies_iff_loose hf).mp happ).1 ⟨rfl, State.Warmed39.refl s, rfl⟩ trivial
  refine ⟨n, _, h1, h2, h3, hpost _ _ _ _ _ _ ⟨Cond.after_iff.mpr rfl, Cond.after_iff.mpr (eq_i res_at (Term.int_eval (1)) rfl), trivial⟩ ⟨hq.1, hq.2.1, (hq.2.2.sift fun y hy => Or.inr (N y hy)).mono (by decide) (by decide)⟩⟩
theorem main_1_1 : Claimed_1_1 := comes_1 fun _ _ _ _ _ _ h hF => ⟨h.1, hF⟩
theorem main_1_2 : Claimed_1_2 := comes_1 fun _ _ _ _ _ _ h hF => ⟨h.2.1, hF⟩
end Jvm.Pilot.@@N@@
namespace Jvm.Pilot.@@N@@
open Jvm Jvm.ClassFile Sem Op Lib Jvm.Free Jvm.Stand Jvm.Pilot.@@N@@.Jvm.D
/-! MADE BY PROGRAM (witnessworld.py) out of the Statement's table words and the real class files: 9 classes; the members and pool entries that the words name. The judged class is class 1, her method 1. -/
namespace start1
open Jvm.ClassFile
def u (s : String) : CpInfo := .utf8 (stringToUtf16 s)
/-- a pool by its gaps: so many unusable entries, then the entry; so many at the end -/
def gap : Nat → List CpInfo → List CpInfo
  | 0, r => r
  | n + 1, r => .unusable :: gap n r
def poolList (es : List (Nat × CpInfo)) (last : Nat) : List CpInfo := es.foldr (fun e r => gap e.1 (e.2 :: r)) (gap last [])
def pool (es : List (Nat × CpInfo)) (last : Nat) : Array CpInfo := ⟨poolList es last⟩
def fileOf (pool : Array CpInfo) (this : Nat) (attrs : Array Attribute := #[]) (ms : Array MethodInfo := #[]) (fl : Nat := 33) (sup : Nat := 0) (ifs : Array Nat := #[]) (fds : Array FieldInfo := #[]) : ClassFile where
  minorVersion := 0
  majorVersion := 65
  constantPool := pool
  accessFlags := fl
  thisClass := this
  superClass := sup
  interfaces := ifs
  fields := fds
  methods := ms
  attributes := attrs
def plain (name : String) (sup : Option ClassId) : Class where
  name := name
  kind := .ordinary
  loader := none
  accessFlags := 33
  super := sup
  interfaces := #[]
  cf := none
  fields := #[]
  methods := #[]
  instanceTypes := #[]
  staticTypes := #[]
  resolved := #[]
  callSites := []
  init := .initialized
  statics := none
  mirror := none

def pool0 : Array CpInfo := pool [(5, u "<init>"), (0, u "()V"), (1, .class_ 10), (1, u "java/lang/Object")] 113

def k0m0 : Method := { name := "<init>", desc := "()V", sig := { parameters := [], returnType := none }, accessFlags := 1, code := none }
/-- java/lang/Object -/
def k0 : Class := { plain "java/lang/Object" none with
  accessFlags := 33
  interfaces := #[]
  cf := some (fileOf pool0 8 #[] #[{ accessFlags := 1, nameIndex := 5, descriptorIndex := 6, attributes := #[] }] 33 0 #[] #[])
  fields := #[]
  methods := #[k0m0]
  instanceTypes := #[]
  staticTypes := #[]
  resolved := Array.replicate 124 none
  statics := none }

def pool1 : Array CpInfo := pool [(2, .class_ 4), (1, u "java/lang/Object"), (0, u "<init>"), (0, u "()V"), (0, .integer 2147483647), (0, .methodref 9 10), (0, .class_ 11), (0, .nameAndType 12 13), (0, u "com/example/crawl_rules/crawlrules/rules/PathPattern"), (0, u "indexOf"), (0, u "([BCII)I"), (0, .class_ 15), (0, u "com/example/crawl_rules/crawlrules/rules/PathPatternIndexOfPinLaw"), (2, u "law"), (0, u "(IIII)Z")] 5

def k1m0 : Method := { name := "<init>", desc := "()V", sig := { parameters := [], returnType := none }, accessFlags := 2, code := none }
def k1c1 : Code := { maxStack := 4, maxLocals := 9, code := code, exceptionTable := #[], attributes := #[] }
def k1m1 : Method := { name := "law", desc := "(IIII)Z", sig := { parameters := [.int, .int, .int, .int], returnType := some .boolean }, accessFlags := 9, code := some k1c1 }
/-- com/example/crawl_rules/crawlrules/rules/PathPatternIndexOfPinLaw -/
def k1 : Class := { plain "com/example/crawl_rules/crawlrules/rules/PathPatternIndexOfPinLaw" (some 0) with
  accessFlags := 49
  interfaces := #[]
  cf := some (fileOf pool1 14 #[] #[{ accessFlags := 2, nameIndex := 5, descriptorIndex := 6, attributes := #[] }, { accessFlags := 9, nameIndex := 18, descriptorIndex := 19, attributes := #[] }] 49 2 #[] #[])
  fields := #[]
  methods := #[k1m0, k1m1]
  instanceTypes := #[]
  staticTypes := #[]
  resolved := Array.replicate 25 none
  statics := none }

def pool2 : Array CpInfo := pool [(2, .class_ 4), (1, u "java/lang/Object"), (0, u "<init>"), (0, u "()V"), (13, .class_ 22), (1, u "com/example/crawl_rules/crawlrules/rules/PathPattern"), (0, u "indexOf"), (0, u "([BCII)I"), (48, u "WILDCARD"), (0, u "I"), (2, u "ANCHORED"), (1, u "MATCHES"), (0, u "SEARCHED")] 14

def k2m0 : Method := { name := "<init>", desc := "()V", sig := { parameters := [], returnType := none }, accessFlags := 2, code := none }
def k2c1 : Code := { maxStack := 2, maxLocals := 5, code := prog_27_method_10_code, exceptionTable := #[], attributes := #[] }
def k2m1 : Method := { name := "indexOf", desc := "([BCII)I", sig := { parameters := [(.array .byte), .char, .int, .int], returnType := some .int }, accessFlags := 8, code := some k2c1 }
/-- com/example/crawl_rules/crawlrules/rules/PathPattern -/
def k2 : Class := { plain "com/example/crawl_rules/crawlrules/rules/PathPattern" (some 0) with
  accessFlags := 48
  interfaces := #[]
  cf := some (fileOf pool2 20 #[] #[{ accessFlags := 2, nameIndex := 5, descriptorIndex := 6, attributes := #[] }, { accessFlags := 8, nameIndex := 23, descriptorIndex := 24, attributes := #[] }] 48 2 #[] #[{ accessFlags := 24, nameIndex := 73, descriptorIndex := 74, attributes := #[] }, { accessFlags := 24, nameIndex := 77, descriptorIndex := 74, attributes := #[] }, { accessFlags := 24, nameIndex := 79, descriptorIndex := 74, attributes := #[] }, { accessFlags := 24, nameIndex := 80, descriptorIndex := 74, attributes := #[] }])
  fields := #[{ name := "WILDCARD", type := .int, accessFlags := 24, slot := 0, constantValue := 0 }, { name := "ANCHORED", type := .int, accessFlags := 24, slot := 1, constantValue := 0 }, { name := "MATCHES", type := .int, accessFlags := 24, slot := 2, constantValue := 0 }, { name := "SEARCHED", type := .int, accessFlags := 24, slot := 3, constantValue := 0 }]
  methods := #[k2m0, k2m1]
  instanceTypes := #[]
  staticTypes := #[.int, .int, .int, .int]
  resolved := Array.replicate 95 none
  statics := none }

def pool3 : Array CpInfo := pool [(1, u "java/lang/Cloneable"), (0, .class_ 1), (0, u "java/lang/Object"), (0, .class_ 3)] 3

/-- java/lang/Cloneable -/
def k3 : Class := { plain "java/lang/Cloneable" (some 0) with
  accessFlags := 1537
  interfaces := #[]
  cf := some (fileOf pool3 2 #[] #[] 1537 4 #[] #[])
  fields := #[]
  methods := #[]
  instanceTypes := #[]
  staticTypes := #[]
  resolved := Array.replicate 8 none
  statics := none }

def pool4 : Array CpInfo := pool [(1, u "java/io/Serializable"), (0, .class_ 1), (0, u "java/lang/Object"), (0, .class_ 3)] 3

/-- java/io/Serializable -/
def k4 : Class := { plain "java/io/Serializable" (some 0) with
  accessFlags := 1537
  interfaces := #[]
  cf := some (fileOf pool4 2 #[] #[] 1537 4 #[] #[])
  fields := #[]
  methods := #[]
  instanceTypes := #[]
  staticTypes := #[]
  resolved := Array.replicate 8 none
  statics := none }

/-- the primitive byte -/
def k5 : Class := { plain "byte" none with kind := .primitive 'B', accessFlags := 0x411 }
/-- [B -/
def k6 : Class := { plain "[B" (some 0) with kind := .array 5 .byte, interfaces := #[3, 4], accessFlags := 1041 }

/-- the primitive int -/
def k7 : Class := { plain "int" none with kind := .primitive 'I', accessFlags := 0x411 }
/-- [I -/
def k8 : Class := { plain "[I" (some 0) with kind := .array 7 .int, interfaces := #[3, 4], accessFlags := 1041 }

def heap : Heap := #[]
def classes : Array Class := #[k0, k1, k2, k3, k4, k5, k6, k7, k8]
def interned : List (Array UInt16 × Addr) := []
def slotsUsed : Nat := 0
def theMethod : MethodId := ⟨1, 1⟩
def args0 : Array Value := #[.int 77, .int 65, .int 260, .int 3]
def aboutOver (below : List Frame) : State where
  vm := { classes := classes, interned := interned.toArray }
  heap := heap
  slotsUsed := slotsUsed
  threads := #[{ frames := .invoking theMethod args0 :: below }]
def below0 : List Frame := [.native { method := ⟨0, 0⟩, args := #[] }]
def about1 : State := aboutOver below0
def p0 : Program := .bare "" "" ""
def e0 : Env := launch0.env 0 0 0
theorem w_frames : about1.frames = Frame.invoking theMethod args0 :: below0 := rfl
set_option maxRecDepth 65536 in
theorem w_args : argsFit about1.vm theMethod args0 = true := by decide +kernel
set_option maxRecDepth 65536 in
theorem w_heap : heapFits about1 = true := by decide +kernel
set_option maxRecDepth 65536 in
theorem w_runnable : about1.curStatus? = some .runnable := by decide +kernel
set_option maxRecDepth 65536 in
theorem w_alone : about1.alone = true := by decide +kernel
set_option maxRecDepth 65536 in
theorem w_named : about1.methodNamed? x = some theMethod := by decide +kernel
set_option maxRecDepth 65536 in
theorem w_hears : about1.hears theMethod below0 = true := by decide +kernel
set_option maxRecDepth 65536 in
theorem w_ripe : about1.ripe theMethod args0 below0 = true := by decide +kernel
theorem w_running : about1.status = .running := rfl
set_option maxRecDepth 65536 in
theorem w_room : about1.hasRoom e0.platform room_1 = true :=
  launch0.hasRoom_least _ room_1 (by decide +kernel) (by decide +kernel) (by decide +kernel) (by decide +kernel) (by decide +kernel) (by decide +kernel)
theorem allAtoms_all (ts : List Jvm.Cond) (a : Array Jvm.Value) (st : Jvm.State) : (allAtoms ts).before a st = ts.all (fun c => c.before a st) := by
  induction ts with
  | nil => rfl
  | cons c t ih =>
    show (Jvm.Cond.and c (allAtoms t)).before a st = _
    rw [Jvm.Cond.before_and, ih, List.all_cons]
def words1 : List Jvm.Cond := Jvm.Cond.code x code maxLocals ret :: tables_1
/-- a 'code' word, met by the world's own term for the bytes: nothing is compared byte by byte -/
theorem code_word {y : MethodName} {bytes : ByteArray} {mx : Nat} {rt : Option FieldType} {a : Array Value} {s : State} {m : MethodId} {meth : Method} {c : Code} (h1 : s.methodNamed? y = some m) (h2 : s.vm.method? m = some meth) (h3 : meth.code = some c) (h4 : c.code = bytes)
    (h5 : (c.maxLocals == mx && c.exceptionTable.isEmpty && decide (c.maxStack ≤ mostOperands) && decide (meth.sig.returnType = rt) && !meth.locks && decide (parseMethodDescriptor y.desc = some meth.sig)) = true) : (Jvm.Cond.code y bytes mx rt).before a s = true := by
  simp only [Bool.and_eq_true, beq_iff_eq, Bool.not_eq_true', decide_eq_true_eq] at h5
  obtain ⟨⟨⟨⟨⟨g1, g2⟩, g3⟩, g4⟩, g5⟩, g6⟩ := h5
  simp [Cond.before, Cond.holds, Cond.value, h1, h2, h3, h4, g1, g2, g3, g4, g5, g6]
def isCode : Jvm.Cond → Bool
  | .code _ _ _ _ => true
  | _ => false
theorem all_split {L : List Jvm.Cond} {P : Jvm.Cond → Bool} (h1 : L.all (fun c => isCode c || P c) = true) (h2 : ∀ c ∈ L.filter isCode, P c = true) : L.all P = true := by
  refine List.all_eq_true.mpr fun c hc => ?_
  have h := List.all_eq_true.mp h1 c hc
  rcases Bool.eq_false_or_eq_true (isCode c) with hi | hi
  · exact h2 c (List.mem_filter.mpr ⟨hc, hi⟩)
  · simpa [hi] using h
set_option maxRecDepth 65536 in
theorem w_c0 : (Jvm.Cond.code x code maxLocals ret).before args0 about1 = true := code_word (m := ⟨1, 1⟩) (meth := k1m1) (c := k1c1) (by decide +kernel) rfl rfl rfl (by decide +kernel)
set_option maxRecDepth 65536 in
theorem w_c1 : (Jvm.Cond.code ({ cls := "com/example/crawl_rules/crawlrules/rules/PathPattern", name := "indexOf", desc := "([BCII)I" } : Jvm.MethodName) prog_27_method_10_code (5 : Nat) (Option.some Jvm.ClassFile.FieldType.int)).before args0 about1 = true := code_word (m := ⟨2, 1⟩) (meth := k2m1) (c := k2c1) (by decide +kernel) rfl rfl rfl (by decide +kernel)
def codes1 : List Jvm.Cond := [Jvm.Cond.code x code maxLocals ret, Jvm.Cond.code ({ cls := "com/example/crawl_rules/crawlrules/rules/PathPattern", name := "indexOf", desc := "([BCII)I" } : Jvm.MethodName) prog_27_method_10_code (5 : Nat) (Option.some Jvm.ClassFile.FieldType.int)]
set_option maxRecDepth 65536 in
theorem codes_eq : words1.filter isCode = codes1 := rfl
theorem w_codes : ∀ c ∈ words1.filter isCode, c.before args0 about1 = true := by
  rw [codes_eq]
  intro c hc
  simp only [codes1, List.mem_cons, List.not_mem_nil, or_false] at hc
  rcases hc with rfl | rfl
  · exact w_c0
  · exact w_c1
set_option maxRecDepth 65536 in
theorem w_t1 : words1.all (fun c => isCode c || c.before args0 about1) = true := by decide +kernel
theorem w_tables : (allAtoms (Jvm.Cond.code x code maxLocals ret :: tables_1)).before args0 about1 = true := by
  rw [allAtoms_all]
  show words1.all (fun c => c.before args0 about1) = true
  refine all_split ?_ w_codes
  rw [w_t1]
set_option maxRecDepth 65536 in
theorem w_case : (Jvm.Cond.and given_1 narrow_1).before args0 about1 = true := by decide +kernel
theorem w_applies : (headSpec (Jvm.Cond.code x code maxLocals ret :: tables_1) room_1).applies x e0.platform about1 = true :=
  (Spec.applies_iff w_frames).mpr ⟨w_running, w_runnable, w_alone, w_named, w_hears, w_ripe, w_room, w_tables⟩
theorem atStart : AtStart classFile x code maxLocals ret World_1 tables_1 room_1 Calls_1 rest_1 Pre_1 launch0 p0 e0 about1 theMethod args0 below0 :=
  ⟨lists_1, trivial, launch0.admits_env _ _ _, launch0.least_env, fairChoices_fair.cas, fairChoices_fair.clock, w_frames, w_args, w_heap, w_applies, trivial, trivial, w_case⟩
end start1
theorem witness_1 : WitnessClaimed_1 := ⟨start1.p0, start1.e0, start1.about1, start1.theMethod, start1.args0, start1.below0, start1.atStart⟩
end Jvm.Pilot.@@N@@
