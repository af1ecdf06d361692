import JvmDerived
import JvmDerived.Pilot.@@N@@Statement
import JvmDerived.Pilot.@@N@@Code
set_option linter.unusedVariables false
set_option linter.unusedSimpArgs false
namespace Jvm.RoadKit
open Sem ClassFile Op Lib Jvm.Stand Jvm.Free Jvm.LawKit
section New
variable {p : Program} {l : Launch} {e : Env} {R : Room} {s : State} {m : MethodId} {args : Array Value} {below : List Frame} {meth : Method} {c : Code} {T : State} {locs : List Loc} {cells slots : Nat}
theorem retI (X : Stand p l e R s m args below meth c T locs cells slots) (hx : p.tables.exec = Jvm.exec) {pc : Nat} {Ls : Array Slot} {z : Int32} {rest : List Value} (hret : meth.sig.returnType = some .int) (hd : decode c.code pc = .ok (.ireturn, 1)) {fs : List Frame}
    (hl : ∀ (f : JFrame) (acts : List Action), f.method = m → f.locked = none → f.entered = [] → (doReturn e (T.setTop f) acts (some (.int z))).1 = T.setFrames fs) : Steps p.tables e below (T.setTop (mkF m pc Ls (.int z :: rest))) (T.setFrames fs) := by
  have hm' : T.vm.method? m = some meth := X.method'
  have hn : narrow .int (.int z) = .int z := rfl
  show Steps p.tables e below (T.setTop { method := m, pc := pc, locals := Ls, stack := _ :: rest, locked := none }) _
  jvm_step X.here [X.here.top, hx, hd, hm', hret, hn]
  first | (intro acts; rw [hl _ acts rfl rfl rfl]) | rw [hl _ _ rfl rfl rfl]
  exact Steps.refl _
end New
end Jvm.RoadKit
namespace Jvm.Pilot.@@N@@
open Jvm Jvm.ClassFile Sem Op Lib Jvm.Free Jvm.Stand Jvm.LawKit Jvm.RoadKit Bundle Jvm.Pilot.@@N@@.Jvm.D
/-- one of the two ints says whether P -/
def own_says (P : Prop) (v : Int32) : Prop := (P ∧ v = 1) ∨ (¬ P ∧ v = 0)
theorem own_says_eq {P Q : Prop} {v w : Int32} (h : own_says P v) (k : own_says Q w) (e : P ↔ Q) : v = w := by
  rcases h with ⟨a, rfl⟩ | ⟨a, rfl⟩ <;> rcases k with ⟨b, rfl⟩ | ⟨b, rfl⟩
  · rfl
  · exact absurd (e.mp a) b
  · exact absurd (e.mpr b) a
  · rfl
theorem own_says_ne {P : Prop} {v : Int32} (h : own_says P v) : (v = 0 ↔ ¬ P) := by
  rcases h with ⟨a, rfl⟩ | ⟨a, rfl⟩
  · simp [a]
  · simp [a]
def own_B (j : Int32) : Prop := j = 0 ∨ j = 1
def own_N (j : Int32) : Prop := j = -1 ∨ own_B j
theorem own_in2 {j : Int32} (h : own_B j) : ¬ (j < 0 ∨ 2 ≤ j.toNatClampNeg) := by
  rcases h with rfl | rfl <;> decide
def own_Bef (df : Nat → Int64) (i j : Int32) : Prop := df i.toNatClampNeg < df j.toNatClampNeg ∨ (df i.toNatClampNeg = df j.toNatClampNeg ∧ i < j)
theorem own_nf {s : State} {args : Array Value} {C : String} {y y' : MethodName} (hsel : (Jvm.Cond.selects C y y).before args s = true) (hc : y'.cls = y.cls) : NotFace s y' := fun r0 h0 => by
  obtain ⟨c2, r2, m2, q1, q2, q3, q4, kP, hkP, hkPi⟩ := Cond.selects_spec hsel
  have e1 := findClass_of_methodNamed h0
  have e2 := findClass_of_methodNamed q3
  rw [hc] at e1
  have e : r0.cls = m2.cls := Option.some.inj (e1.symm.trans e2)
  exact ⟨kP, by rw [e]; exact hkP, hkPi⟩
theorem own_selp {s : State} {args args' : Array Value} {C : String} {y y' : MethodName} (hsel : (Jvm.Cond.selects C y y).before args s = true) (hc : y'.cls = y.cls) (hpriv : s.PrivateAt y') (hinst : (Jvm.Cond.instanceMethod y').before args' s = true) (hy : y'.cls ≠ "java/lang/invoke/MethodHandle" ∧ y'.cls ≠ "java/lang/invoke/VarHandle") : (Jvm.Cond.selects y'.cls y' y').before args' s = true := by
  obtain ⟨c2, r2, m2, q1, q2, q3, q4, kP, hkP, hkPi⟩ := Cond.selects_spec hsel
  have e2 := findClass_of_methodNamed q3
  rw [← hc] at e2
  exact Jvm.Stand.selects_self_of_private e2 hkP hkPi hpriv hinst hy
theorem own_mvS {Z s : State} {a0 args : Array Value} {r o n d : String} (hZ : Z.Warmed39 s.vm) (w : (Jvm.Cond.sameMethod r o n d).before a0 Z = true) (hm : r ≠ "java/lang/invoke/MethodHandle" ∧ r ≠ "java/lang/invoke/VarHandle" := by decide) : (Jvm.Cond.sameMethod r o n d).before args s = true := by
  have h := Cond.sameMethod_setVm hZ.alike hm w
  exact sameMethod_same (s := Z.setVm s.vm) (s' := s) rfl h
def own_upd {α : Type} (f : Nat → α) (j : Nat) (x : α) : Nat → α := fun k => if k = j then x else f k
def own_J (Z : State) (h : Heap) (b : Addr) (f : Nat → Int64) : Prop := ∃ c : Cell, Arr Z h b c .long ∧ c.slots.size = 2 ∧ ∀ k : Nat, k < 2 → c.slots[k]? = some (.long (f k))
theorem own_J.other {Z : State} {h h' : Heap} {a b : Addr} {sl : Nat} {v : Value} {f : Nat → Int64} (F : own_J Z h b f) (W : Wr h h' a sl v) (q : b ≠ a) : own_J Z h' b f := by
  obtain ⟨c, A, r⟩ := F; exact ⟨c, A.other W q, r⟩
theorem own_J.ext {Z : State} {h h' : Heap} {b : Addr} {f : Nat → Int64} (F : own_J Z h b f) (E : Ext h h') : own_J Z h' b f := by
  obtain ⟨c, A, r⟩ := F; exact ⟨c, A.ext E, r⟩
theorem own_J.lt {Z : State} {h : Heap} {b : Addr} {f : Nat → Int64} (F : own_J Z h b f) : b < h.size := by
  obtain ⟨c, A, r⟩ := F; exact A.lt
theorem own_J.made {Z : State} {h : Heap} {b : Addr} {k : ClassId} (A : Arr Z h b (newA k .long 2) .long) : own_J Z h b (fun _ => 0) := by
  refine ⟨_, A, sz_new _ _ _, fun k hk => ?_⟩
  match k, hk with
  | 0, _ => rfl
  | 1, _ => rfl
theorem own_J.set {Z : State} {h h' : Heap} {b : Addr} {f : Nat → Int64} {j : Nat} {x : Int64} (F : own_J Z h b f) (W : Wr h h' b j (.long x)) (hj : j < 2) : own_J Z h' b (own_upd f j x) := by
  obtain ⟨c, A, S, H⟩ := F
  refine ⟨_, A.same W, by rw [sz_set]; exact S, fun k hk => ?_⟩
  by_cases u : j = k
  · subst u; simp [Cell.setSlot, own_upd, S, hj]
  · have h2 := H k hk
    simp only [Cell.setSlot, own_upd] at h2 ⊢
    rw [Array.getElem?_setIfInBounds_ne u, if_neg (fun q => u q.symm)]; exact h2
def own_I (Z : State) (h : Heap) (b : Addr) (f : Nat → Int32) : Prop := ∃ c : Cell, Arr Z h b c .int ∧ c.slots.size = 2 ∧ ∀ k : Nat, k < 2 → c.slots[k]? = some (.int (f k))
theorem own_I.other {Z : State} {h h' : Heap} {a b : Addr} {sl : Nat} {v : Value} {f : Nat → Int32} (F : own_I Z h b f) (W : Wr h h' a sl v) (q : b ≠ a) : own_I Z h' b f := by
  obtain ⟨c, A, r⟩ := F; exact ⟨c, A.other W q, r⟩
theorem own_I.ext {Z : State} {h h' : Heap} {b : Addr} {f : Nat → Int32} (F : own_I Z h b f) (E : Ext h h') : own_I Z h' b f := by
  obtain ⟨c, A, r⟩ := F; exact ⟨c, A.ext E, r⟩
theorem own_I.lt {Z : State} {h : Heap} {b : Addr} {f : Nat → Int32} (F : own_I Z h b f) : b < h.size := by
  obtain ⟨c, A, r⟩ := F; exact A.lt
theorem own_I.made {Z : State} {h : Heap} {b : Addr} {k : ClassId} (A : Arr Z h b (newA k .int 2) .int) : own_I Z h b (fun _ => 0) := by
  refine ⟨_, A, sz_new _ _ _, fun k hk => ?_⟩
  match k, hk with
  | 0, _ => rfl
  | 1, _ => rfl
theorem own_I.set {Z : State} {h h' : Heap} {b : Addr} {f : Nat → Int32} {j : Nat} {x : Int32} (F : own_I Z h b f) (W : Wr h h' b j (.int x)) (hj : j < 2) : own_I Z h' b (own_upd f j x) := by
  obtain ⟨c, A, S, H⟩ := F
  refine ⟨_, A.same W, by rw [sz_set]; exact S, fun k hk => ?_⟩
  by_cases u : j = k
  · subst u; simp [Cell.setSlot, own_upd, S, hj]
  · have h2 := H k hk
    simp only [Cell.setSlot, own_upd] at h2 ⊢
    rw [Array.getElem?_setIfInBounds_ne u, if_neg (fun q => u q.symm)]; exact h2
theorem own_ne {a b : Nat} (h : a < b ∨ b < a) : a ≠ b := by omega
/-- the order in which the addresses were made -/
def own_D (n0 : Nat) (ob ag ap al ar ad ac at0 : Nat) : Prop := n0 ≤ ob ∧ ob < ag ∧ ag < ap ∧ ap < al ∧ al < ar ∧ ar < ad ∧ ad < ac ∧ ac < at0
/-- the tree as it stands -/
def own_T (Z : State) (h : Heap) (ob ag ap al ar ad ac at0 : Addr) (root sb sa : Int32) (pf : Nat → Int64) (lf rf cf : Nat → Int32) (df gf tf : Nat → Int64) : Prop := Exa Z h ob "com/example/accord_scheduler/accordscheduler/MomentTree" ∧ Fld Z h ob "com/example/accord_scheduler/accordscheduler/Treap" "root" "I" (.int root) ∧ Fld Z h ob "com/example/accord_scheduler/accordscheduler/Treap" "priority" "[J" (.ref ap) ∧ Fld Z h ob "com/example/accord_scheduler/accordscheduler/Treap" "left" "[I" (.ref al) ∧ Fld Z h ob "com/example/accord_scheduler/accordscheduler/Treap" "right" "[I" (.ref ar) ∧ Fld Z h ob "com/example/accord_scheduler/accordscheduler/Treap" "splitBefore" "I" (.int sb) ∧ Fld Z h ob "com/example/accord_scheduler/accordscheduler/Treap" "splitAfter" "I" (.int sa) ∧ Fld Z h ob "com/example/accord_scheduler/accordscheduler/MomentTree" "due" "[J" (.ref ad) ∧ Fld Z h ob "com/example/accord_scheduler/accordscheduler/MomentTree" "length" "[J" (.ref ag) ∧ Fld Z h ob "com/example/accord_scheduler/accordscheduler/MomentTree" "count" "[I" (.ref ac) ∧ Fld Z h ob "com/example/accord_scheduler/accordscheduler/MomentTree" "total" "[J" (.ref at0) ∧ own_J Z h ap pf ∧ own_I Z h al lf ∧ own_I Z h ar rf ∧ own_J Z h ad df ∧ own_J Z h ag gf ∧ own_I Z h ac cf ∧ own_J Z h at0 tf
theorem own_T.w_priority {Z : State} {h h' : Heap} {n0 : Nat} {ob ag ap al ar ad ac at0 : Addr} {root sb sa : Int32} {lf rf cf : Nat → Int32} {pf df gf tf : Nat → Int64} {j : Nat} {x : Int64} (T : own_T Z h ob ag ap al ar ad ac at0 root sb sa pf lf rf cf df gf tf) (D : own_D n0 ob ag ap al ar ad ac at0) (W : Wr h h' ap j (.long x)) (hj : j < 2) : own_T Z h' ob ag ap al ar ad ac at0 root sb sa (own_upd pf j x) lf rf cf df gf tf := by
  obtain ⟨E, F_root, F_priority, F_left, F_right, F_splitBefore, F_splitAfter, F_due, F_length, F_count, F_total, A_priority, A_left, A_right, A_due, A_length, A_count, A_total⟩ := T
  obtain ⟨d0, d1, d2, d3, d4, d5, d6, d7⟩ := D
  exact ⟨E.wr W, F_root.other W (Or.inl (own_ne (by omega))), F_priority.other W (Or.inl (own_ne (by omega))), F_left.other W (Or.inl (own_ne (by omega))), F_right.other W (Or.inl (own_ne (by omega))), F_splitBefore.other W (Or.inl (own_ne (by omega))), F_splitAfter.other W (Or.inl (own_ne (by omega))), F_due.other W (Or.inl (own_ne (by omega))), F_length.other W (Or.inl (own_ne (by omega))), F_count.other W (Or.inl (own_ne (by omega))), F_total.other W (Or.inl (own_ne (by omega))), A_priority.set W hj, A_left.other W (own_ne (by omega)), A_right.other W (own_ne (by omega)), A_due.other W (own_ne (by omega)), A_length.other W (own_ne (by omega)), A_count.other W (own_ne (by omega)), A_total.other W (own_ne (by omega))⟩
theorem own_T.w_left {Z : State} {h h' : Heap} {n0 : Nat} {ob ag ap al ar ad ac at0 : Addr} {root sb sa : Int32} {lf rf cf : Nat → Int32} {pf df gf tf : Nat → Int64} {j : Nat} {x : Int32} (T : own_T Z h ob ag ap al ar ad ac at0 root sb sa pf lf rf cf df gf tf) (D : own_D n0 ob ag ap al ar ad ac at0) (W : Wr h h' al j (.int x)) (hj : j < 2) : own_T Z h' ob ag ap al ar ad ac at0 root sb sa pf (own_upd lf j x) rf cf df gf tf := by
  obtain ⟨E, F_root, F_priority, F_left, F_right, F_splitBefore, F_splitAfter, F_due, F_length, F_count, F_total, A_priority, A_left, A_right, A_due, A_length, A_count, A_total⟩ := T
  obtain ⟨d0, d1, d2, d3, d4, d5, d6, d7⟩ := D
  exact ⟨E.wr W, F_root.other W (Or.inl (own_ne (by omega))), F_priority.other W (Or.inl (own_ne (by omega))), F_left.other W (Or.inl (own_ne (by omega))), F_right.other W (Or.inl (own_ne (by omega))), F_splitBefore.other W (Or.inl (own_ne (by omega))), F_splitAfter.other W (Or.inl (own_ne (by omega))), F_due.other W (Or.inl (own_ne (by omega))), F_length.other W (Or.inl (own_ne (by omega))), F_count.other W (Or.inl (own_ne (by omega))), F_total.other W (Or.inl (own_ne (by omega))), A_priority.other W (own_ne (by omega)), A_left.set W hj, A_right.other W (own_ne (by omega)), A_due.other W (own_ne (by omega)), A_length.other W (own_ne (by omega)), A_count.other W (own_ne (by omega)), A_total.other W (own_ne (by omega))⟩
theorem own_T.w_right {Z : State} {h h' : Heap} {n0 : Nat} {ob ag ap al ar ad ac at0 : Addr} {root sb sa : Int32} {lf rf cf : Nat → Int32} {pf df gf tf : Nat → Int64} {j : Nat} {x : Int32} (T : own_T Z h ob ag ap al ar ad ac at0 root sb sa pf lf rf cf df gf tf) (D : own_D n0 ob ag ap al ar ad ac at0) (W : Wr h h' ar j (.int x)) (hj : j < 2) : own_T Z h' ob ag ap al ar ad ac at0 root sb sa pf lf (own_upd rf j x) cf df gf tf := by
  obtain ⟨E, F_root, F_priority, F_left, F_right, F_splitBefore, F_splitAfter, F_due, F_length, F_count, F_total, A_priority, A_left, A_right, A_due, A_length, A_count, A_total⟩ := T
  obtain ⟨d0, d1, d2, d3, d4, d5, d6, d7⟩ := D
  exact ⟨E.wr W, F_root.other W (Or.inl (own_ne (by omega))), F_priority.other W (Or.inl (own_ne (by omega))), F_left.other W (Or.inl (own_ne (by omega))), F_right.other W (Or.inl (own_ne (by omega))), F_splitBefore.other W (Or.inl (own_ne (by omega))), F_splitAfter.other W (Or.inl (own_ne (by omega))), F_due.other W (Or.inl (own_ne (by omega))), F_length.other W (Or.inl (own_ne (by omega))), F_count.other W (Or.inl (own_ne (by omega))), F_total.other W (Or.inl (own_ne (by omega))), A_priority.other W (own_ne (by omega)), A_left.other W (own_ne (by omega)), A_right.set W hj, A_due.other W (own_ne (by omega)), A_length.other W (own_ne (by omega)), A_count.other W (own_ne (by omega)), A_total.other W (own_ne (by omega))⟩
theorem own_T.w_due {Z : State} {h h' : Heap} {n0 : Nat} {ob ag ap al ar ad ac at0 : Addr} {root sb sa : Int32} {lf rf cf : Nat → Int32} {pf df gf tf : Nat → Int64} {j : Nat} {x : Int64} (T : own_T Z h ob ag ap al ar ad ac at0 root sb sa pf lf rf cf df gf tf) (D : own_D n0 ob ag ap al ar ad ac at0) (W : Wr h h' ad j (.long x)) (hj : j < 2) : own_T Z h' ob ag ap al ar ad ac at0 root sb sa pf lf rf cf (own_upd df j x) gf tf := by
  obtain ⟨E, F_root, F_priority, F_left, F_right, F_splitBefore, F_splitAfter, F_due, F_length, F_count, F_total, A_priority, A_left, A_right, A_due, A_length, A_count, A_total⟩ := T
  obtain ⟨d0, d1, d2, d3, d4, d5, d6, d7⟩ := D
  exact ⟨E.wr W, F_root.other W (Or.inl (own_ne (by omega))), F_priority.other W (Or.inl (own_ne (by omega))), F_left.other W (Or.inl (own_ne (by omega))), F_right.other W (Or.inl (own_ne (by omega))), F_splitBefore.other W (Or.inl (own_ne (by omega))), F_splitAfter.other W (Or.inl (own_ne (by omega))), F_due.other W (Or.inl (own_ne (by omega))), F_length.other W (Or.inl (own_ne (by omega))), F_count.other W (Or.inl (own_ne (by omega))), F_total.other W (Or.inl (own_ne (by omega))), A_priority.other W (own_ne (by omega)), A_left.other W (own_ne (by omega)), A_right.other W (own_ne (by omega)), A_due.set W hj, A_length.other W (own_ne (by omega)), A_count.other W (own_ne (by omega)), A_total.other W (own_ne (by omega))⟩
theorem own_T.w_count {Z : State} {h h' : Heap} {n0 : Nat} {ob ag ap al ar ad ac at0 : Addr} {root sb sa : Int32} {lf rf cf : Nat → Int32} {pf df gf tf : Nat → Int64} {j : Nat} {x : Int32} (T : own_T Z h ob ag ap al ar ad ac at0 root sb sa pf lf rf cf df gf tf) (D : own_D n0 ob ag ap al ar ad ac at0) (W : Wr h h' ac j (.int x)) (hj : j < 2) : own_T Z h' ob ag ap al ar ad ac at0 root sb sa pf lf rf (own_upd cf j x) df gf tf := by
  obtain ⟨E, F_root, F_priority, F_left, F_right, F_splitBefore, F_splitAfter, F_due, F_length, F_count, F_total, A_priority, A_left, A_right, A_due, A_length, A_count, A_total⟩ := T
  obtain ⟨d0, d1, d2, d3, d4, d5, d6, d7⟩ := D
  exact ⟨E.wr W, F_root.other W (Or.inl (own_ne (by omega))), F_priority.other W (Or.inl (own_ne (by omega))), F_left.other W (Or.inl (own_ne (by omega))), F_right.other W (Or.inl (own_ne (by omega))), F_splitBefore.other W (Or.inl (own_ne (by omega))), F_splitAfter.other W (Or.inl (own_ne (by omega))), F_due.other W (Or.inl (own_ne (by omega))), F_length.other W (Or.inl (own_ne (by omega))), F_count.other W (Or.inl (own_ne (by omega))), F_total.other W (Or.inl (own_ne (by omega))), A_priority.other W (own_ne (by omega)), A_left.other W (own_ne (by omega)), A_right.other W (own_ne (by omega)), A_due.other W (own_ne (by omega)), A_length.other W (own_ne (by omega)), A_count.set W hj, A_total.other W (own_ne (by omega))⟩
theorem own_T.w_total {Z : State} {h h' : Heap} {n0 : Nat} {ob ag ap al ar ad ac at0 : Addr} {root sb sa : Int32} {lf rf cf : Nat → Int32} {pf df gf tf : Nat → Int64} {j : Nat} {x : Int64} (T : own_T Z h ob ag ap al ar ad ac at0 root sb sa pf lf rf cf df gf tf) (D : own_D n0 ob ag ap al ar ad ac at0) (W : Wr h h' at0 j (.long x)) (hj : j < 2) : own_T Z h' ob ag ap al ar ad ac at0 root sb sa pf lf rf cf df gf (own_upd tf j x) := by
  obtain ⟨E, F_root, F_priority, F_left, F_right, F_splitBefore, F_splitAfter, F_due, F_length, F_count, F_total, A_priority, A_left, A_right, A_due, A_length, A_count, A_total⟩ := T
  obtain ⟨d0, d1, d2, d3, d4, d5, d6, d7⟩ := D
  exact ⟨E.wr W, F_root.other W (Or.inl (own_ne (by omega))), F_priority.other W (Or.inl (own_ne (by omega))), F_left.other W (Or.inl (own_ne (by omega))), F_right.other W (Or.inl (own_ne (by omega))), F_splitBefore.other W (Or.inl (own_ne (by omega))), F_splitAfter.other W (Or.inl (own_ne (by omega))), F_due.other W (Or.inl (own_ne (by omega))), F_length.other W (Or.inl (own_ne (by omega))), F_count.other W (Or.inl (own_ne (by omega))), F_total.other W (Or.inl (own_ne (by omega))), A_priority.other W (own_ne (by omega)), A_left.other W (own_ne (by omega)), A_right.other W (own_ne (by omega)), A_due.other W (own_ne (by omega)), A_length.other W (own_ne (by omega)), A_count.other W (own_ne (by omega)), A_total.set W hj⟩
theorem own_T.w_root {a0 : Array Value} {Z : State} {h h' : Heap} {n0 : Nat} {ob ag ap al ar ad ac at0 : Addr} {root sb sa : Int32} {lf rf cf : Nat → Int32} {pf df gf tf : Nat → Int64} (hw : ∀ d ∈ tables_1, d.before a0 Z = true) {x : Int32} (T : own_T Z h ob ag ap al ar ad ac at0 root sb sa pf lf rf cf df gf tf) (D : own_D n0 ob ag ap al ar ad ac at0) (W : Wr h h' ob (Jvm.RoadKit.slotOf Z "com/example/accord_scheduler/accordscheduler/Treap" "root" "I") (.int x)) : own_T Z h' ob ag ap al ar ad ac at0 x sb sa pf lf rf cf df gf tf := by
  obtain ⟨E, F_root, F_priority, F_left, F_right, F_splitBefore, F_splitAfter, F_due, F_length, F_count, F_total, A_priority, A_left, A_right, A_due, A_length, A_count, A_total⟩ := T
  obtain ⟨d0, d1, d2, d3, d4, d5, d6, d7⟩ := D
  exact ⟨E.wr W, F_root.same W, F_priority.other W (Or.inr (slot_ne (Or.inl (hw _ (List.mem_of_getElem? (i := 20) rfl))) (Or.inl (hw _ (List.mem_of_getElem? (i := 16) rfl))) (by decide) (t := (.array .long)) (t' := .int) (by decide) (by decide))), F_left.other W (Or.inr (slot_ne (Or.inl (hw _ (List.mem_of_getElem? (i := 23) rfl))) (Or.inl (hw _ (List.mem_of_getElem? (i := 16) rfl))) (by decide) (t := (.array .int)) (t' := .int) (by decide) (by decide))), F_right.other W (Or.inr (slot_ne (Or.inl (hw _ (List.mem_of_getElem? (i := 25) rfl))) (Or.inl (hw _ (List.mem_of_getElem? (i := 16) rfl))) (by decide) (t := (.array .int)) (t' := .int) (by decide) (by decide))), F_splitBefore.other W (Or.inr (slot_ne (Or.inl (hw _ (List.mem_of_getElem? (i := 66) rfl))) (Or.inl (hw _ (List.mem_of_getElem? (i := 16) rfl))) (by decide) (t := .int) (t' := .int) (by decide) (by decide))), F_splitAfter.other W (Or.inr (slot_ne (Or.inl (hw _ (List.mem_of_getElem? (i := 68) rfl))) (Or.inl (hw _ (List.mem_of_getElem? (i := 16) rfl))) (by decide) (t := .int) (t' := .int) (by decide) (by decide))), F_due.other W (Or.inr (slot_ne (Or.inr (hw _ (List.mem_of_getElem? (i := 27) rfl))) (Or.inl (hw _ (List.mem_of_getElem? (i := 16) rfl))) (by decide) (t := (.array .long)) (t' := .int) (by decide) (by decide))), F_length.other W (Or.inr (slot_ne (Or.inr (hw _ (List.mem_of_getElem? (i := 29) rfl))) (Or.inl (hw _ (List.mem_of_getElem? (i := 16) rfl))) (by decide) (t := (.array .long)) (t' := .int) (by decide) (by decide))), F_count.other W (Or.inr (slot_ne (Or.inr (hw _ (List.mem_of_getElem? (i := 31) rfl))) (Or.inl (hw _ (List.mem_of_getElem? (i := 16) rfl))) (by decide) (t := (.array .int)) (t' := .int) (by decide) (by decide))), F_total.other W (Or.inr (slot_ne (Or.inr (hw _ (List.mem_of_getElem? (i := 33) rfl))) (Or.inl (hw _ (List.mem_of_getElem? (i := 16) rfl))) (by decide) (t := (.array .long)) (t' := .int) (by decide) (by decide))), A_priority.other W (own_ne (by omega)), A_left.other W (own_ne (by omega)), A_right.other W (own_ne (by omega)), A_due.other W (own_ne (by omega)), A_length.other W (own_ne (by omega)), A_count.other W (own_ne (by omega)), A_total.other W (own_ne (by omega))⟩
theorem own_T.w_splitBefore {a0 : Array Value} {Z : State} {h h' : Heap} {n0 : Nat} {ob ag ap al ar ad ac at0 : Addr} {root sb sa : Int32} {lf rf cf : Nat → Int32} {pf df gf tf : Nat → Int64} (hw : ∀ d ∈ tables_1, d.before a0 Z = true) {x : Int32} (T : own_T Z h ob ag ap al ar ad ac at0 root sb sa pf lf rf cf df gf tf) (D : own_D n0 ob ag ap al ar ad ac at0) (W : Wr h h' ob (Jvm.RoadKit.slotOf Z "com/example/accord_scheduler/accordscheduler/Treap" "splitBefore" "I") (.int x)) : own_T Z h' ob ag ap al ar ad ac at0 root x sa pf lf rf cf df gf tf := by
  obtain ⟨E, F_root, F_priority, F_left, F_right, F_splitBefore, F_splitAfter, F_due, F_length, F_count, F_total, A_priority, A_left, A_right, A_due, A_length, A_count, A_total⟩ := T
  obtain ⟨d0, d1, d2, d3, d4, d5, d6, d7⟩ := D
  exact ⟨E.wr W, F_root.other W (Or.inr (slot_ne (Or.inl (hw _ (List.mem_of_getElem? (i := 16) rfl))) (Or.inl (hw _ (List.mem_of_getElem? (i := 66) rfl))) (by decide) (t := .int) (t' := .int) (by decide) (by decide))), F_priority.other W (Or.inr (slot_ne (Or.inl (hw _ (List.mem_of_getElem? (i := 20) rfl))) (Or.inl (hw _ (List.mem_of_getElem? (i := 66) rfl))) (by decide) (t := (.array .long)) (t' := .int) (by decide) (by decide))), F_left.other W (Or.inr (slot_ne (Or.inl (hw _ (List.mem_of_getElem? (i := 23) rfl))) (Or.inl (hw _ (List.mem_of_getElem? (i := 66) rfl))) (by decide) (t := (.array .int)) (t' := .int) (by decide) (by decide))), F_right.other W (Or.inr (slot_ne (Or.inl (hw _ (List.mem_of_getElem? (i := 25) rfl))) (Or.inl (hw _ (List.mem_of_getElem? (i := 66) rfl))) (by decide) (t := (.array .int)) (t' := .int) (by decide) (by decide))), F_splitBefore.same W, F_splitAfter.other W (Or.inr (slot_ne (Or.inl (hw _ (List.mem_of_getElem? (i := 68) rfl))) (Or.inl (hw _ (List.mem_of_getElem? (i := 66) rfl))) (by decide) (t := .int) (t' := .int) (by decide) (by decide))), F_due.other W (Or.inr (slot_ne (Or.inr (hw _ (List.mem_of_getElem? (i := 27) rfl))) (Or.inl (hw _ (List.mem_of_getElem? (i := 66) rfl))) (by decide) (t := (.array .long)) (t' := .int) (by decide) (by decide))), F_length.other W (Or.inr (slot_ne (Or.inr (hw _ (List.mem_of_getElem? (i := 29) rfl))) (Or.inl (hw _ (List.mem_of_getElem? (i := 66) rfl))) (by decide) (t := (.array .long)) (t' := .int) (by decide) (by decide))), F_count.other W (Or.inr (slot_ne (Or.inr (hw _ (List.mem_of_getElem? (i := 31) rfl))) (Or.inl (hw _ (List.mem_of_getElem? (i := 66) rfl))) (by decide) (t := (.array .int)) (t' := .int) (by decide) (by decide))), F_total.other W (Or.inr (slot_ne (Or.inr (hw _ (List.mem_of_getElem? (i := 33) rfl))) (Or.inl (hw _ (List.mem_of_getElem? (i := 66) rfl))) (by decide) (t := (.array .long)) (t' := .int) (by decide) (by decide))), A_priority.other W (own_ne (by omega)), A_left.other W (own_ne (by omega)), A_right.other W (own_ne (by omega)), A_due.other W (own_ne (by omega)), A_length.other W (own_ne (by omega)), A_count.other W (own_ne (by omega)), A_total.other W (own_ne (by omega))⟩
theorem own_T.w_splitAfter {a0 : Array Value} {Z : State} {h h' : Heap} {n0 : Nat} {ob ag ap al ar ad ac at0 : Addr} {root sb sa : Int32} {lf rf cf : Nat → Int32} {pf df gf tf : Nat → Int64} (hw : ∀ d ∈ tables_1, d.before a0 Z = true) {x : Int32} (T : own_T Z h ob ag ap al ar ad ac at0 root sb sa pf lf rf cf df gf tf) (D : own_D n0 ob ag ap al ar ad ac at0) (W : Wr h h' ob (Jvm.RoadKit.slotOf Z "com/example/accord_scheduler/accordscheduler/Treap" "splitAfter" "I") (.int x)) : own_T Z h' ob ag ap al ar ad ac at0 root sb x pf lf rf cf df gf tf := by
  obtain ⟨E, F_root, F_priority, F_left, F_right, F_splitBefore, F_splitAfter, F_due, F_length, F_count, F_total, A_priority, A_left, A_right, A_due, A_length, A_count, A_total⟩ := T
  obtain ⟨d0, d1, d2, d3, d4, d5, d6, d7⟩ := D
  exact ⟨E.wr W, F_root.other W (Or.inr (slot_ne (Or.inl (hw _ (List.mem_of_getElem? (i := 16) rfl))) (Or.inl (hw _ (List.mem_of_getElem? (i := 68) rfl))) (by decide) (t := .int) (t' := .int) (by decide) (by decide))), F_priority.other W (Or.inr (slot_ne (Or.inl (hw _ (List.mem_of_getElem? (i := 20) rfl))) (Or.inl (hw _ (List.mem_of_getElem? (i := 68) rfl))) (by decide) (t := (.array .long)) (t' := .int) (by decide) (by decide))), F_left.other W (Or.inr (slot_ne (Or.inl (hw _ (List.mem_of_getElem? (i := 23) rfl))) (Or.inl (hw _ (List.mem_of_getElem? (i := 68) rfl))) (by decide) (t := (.array .int)) (t' := .int) (by decide) (by decide))), F_right.other W (Or.inr (slot_ne (Or.inl (hw _ (List.mem_of_getElem? (i := 25) rfl))) (Or.inl (hw _ (List.mem_of_getElem? (i := 68) rfl))) (by decide) (t := (.array .int)) (t' := .int) (by decide) (by decide))), F_splitBefore.other W (Or.inr (slot_ne (Or.inl (hw _ (List.mem_of_getElem? (i := 66) rfl))) (Or.inl (hw _ (List.mem_of_getElem? (i := 68) rfl))) (by decide) (t := .int) (t' := .int) (by decide) (by decide))), F_splitAfter.same W, F_due.other W (Or.inr (slot_ne (Or.inr (hw _ (List.mem_of_getElem? (i := 27) rfl))) (Or.inl (hw _ (List.mem_of_getElem? (i := 68) rfl))) (by decide) (t := (.array .long)) (t' := .int) (by decide) (by decide))), F_length.other W (Or.inr (slot_ne (Or.inr (hw _ (List.mem_of_getElem? (i := 29) rfl))) (Or.inl (hw _ (List.mem_of_getElem? (i := 68) rfl))) (by decide) (t := (.array .long)) (t' := .int) (by decide) (by decide))), F_count.other W (Or.inr (slot_ne (Or.inr (hw _ (List.mem_of_getElem? (i := 31) rfl))) (Or.inl (hw _ (List.mem_of_getElem? (i := 68) rfl))) (by decide) (t := (.array .int)) (t' := .int) (by decide) (by decide))), F_total.other W (Or.inr (slot_ne (Or.inr (hw _ (List.mem_of_getElem? (i := 33) rfl))) (Or.inl (hw _ (List.mem_of_getElem? (i := 68) rfl))) (by decide) (t := (.array .long)) (t' := .int) (by decide) (by decide))), A_priority.other W (own_ne (by omega)), A_left.other W (own_ne (by omega)), A_right.other W (own_ne (by omega)), A_due.other W (own_ne (by omega)), A_length.other W (own_ne (by omega)), A_count.other W (own_ne (by omega)), A_total.other W (own_ne (by omega))⟩
theorem own_ge {n0 : Nat} {ob ag ap al ar ad ac at0 : Addr} (D : own_D n0 ob ag ap al ar ad ac at0) : n0 ≤ ag ∧ n0 ≤ ap ∧ n0 ≤ al ∧ n0 ≤ ar ∧ n0 ≤ ad ∧ n0 ≤ ac ∧ n0 ≤ at0 := by
  obtain ⟨d0, d1, d2, d3, d4, d5, d6, d7⟩ := D
  omega
theorem own_at0 (a b : Int64) : own_upd (own_upd (fun _ => 0) 0 a) 1 b (0 : Int32).toNatClampNeg = a := rfl
theorem own_at1 (a b : Int64) : own_upd (own_upd (fun _ => 0) 0 a) 1 b (1 : Int32).toNatClampNeg = b := rfl
theorem own_b01 (a b : Int64) : own_Bef (own_upd (own_upd (fun _ => 0) 0 a) 1 b) 0 1 ↔ ¬ b < a := by
  unfold own_Bef
  rw [own_at0, own_at1]
  have e : (0 : Int32) < 1 := by decide
  simp only [e, and_true, Int64.lt_iff_toInt_lt, ← Int64.toInt_inj]
  omega
theorem own_b10 (a b : Int64) : own_Bef (own_upd (own_upd (fun _ => 0) 0 a) 1 b) 1 0 ↔ b < a := by
  unfold own_Bef
  rw [own_at0, own_at1]
  have e : ¬ (1 : Int32) < 0 := by decide
  simp only [e, and_false, or_false]
theorem own_b00 (a b : Int64) : ¬ own_Bef (own_upd (own_upd (fun _ => 0) 0 a) 1 b) 0 0 := by
  unfold own_Bef
  rw [own_at0]
  have e : ¬ (0 : Int32) < 0 := by decide
  simp only [e, and_false, or_false, Int64.lt_iff_toInt_lt]
  omega
theorem own_b11 (a b : Int64) : ¬ own_Bef (own_upd (own_upd (fun _ => 0) 0 a) 1 b) 1 1 := by
  unfold own_Bef
  rw [own_at1]
  have e : ¬ (1 : Int32) < 1 := by decide
  simp only [e, and_false, or_false, Int64.lt_iff_toInt_lt]
  omega
theorem d4_0 : decode prog_94_method_13_code 0 = .ok (.lload_n 0, 1) := by decide +kernel
theorem d4_1 : decode prog_94_method_13_code 1 = .ok (.lconst 1, 1) := by decide +kernel
theorem d4_2 : decode prog_94_method_13_code 2 = .ok (.ladd, 1) := by decide +kernel
theorem d4_3 : decode prog_94_method_13_code 3 = .ok (.ldc2_w 76, 3) := by decide +kernel
theorem d4_6 : decode prog_94_method_13_code 6 = .ok (.lmul, 1) := by decide +kernel
theorem d4_7 : decode prog_94_method_13_code 7 = .ok (.lstore_n 2, 1) := by decide +kernel
theorem d4_8 : decode prog_94_method_13_code 8 = .ok (.lload_n 2, 1) := by decide +kernel
theorem d4_9 : decode prog_94_method_13_code 9 = .ok (.lload_n 2, 1) := by decide +kernel
theorem d4_10 : decode prog_94_method_13_code 10 = .ok (.bipush 30, 2) := by decide +kernel
theorem d4_12 : decode prog_94_method_13_code 12 = .ok (.lushr, 1) := by decide +kernel
theorem d4_13 : decode prog_94_method_13_code 13 = .ok (.lxor, 1) := by decide +kernel
theorem d4_14 : decode prog_94_method_13_code 14 = .ok (.ldc2_w 78, 3) := by decide +kernel
theorem d4_17 : decode prog_94_method_13_code 17 = .ok (.lmul, 1) := by decide +kernel
theorem d4_18 : decode prog_94_method_13_code 18 = .ok (.lstore_n 2, 1) := by decide +kernel
theorem d4_19 : decode prog_94_method_13_code 19 = .ok (.lload_n 2, 1) := by decide +kernel
theorem d4_20 : decode prog_94_method_13_code 20 = .ok (.lload_n 2, 1) := by decide +kernel
theorem d4_21 : decode prog_94_method_13_code 21 = .ok (.bipush 27, 2) := by decide +kernel
theorem d4_23 : decode prog_94_method_13_code 23 = .ok (.lushr, 1) := by decide +kernel
theorem d4_24 : decode prog_94_method_13_code 24 = .ok (.lxor, 1) := by decide +kernel
theorem d4_25 : decode prog_94_method_13_code 25 = .ok (.ldc2_w 80, 3) := by decide +kernel
theorem d4_28 : decode prog_94_method_13_code 28 = .ok (.lmul, 1) := by decide +kernel
theorem d4_29 : decode prog_94_method_13_code 29 = .ok (.lstore_n 2, 1) := by decide +kernel
theorem d4_30 : decode prog_94_method_13_code 30 = .ok (.lload_n 2, 1) := by decide +kernel
theorem d4_31 : decode prog_94_method_13_code 31 = .ok (.lload_n 2, 1) := by decide +kernel
theorem d4_32 : decode prog_94_method_13_code 32 = .ok (.bipush 31, 2) := by decide +kernel
theorem d4_34 : decode prog_94_method_13_code 34 = .ok (.lushr, 1) := by decide +kernel
theorem d4_35 : decode prog_94_method_13_code 35 = .ok (.lxor, 1) := by decide +kernel
theorem d4_36 : decode prog_94_method_13_code 36 = .ok (.lreturn, 1) := by decide +kernel
theorem pn_4 : plainName "com/example/accord_scheduler/accordscheduler/Treap" = true := by first | (simp [plainName, overriddenIn]; done) | decide +kernel
theorem ef_4 (m : MethodId) (q0 : Int64) : entryFrame m #[(.long q0)] 4 = mkF m 0 #[.val (.long q0), .second, .unset, .unset] [] := by first | (simp [entryFrame, mkF, argsToLocals, Value.category]; done) | rfl
def own_mix (q0 : Int64) : Int64 := (((((((q0 + (1 : Int64)) * (-7046029254386353131 : Int64)) ^^^ ((((q0 + (1 : Int64)) * (-7046029254386353131 : Int64)).toUInt64 >>> ((30 : Int32) &&& 0x3f).toInt64.toUInt64).toInt64)) * (-4658895280553007687 : Int64)) ^^^ ((((((q0 + (1 : Int64)) * (-7046029254386353131 : Int64)) ^^^ ((((q0 + (1 : Int64)) * (-7046029254386353131 : Int64)).toUInt64 >>> ((30 : Int32) &&& 0x3f).toInt64.toUInt64).toInt64)) * (-4658895280553007687 : Int64)).toUInt64 >>> ((27 : Int32) &&& 0x3f).toInt64.toUInt64).toInt64)) * (-7723592293110705685 : Int64)) ^^^ ((((((((q0 + (1 : Int64)) * (-7046029254386353131 : Int64)) ^^^ ((((q0 + (1 : Int64)) * (-7046029254386353131 : Int64)).toUInt64 >>> ((30 : Int32) &&& 0x3f).toInt64.toUInt64).toInt64)) * (-4658895280553007687 : Int64)) ^^^ ((((((q0 + (1 : Int64)) * (-7046029254386353131 : Int64)) ^^^ ((((q0 + (1 : Int64)) * (-7046029254386353131 : Int64)).toUInt64 >>> ((30 : Int32) &&& 0x3f).toInt64.toUInt64).toInt64)) * (-4658895280553007687 : Int64)).toUInt64 >>> ((27 : Int32) &&& 0x3f).toInt64.toUInt64).toInt64)) * (-7723592293110705685 : Int64)).toUInt64 >>> ((31 : Int32) &&& 0x3f).toInt64.toUInt64).toInt64))
def Q4 (Z : State) (q0 : Int64)  (h0 : Heap) (n0 : Nat) (v : Option Value) (h : Heap) (L : List Loc) : Prop := v = some (.long (own_mix q0)) ∧ Fr n0 L ∧ h = h0
set_option maxRecDepth 65536 in
set_option maxHeartbeats 40000000 in
theorem rm4 (l : Launch) (Z : State) (a0 : Array Value) (hw : ∀ d ∈ tables_1, d.before a0 Z = true) (ws : List Jvm.Cond) (q0 : Int64)  (h0 : Heap) (n0 : Nat) (Z0 : n0 ≤ h0.size)  :
    MetFree l (⟨"com/example/accord_scheduler/accordscheduler/Treap", "mix", "(J)J"⟩ : MethodName) (head1 (Jvm.Cond.code (⟨"com/example/accord_scheduler/accordscheduler/Treap", "mix", "(J)J"⟩ : MethodName) prog_94_method_13_code 4 (some .long) :: ws) ({ frames := 0, cells := 0, slots := 0, locals := 0 } : Room)) (fun a U => a = #[(.long q0)] ∧ Z.Warmed39 U.vm ∧ U.heap = h0) (fun _ _ _ _ _ => True) (fun _ U o U' => ∃ v L, o = .returned v ∧ Q4 Z q0 h0 n0 v U'.heap L ∧ FrameEnd U o U' L ({ frames := 0, cells := 0, slots := 0, locals := 0 } : Room).cells ({ frames := 0, cells := 0, slots := 0, locals := 0 } : Room).slots) := by
  refine MetFree.of_bodySF (plainFor_of_name pn_4) hisR ?_
  intro p e s m args below meth c s₁ Bd hml0 hP hK
  obtain ⟨rfl, hZ, hh⟩ := hP
  have hx := Bd.exec
  have hby := Bd.bytes
  have hml : c.maxLocals = 4 := hml0
  have hown : s.vm.findClass "com/example/accord_scheduler/accordscheduler/Treap" = some m.cls := findClass_of_methodNamed Bd.named
  have hnm := (name_of_methodNamed Bd.named Bd.method).1
  have X0 : Stand p l e ({ frames := 0, cells := 0, slots := 0, locals := 0 } : Room) s m #[(.long q0)] below meth c s₁ [] 0 0 := Stand.of_body Bd
  have e0 : s₁.heap = h0 := by rw [← hh, Bd.state]; rfl
  have N0 := Fr.nil n0
  have pre0 : ∀ t, Steps p.tables e below (s₁.setTop (mkF m 0 #[.val (.long q0), .second, .unset, .unset] [])) t → Steps p.tables e below (s₁.setTop (entryFrame m #[(.long q0)] 4)) t := fun t k => castTop (ef_4 m q0) k
  have pre1 : ∀ t, Steps p.tables e below (s₁.setTop (mkF m 36 #[.val (.long q0), .second, .val (.long ((((((q0 + (1 : Int64)) * (-7046029254386353131 : Int64)) ^^^ ((((q0 + (1 : Int64)) * (-7046029254386353131 : Int64)).toUInt64 >>> ((30 : Int32) &&& 0x3f).toInt64.toUInt64).toInt64)) * (-4658895280553007687 : Int64)) ^^^ ((((((q0 + (1 : Int64)) * (-7046029254386353131 : Int64)) ^^^ ((((q0 + (1 : Int64)) * (-7046029254386353131 : Int64)).toUInt64 >>> ((30 : Int32) &&& 0x3f).toInt64.toUInt64).toInt64)) * (-4658895280553007687 : Int64)).toUInt64 >>> ((27 : Int32) &&& 0x3f).toInt64.toUInt64).toInt64)) * (-7723592293110705685 : Int64))), .second] [(.long (((((((q0 + (1 : Int64)) * (-7046029254386353131 : Int64)) ^^^ ((((q0 + (1 : Int64)) * (-7046029254386353131 : Int64)).toUInt64 >>> ((30 : Int32) &&& 0x3f).toInt64.toUInt64).toInt64)) * (-4658895280553007687 : Int64)) ^^^ ((((((q0 + (1 : Int64)) * (-7046029254386353131 : Int64)) ^^^ ((((q0 + (1 : Int64)) * (-7046029254386353131 : Int64)).toUInt64 >>> ((30 : Int32) &&& 0x3f).toInt64.toUInt64).toInt64)) * (-4658895280553007687 : Int64)).toUInt64 >>> ((27 : Int32) &&& 0x3f).toInt64.toUInt64).toInt64)) * (-7723592293110705685 : Int64)) ^^^ ((((((((q0 + (1 : Int64)) * (-7046029254386353131 : Int64)) ^^^ ((((q0 + (1 : Int64)) * (-7046029254386353131 : Int64)).toUInt64 >>> ((30 : Int32) &&& 0x3f).toInt64.toUInt64).toInt64)) * (-4658895280553007687 : Int64)) ^^^ ((((((q0 + (1 : Int64)) * (-7046029254386353131 : Int64)) ^^^ ((((q0 + (1 : Int64)) * (-7046029254386353131 : Int64)).toUInt64 >>> ((30 : Int32) &&& 0x3f).toInt64.toUInt64).toInt64)) * (-4658895280553007687 : Int64)).toUInt64 >>> ((27 : Int32) &&& 0x3f).toInt64.toUInt64).toInt64)) * (-7723592293110705685 : Int64)).toUInt64 >>> ((31 : Int32) &&& 0x3f).toInt64.toUInt64).toInt64)))])) t → Steps p.tables e below (s₁.setTop (entryFrame m #[(.long q0)] 4)) t := fun t k => pre0 t (by
      show Steps p.tables e below (s₁.setTop (mkF m 0 #[.val (.long q0), .second, .unset, .unset] [])) _
      refine XS.lloadN X0.here hx rfl (hb hby d4_0) rfl ?_
      show Steps p.tables e below (s₁.setTop (mkF m 1 #[.val (.long q0), .second, .unset, .unset] [(.long q0)])) _
      refine XS.lconst X0.here hx rfl (hb hby d4_1) ?_
      show Steps p.tables e below (s₁.setTop (mkF m 2 #[.val (.long q0), .second, .unset, .unset] [(.long (1 : Int64)), (.long q0)])) _
      refine XS.ladd X0.here hx rfl (hb hby d4_2) rfl ?_
      show Steps p.tables e below (s₁.setTop (mkF m 3 #[.val (.long q0), .second, .unset, .unset] [(.long (q0 + (1 : Int64)))])) _
      refine X0.ldc2Long hx hown (mvT hZ (hw _ (List.mem_of_getElem? (i := 40) rfl))) (g := (mkF m 3 #[.val (.long q0), .second, .unset, .unset] [(.long (q0 + (1 : Int64)))])) rfl (hb hby d4_3) _ ?_
      show Steps p.tables e below (s₁.setTop (mkF m 6 #[.val (.long q0), .second, .unset, .unset] [(.long (-7046029254386353131 : Int64)), (.long (q0 + (1 : Int64)))])) _
      refine XS.lmul X0.here hx rfl (hb hby d4_6) rfl ?_
      show Steps p.tables e below (s₁.setTop (mkF m 7 #[.val (.long q0), .second, .unset, .unset] [(.long ((q0 + (1 : Int64)) * (-7046029254386353131 : Int64)))])) _
      refine XS.lstoreN X0.here hx rfl (hb hby d4_7) rfl (l' := #[.val (.long q0), .second, .val (.long ((q0 + (1 : Int64)) * (-7046029254386353131 : Int64))), .second]) rfl ?_
      show Steps p.tables e below (s₁.setTop (mkF m 8 #[.val (.long q0), .second, .val (.long ((q0 + (1 : Int64)) * (-7046029254386353131 : Int64))), .second] [])) _
      refine XS.lloadN X0.here hx rfl (hb hby d4_8) rfl ?_
      show Steps p.tables e below (s₁.setTop (mkF m 9 #[.val (.long q0), .second, .val (.long ((q0 + (1 : Int64)) * (-7046029254386353131 : Int64))), .second] [(.long ((q0 + (1 : Int64)) * (-7046029254386353131 : Int64)))])) _
      refine XS.lloadN X0.here hx rfl (hb hby d4_9) rfl ?_
      show Steps p.tables e below (s₁.setTop (mkF m 10 #[.val (.long q0), .second, .val (.long ((q0 + (1 : Int64)) * (-7046029254386353131 : Int64))), .second] [(.long ((q0 + (1 : Int64)) * (-7046029254386353131 : Int64))), (.long ((q0 + (1 : Int64)) * (-7046029254386353131 : Int64)))])) _
      refine XS.bipush X0.here hx rfl (hb hby d4_10) ?_
      show Steps p.tables e below (s₁.setTop (mkF m 12 #[.val (.long q0), .second, .val (.long ((q0 + (1 : Int64)) * (-7046029254386353131 : Int64))), .second] [(.int (30 : Int32)), (.long ((q0 + (1 : Int64)) * (-7046029254386353131 : Int64))), (.long ((q0 + (1 : Int64)) * (-7046029254386353131 : Int64)))])) _
      refine XS.lushr X0.here hx rfl (hb hby d4_12) rfl ?_
      show Steps p.tables e below (s₁.setTop (mkF m 13 #[.val (.long q0), .second, .val (.long ((q0 + (1 : Int64)) * (-7046029254386353131 : Int64))), .second] [(.long ((((q0 + (1 : Int64)) * (-7046029254386353131 : Int64)).toUInt64 >>> ((30 : Int32) &&& 0x3f).toInt64.toUInt64).toInt64)), (.long ((q0 + (1 : Int64)) * (-7046029254386353131 : Int64)))])) _
      refine XS.lxor X0.here hx rfl (hb hby d4_13) rfl ?_
      show Steps p.tables e below (s₁.setTop (mkF m 14 #[.val (.long q0), .second, .val (.long ((q0 + (1 : Int64)) * (-7046029254386353131 : Int64))), .second] [(.long (((q0 + (1 : Int64)) * (-7046029254386353131 : Int64)) ^^^ ((((q0 + (1 : Int64)) * (-7046029254386353131 : Int64)).toUInt64 >>> ((30 : Int32) &&& 0x3f).toInt64.toUInt64).toInt64)))])) _
      refine X0.ldc2Long hx hown (mvT hZ (hw _ (List.mem_of_getElem? (i := 41) rfl))) (g := (mkF m 14 #[.val (.long q0), .second, .val (.long ((q0 + (1 : Int64)) * (-7046029254386353131 : Int64))), .second] [(.long (((q0 + (1 : Int64)) * (-7046029254386353131 : Int64)) ^^^ ((((q0 + (1 : Int64)) * (-7046029254386353131 : Int64)).toUInt64 >>> ((30 : Int32) &&& 0x3f).toInt64.toUInt64).toInt64)))])) rfl (hb hby d4_14) _ ?_
      show Steps p.tables e below (s₁.setTop (mkF m 17 #[.val (.long q0), .second, .val (.long ((q0 + (1 : Int64)) * (-7046029254386353131 : Int64))), .second] [(.long (-4658895280553007687 : Int64)), (.long (((q0 + (1 : Int64)) * (-7046029254386353131 : Int64)) ^^^ ((((q0 + (1 : Int64)) * (-7046029254386353131 : Int64)).toUInt64 >>> ((30 : Int32) &&& 0x3f).toInt64.toUInt64).toInt64)))])) _
      refine XS.lmul X0.here hx rfl (hb hby d4_17) rfl ?_
      show Steps p.tables e below (s₁.setTop (mkF m 18 #[.val (.long q0), .second, .val (.long ((q0 + (1 : Int64)) * (-7046029254386353131 : Int64))), .second] [(.long ((((q0 + (1 : Int64)) * (-7046029254386353131 : Int64)) ^^^ ((((q0 + (1 : Int64)) * (-7046029254386353131 : Int64)).toUInt64 >>> ((30 : Int32) &&& 0x3f).toInt64.toUInt64).toInt64)) * (-4658895280553007687 : Int64)))])) _
      refine XS.lstoreN X0.here hx rfl (hb hby d4_18) rfl (l' := #[.val (.long q0), .second, .val (.long ((((q0 + (1 : Int64)) * (-7046029254386353131 : Int64)) ^^^ ((((q0 + (1 : Int64)) * (-7046029254386353131 : Int64)).toUInt64 >>> ((30 : Int32) &&& 0x3f).toInt64.toUInt64).toInt64)) * (-4658895280553007687 : Int64))), .second]) rfl ?_
      show Steps p.tables e below (s₁.setTop (mkF m 19 #[.val (.long q0), .second, .val (.long ((((q0 + (1 : Int64)) * (-7046029254386353131 : Int64)) ^^^ ((((q0 + (1 : Int64)) * (-7046029254386353131 : Int64)).toUInt64 >>> ((30 : Int32) &&& 0x3f).toInt64.toUInt64).toInt64)) * (-4658895280553007687 : Int64))), .second] [])) _
      refine XS.lloadN X0.here hx rfl (hb hby d4_19) rfl ?_
      show Steps p.tables e below (s₁.setTop (mkF m 20 #[.val (.long q0), .second, .val (.long ((((q0 + (1 : Int64)) * (-7046029254386353131 : Int64)) ^^^ ((((q0 + (1 : Int64)) * (-7046029254386353131 : Int64)).toUInt64 >>> ((30 : Int32) &&& 0x3f).toInt64.toUInt64).toInt64)) * (-4658895280553007687 : Int64))), .second] [(.long ((((q0 + (1 : Int64)) * (-7046029254386353131 : Int64)) ^^^ ((((q0 + (1 : Int64)) * (-7046029254386353131 : Int64)).toUInt64 >>> ((30 : Int32) &&& 0x3f).toInt64.toUInt64).toInt64)) * (-4658895280553007687 : Int64)))])) _
      refine XS.lloadN X0.here hx rfl (hb hby d4_20) rfl ?_
      show Steps p.tables e below (s₁.setTop (mkF m 21 #[.val (.long q0), .second, .val (.long ((((q0 + (1 : Int64)) * (-7046029254386353131 : Int64)) ^^^ ((((q0 + (1 : Int64)) * (-7046029254386353131 : Int64)).toUInt64 >>> ((30 : Int32) &&& 0x3f).toInt64.toUInt64).toInt64)) * (-4658895280553007687 : Int64))), .second] [(.long ((((q0 + (1 : Int64)) * (-7046029254386353131 : Int64)) ^^^ ((((q0 + (1 : Int64)) * (-7046029254386353131 : Int64)).toUInt64 >>> ((30 : Int32) &&& 0x3f).toInt64.toUInt64).toInt64)) * (-4658895280553007687 : Int64))), (.long ((((q0 + (1 : Int64)) * (-7046029254386353131 : Int64)) ^^^ ((((q0 + (1 : Int64)) * (-7046029254386353131 : Int64)).toUInt64 >>> ((30 : Int32) &&& 0x3f).toInt64.toUInt64).toInt64)) * (-4658895280553007687 : Int64)))])) _
      refine XS.bipush X0.here hx rfl (hb hby d4_21) ?_
      show Steps p.tables e below (s₁.setTop (mkF m 23 #[.val (.long q0), .second, .val (.long ((((q0 + (1 : Int64)) * (-7046029254386353131 : Int64)) ^^^ ((((q0 + (1 : Int64)) * (-7046029254386353131 : Int64)).toUInt64 >>> ((30 : Int32) &&& 0x3f).toInt64.toUInt64).toInt64)) * (-4658895280553007687 : Int64))), .second] [(.int (27 : Int32)), (.long ((((q0 + (1 : Int64)) * (-7046029254386353131 : Int64)) ^^^ ((((q0 + (1 : Int64)) * (-7046029254386353131 : Int64)).toUInt64 >>> ((30 : Int32) &&& 0x3f).toInt64.toUInt64).toInt64)) * (-4658895280553007687 : Int64))), (.long ((((q0 + (1 : Int64)) * (-7046029254386353131 : Int64)) ^^^ ((((q0 + (1 : Int64)) * (-7046029254386353131 : Int64)).toUInt64 >>> ((30 : Int32) &&& 0x3f).toInt64.toUInt64).toInt64)) * (-4658895280553007687 : Int64)))])) _
      refine XS.lushr X0.here hx rfl (hb hby d4_23) rfl ?_
      show Steps p.tables e below (s₁.setTop (mkF m 24 #[.val (.long q0), .second, .val (.long ((((q0 + (1 : Int64)) * (-7046029254386353131 : Int64)) ^^^ ((((q0 + (1 : Int64)) * (-7046029254386353131 : Int64)).toUInt64 >>> ((30 : Int32) &&& 0x3f).toInt64.toUInt64).toInt64)) * (-4658895280553007687 : Int64))), .second] [(.long ((((((q0 + (1 : Int64)) * (-7046029254386353131 : Int64)) ^^^ ((((q0 + (1 : Int64)) * (-7046029254386353131 : Int64)).toUInt64 >>> ((30 : Int32) &&& 0x3f).toInt64.toUInt64).toInt64)) * (-4658895280553007687 : Int64)).toUInt64 >>> ((27 : Int32) &&& 0x3f).toInt64.toUInt64).toInt64)), (.long ((((q0 + (1 : Int64)) * (-7046029254386353131 : Int64)) ^^^ ((((q0 + (1 : Int64)) * (-7046029254386353131 : Int64)).toUInt64 >>> ((30 : Int32) &&& 0x3f).toInt64.toUInt64).toInt64)) * (-4658895280553007687 : Int64)))])) _
      refine XS.lxor X0.here hx rfl (hb hby d4_24) rfl ?_
      show Steps p.tables e below (s₁.setTop (mkF m 25 #[.val (.long q0), .second, .val (.long ((((q0 + (1 : Int64)) * (-7046029254386353131 : Int64)) ^^^ ((((q0 + (1 : Int64)) * (-7046029254386353131 : Int64)).toUInt64 >>> ((30 : Int32) &&& 0x3f).toInt64.toUInt64).toInt64)) * (-4658895280553007687 : Int64))), .second] [(.long (((((q0 + (1 : Int64)) * (-7046029254386353131 : Int64)) ^^^ ((((q0 + (1 : Int64)) * (-7046029254386353131 : Int64)).toUInt64 >>> ((30 : Int32) &&& 0x3f).toInt64.toUInt64).toInt64)) * (-4658895280553007687 : Int64)) ^^^ ((((((q0 + (1 : Int64)) * (-7046029254386353131 : Int64)) ^^^ ((((q0 + (1 : Int64)) * (-7046029254386353131 : Int64)).toUInt64 >>> ((30 : Int32) &&& 0x3f).toInt64.toUInt64).toInt64)) * (-4658895280553007687 : Int64)).toUInt64 >>> ((27 : Int32) &&& 0x3f).toInt64.toUInt64).toInt64)))])) _
      refine X0.ldc2Long hx hown (mvT hZ (hw _ (List.mem_of_getElem? (i := 42) rfl))) (g := (mkF m 25 #[.val (.long q0), .second, .val (.long ((((q0 + (1 : Int64)) * (-7046029254386353131 : Int64)) ^^^ ((((q0 + (1 : Int64)) * (-7046029254386353131 : Int64)).toUInt64 >>> ((30 : Int32) &&& 0x3f).toInt64.toUInt64).toInt64)) * (-4658895280553007687 : Int64))), .second] [(.long (((((q0 + (1 : Int64)) * (-7046029254386353131 : Int64)) ^^^ ((((q0 + (1 : Int64)) * (-7046029254386353131 : Int64)).toUInt64 >>> ((30 : Int32) &&& 0x3f).toInt64.toUInt64).toInt64)) * (-4658895280553007687 : Int64)) ^^^ ((((((q0 + (1 : Int64)) * (-7046029254386353131 : Int64)) ^^^ ((((q0 + (1 : Int64)) * (-7046029254386353131 : Int64)).toUInt64 >>> ((30 : Int32) &&& 0x3f).toInt64.toUInt64).toInt64)) * (-4658895280553007687 : Int64)).toUInt64 >>> ((27 : Int32) &&& 0x3f).toInt64.toUInt64).toInt64)))])) rfl (hb hby d4_25) _ ?_
      show Steps p.tables e below (s₁.setTop (mkF m 28 #[.val (.long q0), .second, .val (.long ((((q0 + (1 : Int64)) * (-7046029254386353131 : Int64)) ^^^ ((((q0 + (1 : Int64)) * (-7046029254386353131 : Int64)).toUInt64 >>> ((30 : Int32) &&& 0x3f).toInt64.toUInt64).toInt64)) * (-4658895280553007687 : Int64))), .second] [(.long (-7723592293110705685 : Int64)), (.long (((((q0 + (1 : Int64)) * (-7046029254386353131 : Int64)) ^^^ ((((q0 + (1 : Int64)) * (-7046029254386353131 : Int64)).toUInt64 >>> ((30 : Int32) &&& 0x3f).toInt64.toUInt64).toInt64)) * (-4658895280553007687 : Int64)) ^^^ ((((((q0 + (1 : Int64)) * (-7046029254386353131 : Int64)) ^^^ ((((q0 + (1 : Int64)) * (-7046029254386353131 : Int64)).toUInt64 >>> ((30 : Int32) &&& 0x3f).toInt64.toUInt64).toInt64)) * (-4658895280553007687 : Int64)).toUInt64 >>> ((27 : Int32) &&& 0x3f).toInt64.toUInt64).toInt64)))])) _
      refine XS.lmul X0.here hx rfl (hb hby d4_28) rfl ?_
      show Steps p.tables e below (s₁.setTop (mkF m 29 #[.val (.long q0), .second, .val (.long ((((q0 + (1 : Int64)) * (-7046029254386353131 : Int64)) ^^^ ((((q0 + (1 : Int64)) * (-7046029254386353131 : Int64)).toUInt64 >>> ((30 : Int32) &&& 0x3f).toInt64.toUInt64).toInt64)) * (-4658895280553007687 : Int64))), .second] [(.long ((((((q0 + (1 : Int64)) * (-7046029254386353131 : Int64)) ^^^ ((((q0 + (1 : Int64)) * (-7046029254386353131 : Int64)).toUInt64 >>> ((30 : Int32) &&& 0x3f).toInt64.toUInt64).toInt64)) * (-4658895280553007687 : Int64)) ^^^ ((((((q0 + (1 : Int64)) * (-7046029254386353131 : Int64)) ^^^ ((((q0 + (1 : Int64)) * (-7046029254386353131 : Int64)).toUInt64 >>> ((30 : Int32) &&& 0x3f).toInt64.toUInt64).toInt64)) * (-4658895280553007687 : Int64)).toUInt64 >>> ((27 : Int32) &&& 0x3f).toInt64.toUInt64).toInt64)) * (-7723592293110705685 : Int64)))])) _
      refine XS.lstoreN X0.here hx rfl (hb hby d4_29) rfl (l' := #[.val (.long q0), .second, .val (.long ((((((q0 + (1 : Int64)) * (-7046029254386353131 : Int64)) ^^^ ((((q0 + (1 : Int64)) * (-7046029254386353131 : Int64)).toUInt64 >>> ((30 : Int32) &&& 0x3f).toInt64.toUInt64).toInt64)) * (-4658895280553007687 : Int64)) ^^^ ((((((q0 + (1 : Int64)) * (-7046029254386353131 : Int64)) ^^^ ((((q0 + (1 : Int64)) * (-7046029254386353131 : Int64)).toUInt64 >>> ((30 : Int32) &&& 0x3f).toInt64.toUInt64).toInt64)) * (-4658895280553007687 : Int64)).toUInt64 >>> ((27 : Int32) &&& 0x3f).toInt64.toUInt64).toInt64)) * (-7723592293110705685 : Int64))), .second]) rfl ?_
      show Steps p.tables e below (s₁.setTop (mkF m 30 #[.val (.long q0), .second, .val (.long ((((((q0 + (1 : Int64)) * (-7046029254386353131 : Int64)) ^^^ ((((q0 + (1 : Int64)) * (-7046029254386353131 : Int64)).toUInt64 >>> ((30 : Int32) &&& 0x3f).toInt64.toUInt64).toInt64)) * (-4658895280553007687 : Int64)) ^^^ ((((((q0 + (1 : Int64)) * (-7046029254386353131 : Int64)) ^^^ ((((q0 + (1 : Int64)) * (-7046029254386353131 : Int64)).toUInt64 >>> ((30 : Int32) &&& 0x3f).toInt64.toUInt64).toInt64)) * (-4658895280553007687 : Int64)).toUInt64 >>> ((27 : Int32) &&& 0x3f).toInt64.toUInt64).toInt64)) * (-7723592293110705685 : Int64))), .second] [])) _
      refine XS.lloadN X0.here hx rfl (hb hby d4_30) rfl ?_
      show Steps p.tables e below (s₁.setTop (mkF m 31 #[.val (.long q0), .second, .val (.long ((((((q0 + (1 : Int64)) * (-7046029254386353131 : Int64)) ^^^ ((((q0 + (1 : Int64)) * (-7046029254386353131 : Int64)).toUInt64 >>> ((30 : Int32) &&& 0x3f).toInt64.toUInt64).toInt64)) * (-4658895280553007687 : Int64)) ^^^ ((((((q0 + (1 : Int64)) * (-7046029254386353131 : Int64)) ^^^ ((((q0 + (1 : Int64)) * (-7046029254386353131 : Int64)).toUInt64 >>> ((30 : Int32) &&& 0x3f).toInt64.toUInt64).toInt64)) * (-4658895280553007687 : Int64)).toUInt64 >>> ((27 : Int32) &&& 0x3f).toInt64.toUInt64).toInt64)) * (-7723592293110705685 : Int64))), .second] [(.long ((((((q0 + (1 : Int64)) * (-7046029254386353131 : Int64)) ^^^ ((((q0 + (1 : Int64)) * (-7046029254386353131 : Int64)).toUInt64 >>> ((30 : Int32) &&& 0x3f).toInt64.toUInt64).toInt64)) * (-4658895280553007687 : Int64)) ^^^ ((((((q0 + (1 : Int64)) * (-7046029254386353131 : Int64)) ^^^ ((((q0 + (1 : Int64)) * (-7046029254386353131 : Int64)).toUInt64 >>> ((30 : Int32) &&& 0x3f).toInt64.toUInt64).toInt64)) * (-4658895280553007687 : Int64)).toUInt64 >>> ((27 : Int32) &&& 0x3f).toInt64.toUInt64).toInt64)) * (-7723592293110705685 : Int64)))])) _
      refine XS.lloadN X0.here hx rfl (hb hby d4_31) rfl ?_
      show Steps p.tables e below (s₁.setTop (mkF m 32 #[.val (.long q0), .second, .val (.long ((((((q0 + (1 : Int64)) * (-7046029254386353131 : Int64)) ^^^ ((((q0 + (1 : Int64)) * (-7046029254386353131 : Int64)).toUInt64 >>> ((30 : Int32) &&& 0x3f).toInt64.toUInt64).toInt64)) * (-4658895280553007687 : Int64)) ^^^ ((((((q0 + (1 : Int64)) * (-7046029254386353131 : Int64)) ^^^ ((((q0 + (1 : Int64)) * (-7046029254386353131 : Int64)).toUInt64 >>> ((30 : Int32) &&& 0x3f).toInt64.toUInt64).toInt64)) * (-4658895280553007687 : Int64)).toUInt64 >>> ((27 : Int32) &&& 0x3f).toInt64.toUInt64).toInt64)) * (-7723592293110705685 : Int64))), .second] [(.long ((((((q0 + (1 : Int64)) * (-7046029254386353131 : Int64)) ^^^ ((((q0 + (1 : Int64)) * (-7046029254386353131 : Int64)).toUInt64 >>> ((30 : Int32) &&& 0x3f).toInt64.toUInt64).toInt64)) * (-4658895280553007687 : Int64)) ^^^ ((((((q0 + (1 : Int64)) * (-7046029254386353131 : Int64)) ^^^ ((((q0 + (1 : Int64)) * (-7046029254386353131 : Int64)).toUInt64 >>> ((30 : Int32) &&& 0x3f).toInt64.toUInt64).toInt64)) * (-4658895280553007687 : Int64)).toUInt64 >>> ((27 : Int32) &&& 0x3f).toInt64.toUInt64).toInt64)) * (-7723592293110705685 : Int64))), (.long ((((((q0 + (1 : Int64)) * (-7046029254386353131 : Int64)) ^^^ ((((q0 + (1 : Int64)) * (-7046029254386353131 : Int64)).toUInt64 >>> ((30 : Int32) &&& 0x3f).toInt64.toUInt64).toInt64)) * (-4658895280553007687 : Int64)) ^^^ ((((((q0 + (1 : Int64)) * (-7046029254386353131 : Int64)) ^^^ ((((q0 + (1 : Int64)) * (-7046029254386353131 : Int64)).toUInt64 >>> ((30 : Int32) &&& 0x3f).toInt64.toUInt64).toInt64)) * (-4658895280553007687 : Int64)).toUInt64 >>> ((27 : Int32) &&& 0x3f).toInt64.toUInt64).toInt64)) * (-7723592293110705685 : Int64)))])) _
      refine XS.bipush X0.here hx rfl (hb hby d4_32) ?_
      show Steps p.tables e below (s₁.setTop (mkF m 34 #[.val (.long q0), .second, .val (.long ((((((q0 + (1 : Int64)) * (-7046029254386353131 : Int64)) ^^^ ((((q0 + (1 : Int64)) * (-7046029254386353131 : Int64)).toUInt64 >>> ((30 : Int32) &&& 0x3f).toInt64.toUInt64).toInt64)) * (-4658895280553007687 : Int64)) ^^^ ((((((q0 + (1 : Int64)) * (-7046029254386353131 : Int64)) ^^^ ((((q0 + (1 : Int64)) * (-7046029254386353131 : Int64)).toUInt64 >>> ((30 : Int32) &&& 0x3f).toInt64.toUInt64).toInt64)) * (-4658895280553007687 : Int64)).toUInt64 >>> ((27 : Int32) &&& 0x3f).toInt64.toUInt64).toInt64)) * (-7723592293110705685 : Int64))), .second] [(.int (31 : Int32)), (.long ((((((q0 + (1 : Int64)) * (-7046029254386353131 : Int64)) ^^^ ((((q0 + (1 : Int64)) * (-7046029254386353131 : Int64)).toUInt64 >>> ((30 : Int32) &&& 0x3f).toInt64.toUInt64).toInt64)) * (-4658895280553007687 : Int64)) ^^^ ((((((q0 + (1 : Int64)) * (-7046029254386353131 : Int64)) ^^^ ((((q0 + (1 : Int64)) * (-7046029254386353131 : Int64)).toUInt64 >>> ((30 : Int32) &&& 0x3f).toInt64.toUInt64).toInt64)) * (-4658895280553007687 : Int64)).toUInt64 >>> ((27 : Int32) &&& 0x3f).toInt64.toUInt64).toInt64)) * (-7723592293110705685 : Int64))), (.long ((((((q0 + (1 : Int64)) * (-7046029254386353131 : Int64)) ^^^ ((((q0 + (1 : Int64)) * (-7046029254386353131 : Int64)).toUInt64 >>> ((30 : Int32) &&& 0x3f).toInt64.toUInt64).toInt64)) * (-4658895280553007687 : Int64)) ^^^ ((((((q0 + (1 : Int64)) * (-7046029254386353131 : Int64)) ^^^ ((((q0 + (1 : Int64)) * (-7046029254386353131 : Int64)).toUInt64 >>> ((30 : Int32) &&& 0x3f).toInt64.toUInt64).toInt64)) * (-4658895280553007687 : Int64)).toUInt64 >>> ((27 : Int32) &&& 0x3f).toInt64.toUInt64).toInt64)) * (-7723592293110705685 : Int64)))])) _
      refine XS.lushr X0.here hx rfl (hb hby d4_34) rfl ?_
      show Steps p.tables e below (s₁.setTop (mkF m 35 #[.val (.long q0), .second, .val (.long ((((((q0 + (1 : Int64)) * (-7046029254386353131 : Int64)) ^^^ ((((q0 + (1 : Int64)) * (-7046029254386353131 : Int64)).toUInt64 >>> ((30 : Int32) &&& 0x3f).toInt64.toUInt64).toInt64)) * (-4658895280553007687 : Int64)) ^^^ ((((((q0 + (1 : Int64)) * (-7046029254386353131 : Int64)) ^^^ ((((q0 + (1 : Int64)) * (-7046029254386353131 : Int64)).toUInt64 >>> ((30 : Int32) &&& 0x3f).toInt64.toUInt64).toInt64)) * (-4658895280553007687 : Int64)).toUInt64 >>> ((27 : Int32) &&& 0x3f).toInt64.toUInt64).toInt64)) * (-7723592293110705685 : Int64))), .second] [(.long ((((((((q0 + (1 : Int64)) * (-7046029254386353131 : Int64)) ^^^ ((((q0 + (1 : Int64)) * (-7046029254386353131 : Int64)).toUInt64 >>> ((30 : Int32) &&& 0x3f).toInt64.toUInt64).toInt64)) * (-4658895280553007687 : Int64)) ^^^ ((((((q0 + (1 : Int64)) * (-7046029254386353131 : Int64)) ^^^ ((((q0 + (1 : Int64)) * (-7046029254386353131 : Int64)).toUInt64 >>> ((30 : Int32) &&& 0x3f).toInt64.toUInt64).toInt64)) * (-4658895280553007687 : Int64)).toUInt64 >>> ((27 : Int32) &&& 0x3f).toInt64.toUInt64).toInt64)) * (-7723592293110705685 : Int64)).toUInt64 >>> ((31 : Int32) &&& 0x3f).toInt64.toUInt64).toInt64)), (.long ((((((q0 + (1 : Int64)) * (-7046029254386353131 : Int64)) ^^^ ((((q0 + (1 : Int64)) * (-7046029254386353131 : Int64)).toUInt64 >>> ((30 : Int32) &&& 0x3f).toInt64.toUInt64).toInt64)) * (-4658895280553007687 : Int64)) ^^^ ((((((q0 + (1 : Int64)) * (-7046029254386353131 : Int64)) ^^^ ((((q0 + (1 : Int64)) * (-7046029254386353131 : Int64)).toUInt64 >>> ((30 : Int32) &&& 0x3f).toInt64.toUInt64).toInt64)) * (-4658895280553007687 : Int64)).toUInt64 >>> ((27 : Int32) &&& 0x3f).toInt64.toUInt64).toInt64)) * (-7723592293110705685 : Int64)))])) _
      refine XS.lxor X0.here hx rfl (hb hby d4_35) rfl ?_
      exact k)
  obtain ⟨fs, hr, hrun, hended, hW, hsame⟩ := X0.leave (v := some (.long (((((((q0 + (1 : Int64)) * (-7046029254386353131 : Int64)) ^^^ ((((q0 + (1 : Int64)) * (-7046029254386353131 : Int64)).toUInt64 >>> ((30 : Int32) &&& 0x3f).toInt64.toUInt64).toInt64)) * (-4658895280553007687 : Int64)) ^^^ ((((((q0 + (1 : Int64)) * (-7046029254386353131 : Int64)) ^^^ ((((q0 + (1 : Int64)) * (-7046029254386353131 : Int64)).toUInt64 >>> ((30 : Int32) &&& 0x3f).toInt64.toUInt64).toInt64)) * (-4658895280553007687 : Int64)).toUInt64 >>> ((27 : Int32) &&& 0x3f).toInt64.toUInt64).toInt64)) * (-7723592293110705685 : Int64)) ^^^ ((((((((q0 + (1 : Int64)) * (-7046029254386353131 : Int64)) ^^^ ((((q0 + (1 : Int64)) * (-7046029254386353131 : Int64)).toUInt64 >>> ((30 : Int32) &&& 0x3f).toInt64.toUInt64).toInt64)) * (-4658895280553007687 : Int64)) ^^^ ((((((q0 + (1 : Int64)) * (-7046029254386353131 : Int64)) ^^^ ((((q0 + (1 : Int64)) * (-7046029254386353131 : Int64)).toUInt64 >>> ((30 : Int32) &&& 0x3f).toInt64.toUInt64).toInt64)) * (-4658895280553007687 : Int64)).toUInt64 >>> ((27 : Int32) &&& 0x3f).toInt64.toUInt64).toInt64)) * (-7723592293110705685 : Int64)).toUInt64 >>> ((31 : Int32) &&& 0x3f).toInt64.toUInt64).toInt64)))) (fun h => by rw [Bd.returns] at h; cases h)
  refine ⟨_, _, pre1 _ ?_, hrun, hended, _, _, rfl, ?_, ⟨_, rfl⟩, hW, hsame.mono (by decide) (by decide)⟩
  · show Steps p.tables e below (s₁.setTop (mkF m 36 #[.val (.long q0), .second, .val (.long ((((((q0 + (1 : Int64)) * (-7046029254386353131 : Int64)) ^^^ ((((q0 + (1 : Int64)) * (-7046029254386353131 : Int64)).toUInt64 >>> ((30 : Int32) &&& 0x3f).toInt64.toUInt64).toInt64)) * (-4658895280553007687 : Int64)) ^^^ ((((((q0 + (1 : Int64)) * (-7046029254386353131 : Int64)) ^^^ ((((q0 + (1 : Int64)) * (-7046029254386353131 : Int64)).toUInt64 >>> ((30 : Int32) &&& 0x3f).toInt64.toUInt64).toInt64)) * (-4658895280553007687 : Int64)).toUInt64 >>> ((27 : Int32) &&& 0x3f).toInt64.toUInt64).toInt64)) * (-7723592293110705685 : Int64))), .second] [(.long (((((((q0 + (1 : Int64)) * (-7046029254386353131 : Int64)) ^^^ ((((q0 + (1 : Int64)) * (-7046029254386353131 : Int64)).toUInt64 >>> ((30 : Int32) &&& 0x3f).toInt64.toUInt64).toInt64)) * (-4658895280553007687 : Int64)) ^^^ ((((((q0 + (1 : Int64)) * (-7046029254386353131 : Int64)) ^^^ ((((q0 + (1 : Int64)) * (-7046029254386353131 : Int64)).toUInt64 >>> ((30 : Int32) &&& 0x3f).toInt64.toUInt64).toInt64)) * (-4658895280553007687 : Int64)).toUInt64 >>> ((27 : Int32) &&& 0x3f).toInt64.toUInt64).toInt64)) * (-7723592293110705685 : Int64)) ^^^ ((((((((q0 + (1 : Int64)) * (-7046029254386353131 : Int64)) ^^^ ((((q0 + (1 : Int64)) * (-7046029254386353131 : Int64)).toUInt64 >>> ((30 : Int32) &&& 0x3f).toInt64.toUInt64).toInt64)) * (-4658895280553007687 : Int64)) ^^^ ((((((q0 + (1 : Int64)) * (-7046029254386353131 : Int64)) ^^^ ((((q0 + (1 : Int64)) * (-7046029254386353131 : Int64)).toUInt64 >>> ((30 : Int32) &&& 0x3f).toInt64.toUInt64).toInt64)) * (-4658895280553007687 : Int64)).toUInt64 >>> ((27 : Int32) &&& 0x3f).toInt64.toUInt64).toInt64)) * (-7723592293110705685 : Int64)).toUInt64 >>> ((31 : Int32) &&& 0x3f).toInt64.toUInt64).toInt64)))])) _
    exact X0.lreturnOut hx Bd.returns (hb hby d4_36) hr
  · show Q4 Z q0 h0 n0 _ s₁.heap _
    rw [e0]
    exact ⟨rfl, N0, rfl⟩
theorem own_mix_lt : own_mix 0 < own_mix 1 := by decide +kernel
theorem d10_0 : decode prog_44_method_14_code 0 = .ok (.iload_n 1, 1) := by decide +kernel
theorem d10_1 : decode prog_44_method_14_code 1 = .ok (.iconst (-1), 1) := by decide +kernel
theorem d10_2 : decode prog_44_method_14_code 2 = .ok (.if_icmp .ne 7, 3) := by decide +kernel
theorem d10_5 : decode prog_44_method_14_code 5 = .ok (.iconst 0, 1) := by decide +kernel
theorem d10_6 : decode prog_44_method_14_code 6 = .ok (.goto 9, 3) := by decide +kernel
theorem d10_9 : decode prog_44_method_14_code 9 = .ok (.aload_n 0, 1) := by decide +kernel
theorem d10_10 : decode prog_44_method_14_code 10 = .ok (.getfield 16, 3) := by decide +kernel
theorem d10_13 : decode prog_44_method_14_code 13 = .ok (.iload_n 1, 1) := by decide +kernel
theorem d10_14 : decode prog_44_method_14_code 14 = .ok (.iaload, 1) := by decide +kernel
theorem d10_15 : decode prog_44_method_14_code 15 = .ok (.ireturn, 1) := by decide +kernel
theorem pn_10 : plainName "com/example/accord_scheduler/accordscheduler/MomentTree" = true := by first | (simp [plainName, overriddenIn]; done) | decide +kernel
theorem ef_10 (m : MethodId) (a0 : Addr) (p1 : Int32) : entryFrame m #[(.ref a0), (.int p1)] 2 = mkF m 0 #[.val (.ref a0), .val (.int p1)] [] := by first | (simp [entryFrame, mkF, argsToLocals, Value.category]; done) | rfl
def Q10 (Z : State) (ob : Addr) (jj : Int32) (ac : Addr) (cf : Nat → Int32) (h0 : Heap) (n0 : Nat) (v : Option Value) (h : Heap) (L : List Loc) : Prop := ∃ z : Int32, v = some (.int z) ∧ Fr n0 L ∧ h = h0
set_option maxRecDepth 65536 in
set_option maxHeartbeats 40000000 in
theorem rm10 (l : Launch) (Z : State) (a0 : Array Value) (hw : ∀ d ∈ tables_1, d.before a0 Z = true) (ws : List Jvm.Cond) (ob : Addr) (jj : Int32) (ac : Addr) (cf : Nat → Int32) (h0 : Heap) (n0 : Nat) (Z0 : n0 ≤ h0.size) (F_count : Fld Z h0 ob "com/example/accord_scheduler/accordscheduler/MomentTree" "count" "[I" (.ref ac)) (A_count : own_I Z h0 ac cf) (hj : own_N jj) :
    MetFree l (⟨"com/example/accord_scheduler/accordscheduler/MomentTree", "size", "(I)I"⟩ : MethodName) (head1 (Jvm.Cond.code (⟨"com/example/accord_scheduler/accordscheduler/MomentTree", "size", "(I)I"⟩ : MethodName) prog_44_method_14_code 2 (some .int) :: ws) ({ frames := 0, cells := 0, slots := 0, locals := 0 } : Room)) (fun a U => a = #[(.ref ob), (.int jj)] ∧ Z.Warmed39 U.vm ∧ U.heap = h0) (fun _ _ _ _ _ => True) (fun _ U o U' => ∃ v L, o = .returned v ∧ Q10 Z ob jj ac cf h0 n0 v U'.heap L ∧ FrameEnd U o U' L ({ frames := 0, cells := 0, slots := 0, locals := 0 } : Room).cells ({ frames := 0, cells := 0, slots := 0, locals := 0 } : Room).slots) := by
  refine MetFree.of_bodySF (plainFor_of_name pn_10) hisR ?_
  intro p e s m args below meth c s₁ Bd hml0 hP hK
  obtain ⟨rfl, hZ, hh⟩ := hP
  have hx := Bd.exec
  have hby := Bd.bytes
  have hml : c.maxLocals = 2 := hml0
  have hown : s.vm.findClass "com/example/accord_scheduler/accordscheduler/MomentTree" = some m.cls := findClass_of_methodNamed Bd.named
  have hnm := (name_of_methodNamed Bd.named Bd.method).1
  have X0 : Stand p l e ({ frames := 0, cells := 0, slots := 0, locals := 0 } : Room) s m #[(.ref ob), (.int jj)] below meth c s₁ [] 0 0 := Stand.of_body Bd
  have e0 : s₁.heap = h0 := by rw [← hh, Bd.state]; rfl
  have N0 := Fr.nil n0
  have pre0 : ∀ t, Steps p.tables e below (s₁.setTop (mkF m 0 #[.val (.ref ob), .val (.int jj)] [])) t → Steps p.tables e below (s₁.setTop (entryFrame m #[(.ref ob), (.int jj)] 2)) t := fun t k => castTop (ef_10 m ob jj) k
  have pre2 : ∀ t, Steps p.tables e below (s₁.setTop (mkF m 2 #[.val (.ref ob), .val (.int jj)] [(.int ((-1) : Int32)), (.int jj)])) t → Steps p.tables e below (s₁.setTop (entryFrame m #[(.ref ob), (.int jj)] 2)) t := fun t k => pre0 t (by
      show Steps p.tables e below (s₁.setTop (mkF m 0 #[.val (.ref ob), .val (.int jj)] [])) _
      refine XS.iloadN X0.here hx rfl (hb hby d10_0) rfl ?_
      show Steps p.tables e below (s₁.setTop (mkF m 1 #[.val (.ref ob), .val (.int jj)] [(.int jj)])) _
      refine XS.iconst X0.here hx rfl (hb hby d10_1) ?_
      exact k)
  by_cases hm : jj = ((-1) : Int32)
  · skip
    have pre3 : ∀ t, Steps p.tables e below (s₁.setTop (mkF m 15 #[.val (.ref ob), .val (.int jj)] [(.int (0 : Int32))])) t → Steps p.tables e below (s₁.setTop (entryFrame m #[(.ref ob), (.int jj)] 2)) t := fun t k => pre2 t (by
        show Steps p.tables e below (s₁.setTop (mkF m 2 #[.val (.ref ob), .val (.int jj)] [(.int ((-1) : Int32)), (.int jj)])) _
        refine XS.icmpNo X0.here hx rfl (hb hby d10_2) rfl (teq hm).2 ?_
        show Steps p.tables e below (s₁.setTop (mkF m 5 #[.val (.ref ob), .val (.int jj)] [])) _
        refine XS.iconst X0.here hx rfl (hb hby d10_5) ?_
        show Steps p.tables e below (s₁.setTop (mkF m 6 #[.val (.ref ob), .val (.int jj)] [(.int (0 : Int32))])) _
        refine XS.goto X0.here hx rfl (pc0 := 6) (pc' := 15) rfl (hb hby d10_6) (by decide) (by decide) ?_
        exact k)
    obtain ⟨fs, hr, hrun, hended, hW, hsame⟩ := X0.leave (v := some (.int (0 : Int32))) (fun h => by rw [Bd.returns] at h; cases h)
    refine ⟨_, _, pre3 _ ?_, hrun, hended, _, _, rfl, ?_, ⟨_, rfl⟩, hW, hsame.mono (by decide) (by decide)⟩
    · show Steps p.tables e below (s₁.setTop (mkF m 15 #[.val (.ref ob), .val (.int jj)] [(.int (0 : Int32))])) _
      exact retI X0 hx Bd.returns (hb hby d10_15) hr
    · show Q10 Z ob jj ac cf h0 n0 _ s₁.heap _
      rw [e0]
      exact ⟨_, rfl, N0, rfl⟩
  · skip
    have hjj : own_B jj := hj.resolve_left hm
    obtain ⟨T4, X4, e4, st4⟩ := getF X0 hx hZ hown (host := "") (Or.inl (hw _ (List.mem_of_getElem? (i := 30) rfl))) Via.refl e0 F_count (g := (mkF m 10 #[.val (.ref ob), .val (.int jj)] [(.ref ob)])) rfl rfl (hb hby d10_10)
    obtain ⟨cl5, Ar5, Sz5, Hs5⟩ := A_count
    have hin5 : ¬ (jj < 0 ∨ cl5.slots.size ≤ (jj).toNatClampNeg) := by rw [Sz5]; exact own_in2 hjj
    have hat5 : cl5.slots[(jj).toNatClampNeg]? = some (.int (cf (jj).toNatClampNeg)) := Hs5 _ (Nat.lt_of_not_le fun q => hin5 (Or.inr (Nat.le_trans (Nat.le_of_eq Sz5) q)))
    have A_count : own_I Z h0 ac cf := ⟨cl5, Ar5, Sz5, Hs5⟩
    have pre6 : ∀ t, Steps p.tables e below (T4.setTop (mkF m 15 #[.val (.ref ob), .val (.int jj)] [(.int (cf (jj).toNatClampNeg))])) t → Steps p.tables e below (s₁.setTop (entryFrame m #[(.ref ob), (.int jj)] 2)) t := fun t k => pre2 t (by
        show Steps p.tables e below (s₁.setTop (mkF m 2 #[.val (.ref ob), .val (.int jj)] [(.int ((-1) : Int32)), (.int jj)])) _
        refine XS.icmpYes X0.here hx rfl (pc0 := 2) (pc' := 9) rfl (hb hby d10_2) rfl (feq hm).2 (by decide) (by decide) ?_
        show Steps p.tables e below (s₁.setTop (mkF m 9 #[.val (.ref ob), .val (.int jj)] [])) _
        refine XS.aloadN X0.here hx rfl (hb hby d10_9) rfl rfl ?_
        show Steps p.tables e below (s₁.setTop (mkF m 10 #[.val (.ref ob), .val (.int jj)] [(.ref ob)])) _
        refine st4 _ ?_
        show Steps p.tables e below (T4.setTop (mkF m 13 #[.val (.ref ob), .val (.int jj)] [(.ref ac)])) _
        refine XS.iloadN X4.here hx rfl (hb hby d10_13) rfl ?_
        show Steps p.tables e below (T4.setTop (mkF m 14 #[.val (.ref ob), .val (.int jj)] [(.int jj), (.ref ac)])) _
        refine X4.iaload hx (j := jj) (v := (.int (cf (jj).toNatClampNeg))) (by rw [e4]; exact Ar5.1) (State.isArrayOf_alike hZ.alike Ar5.2.1) Ar5.2.2 hin5 hat5 (g := (mkF m 14 #[.val (.ref ob), .val (.int jj)] [(.int jj), (.ref ac)])) rfl rfl (hb hby d10_14) _ ?_
        exact k)
    obtain ⟨fs, hr, hrun, hended, hW, hsame⟩ := X4.leave (v := some (.int (cf (jj).toNatClampNeg))) (fun h => by rw [Bd.returns] at h; cases h)
    refine ⟨_, _, pre6 _ ?_, hrun, hended, _, _, rfl, ?_, ⟨_, rfl⟩, hW, hsame.mono (by decide) (by decide)⟩
    · show Steps p.tables e below (T4.setTop (mkF m 15 #[.val (.ref ob), .val (.int jj)] [(.int (cf (jj).toNatClampNeg))])) _
      exact retI X4 hx Bd.returns (hb hby d10_15) hr
    · show Q10 Z ob jj ac cf h0 n0 _ T4.heap _
      rw [e4]
      exact ⟨_, rfl, N0, rfl⟩
theorem d11_0 : decode prog_44_method_15_code 0 = .ok (.iload_n 1, 1) := by decide +kernel
theorem d11_1 : decode prog_44_method_15_code 1 = .ok (.iconst (-1), 1) := by decide +kernel
theorem d11_2 : decode prog_44_method_15_code 2 = .ok (.if_icmp .ne 7, 3) := by decide +kernel
theorem d11_5 : decode prog_44_method_15_code 5 = .ok (.lconst 0, 1) := by decide +kernel
theorem d11_6 : decode prog_44_method_15_code 6 = .ok (.goto 9, 3) := by decide +kernel
theorem d11_9 : decode prog_44_method_15_code 9 = .ok (.aload_n 0, 1) := by decide +kernel
theorem d11_10 : decode prog_44_method_15_code 10 = .ok (.getfield 20, 3) := by decide +kernel
theorem d11_13 : decode prog_44_method_15_code 13 = .ok (.iload_n 1, 1) := by decide +kernel
theorem d11_14 : decode prog_44_method_15_code 14 = .ok (.laload, 1) := by decide +kernel
theorem d11_15 : decode prog_44_method_15_code 15 = .ok (.lreturn, 1) := by decide +kernel
theorem pn_11 : plainName "com/example/accord_scheduler/accordscheduler/MomentTree" = true := by first | (simp [plainName, overriddenIn]; done) | decide +kernel
theorem ef_11 (m : MethodId) (a0 : Addr) (p1 : Int32) : entryFrame m #[(.ref a0), (.int p1)] 2 = mkF m 0 #[.val (.ref a0), .val (.int p1)] [] := by first | (simp [entryFrame, mkF, argsToLocals, Value.category]; done) | rfl
def Q11 (Z : State) (ob : Addr) (jj : Int32) (at0 : Addr) (tf : Nat → Int64) (h0 : Heap) (n0 : Nat) (v : Option Value) (h : Heap) (L : List Loc) : Prop := ∃ z : Int64, v = some (.long z) ∧ Fr n0 L ∧ h = h0
set_option maxRecDepth 65536 in
set_option maxHeartbeats 40000000 in
theorem rm11 (l : Launch) (Z : State) (a0 : Array Value) (hw : ∀ d ∈ tables_1, d.before a0 Z = true) (ws : List Jvm.Cond) (ob : Addr) (jj : Int32) (at0 : Addr) (tf : Nat → Int64) (h0 : Heap) (n0 : Nat) (Z0 : n0 ≤ h0.size) (F_total : Fld Z h0 ob "com/example/accord_scheduler/accordscheduler/MomentTree" "total" "[J" (.ref at0)) (A_total : own_J Z h0 at0 tf) (hj : own_N jj) :
    MetFree l (⟨"com/example/accord_scheduler/accordscheduler/MomentTree", "lengths", "(I)J"⟩ : MethodName) (head1 (Jvm.Cond.code (⟨"com/example/accord_scheduler/accordscheduler/MomentTree", "lengths", "(I)J"⟩ : MethodName) prog_44_method_15_code 2 (some .long) :: ws) ({ frames := 0, cells := 0, slots := 0, locals := 0 } : Room)) (fun a U => a = #[(.ref ob), (.int jj)] ∧ Z.Warmed39 U.vm ∧ U.heap = h0) (fun _ _ _ _ _ => True) (fun _ U o U' => ∃ v L, o = .returned v ∧ Q11 Z ob jj at0 tf h0 n0 v U'.heap L ∧ FrameEnd U o U' L ({ frames := 0, cells := 0, slots := 0, locals := 0 } : Room).cells ({ frames := 0, cells := 0, slots := 0, locals := 0 } : Room).slots) := by
  refine MetFree.of_bodySF (plainFor_of_name pn_11) hisR ?_
  intro p e s m args below meth c s₁ Bd hml0 hP hK
  obtain ⟨rfl, hZ, hh⟩ := hP
  have hx := Bd.exec
  have hby := Bd.bytes
  have hml : c.maxLocals = 2 := hml0
  have hown : s.vm.findClass "com/example/accord_scheduler/accordscheduler/MomentTree" = some m.cls := findClass_of_methodNamed Bd.named
  have hnm := (name_of_methodNamed Bd.named Bd.method).1
  have X0 : Stand p l e ({ frames := 0, cells := 0, slots := 0, locals := 0 } : Room) s m #[(.ref ob), (.int jj)] below meth c s₁ [] 0 0 := Stand.of_body Bd
  have e0 : s₁.heap = h0 := by rw [← hh, Bd.state]; rfl
  have N0 := Fr.nil n0
  have pre0 : ∀ t, Steps p.tables e below (s₁.setTop (mkF m 0 #[.val (.ref ob), .val (.int jj)] [])) t → Steps p.tables e below (s₁.setTop (entryFrame m #[(.ref ob), (.int jj)] 2)) t := fun t k => castTop (ef_11 m ob jj) k
  have pre7 : ∀ t, Steps p.tables e below (s₁.setTop (mkF m 2 #[.val (.ref ob), .val (.int jj)] [(.int ((-1) : Int32)), (.int jj)])) t → Steps p.tables e below (s₁.setTop (entryFrame m #[(.ref ob), (.int jj)] 2)) t := fun t k => pre0 t (by
      show Steps p.tables e below (s₁.setTop (mkF m 0 #[.val (.ref ob), .val (.int jj)] [])) _
      refine XS.iloadN X0.here hx rfl (hb hby d11_0) rfl ?_
      show Steps p.tables e below (s₁.setTop (mkF m 1 #[.val (.ref ob), .val (.int jj)] [(.int jj)])) _
      refine XS.iconst X0.here hx rfl (hb hby d11_1) ?_
      exact k)
  by_cases hm : jj = ((-1) : Int32)
  · skip
    have pre8 : ∀ t, Steps p.tables e below (s₁.setTop (mkF m 15 #[.val (.ref ob), .val (.int jj)] [(.long (0 : Int64))])) t → Steps p.tables e below (s₁.setTop (entryFrame m #[(.ref ob), (.int jj)] 2)) t := fun t k => pre7 t (by
        show Steps p.tables e below (s₁.setTop (mkF m 2 #[.val (.ref ob), .val (.int jj)] [(.int ((-1) : Int32)), (.int jj)])) _
        refine XS.icmpNo X0.here hx rfl (hb hby d11_2) rfl (teq hm).2 ?_
        show Steps p.tables e below (s₁.setTop (mkF m 5 #[.val (.ref ob), .val (.int jj)] [])) _
        refine XS.lconst X0.here hx rfl (hb hby d11_5) ?_
        show Steps p.tables e below (s₁.setTop (mkF m 6 #[.val (.ref ob), .val (.int jj)] [(.long (0 : Int64))])) _
        refine XS.goto X0.here hx rfl (pc0 := 6) (pc' := 15) rfl (hb hby d11_6) (by decide) (by decide) ?_
        exact k)
    obtain ⟨fs, hr, hrun, hended, hW, hsame⟩ := X0.leave (v := some (.long (0 : Int64))) (fun h => by rw [Bd.returns] at h; cases h)
    refine ⟨_, _, pre8 _ ?_, hrun, hended, _, _, rfl, ?_, ⟨_, rfl⟩, hW, hsame.mono (by decide) (by decide)⟩
    · show Steps p.tables e below (s₁.setTop (mkF m 15 #[.val (.ref ob), .val (.int jj)] [(.long (0 : Int64))])) _
      exact X0.lreturnOut hx Bd.returns (hb hby d11_15) hr
    · show Q11 Z ob jj at0 tf h0 n0 _ s₁.heap _
      rw [e0]
      exact ⟨_, rfl, N0, rfl⟩
  · skip
    have hjj : own_B jj := hj.resolve_left hm
    obtain ⟨T9, X9, e9, st9⟩ := getF X0 hx hZ hown (host := "") (Or.inl (hw _ (List.mem_of_getElem? (i := 32) rfl))) Via.refl e0 F_total (g := (mkF m 10 #[.val (.ref ob), .val (.int jj)] [(.ref ob)])) rfl rfl (hb hby d11_10)
    obtain ⟨cl10, Ar10, Sz10, Hs10⟩ := A_total
    have hin10 : ¬ (jj < 0 ∨ cl10.slots.size ≤ (jj).toNatClampNeg) := by rw [Sz10]; exact own_in2 hjj
    have hat10 : cl10.slots[(jj).toNatClampNeg]? = some (.long (tf (jj).toNatClampNeg)) := Hs10 _ (Nat.lt_of_not_le fun q => hin10 (Or.inr (Nat.le_trans (Nat.le_of_eq Sz10) q)))
    have A_total : own_J Z h0 at0 tf := ⟨cl10, Ar10, Sz10, Hs10⟩
    have pre11 : ∀ t, Steps p.tables e below (T9.setTop (mkF m 15 #[.val (.ref ob), .val (.int jj)] [(.long (tf (jj).toNatClampNeg))])) t → Steps p.tables e below (s₁.setTop (entryFrame m #[(.ref ob), (.int jj)] 2)) t := fun t k => pre7 t (by
        show Steps p.tables e below (s₁.setTop (mkF m 2 #[.val (.ref ob), .val (.int jj)] [(.int ((-1) : Int32)), (.int jj)])) _
        refine XS.icmpYes X0.here hx rfl (pc0 := 2) (pc' := 9) rfl (hb hby d11_2) rfl (feq hm).2 (by decide) (by decide) ?_
        show Steps p.tables e below (s₁.setTop (mkF m 9 #[.val (.ref ob), .val (.int jj)] [])) _
        refine XS.aloadN X0.here hx rfl (hb hby d11_9) rfl rfl ?_
        show Steps p.tables e below (s₁.setTop (mkF m 10 #[.val (.ref ob), .val (.int jj)] [(.ref ob)])) _
        refine st9 _ ?_
        show Steps p.tables e below (T9.setTop (mkF m 13 #[.val (.ref ob), .val (.int jj)] [(.ref at0)])) _
        refine XS.iloadN X9.here hx rfl (hb hby d11_13) rfl ?_
        show Steps p.tables e below (T9.setTop (mkF m 14 #[.val (.ref ob), .val (.int jj)] [(.int jj), (.ref at0)])) _
        refine X9.laload hx (j := jj) (v := (.long (tf (jj).toNatClampNeg))) (by rw [e9]; exact Ar10.1) (State.isArrayOf_alike hZ.alike Ar10.2.1) Ar10.2.2 hin10 hat10 (g := (mkF m 14 #[.val (.ref ob), .val (.int jj)] [(.int jj), (.ref at0)])) rfl rfl (hb hby d11_14) _ ?_
        exact k)
    obtain ⟨fs, hr, hrun, hended, hW, hsame⟩ := X9.leave (v := some (.long (tf (jj).toNatClampNeg))) (fun h => by rw [Bd.returns] at h; cases h)
    refine ⟨_, _, pre11 _ ?_, hrun, hended, _, _, rfl, ?_, ⟨_, rfl⟩, hW, hsame.mono (by decide) (by decide)⟩
    · show Steps p.tables e below (T9.setTop (mkF m 15 #[.val (.ref ob), .val (.int jj)] [(.long (tf (jj).toNatClampNeg))])) _
      exact X9.lreturnOut hx Bd.returns (hb hby d11_15) hr
    · show Q11 Z ob jj at0 tf h0 n0 _ T9.heap _
      rw [e9]
      exact ⟨_, rfl, N0, rfl⟩
theorem d12_0 : decode prog_44_method_11_code 0 = .ok (.aload_n 0, 1) := by decide +kernel
theorem d12_1 : decode prog_44_method_11_code 1 = .ok (.getfield 7, 3) := by decide +kernel
theorem d12_4 : decode prog_44_method_11_code 4 = .ok (.iload_n 1, 1) := by decide +kernel
theorem d12_5 : decode prog_44_method_11_code 5 = .ok (.laload, 1) := by decide +kernel
theorem d12_6 : decode prog_44_method_11_code 6 = .ok (.aload_n 0, 1) := by decide +kernel
theorem d12_7 : decode prog_44_method_11_code 7 = .ok (.getfield 7, 3) := by decide +kernel
theorem d12_10 : decode prog_44_method_11_code 10 = .ok (.iload_n 2, 1) := by decide +kernel
theorem d12_11 : decode prog_44_method_11_code 11 = .ok (.laload, 1) := by decide +kernel
theorem d12_12 : decode prog_44_method_11_code 12 = .ok (.lcmp, 1) := by decide +kernel
theorem d12_13 : decode prog_44_method_11_code 13 = .ok (.ifCond .lt 24, 3) := by decide +kernel
theorem d12_16 : decode prog_44_method_11_code 16 = .ok (.aload_n 0, 1) := by decide +kernel
theorem d12_17 : decode prog_44_method_11_code 17 = .ok (.getfield 7, 3) := by decide +kernel
theorem d12_20 : decode prog_44_method_11_code 20 = .ok (.iload_n 1, 1) := by decide +kernel
theorem d12_21 : decode prog_44_method_11_code 21 = .ok (.laload, 1) := by decide +kernel
theorem d12_22 : decode prog_44_method_11_code 22 = .ok (.aload_n 0, 1) := by decide +kernel
theorem d12_23 : decode prog_44_method_11_code 23 = .ok (.getfield 7, 3) := by decide +kernel
theorem d12_26 : decode prog_44_method_11_code 26 = .ok (.iload_n 2, 1) := by decide +kernel
theorem d12_27 : decode prog_44_method_11_code 27 = .ok (.laload, 1) := by decide +kernel
theorem d12_28 : decode prog_44_method_11_code 28 = .ok (.lcmp, 1) := by decide +kernel
theorem d12_29 : decode prog_44_method_11_code 29 = .ok (.ifCond .ne 12, 3) := by decide +kernel
theorem d12_32 : decode prog_44_method_11_code 32 = .ok (.iload_n 1, 1) := by decide +kernel
theorem d12_33 : decode prog_44_method_11_code 33 = .ok (.iload_n 2, 1) := by decide +kernel
theorem d12_34 : decode prog_44_method_11_code 34 = .ok (.if_icmp .ge 7, 3) := by decide +kernel
theorem d12_37 : decode prog_44_method_11_code 37 = .ok (.iconst 1, 1) := by decide +kernel
theorem d12_38 : decode prog_44_method_11_code 38 = .ok (.goto 4, 3) := by decide +kernel
theorem d12_41 : decode prog_44_method_11_code 41 = .ok (.iconst 0, 1) := by decide +kernel
theorem d12_42 : decode prog_44_method_11_code 42 = .ok (.ireturn, 1) := by decide +kernel
theorem pn_12 : plainName "com/example/accord_scheduler/accordscheduler/MomentTree" = true := by first | (simp [plainName, overriddenIn]; done) | decide +kernel
theorem ef_12 (m : MethodId) (a0 : Addr) (p1 : Int32) (p2 : Int32) : entryFrame m #[(.ref a0), (.int p1), (.int p2)] 3 = mkF m 0 #[.val (.ref a0), .val (.int p1), .val (.int p2)] [] := by first | (simp [entryFrame, mkF, argsToLocals, Value.category]; done) | rfl
def Q12 (Z : State) (ob : Addr) (ii : Int32) (jj : Int32) (ad : Addr) (df : Nat → Int64) (h0 : Heap) (n0 : Nat) (v : Option Value) (h : Heap) (L : List Loc) : Prop := ∃ z : Int32, v = some (.int z) ∧ own_says (own_Bef df ii jj) z ∧ Fr n0 L ∧ h = h0
set_option maxRecDepth 65536 in
set_option maxHeartbeats 40000000 in
theorem rm12 (l : Launch) (Z : State) (a0 : Array Value) (hw : ∀ d ∈ tables_1, d.before a0 Z = true) (ws : List Jvm.Cond) (ob : Addr) (ii : Int32) (jj : Int32) (ad : Addr) (df : Nat → Int64) (h0 : Heap) (n0 : Nat) (Z0 : n0 ≤ h0.size) (F_due : Fld Z h0 ob "com/example/accord_scheduler/accordscheduler/MomentTree" "due" "[J" (.ref ad)) (A_due : own_J Z h0 ad df) (hi : own_B ii) (hj : own_B jj) :
    MetFree l (⟨"com/example/accord_scheduler/accordscheduler/MomentTree", "before", "(II)Z"⟩ : MethodName) (head1 (Jvm.Cond.code (⟨"com/example/accord_scheduler/accordscheduler/MomentTree", "before", "(II)Z"⟩ : MethodName) prog_44_method_11_code 3 (some .boolean) :: ws) ({ frames := 0, cells := 0, slots := 0, locals := 0 } : Room)) (fun a U => a = #[(.ref ob), (.int ii), (.int jj)] ∧ Z.Warmed39 U.vm ∧ U.heap = h0) (fun _ _ _ _ _ => True) (fun _ U o U' => ∃ v L, o = .returned v ∧ Q12 Z ob ii jj ad df h0 n0 v U'.heap L ∧ FrameEnd U o U' L ({ frames := 0, cells := 0, slots := 0, locals := 0 } : Room).cells ({ frames := 0, cells := 0, slots := 0, locals := 0 } : Room).slots) := by
  refine MetFree.of_bodySF (plainFor_of_name pn_12) hisR ?_
  intro p e s m args below meth c s₁ Bd hml0 hP hK
  obtain ⟨rfl, hZ, hh⟩ := hP
  have hx := Bd.exec
  have hby := Bd.bytes
  have hml : c.maxLocals = 3 := hml0
  have hown : s.vm.findClass "com/example/accord_scheduler/accordscheduler/MomentTree" = some m.cls := findClass_of_methodNamed Bd.named
  have hnm := (name_of_methodNamed Bd.named Bd.method).1
  have X0 : Stand p l e ({ frames := 0, cells := 0, slots := 0, locals := 0 } : Room) s m #[(.ref ob), (.int ii), (.int jj)] below meth c s₁ [] 0 0 := Stand.of_body Bd
  have e0 : s₁.heap = h0 := by rw [← hh, Bd.state]; rfl
  have N0 := Fr.nil n0
  have pre0 : ∀ t, Steps p.tables e below (s₁.setTop (mkF m 0 #[.val (.ref ob), .val (.int ii), .val (.int jj)] [])) t → Steps p.tables e below (s₁.setTop (entryFrame m #[(.ref ob), (.int ii), (.int jj)] 3)) t := fun t k => castTop (ef_12 m ob ii jj) k
  obtain ⟨T12, X12, e12, st12⟩ := getF X0 hx hZ hown (host := "") (Or.inl (hw _ (List.mem_of_getElem? (i := 26) rfl))) Via.refl e0 F_due (g := (mkF m 1 #[.val (.ref ob), .val (.int ii), .val (.int jj)] [(.ref ob)])) rfl rfl (hb hby d12_1)
  obtain ⟨cl13, Ar13, Sz13, Hs13⟩ := A_due
  have hin13 : ¬ (ii < 0 ∨ cl13.slots.size ≤ (ii).toNatClampNeg) := by rw [Sz13]; exact own_in2 hi
  have hat13 : cl13.slots[(ii).toNatClampNeg]? = some (.long (df (ii).toNatClampNeg)) := Hs13 _ (Nat.lt_of_not_le fun q => hin13 (Or.inr (Nat.le_trans (Nat.le_of_eq Sz13) q)))
  have A_due : own_J Z h0 ad df := ⟨cl13, Ar13, Sz13, Hs13⟩
  obtain ⟨T14, X14, e14, st14⟩ := getF X12 hx hZ hown (host := "") (Or.inl (hw _ (List.mem_of_getElem? (i := 26) rfl))) Via.refl e12 F_due (g := (mkF m 7 #[.val (.ref ob), .val (.int ii), .val (.int jj)] [(.ref ob), (.long (df (ii).toNatClampNeg))])) rfl rfl (hb hby d12_7)
  obtain ⟨cl15, Ar15, Sz15, Hs15⟩ := A_due
  have hin15 : ¬ (jj < 0 ∨ cl15.slots.size ≤ (jj).toNatClampNeg) := by rw [Sz15]; exact own_in2 hj
  have hat15 : cl15.slots[(jj).toNatClampNeg]? = some (.long (df (jj).toNatClampNeg)) := Hs15 _ (Nat.lt_of_not_le fun q => hin15 (Or.inr (Nat.le_trans (Nat.le_of_eq Sz15) q)))
  have A_due : own_J Z h0 ad df := ⟨cl15, Ar15, Sz15, Hs15⟩
  have pre16 : ∀ t, Steps p.tables e below (T14.setTop (mkF m 13 #[.val (.ref ob), .val (.int ii), .val (.int jj)] [(.int (lcmpW (df (ii).toNatClampNeg) (df (jj).toNatClampNeg)))])) t → Steps p.tables e below (s₁.setTop (entryFrame m #[(.ref ob), (.int ii), (.int jj)] 3)) t := fun t k => pre0 t (by
      show Steps p.tables e below (s₁.setTop (mkF m 0 #[.val (.ref ob), .val (.int ii), .val (.int jj)] [])) _
      refine XS.aloadN X0.here hx rfl (hb hby d12_0) rfl rfl ?_
      show Steps p.tables e below (s₁.setTop (mkF m 1 #[.val (.ref ob), .val (.int ii), .val (.int jj)] [(.ref ob)])) _
      refine st12 _ ?_
      show Steps p.tables e below (T12.setTop (mkF m 4 #[.val (.ref ob), .val (.int ii), .val (.int jj)] [(.ref ad)])) _
      refine XS.iloadN X12.here hx rfl (hb hby d12_4) rfl ?_
      show Steps p.tables e below (T12.setTop (mkF m 5 #[.val (.ref ob), .val (.int ii), .val (.int jj)] [(.int ii), (.ref ad)])) _
      refine X12.laload hx (j := ii) (v := (.long (df (ii).toNatClampNeg))) (by rw [e12]; exact Ar13.1) (State.isArrayOf_alike hZ.alike Ar13.2.1) Ar13.2.2 hin13 hat13 (g := (mkF m 5 #[.val (.ref ob), .val (.int ii), .val (.int jj)] [(.int ii), (.ref ad)])) rfl rfl (hb hby d12_5) _ ?_
      show Steps p.tables e below (T12.setTop (mkF m 6 #[.val (.ref ob), .val (.int ii), .val (.int jj)] [(.long (df (ii).toNatClampNeg))])) _
      refine XS.aloadN X12.here hx rfl (hb hby d12_6) rfl rfl ?_
      show Steps p.tables e below (T12.setTop (mkF m 7 #[.val (.ref ob), .val (.int ii), .val (.int jj)] [(.ref ob), (.long (df (ii).toNatClampNeg))])) _
      refine st14 _ ?_
      show Steps p.tables e below (T14.setTop (mkF m 10 #[.val (.ref ob), .val (.int ii), .val (.int jj)] [(.ref ad), (.long (df (ii).toNatClampNeg))])) _
      refine XS.iloadN X14.here hx rfl (hb hby d12_10) rfl ?_
      show Steps p.tables e below (T14.setTop (mkF m 11 #[.val (.ref ob), .val (.int ii), .val (.int jj)] [(.int jj), (.ref ad), (.long (df (ii).toNatClampNeg))])) _
      refine X14.laload hx (j := jj) (v := (.long (df (jj).toNatClampNeg))) (by rw [e14]; exact Ar15.1) (State.isArrayOf_alike hZ.alike Ar15.2.1) Ar15.2.2 hin15 hat15 (g := (mkF m 11 #[.val (.ref ob), .val (.int ii), .val (.int jj)] [(.int jj), (.ref ad), (.long (df (ii).toNatClampNeg))])) rfl rfl (hb hby d12_11) _ ?_
      show Steps p.tables e below (T14.setTop (mkF m 12 #[.val (.ref ob), .val (.int ii), .val (.int jj)] [(.long (df (jj).toNatClampNeg)), (.long (df (ii).toNatClampNeg))])) _
      refine XS.lcmp X14.here hx rfl (hb hby d12_12) rfl ?_
      exact k)
  by_cases hc13 : (df (ii).toNatClampNeg) < (df (jj).toNatClampNeg)
  · skip
    have pre17 : ∀ t, Steps p.tables e below (T14.setTop (mkF m 42 #[.val (.ref ob), .val (.int ii), .val (.int jj)] [(.int (1 : Int32))])) t → Steps p.tables e below (s₁.setTop (entryFrame m #[(.ref ob), (.int ii), (.int jj)] 3)) t := fun t k => pre16 t (by
        show Steps p.tables e below (T14.setTop (mkF m 13 #[.val (.ref ob), .val (.int ii), .val (.int jj)] [(.int (lcmpW (df (ii).toNatClampNeg) (df (jj).toNatClampNeg)))])) _
        refine XS.ifYes X14.here hx rfl (pc0 := 13) (pc' := 37) rfl (hb hby d12_13) rfl ((if0 _ _).trans (tlt ((lw_lt _ _).mpr hc13)).1) (by decide) (by decide) ?_
        show Steps p.tables e below (T14.setTop (mkF m 37 #[.val (.ref ob), .val (.int ii), .val (.int jj)] [])) _
        refine XS.iconst X14.here hx rfl (hb hby d12_37) ?_
        show Steps p.tables e below (T14.setTop (mkF m 38 #[.val (.ref ob), .val (.int ii), .val (.int jj)] [(.int (1 : Int32))])) _
        refine XS.goto X14.here hx rfl (pc0 := 38) (pc' := 42) rfl (hb hby d12_38) (by decide) (by decide) ?_
        exact k)
    obtain ⟨fs, hr, hrun, hended, hW, hsame⟩ := X14.leave (v := some (.int (1 : Int32))) (fun h => by rw [Bd.returns] at h; cases h)
    refine ⟨_, _, pre17 _ ?_, hrun, hended, _, _, rfl, ?_, ⟨_, rfl⟩, hW, hsame.mono (by decide) (by decide)⟩
    · show Steps p.tables e below (T14.setTop (mkF m 42 #[.val (.ref ob), .val (.int ii), .val (.int jj)] [(.int (1 : Int32))])) _
      exact retN X14 hx (t := .boolean) Bd.returns (by simp) (hb hby d12_42) hr
    · show Q12 Z ob ii jj ad df h0 n0 _ T14.heap _
      rw [e14]
      exact ⟨(1 : Int32), rfl, (by simp [own_says, own_Bef, hc13]), N0, rfl⟩
  · skip
    obtain ⟨T18, X18, e18, st18⟩ := getF X14 hx hZ hown (host := "") (Or.inl (hw _ (List.mem_of_getElem? (i := 26) rfl))) Via.refl e14 F_due (g := (mkF m 17 #[.val (.ref ob), .val (.int ii), .val (.int jj)] [(.ref ob)])) rfl rfl (hb hby d12_17)
    obtain ⟨cl19, Ar19, Sz19, Hs19⟩ := A_due
    have hin19 : ¬ (ii < 0 ∨ cl19.slots.size ≤ (ii).toNatClampNeg) := by rw [Sz19]; exact own_in2 hi
    have hat19 : cl19.slots[(ii).toNatClampNeg]? = some (.long (df (ii).toNatClampNeg)) := Hs19 _ (Nat.lt_of_not_le fun q => hin19 (Or.inr (Nat.le_trans (Nat.le_of_eq Sz19) q)))
    have A_due : own_J Z h0 ad df := ⟨cl19, Ar19, Sz19, Hs19⟩
    obtain ⟨T20, X20, e20, st20⟩ := getF X18 hx hZ hown (host := "") (Or.inl (hw _ (List.mem_of_getElem? (i := 26) rfl))) Via.refl e18 F_due (g := (mkF m 23 #[.val (.ref ob), .val (.int ii), .val (.int jj)] [(.ref ob), (.long (df (ii).toNatClampNeg))])) rfl rfl (hb hby d12_23)
    obtain ⟨cl21, Ar21, Sz21, Hs21⟩ := A_due
    have hin21 : ¬ (jj < 0 ∨ cl21.slots.size ≤ (jj).toNatClampNeg) := by rw [Sz21]; exact own_in2 hj
    have hat21 : cl21.slots[(jj).toNatClampNeg]? = some (.long (df (jj).toNatClampNeg)) := Hs21 _ (Nat.lt_of_not_le fun q => hin21 (Or.inr (Nat.le_trans (Nat.le_of_eq Sz21) q)))
    have A_due : own_J Z h0 ad df := ⟨cl21, Ar21, Sz21, Hs21⟩
    have pre22 : ∀ t, Steps p.tables e below (T20.setTop (mkF m 29 #[.val (.ref ob), .val (.int ii), .val (.int jj)] [(.int (lcmpW (df (ii).toNatClampNeg) (df (jj).toNatClampNeg)))])) t → Steps p.tables e below (s₁.setTop (entryFrame m #[(.ref ob), (.int ii), (.int jj)] 3)) t := fun t k => pre16 t (by
        show Steps p.tables e below (T14.setTop (mkF m 13 #[.val (.ref ob), .val (.int ii), .val (.int jj)] [(.int (lcmpW (df (ii).toNatClampNeg) (df (jj).toNatClampNeg)))])) _
        refine XS.ifNo X14.here hx rfl (hb hby d12_13) rfl ((if0 _ _).trans (flt (fun q => hc13 ((lw_lt _ _).mp q))).1) ?_
        show Steps p.tables e below (T14.setTop (mkF m 16 #[.val (.ref ob), .val (.int ii), .val (.int jj)] [])) _
        refine XS.aloadN X14.here hx rfl (hb hby d12_16) rfl rfl ?_
        show Steps p.tables e below (T14.setTop (mkF m 17 #[.val (.ref ob), .val (.int ii), .val (.int jj)] [(.ref ob)])) _
        refine st18 _ ?_
        show Steps p.tables e below (T18.setTop (mkF m 20 #[.val (.ref ob), .val (.int ii), .val (.int jj)] [(.ref ad)])) _
        refine XS.iloadN X18.here hx rfl (hb hby d12_20) rfl ?_
        show Steps p.tables e below (T18.setTop (mkF m 21 #[.val (.ref ob), .val (.int ii), .val (.int jj)] [(.int ii), (.ref ad)])) _
        refine X18.laload hx (j := ii) (v := (.long (df (ii).toNatClampNeg))) (by rw [e18]; exact Ar19.1) (State.isArrayOf_alike hZ.alike Ar19.2.1) Ar19.2.2 hin19 hat19 (g := (mkF m 21 #[.val (.ref ob), .val (.int ii), .val (.int jj)] [(.int ii), (.ref ad)])) rfl rfl (hb hby d12_21) _ ?_
        show Steps p.tables e below (T18.setTop (mkF m 22 #[.val (.ref ob), .val (.int ii), .val (.int jj)] [(.long (df (ii).toNatClampNeg))])) _
        refine XS.aloadN X18.here hx rfl (hb hby d12_22) rfl rfl ?_
        show Steps p.tables e below (T18.setTop (mkF m 23 #[.val (.ref ob), .val (.int ii), .val (.int jj)] [(.ref ob), (.long (df (ii).toNatClampNeg))])) _
        refine st20 _ ?_
        show Steps p.tables e below (T20.setTop (mkF m 26 #[.val (.ref ob), .val (.int ii), .val (.int jj)] [(.ref ad), (.long (df (ii).toNatClampNeg))])) _
        refine XS.iloadN X20.here hx rfl (hb hby d12_26) rfl ?_
        show Steps p.tables e below (T20.setTop (mkF m 27 #[.val (.ref ob), .val (.int ii), .val (.int jj)] [(.int jj), (.ref ad), (.long (df (ii).toNatClampNeg))])) _
        refine X20.laload hx (j := jj) (v := (.long (df (jj).toNatClampNeg))) (by rw [e20]; exact Ar21.1) (State.isArrayOf_alike hZ.alike Ar21.2.1) Ar21.2.2 hin21 hat21 (g := (mkF m 27 #[.val (.ref ob), .val (.int ii), .val (.int jj)] [(.int jj), (.ref ad), (.long (df (ii).toNatClampNeg))])) rfl rfl (hb hby d12_27) _ ?_
        show Steps p.tables e below (T20.setTop (mkF m 28 #[.val (.ref ob), .val (.int ii), .val (.int jj)] [(.long (df (jj).toNatClampNeg)), (.long (df (ii).toNatClampNeg))])) _
        refine XS.lcmp X20.here hx rfl (hb hby d12_28) rfl ?_
        exact k)
    by_cases hc29 : (df (ii).toNatClampNeg) = (df (jj).toNatClampNeg)
    · skip
      have pre23 : ∀ t, Steps p.tables e below (T20.setTop (mkF m 34 #[.val (.ref ob), .val (.int ii), .val (.int jj)] [(.int jj), (.int ii)])) t → Steps p.tables e below (s₁.setTop (entryFrame m #[(.ref ob), (.int ii), (.int jj)] 3)) t := fun t k => pre22 t (by
          show Steps p.tables e below (T20.setTop (mkF m 29 #[.val (.ref ob), .val (.int ii), .val (.int jj)] [(.int (lcmpW (df (ii).toNatClampNeg) (df (jj).toNatClampNeg)))])) _
          refine XS.ifNo X20.here hx rfl (hb hby d12_29) rfl ((if0 _ _).trans (teq ((lw_eq _ _).mpr hc29)).2) ?_
          show Steps p.tables e below (T20.setTop (mkF m 32 #[.val (.ref ob), .val (.int ii), .val (.int jj)] [])) _
          refine XS.iloadN X20.here hx rfl (hb hby d12_32) rfl ?_
          show Steps p.tables e below (T20.setTop (mkF m 33 #[.val (.ref ob), .val (.int ii), .val (.int jj)] [(.int ii)])) _
          refine XS.iloadN X20.here hx rfl (hb hby d12_33) rfl ?_
          exact k)
      by_cases hc34 : ii < jj
      · skip
        have pre24 : ∀ t, Steps p.tables e below (T20.setTop (mkF m 42 #[.val (.ref ob), .val (.int ii), .val (.int jj)] [(.int (1 : Int32))])) t → Steps p.tables e below (s₁.setTop (entryFrame m #[(.ref ob), (.int ii), (.int jj)] 3)) t := fun t k => pre23 t (by
            show Steps p.tables e below (T20.setTop (mkF m 34 #[.val (.ref ob), .val (.int ii), .val (.int jj)] [(.int jj), (.int ii)])) _
            refine XS.icmpNo X20.here hx rfl (hb hby d12_34) rfl (tlt hc34).2.1 ?_
            show Steps p.tables e below (T20.setTop (mkF m 37 #[.val (.ref ob), .val (.int ii), .val (.int jj)] [])) _
            refine XS.iconst X20.here hx rfl (hb hby d12_37) ?_
            show Steps p.tables e below (T20.setTop (mkF m 38 #[.val (.ref ob), .val (.int ii), .val (.int jj)] [(.int (1 : Int32))])) _
            refine XS.goto X20.here hx rfl (pc0 := 38) (pc' := 42) rfl (hb hby d12_38) (by decide) (by decide) ?_
            exact k)
        obtain ⟨fs, hr, hrun, hended, hW, hsame⟩ := X20.leave (v := some (.int (1 : Int32))) (fun h => by rw [Bd.returns] at h; cases h)
        refine ⟨_, _, pre24 _ ?_, hrun, hended, _, _, rfl, ?_, ⟨_, rfl⟩, hW, hsame.mono (by decide) (by decide)⟩
        · show Steps p.tables e below (T20.setTop (mkF m 42 #[.val (.ref ob), .val (.int ii), .val (.int jj)] [(.int (1 : Int32))])) _
          exact retN X20 hx (t := .boolean) Bd.returns (by simp) (hb hby d12_42) hr
        · show Q12 Z ob ii jj ad df h0 n0 _ T20.heap _
          rw [e20]
          exact ⟨(1 : Int32), rfl, (by simp [own_says, own_Bef, hc13, hc29, hc34]), N0, rfl⟩
      · skip
        have pre25 : ∀ t, Steps p.tables e below (T20.setTop (mkF m 42 #[.val (.ref ob), .val (.int ii), .val (.int jj)] [(.int (0 : Int32))])) t → Steps p.tables e below (s₁.setTop (entryFrame m #[(.ref ob), (.int ii), (.int jj)] 3)) t := fun t k => pre23 t (by
            show Steps p.tables e below (T20.setTop (mkF m 34 #[.val (.ref ob), .val (.int ii), .val (.int jj)] [(.int jj), (.int ii)])) _
            refine XS.icmpYes X20.here hx rfl (pc0 := 34) (pc' := 41) rfl (hb hby d12_34) rfl (flt hc34).2.1 (by decide) (by decide) ?_
            show Steps p.tables e below (T20.setTop (mkF m 41 #[.val (.ref ob), .val (.int ii), .val (.int jj)] [])) _
            refine XS.iconst X20.here hx rfl (hb hby d12_41) ?_
            exact k)
        obtain ⟨fs, hr, hrun, hended, hW, hsame⟩ := X20.leave (v := some (.int (0 : Int32))) (fun h => by rw [Bd.returns] at h; cases h)
        refine ⟨_, _, pre25 _ ?_, hrun, hended, _, _, rfl, ?_, ⟨_, rfl⟩, hW, hsame.mono (by decide) (by decide)⟩
        · show Steps p.tables e below (T20.setTop (mkF m 42 #[.val (.ref ob), .val (.int ii), .val (.int jj)] [(.int (0 : Int32))])) _
          exact retN X20 hx (t := .boolean) Bd.returns (by simp) (hb hby d12_42) hr
        · show Q12 Z ob ii jj ad df h0 n0 _ T20.heap _
          rw [e20]
          exact ⟨(0 : Int32), rfl, (by simp [own_says, own_Bef, hc13, hc29, hc34]), N0, rfl⟩
    · skip
      have pre26 : ∀ t, Steps p.tables e below (T20.setTop (mkF m 42 #[.val (.ref ob), .val (.int ii), .val (.int jj)] [(.int (0 : Int32))])) t → Steps p.tables e below (s₁.setTop (entryFrame m #[(.ref ob), (.int ii), (.int jj)] 3)) t := fun t k => pre22 t (by
          show Steps p.tables e below (T20.setTop (mkF m 29 #[.val (.ref ob), .val (.int ii), .val (.int jj)] [(.int (lcmpW (df (ii).toNatClampNeg) (df (jj).toNatClampNeg)))])) _
          refine XS.ifYes X20.here hx rfl (pc0 := 29) (pc' := 41) rfl (hb hby d12_29) rfl ((if0 _ _).trans (feq (fun q => hc29 ((lw_eq _ _).mp q))).2) (by decide) (by decide) ?_
          show Steps p.tables e below (T20.setTop (mkF m 41 #[.val (.ref ob), .val (.int ii), .val (.int jj)] [])) _
          refine XS.iconst X20.here hx rfl (hb hby d12_41) ?_
          exact k)
      obtain ⟨fs, hr, hrun, hended, hW, hsame⟩ := X20.leave (v := some (.int (0 : Int32))) (fun h => by rw [Bd.returns] at h; cases h)
      refine ⟨_, _, pre26 _ ?_, hrun, hended, _, _, rfl, ?_, ⟨_, rfl⟩, hW, hsame.mono (by decide) (by decide)⟩
      · show Steps p.tables e below (T20.setTop (mkF m 42 #[.val (.ref ob), .val (.int ii), .val (.int jj)] [(.int (0 : Int32))])) _
        exact retN X20 hx (t := .boolean) Bd.returns (by simp) (hb hby d12_42) hr
      · show Q12 Z ob ii jj ad df h0 n0 _ T20.heap _
        rw [e20]
        exact ⟨(0 : Int32), rfl, (by simp [own_says, own_Bef, hc13, hc29]), N0, rfl⟩
theorem d6_0 : decode prog_44_method_6_code 0 = .ok (.aload_n 0, 1) := by decide +kernel
theorem d6_1 : decode prog_44_method_6_code 1 = .ok (.getfield 16, 3) := by decide +kernel
theorem d6_4 : decode prog_44_method_6_code 4 = .ok (.iload_n 1, 1) := by decide +kernel
theorem d6_5 : decode prog_44_method_6_code 5 = .ok (.iaload, 1) := by decide +kernel
theorem d6_6 : decode prog_44_method_6_code 6 = .ok (.ifCond .ne 4, 3) := by decide +kernel
theorem d6_9 : decode prog_44_method_6_code 9 = .ok (.return_, 1) := by decide +kernel
theorem d6_10 : decode prog_44_method_6_code 10 = .ok (.aload_n 0, 1) := by decide +kernel
theorem d6_11 : decode prog_44_method_6_code 11 = .ok (.aload_n 0, 1) := by decide +kernel
theorem d6_12 : decode prog_44_method_6_code 12 = .ok (.aload_n 0, 1) := by decide +kernel
theorem d6_13 : decode prog_44_method_6_code 13 = .ok (.getfield 30, 3) := by decide +kernel
theorem d6_16 : decode prog_44_method_6_code 16 = .ok (.iload_n 1, 1) := by decide +kernel
theorem d6_17 : decode prog_44_method_6_code 17 = .ok (.invokevirtual 45, 3) := by decide +kernel
theorem d6_20 : decode prog_44_method_6_code 20 = .ok (.putfield 30, 3) := by decide +kernel
theorem d6_23 : decode prog_44_method_6_code 23 = .ok (.aload_n 0, 1) := by decide +kernel
theorem d6_24 : decode prog_44_method_6_code 24 = .ok (.getfield 16, 3) := by decide +kernel
theorem d6_27 : decode prog_44_method_6_code 27 = .ok (.iload_n 1, 1) := by decide +kernel
theorem d6_28 : decode prog_44_method_6_code 28 = .ok (.iconst 0, 1) := by decide +kernel
theorem d6_29 : decode prog_44_method_6_code 29 = .ok (.iastore, 1) := by decide +kernel
theorem d6_30 : decode prog_44_method_6_code 30 = .ok (.return_, 1) := by decide +kernel
theorem pn_6 : plainName "com/example/accord_scheduler/accordscheduler/MomentTree" = true := by first | (simp [plainName, overriddenIn]; done) | decide +kernel
theorem ef_6 (m : MethodId) (a0 : Addr) (p1 : Int32) : entryFrame m #[(.ref a0), (.int p1)] 2 = mkF m 0 #[.val (.ref a0), .val (.int p1)] [] := by first | (simp [entryFrame, mkF, argsToLocals, Value.category]; done) | rfl
def Q6 (Z : State) (ob : Addr) (jj : Int32) (ac : Addr) (cf : Nat → Int32) (h0 : Heap) (n0 : Nat) (v : Option Value) (h : Heap) (L : List Loc) : Prop := v = none ∧ Fr n0 L ∧ h = h0
set_option maxRecDepth 65536 in
set_option maxHeartbeats 40000000 in
theorem rm6 (l : Launch) (Z : State) (a0 : Array Value) (hw : ∀ d ∈ tables_1, d.before a0 Z = true) (ws : List Jvm.Cond) (ob : Addr) (jj : Int32) (ac : Addr) (cf : Nat → Int32) (h0 : Heap) (n0 : Nat) (Z0 : n0 ≤ h0.size) (F_count : Fld Z h0 ob "com/example/accord_scheduler/accordscheduler/MomentTree" "count" "[I" (.ref ac)) (A_count : own_I Z h0 ac cf) (hj : own_B jj) (hz : cf (jj).toNatClampNeg = 0) :
    MetFree l (⟨"com/example/accord_scheduler/accordscheduler/MomentTree", "remove", "(I)V"⟩ : MethodName) (head1 (Jvm.Cond.code (⟨"com/example/accord_scheduler/accordscheduler/MomentTree", "remove", "(I)V"⟩ : MethodName) prog_44_method_6_code 2 none :: ws) ({ frames := 0, cells := 0, slots := 0, locals := 0 } : Room)) (fun a U => a = #[(.ref ob), (.int jj)] ∧ Z.Warmed39 U.vm ∧ U.heap = h0) (fun _ _ _ _ _ => True) (fun _ U o U' => ∃ v L, o = .returned v ∧ Q6 Z ob jj ac cf h0 n0 v U'.heap L ∧ FrameEnd U o U' L ({ frames := 0, cells := 0, slots := 0, locals := 0 } : Room).cells ({ frames := 0, cells := 0, slots := 0, locals := 0 } : Room).slots) := by
  refine MetFree.of_bodySF (plainFor_of_name pn_6) hisR ?_
  intro p e s m args below meth c s₁ Bd hml0 hP hK
  obtain ⟨rfl, hZ, hh⟩ := hP
  have hx := Bd.exec
  have hby := Bd.bytes
  have hml : c.maxLocals = 2 := hml0
  have hown : s.vm.findClass "com/example/accord_scheduler/accordscheduler/MomentTree" = some m.cls := findClass_of_methodNamed Bd.named
  have hnm := (name_of_methodNamed Bd.named Bd.method).1
  have X0 : Stand p l e ({ frames := 0, cells := 0, slots := 0, locals := 0 } : Room) s m #[(.ref ob), (.int jj)] below meth c s₁ [] 0 0 := Stand.of_body Bd
  have e0 : s₁.heap = h0 := by rw [← hh, Bd.state]; rfl
  have N0 := Fr.nil n0
  have pre0 : ∀ t, Steps p.tables e below (s₁.setTop (mkF m 0 #[.val (.ref ob), .val (.int jj)] [])) t → Steps p.tables e below (s₁.setTop (entryFrame m #[(.ref ob), (.int jj)] 2)) t := fun t k => castTop (ef_6 m ob jj) k
  obtain ⟨T27, X27, e27, st27⟩ := getF X0 hx hZ hown (host := "") (Or.inl (hw _ (List.mem_of_getElem? (i := 30) rfl))) Via.refl e0 F_count (g := (mkF m 1 #[.val (.ref ob), .val (.int jj)] [(.ref ob)])) rfl rfl (hb hby d6_1)
  obtain ⟨cl28, Ar28, Sz28, Hs28⟩ := A_count
  have hin28 : ¬ (jj < 0 ∨ cl28.slots.size ≤ (jj).toNatClampNeg) := by rw [Sz28]; exact own_in2 hj
  have hat28 : cl28.slots[(jj).toNatClampNeg]? = some (.int (cf (jj).toNatClampNeg)) := Hs28 _ (Nat.lt_of_not_le fun q => hin28 (Or.inr (Nat.le_trans (Nat.le_of_eq Sz28) q)))
  have A_count : own_I Z h0 ac cf := ⟨cl28, Ar28, Sz28, Hs28⟩
  have pre29 : ∀ t, Steps p.tables e below (T27.setTop (mkF m 9 #[.val (.ref ob), .val (.int jj)] [])) t → Steps p.tables e below (s₁.setTop (entryFrame m #[(.ref ob), (.int jj)] 2)) t := fun t k => pre0 t (by
      show Steps p.tables e below (s₁.setTop (mkF m 0 #[.val (.ref ob), .val (.int jj)] [])) _
      refine XS.aloadN X0.here hx rfl (hb hby d6_0) rfl rfl ?_
      show Steps p.tables e below (s₁.setTop (mkF m 1 #[.val (.ref ob), .val (.int jj)] [(.ref ob)])) _
      refine st27 _ ?_
      show Steps p.tables e below (T27.setTop (mkF m 4 #[.val (.ref ob), .val (.int jj)] [(.ref ac)])) _
      refine XS.iloadN X27.here hx rfl (hb hby d6_4) rfl ?_
      show Steps p.tables e below (T27.setTop (mkF m 5 #[.val (.ref ob), .val (.int jj)] [(.int jj), (.ref ac)])) _
      refine X27.iaload hx (j := jj) (v := (.int (cf (jj).toNatClampNeg))) (by rw [e27]; exact Ar28.1) (State.isArrayOf_alike hZ.alike Ar28.2.1) Ar28.2.2 hin28 hat28 (g := (mkF m 5 #[.val (.ref ob), .val (.int jj)] [(.int jj), (.ref ac)])) rfl rfl (hb hby d6_5) _ ?_
      show Steps p.tables e below (T27.setTop (mkF m 6 #[.val (.ref ob), .val (.int jj)] [(.int (cf (jj).toNatClampNeg))])) _
      refine XS.ifNo X27.here hx rfl (hb hby d6_6) rfl ((if0 _ _).trans (teq hz).2) ?_
      exact k)
  obtain ⟨fs, hr, hrun, hended, hW, hsame⟩ := X27.leave (v := none) (fun _ => rfl)
  refine ⟨_, _, pre29 _ ?_, hrun, hended, _, _, rfl, ?_, ⟨_, rfl⟩, hW, hsame.mono (by decide) (by decide)⟩
  · show Steps p.tables e below (T27.setTop (mkF m 9 #[.val (.ref ob), .val (.int jj)] [])) _
    exact X27.returnOut hx Bd.returns (hb hby d6_9) hr
  · show Q6 Z ob jj ac cf h0 n0 _ T27.heap _
    rw [e27]
    exact ⟨rfl, N0, rfl⟩
theorem d9_0 : decode prog_44_method_12_code 0 = .ok (.aload_n 0, 1) := by decide +kernel
theorem d9_1 : decode prog_44_method_12_code 1 = .ok (.getfield 16, 3) := by decide +kernel
theorem d9_4 : decode prog_44_method_12_code 4 = .ok (.iload_n 1, 1) := by decide +kernel
theorem d9_5 : decode prog_44_method_12_code 5 = .ok (.aload_n 0, 1) := by decide +kernel
theorem d9_6 : decode prog_44_method_12_code 6 = .ok (.aload_n 0, 1) := by decide +kernel
theorem d9_7 : decode prog_44_method_12_code 7 = .ok (.getfield 47, 3) := by decide +kernel
theorem d9_10 : decode prog_44_method_12_code 10 = .ok (.iload_n 1, 1) := by decide +kernel
theorem d9_11 : decode prog_44_method_12_code 11 = .ok (.iaload, 1) := by decide +kernel
theorem d9_12 : decode prog_44_method_12_code 12 = .ok (.invokevirtual 50, 3) := by decide +kernel
theorem d9_15 : decode prog_44_method_12_code 15 = .ok (.iconst 1, 1) := by decide +kernel
theorem d9_16 : decode prog_44_method_12_code 16 = .ok (.iadd, 1) := by decide +kernel
theorem d9_17 : decode prog_44_method_12_code 17 = .ok (.aload_n 0, 1) := by decide +kernel
theorem d9_18 : decode prog_44_method_12_code 18 = .ok (.aload_n 0, 1) := by decide +kernel
theorem d9_19 : decode prog_44_method_12_code 19 = .ok (.getfield 54, 3) := by decide +kernel
theorem d9_22 : decode prog_44_method_12_code 22 = .ok (.iload_n 1, 1) := by decide +kernel
theorem d9_23 : decode prog_44_method_12_code 23 = .ok (.iaload, 1) := by decide +kernel
theorem d9_24 : decode prog_44_method_12_code 24 = .ok (.invokevirtual 50, 3) := by decide +kernel
theorem d9_27 : decode prog_44_method_12_code 27 = .ok (.iadd, 1) := by decide +kernel
theorem d9_28 : decode prog_44_method_12_code 28 = .ok (.iastore, 1) := by decide +kernel
theorem d9_29 : decode prog_44_method_12_code 29 = .ok (.aload_n 0, 1) := by decide +kernel
theorem d9_30 : decode prog_44_method_12_code 30 = .ok (.getfield 20, 3) := by decide +kernel
theorem d9_33 : decode prog_44_method_12_code 33 = .ok (.iload_n 1, 1) := by decide +kernel
theorem d9_34 : decode prog_44_method_12_code 34 = .ok (.aload_n 0, 1) := by decide +kernel
theorem d9_35 : decode prog_44_method_12_code 35 = .ok (.aload_n 0, 1) := by decide +kernel
theorem d9_36 : decode prog_44_method_12_code 36 = .ok (.getfield 47, 3) := by decide +kernel
theorem d9_39 : decode prog_44_method_12_code 39 = .ok (.iload_n 1, 1) := by decide +kernel
theorem d9_40 : decode prog_44_method_12_code 40 = .ok (.iaload, 1) := by decide +kernel
theorem d9_41 : decode prog_44_method_12_code 41 = .ok (.invokevirtual 57, 3) := by decide +kernel
theorem d9_44 : decode prog_44_method_12_code 44 = .ok (.aload_n 0, 1) := by decide +kernel
theorem d9_45 : decode prog_44_method_12_code 45 = .ok (.getfield 13, 3) := by decide +kernel
theorem d9_48 : decode prog_44_method_12_code 48 = .ok (.iload_n 1, 1) := by decide +kernel
theorem d9_49 : decode prog_44_method_12_code 49 = .ok (.laload, 1) := by decide +kernel
theorem d9_50 : decode prog_44_method_12_code 50 = .ok (.ladd, 1) := by decide +kernel
theorem d9_51 : decode prog_44_method_12_code 51 = .ok (.aload_n 0, 1) := by decide +kernel
theorem d9_52 : decode prog_44_method_12_code 52 = .ok (.aload_n 0, 1) := by decide +kernel
theorem d9_53 : decode prog_44_method_12_code 53 = .ok (.getfield 54, 3) := by decide +kernel
theorem d9_56 : decode prog_44_method_12_code 56 = .ok (.iload_n 1, 1) := by decide +kernel
theorem d9_57 : decode prog_44_method_12_code 57 = .ok (.iaload, 1) := by decide +kernel
theorem d9_58 : decode prog_44_method_12_code 58 = .ok (.invokevirtual 57, 3) := by decide +kernel
theorem d9_61 : decode prog_44_method_12_code 61 = .ok (.ladd, 1) := by decide +kernel
theorem d9_62 : decode prog_44_method_12_code 62 = .ok (.lastore, 1) := by decide +kernel
theorem d9_63 : decode prog_44_method_12_code 63 = .ok (.iload_n 1, 1) := by decide +kernel
theorem d9_64 : decode prog_44_method_12_code 64 = .ok (.ireturn, 1) := by decide +kernel
theorem own_pd0 : parseMethodDescriptor "(I)I" = some ⟨[.int], some .int⟩ := by decide +kernel
theorem own_pd1 : parseMethodDescriptor "(I)J" = some ⟨[.int], some .long⟩ := by decide +kernel
theorem pn_9 : plainName "com/example/accord_scheduler/accordscheduler/MomentTree" = true := by first | (simp [plainName, overriddenIn]; done) | decide +kernel
theorem ef_9 (m : MethodId) (a0 : Addr) (p1 : Int32) : entryFrame m #[(.ref a0), (.int p1)] 2 = mkF m 0 #[.val (.ref a0), .val (.int p1)] [] := by first | (simp [entryFrame, mkF, argsToLocals, Value.category]; done) | rfl
def Q9 (Z : State) (ob : Addr) (jj : Int32) (ag ap al ar ad ac at0 : Addr) (root sb sa : Int32) (pf : Nat → Int64) (lf rf cf : Nat → Int32) (df gf tf : Nat → Int64) (h0 : Heap) (n0 : Nat) (v : Option Value) (h : Heap) (L : List Loc) : Prop := v = some (.int jj) ∧ Fr n0 L ∧ n0 ≤ h.size ∧ ∃ (cv : Int32) (tv : Int64), own_T Z h ob ag ap al ar ad ac at0 root sb sa pf lf rf (own_upd cf (jj).toNatClampNeg cv) df gf (own_upd tf (jj).toNatClampNeg tv)
set_option maxRecDepth 65536 in
set_option maxHeartbeats 40000000 in
theorem rm9 (l : Launch) (Z : State) (a0 : Array Value) (hw : ∀ d ∈ tables_1, d.before a0 Z = true) (ws : List Jvm.Cond) (ob : Addr) (jj : Int32) (ag ap al ar ad ac at0 : Addr) (root sb sa : Int32) (pf : Nat → Int64) (lf rf cf : Nat → Int32) (df gf tf : Nat → Int64) (h0 : Heap) (n0 : Nat) (Z0 : n0 ≤ h0.size) (HT : own_T Z h0 ob ag ap al ar ad ac at0 root sb sa pf lf rf cf df gf tf) (HD : own_D n0 ob ag ap al ar ad ac at0) (hj : own_B jj) (hl : own_N (lf (jj).toNatClampNeg)) (hr : own_N (rf (jj).toNatClampNeg)) :
    MetFree l (⟨"com/example/accord_scheduler/accordscheduler/MomentTree", "update", "(I)I"⟩ : MethodName) (head1 (Jvm.Cond.code (⟨"com/example/accord_scheduler/accordscheduler/MomentTree", "update", "(I)I"⟩ : MethodName) prog_44_method_12_code 2 (some .int) :: ws) ({ frames := 1, cells := 0, slots := 0, locals := 24 } : Room)) (fun a U => a = #[(.ref ob), (.int jj)] ∧ Z.Warmed39 U.vm ∧ U.heap = h0) (fun _ _ _ _ _ => True) (fun _ U o U' => ∃ v L, o = .returned v ∧ Q9 Z ob jj ag ap al ar ad ac at0 root sb sa pf lf rf cf df gf tf h0 n0 v U'.heap L ∧ FrameEnd U o U' L ({ frames := 1, cells := 0, slots := 0, locals := 24 } : Room).cells ({ frames := 1, cells := 0, slots := 0, locals := 24 } : Room).slots) := by
  refine MetFree.of_bodySF (plainFor_of_name pn_9) hisR ?_
  intro p e s m args below meth c s₁ Bd hml0 hP hK
  obtain ⟨rfl, hZ, hh⟩ := hP
  have hx := Bd.exec
  have hby := Bd.bytes
  have hml : c.maxLocals = 2 := hml0
  have hown : s.vm.findClass "com/example/accord_scheduler/accordscheduler/MomentTree" = some m.cls := findClass_of_methodNamed Bd.named
  have hnm := (name_of_methodNamed Bd.named Bd.method).1
  have X0 : Stand p l e ({ frames := 1, cells := 0, slots := 0, locals := 24 } : Room) s m #[(.ref ob), (.int jj)] below meth c s₁ [] 0 0 := Stand.of_body Bd
  have e0 : s₁.heap = h0 := by rw [← hh, Bd.state]; rfl
  have N0 := Fr.nil n0
  have pre0 : ∀ t, Steps p.tables e below (s₁.setTop (mkF m 0 #[.val (.ref ob), .val (.int jj)] [])) t → Steps p.tables e below (s₁.setTop (entryFrame m #[(.ref ob), (.int jj)] 2)) t := fun t k => castTop (ef_9 m ob jj) k
  have HT0 := HT
  obtain ⟨E0, F_root0, F_priority0, F_left0, F_right0, F_splitBefore0, F_splitAfter0, F_due0, F_length0, F_count0, F_total0, A_priority0, A_left0, A_right0, A_due0, A_length0, A_count0, A_total0⟩ := HT0
  obtain ⟨T30, X30, e30, st30⟩ := getF X0 hx hZ hown (host := "") (Or.inl (hw _ (List.mem_of_getElem? (i := 30) rfl))) Via.refl e0 F_count0 (g := (mkF m 1 #[.val (.ref ob), .val (.int jj)] [(.ref ob)])) rfl rfl (hb hby d9_1)
  obtain ⟨T31, X31, e31, st31⟩ := getF X30 hx hZ hown (host := "") (Or.inl (hw _ (List.mem_of_getElem? (i := 74) rfl))) (Via.of (hw _ (List.mem_of_getElem? (i := 75) rfl))) e30 F_left0 (g := (mkF m 7 #[.val (.ref ob), .val (.int jj)] [(.ref ob), (.ref ob), (.int jj), (.ref ac)])) rfl rfl (hb hby d9_7)
  obtain ⟨cl32, Ar32, Sz32, Hs32⟩ := A_left0
  have hin32 : ¬ (jj < 0 ∨ cl32.slots.size ≤ (jj).toNatClampNeg) := by rw [Sz32]; exact own_in2 hj
  have hat32 : cl32.slots[(jj).toNatClampNeg]? = some (.int (lf (jj).toNatClampNeg)) := Hs32 _ (Nat.lt_of_not_le fun q => hin32 (Or.inr (Nat.le_trans (Nat.le_of_eq Sz32) q)))
  have A_left0 : own_I Z h0 al lf := ⟨cl32, Ar32, Sz32, Hs32⟩
  obtain ⟨cq33, q33, q33'⟩ := Exa.cell E0
  obtain ⟨_, _, ⟨T33, L33, k33, n33⟩, -, X33, ⟨Lc33, hQ33, l33, y33, z33⟩, st33⟩ := X31.privateBack hx (y := (⟨"com/example/accord_scheduler/accordscheduler/MomentTree", "size", "(I)I"⟩ : MethodName)) hown (mvT hZ (hw _ (List.mem_of_getElem? (i := 76) rfl))) (mvT hZ (hw _ (List.mem_of_getElem? (i := 77) rfl))) (own_selp (args := #[]) (mvT hZ (hw _ (List.mem_of_getElem? (i := 46) rfl))) rfl (Cond.privateMethod_at (mvP hZ (hw _ (List.mem_of_getElem? (i := 78) rfl)) (args := #[]))) (mvT hZ (hw _ (List.mem_of_getElem? (i := 77) rfl))) (by decide)) (Cond.privateMethod_at (mvP hZ (hw _ (List.mem_of_getElem? (i := 78) rfl)) (args := #[]))) (mvT hZ (hw _ (List.mem_of_getElem? (i := 79) rfl))) (by decide) (backOf (W := 2) (rm10 l Z a0 hw [] ob (lf (jj).toNatClampNeg) ac cf h0 n0 Z0 F_count0 A_count0 hl) hZ (hw _ (List.mem_of_getElem? (i := 79) rfl)) (hw _ (List.mem_of_getElem? (i := 2) rfl)) (by decide) (by decide)) (g := (mkF m 12 #[.val (.ref ob), .val (.int jj)] [(.int (lf (jj).toNatClampNeg)), (.ref ob), (.int jj), (.ref ac)])) rfl (by rw [hml]; rfl) (Steps.refl _) (a := ob) (by rw [e31]; exact q33) q33' (argsL := [(.int (lf (jj).toNatClampNeg))]) (rest := [(.int jj), (.ref ac)]) (lenOf own_pd0 rfl) rfl (by show 2 * 0 + _ ≤ _; exact Nat.le_of_eq rfl) (hb hby d9_12) (fun _ _ => ⟨rfl, e31, (by decide : 0 + 0 ≤ _), (by decide : 0 + 0 ≤ _)⟩)
  dsimp only [Pt.U, Pt.locs, Pt.cells, Pt.slots] at X33 l33 y33 z33 st33 hQ33
  subst l33 y33 z33
  obtain ⟨z33, rfl, N33q, e33⟩ := hQ33
  have N33 := Fr.app N0 N33q
  obtain ⟨T34, X34, e34, st34⟩ := getF X33 hx hZ hown (host := "") (Or.inl (hw _ (List.mem_of_getElem? (i := 80) rfl))) (Via.of (hw _ (List.mem_of_getElem? (i := 81) rfl))) e33 F_right0 (g := (mkF m 19 #[.val (.ref ob), .val (.int jj)] [(.ref ob), (.ref ob), (.int (z33 + (1 : Int32))), (.int jj), (.ref ac)])) rfl rfl (hb hby d9_19)
  obtain ⟨cl35, Ar35, Sz35, Hs35⟩ := A_right0
  have hin35 : ¬ (jj < 0 ∨ cl35.slots.size ≤ (jj).toNatClampNeg) := by rw [Sz35]; exact own_in2 hj
  have hat35 : cl35.slots[(jj).toNatClampNeg]? = some (.int (rf (jj).toNatClampNeg)) := Hs35 _ (Nat.lt_of_not_le fun q => hin35 (Or.inr (Nat.le_trans (Nat.le_of_eq Sz35) q)))
  have A_right0 : own_I Z h0 ar rf := ⟨cl35, Ar35, Sz35, Hs35⟩
  obtain ⟨cq36, q36, q36'⟩ := Exa.cell E0
  obtain ⟨_, _, ⟨T36, L36, k36, n36⟩, -, X36, ⟨Lc36, hQ36, l36, y36, z36⟩, st36⟩ := X34.privateBack hx (y := (⟨"com/example/accord_scheduler/accordscheduler/MomentTree", "size", "(I)I"⟩ : MethodName)) hown (mvT hZ (hw _ (List.mem_of_getElem? (i := 76) rfl))) (mvT hZ (hw _ (List.mem_of_getElem? (i := 77) rfl))) (own_selp (args := #[]) (mvT hZ (hw _ (List.mem_of_getElem? (i := 46) rfl))) rfl (Cond.privateMethod_at (mvP hZ (hw _ (List.mem_of_getElem? (i := 78) rfl)) (args := #[]))) (mvT hZ (hw _ (List.mem_of_getElem? (i := 77) rfl))) (by decide)) (Cond.privateMethod_at (mvP hZ (hw _ (List.mem_of_getElem? (i := 78) rfl)) (args := #[]))) (mvT hZ (hw _ (List.mem_of_getElem? (i := 79) rfl))) (by decide) (backOf (W := 3) (rm10 l Z a0 hw [] ob (rf (jj).toNatClampNeg) ac cf h0 n0 Z0 F_count0 A_count0 hr) hZ (hw _ (List.mem_of_getElem? (i := 79) rfl)) (hw _ (List.mem_of_getElem? (i := 2) rfl)) (by decide) (by decide)) (g := (mkF m 24 #[.val (.ref ob), .val (.int jj)] [(.int (rf (jj).toNatClampNeg)), (.ref ob), (.int (z33 + (1 : Int32))), (.int jj), (.ref ac)])) rfl (by rw [hml]; rfl) (Steps.refl _) (a := ob) (by rw [e34]; exact q36) q36' (argsL := [(.int (rf (jj).toNatClampNeg))]) (rest := [(.int (z33 + (1 : Int32))), (.int jj), (.ref ac)]) (lenOf own_pd0 rfl) rfl (by show 2 * 0 + _ ≤ _; exact Nat.le_of_eq rfl) (hb hby d9_24) (fun _ _ => ⟨rfl, e34, (by decide : 0 + 0 ≤ _), (by decide : 0 + 0 ≤ _)⟩)
  dsimp only [Pt.U, Pt.locs, Pt.cells, Pt.slots] at X36 l36 y36 z36 st36 hQ36
  subst l36 y36 z36
  obtain ⟨z36, rfl, N36q, e36⟩ := hQ36
  have N36 := Fr.app N33 N36q
  obtain ⟨cl37, Ar37, Sz37, Hs37⟩ := A_count0
  have hin37 : ¬ (jj < 0 ∨ cl37.slots.size ≤ (jj).toNatClampNeg) := by rw [Sz37]; exact own_in2 hj
  obtain ⟨T37, h37, X37, e37, W37, st37⟩ := stI X36 hx hZ e36 Ar37 (j := jj) hin37 (g := (mkF m 28 #[.val (.ref ob), .val (.int jj)] [(.int ((z33 + (1 : Int32)) + z36)), (.int jj), (.ref ac)])) rfl rfl (hb hby d9_28)
  have N37 := Fr.snoc X37 N36 (own_ge HD).2.2.2.2.2.1
  have Z37 : n0 ≤ h37.size := Nat.le_trans Z0 (Nat.le_of_eq W37.size.symm)
  have lt37 : (jj).toNatClampNeg < 2 := Nat.lt_of_not_le fun q => hin37 (Or.inr (Nat.le_trans (Nat.le_of_eq Sz37) q))
  have HT1 := own_T.w_count HT HD W37 lt37
  have HT1' := HT1
  obtain ⟨E1, F_root1, F_priority1, F_left1, F_right1, F_splitBefore1, F_splitAfter1, F_due1, F_length1, F_count1, F_total1, A_priority1, A_left1, A_right1, A_due1, A_length1, A_count1, A_total1⟩ := HT1'
  obtain ⟨T38, X38, e38, st38⟩ := getF X37 hx hZ hown (host := "") (Or.inl (hw _ (List.mem_of_getElem? (i := 32) rfl))) Via.refl e37 F_total1 (g := (mkF m 30 #[.val (.ref ob), .val (.int jj)] [(.ref ob)])) rfl rfl (hb hby d9_30)
  obtain ⟨T39, X39, e39, st39⟩ := getF X38 hx hZ hown (host := "") (Or.inl (hw _ (List.mem_of_getElem? (i := 74) rfl))) (Via.of (hw _ (List.mem_of_getElem? (i := 75) rfl))) e38 F_left1 (g := (mkF m 36 #[.val (.ref ob), .val (.int jj)] [(.ref ob), (.ref ob), (.int jj), (.ref at0)])) rfl rfl (hb hby d9_36)
  obtain ⟨cl40, Ar40, Sz40, Hs40⟩ := A_left1
  have hin40 : ¬ (jj < 0 ∨ cl40.slots.size ≤ (jj).toNatClampNeg) := by rw [Sz40]; exact own_in2 hj
  have hat40 : cl40.slots[(jj).toNatClampNeg]? = some (.int (lf (jj).toNatClampNeg)) := Hs40 _ (Nat.lt_of_not_le fun q => hin40 (Or.inr (Nat.le_trans (Nat.le_of_eq Sz40) q)))
  have A_left1 : own_I Z h37 al lf := ⟨cl40, Ar40, Sz40, Hs40⟩
  obtain ⟨cq41, q41, q41'⟩ := Exa.cell E1
  obtain ⟨_, _, ⟨T41, L41, k41, n41⟩, -, X41, ⟨Lc41, hQ41, l41, y41, z41⟩, st41⟩ := X39.privateBack hx (y := (⟨"com/example/accord_scheduler/accordscheduler/MomentTree", "lengths", "(I)J"⟩ : MethodName)) hown (mvT hZ (hw _ (List.mem_of_getElem? (i := 82) rfl))) (mvT hZ (hw _ (List.mem_of_getElem? (i := 83) rfl))) (own_selp (args := #[]) (mvT hZ (hw _ (List.mem_of_getElem? (i := 46) rfl))) rfl (Cond.privateMethod_at (mvP hZ (hw _ (List.mem_of_getElem? (i := 84) rfl)) (args := #[]))) (mvT hZ (hw _ (List.mem_of_getElem? (i := 83) rfl))) (by decide)) (Cond.privateMethod_at (mvP hZ (hw _ (List.mem_of_getElem? (i := 84) rfl)) (args := #[]))) (mvT hZ (hw _ (List.mem_of_getElem? (i := 85) rfl))) (by decide) (backOf (W := 2) (rm11 l Z a0 hw [] ob (lf (jj).toNatClampNeg) at0 tf h37 n0 Z37 F_total1 A_total1 hl) hZ (hw _ (List.mem_of_getElem? (i := 85) rfl)) (hw _ (List.mem_of_getElem? (i := 2) rfl)) (by decide) (by decide)) (g := (mkF m 41 #[.val (.ref ob), .val (.int jj)] [(.int (lf (jj).toNatClampNeg)), (.ref ob), (.int jj), (.ref at0)])) rfl (by rw [hml]; rfl) (Steps.refl _) (a := ob) (by rw [e39]; exact q41) q41' (argsL := [(.int (lf (jj).toNatClampNeg))]) (rest := [(.int jj), (.ref at0)]) (lenOf own_pd1 rfl) rfl (by show 2 * 0 + _ ≤ _; exact Nat.le_of_eq rfl) (hb hby d9_41) (fun _ _ => ⟨rfl, e39, (by decide : 0 + 0 ≤ _), (by decide : 0 + 0 ≤ _)⟩)
  dsimp only [Pt.U, Pt.locs, Pt.cells, Pt.slots] at X41 l41 y41 z41 st41 hQ41
  subst l41 y41 z41
  obtain ⟨z41, rfl, N41q, e41⟩ := hQ41
  have N41 := Fr.app N37 N41q
  obtain ⟨T42, X42, e42, st42⟩ := getF X41 hx hZ hown (host := "") (Or.inl (hw _ (List.mem_of_getElem? (i := 28) rfl))) Via.refl e41 F_length1 (g := (mkF m 45 #[.val (.ref ob), .val (.int jj)] [(.ref ob), (.long z41), (.int jj), (.ref at0)])) rfl rfl (hb hby d9_45)
  obtain ⟨cl43, Ar43, Sz43, Hs43⟩ := A_length1
  have hin43 : ¬ (jj < 0 ∨ cl43.slots.size ≤ (jj).toNatClampNeg) := by rw [Sz43]; exact own_in2 hj
  have hat43 : cl43.slots[(jj).toNatClampNeg]? = some (.long (gf (jj).toNatClampNeg)) := Hs43 _ (Nat.lt_of_not_le fun q => hin43 (Or.inr (Nat.le_trans (Nat.le_of_eq Sz43) q)))
  have A_length1 : own_J Z h37 ag gf := ⟨cl43, Ar43, Sz43, Hs43⟩
  obtain ⟨T44, X44, e44, st44⟩ := getF X42 hx hZ hown (host := "") (Or.inl (hw _ (List.mem_of_getElem? (i := 80) rfl))) (Via.of (hw _ (List.mem_of_getElem? (i := 81) rfl))) e42 F_right1 (g := (mkF m 53 #[.val (.ref ob), .val (.int jj)] [(.ref ob), (.ref ob), (.long (z41 + (gf (jj).toNatClampNeg))), (.int jj), (.ref at0)])) rfl rfl (hb hby d9_53)
  obtain ⟨cl45, Ar45, Sz45, Hs45⟩ := A_right1
  have hin45 : ¬ (jj < 0 ∨ cl45.slots.size ≤ (jj).toNatClampNeg) := by rw [Sz45]; exact own_in2 hj
  have hat45 : cl45.slots[(jj).toNatClampNeg]? = some (.int (rf (jj).toNatClampNeg)) := Hs45 _ (Nat.lt_of_not_le fun q => hin45 (Or.inr (Nat.le_trans (Nat.le_of_eq Sz45) q)))
  have A_right1 : own_I Z h37 ar rf := ⟨cl45, Ar45, Sz45, Hs45⟩
  obtain ⟨cq46, q46, q46'⟩ := Exa.cell E1
  obtain ⟨_, _, ⟨T46, L46, k46, n46⟩, -, X46, ⟨Lc46, hQ46, l46, y46, z46⟩, st46⟩ := X44.privateBack hx (y := (⟨"com/example/accord_scheduler/accordscheduler/MomentTree", "lengths", "(I)J"⟩ : MethodName)) hown (mvT hZ (hw _ (List.mem_of_getElem? (i := 82) rfl))) (mvT hZ (hw _ (List.mem_of_getElem? (i := 83) rfl))) (own_selp (args := #[]) (mvT hZ (hw _ (List.mem_of_getElem? (i := 46) rfl))) rfl (Cond.privateMethod_at (mvP hZ (hw _ (List.mem_of_getElem? (i := 84) rfl)) (args := #[]))) (mvT hZ (hw _ (List.mem_of_getElem? (i := 83) rfl))) (by decide)) (Cond.privateMethod_at (mvP hZ (hw _ (List.mem_of_getElem? (i := 84) rfl)) (args := #[]))) (mvT hZ (hw _ (List.mem_of_getElem? (i := 85) rfl))) (by decide) (backOf (W := 4) (rm11 l Z a0 hw [] ob (rf (jj).toNatClampNeg) at0 tf h37 n0 Z37 F_total1 A_total1 hr) hZ (hw _ (List.mem_of_getElem? (i := 85) rfl)) (hw _ (List.mem_of_getElem? (i := 2) rfl)) (by decide) (by decide)) (g := (mkF m 58 #[.val (.ref ob), .val (.int jj)] [(.int (rf (jj).toNatClampNeg)), (.ref ob), (.long (z41 + (gf (jj).toNatClampNeg))), (.int jj), (.ref at0)])) rfl (by rw [hml]; rfl) (Steps.refl _) (a := ob) (by rw [e44]; exact q46) q46' (argsL := [(.int (rf (jj).toNatClampNeg))]) (rest := [(.long (z41 + (gf (jj).toNatClampNeg))), (.int jj), (.ref at0)]) (lenOf own_pd1 rfl) rfl (by show 2 * 0 + _ ≤ _; exact Nat.le_of_eq rfl) (hb hby d9_58) (fun _ _ => ⟨rfl, e44, (by decide : 0 + 0 ≤ _), (by decide : 0 + 0 ≤ _)⟩)
  dsimp only [Pt.U, Pt.locs, Pt.cells, Pt.slots] at X46 l46 y46 z46 st46 hQ46
  subst l46 y46 z46
  obtain ⟨z46, rfl, N46q, e46⟩ := hQ46
  have N46 := Fr.app N41 N46q
  obtain ⟨cl47, Ar47, Sz47, Hs47⟩ := A_total1
  have hin47 : ¬ (jj < 0 ∨ cl47.slots.size ≤ (jj).toNatClampNeg) := by rw [Sz47]; exact own_in2 hj
  obtain ⟨T47, h47, X47, e47, W47, st47⟩ := stJ X46 hx hZ e46 Ar47 (j := jj) hin47 (g := (mkF m 62 #[.val (.ref ob), .val (.int jj)] [(.long ((z41 + (gf (jj).toNatClampNeg)) + z46)), (.int jj), (.ref at0)])) rfl rfl (hb hby d9_62)
  have N47 := Fr.snoc X47 N46 (own_ge HD).2.2.2.2.2.2
  have Z47 : n0 ≤ h47.size := Nat.le_trans Z37 (Nat.le_of_eq W47.size.symm)
  have lt47 : (jj).toNatClampNeg < 2 := Nat.lt_of_not_le fun q => hin47 (Or.inr (Nat.le_trans (Nat.le_of_eq Sz47) q))
  have HT2 := own_T.w_total HT1 HD W47 lt47
  have pre48 : ∀ t, Steps p.tables e below (T47.setTop (mkF m 64 #[.val (.ref ob), .val (.int jj)] [(.int jj)])) t → Steps p.tables e below (s₁.setTop (entryFrame m #[(.ref ob), (.int jj)] 2)) t := fun t k => pre0 t (by
      show Steps p.tables e below (s₁.setTop (mkF m 0 #[.val (.ref ob), .val (.int jj)] [])) _
      refine XS.aloadN X0.here hx rfl (hb hby d9_0) rfl rfl ?_
      show Steps p.tables e below (s₁.setTop (mkF m 1 #[.val (.ref ob), .val (.int jj)] [(.ref ob)])) _
      refine st30 _ ?_
      show Steps p.tables e below (T30.setTop (mkF m 4 #[.val (.ref ob), .val (.int jj)] [(.ref ac)])) _
      refine XS.iloadN X30.here hx rfl (hb hby d9_4) rfl ?_
      show Steps p.tables e below (T30.setTop (mkF m 5 #[.val (.ref ob), .val (.int jj)] [(.int jj), (.ref ac)])) _
      refine XS.aloadN X30.here hx rfl (hb hby d9_5) rfl rfl ?_
      show Steps p.tables e below (T30.setTop (mkF m 6 #[.val (.ref ob), .val (.int jj)] [(.ref ob), (.int jj), (.ref ac)])) _
      refine XS.aloadN X30.here hx rfl (hb hby d9_6) rfl rfl ?_
      show Steps p.tables e below (T30.setTop (mkF m 7 #[.val (.ref ob), .val (.int jj)] [(.ref ob), (.ref ob), (.int jj), (.ref ac)])) _
      refine st31 _ ?_
      show Steps p.tables e below (T31.setTop (mkF m 10 #[.val (.ref ob), .val (.int jj)] [(.ref al), (.ref ob), (.int jj), (.ref ac)])) _
      refine XS.iloadN X31.here hx rfl (hb hby d9_10) rfl ?_
      show Steps p.tables e below (T31.setTop (mkF m 11 #[.val (.ref ob), .val (.int jj)] [(.int jj), (.ref al), (.ref ob), (.int jj), (.ref ac)])) _
      refine X31.iaload hx (j := jj) (v := (.int (lf (jj).toNatClampNeg))) (by rw [e31]; exact Ar32.1) (State.isArrayOf_alike hZ.alike Ar32.2.1) Ar32.2.2 hin32 hat32 (g := (mkF m 11 #[.val (.ref ob), .val (.int jj)] [(.int jj), (.ref al), (.ref ob), (.int jj), (.ref ac)])) rfl rfl (hb hby d9_11) _ ?_
      show Steps p.tables e below (T31.setTop (mkF m 12 #[.val (.ref ob), .val (.int jj)] [(.int (lf (jj).toNatClampNeg)), (.ref ob), (.int jj), (.ref ac)])) _
      refine st33.trans ?_
      show Steps p.tables e below (T33.setTop (mkF m 15 #[.val (.ref ob), .val (.int jj)] [(.int z33), (.int jj), (.ref ac)])) _
      refine XS.iconst X33.here hx rfl (hb hby d9_15) ?_
      show Steps p.tables e below (T33.setTop (mkF m 16 #[.val (.ref ob), .val (.int jj)] [(.int (1 : Int32)), (.int z33), (.int jj), (.ref ac)])) _
      refine XS.iadd X33.here hx rfl (hb hby d9_16) rfl ?_
      show Steps p.tables e below (T33.setTop (mkF m 17 #[.val (.ref ob), .val (.int jj)] [(.int (z33 + (1 : Int32))), (.int jj), (.ref ac)])) _
      refine XS.aloadN X33.here hx rfl (hb hby d9_17) rfl rfl ?_
      show Steps p.tables e below (T33.setTop (mkF m 18 #[.val (.ref ob), .val (.int jj)] [(.ref ob), (.int (z33 + (1 : Int32))), (.int jj), (.ref ac)])) _
      refine XS.aloadN X33.here hx rfl (hb hby d9_18) rfl rfl ?_
      show Steps p.tables e below (T33.setTop (mkF m 19 #[.val (.ref ob), .val (.int jj)] [(.ref ob), (.ref ob), (.int (z33 + (1 : Int32))), (.int jj), (.ref ac)])) _
      refine st34 _ ?_
      show Steps p.tables e below (T34.setTop (mkF m 22 #[.val (.ref ob), .val (.int jj)] [(.ref ar), (.ref ob), (.int (z33 + (1 : Int32))), (.int jj), (.ref ac)])) _
      refine XS.iloadN X34.here hx rfl (hb hby d9_22) rfl ?_
      show Steps p.tables e below (T34.setTop (mkF m 23 #[.val (.ref ob), .val (.int jj)] [(.int jj), (.ref ar), (.ref ob), (.int (z33 + (1 : Int32))), (.int jj), (.ref ac)])) _
      refine X34.iaload hx (j := jj) (v := (.int (rf (jj).toNatClampNeg))) (by rw [e34]; exact Ar35.1) (State.isArrayOf_alike hZ.alike Ar35.2.1) Ar35.2.2 hin35 hat35 (g := (mkF m 23 #[.val (.ref ob), .val (.int jj)] [(.int jj), (.ref ar), (.ref ob), (.int (z33 + (1 : Int32))), (.int jj), (.ref ac)])) rfl rfl (hb hby d9_23) _ ?_
      show Steps p.tables e below (T34.setTop (mkF m 24 #[.val (.ref ob), .val (.int jj)] [(.int (rf (jj).toNatClampNeg)), (.ref ob), (.int (z33 + (1 : Int32))), (.int jj), (.ref ac)])) _
      refine st36.trans ?_
      show Steps p.tables e below (T36.setTop (mkF m 27 #[.val (.ref ob), .val (.int jj)] [(.int z36), (.int (z33 + (1 : Int32))), (.int jj), (.ref ac)])) _
      refine XS.iadd X36.here hx rfl (hb hby d9_27) rfl ?_
      show Steps p.tables e below (T36.setTop (mkF m 28 #[.val (.ref ob), .val (.int jj)] [(.int ((z33 + (1 : Int32)) + z36)), (.int jj), (.ref ac)])) _
      refine st37 _ ?_
      show Steps p.tables e below (T37.setTop (mkF m 29 #[.val (.ref ob), .val (.int jj)] [])) _
      refine XS.aloadN X37.here hx rfl (hb hby d9_29) rfl rfl ?_
      show Steps p.tables e below (T37.setTop (mkF m 30 #[.val (.ref ob), .val (.int jj)] [(.ref ob)])) _
      refine st38 _ ?_
      show Steps p.tables e below (T38.setTop (mkF m 33 #[.val (.ref ob), .val (.int jj)] [(.ref at0)])) _
      refine XS.iloadN X38.here hx rfl (hb hby d9_33) rfl ?_
      show Steps p.tables e below (T38.setTop (mkF m 34 #[.val (.ref ob), .val (.int jj)] [(.int jj), (.ref at0)])) _
      refine XS.aloadN X38.here hx rfl (hb hby d9_34) rfl rfl ?_
      show Steps p.tables e below (T38.setTop (mkF m 35 #[.val (.ref ob), .val (.int jj)] [(.ref ob), (.int jj), (.ref at0)])) _
      refine XS.aloadN X38.here hx rfl (hb hby d9_35) rfl rfl ?_
      show Steps p.tables e below (T38.setTop (mkF m 36 #[.val (.ref ob), .val (.int jj)] [(.ref ob), (.ref ob), (.int jj), (.ref at0)])) _
      refine st39 _ ?_
      show Steps p.tables e below (T39.setTop (mkF m 39 #[.val (.ref ob), .val (.int jj)] [(.ref al), (.ref ob), (.int jj), (.ref at0)])) _
      refine XS.iloadN X39.here hx rfl (hb hby d9_39) rfl ?_
      show Steps p.tables e below (T39.setTop (mkF m 40 #[.val (.ref ob), .val (.int jj)] [(.int jj), (.ref al), (.ref ob), (.int jj), (.ref at0)])) _
      refine X39.iaload hx (j := jj) (v := (.int (lf (jj).toNatClampNeg))) (by rw [e39]; exact Ar40.1) (State.isArrayOf_alike hZ.alike Ar40.2.1) Ar40.2.2 hin40 hat40 (g := (mkF m 40 #[.val (.ref ob), .val (.int jj)] [(.int jj), (.ref al), (.ref ob), (.int jj), (.ref at0)])) rfl rfl (hb hby d9_40) _ ?_
      show Steps p.tables e below (T39.setTop (mkF m 41 #[.val (.ref ob), .val (.int jj)] [(.int (lf (jj).toNatClampNeg)), (.ref ob), (.int jj), (.ref at0)])) _
      refine st41.trans ?_
      show Steps p.tables e below (T41.setTop (mkF m 44 #[.val (.ref ob), .val (.int jj)] [(.long z41), (.int jj), (.ref at0)])) _
      refine XS.aloadN X41.here hx rfl (hb hby d9_44) rfl rfl ?_
      show Steps p.tables e below (T41.setTop (mkF m 45 #[.val (.ref ob), .val (.int jj)] [(.ref ob), (.long z41), (.int jj), (.ref at0)])) _
      refine st42 _ ?_
      show Steps p.tables e below (T42.setTop (mkF m 48 #[.val (.ref ob), .val (.int jj)] [(.ref ag), (.long z41), (.int jj), (.ref at0)])) _
      refine XS.iloadN X42.here hx rfl (hb hby d9_48) rfl ?_
      show Steps p.tables e below (T42.setTop (mkF m 49 #[.val (.ref ob), .val (.int jj)] [(.int jj), (.ref ag), (.long z41), (.int jj), (.ref at0)])) _
      refine X42.laload hx (j := jj) (v := (.long (gf (jj).toNatClampNeg))) (by rw [e42]; exact Ar43.1) (State.isArrayOf_alike hZ.alike Ar43.2.1) Ar43.2.2 hin43 hat43 (g := (mkF m 49 #[.val (.ref ob), .val (.int jj)] [(.int jj), (.ref ag), (.long z41), (.int jj), (.ref at0)])) rfl rfl (hb hby d9_49) _ ?_
      show Steps p.tables e below (T42.setTop (mkF m 50 #[.val (.ref ob), .val (.int jj)] [(.long (gf (jj).toNatClampNeg)), (.long z41), (.int jj), (.ref at0)])) _
      refine XS.ladd X42.here hx rfl (hb hby d9_50) rfl ?_
      show Steps p.tables e below (T42.setTop (mkF m 51 #[.val (.ref ob), .val (.int jj)] [(.long (z41 + (gf (jj).toNatClampNeg))), (.int jj), (.ref at0)])) _
      refine XS.aloadN X42.here hx rfl (hb hby d9_51) rfl rfl ?_
      show Steps p.tables e below (T42.setTop (mkF m 52 #[.val (.ref ob), .val (.int jj)] [(.ref ob), (.long (z41 + (gf (jj).toNatClampNeg))), (.int jj), (.ref at0)])) _
      refine XS.aloadN X42.here hx rfl (hb hby d9_52) rfl rfl ?_
      show Steps p.tables e below (T42.setTop (mkF m 53 #[.val (.ref ob), .val (.int jj)] [(.ref ob), (.ref ob), (.long (z41 + (gf (jj).toNatClampNeg))), (.int jj), (.ref at0)])) _
      refine st44 _ ?_
      show Steps p.tables e below (T44.setTop (mkF m 56 #[.val (.ref ob), .val (.int jj)] [(.ref ar), (.ref ob), (.long (z41 + (gf (jj).toNatClampNeg))), (.int jj), (.ref at0)])) _
      refine XS.iloadN X44.here hx rfl (hb hby d9_56) rfl ?_
      show Steps p.tables e below (T44.setTop (mkF m 57 #[.val (.ref ob), .val (.int jj)] [(.int jj), (.ref ar), (.ref ob), (.long (z41 + (gf (jj).toNatClampNeg))), (.int jj), (.ref at0)])) _
      refine X44.iaload hx (j := jj) (v := (.int (rf (jj).toNatClampNeg))) (by rw [e44]; exact Ar45.1) (State.isArrayOf_alike hZ.alike Ar45.2.1) Ar45.2.2 hin45 hat45 (g := (mkF m 57 #[.val (.ref ob), .val (.int jj)] [(.int jj), (.ref ar), (.ref ob), (.long (z41 + (gf (jj).toNatClampNeg))), (.int jj), (.ref at0)])) rfl rfl (hb hby d9_57) _ ?_
      show Steps p.tables e below (T44.setTop (mkF m 58 #[.val (.ref ob), .val (.int jj)] [(.int (rf (jj).toNatClampNeg)), (.ref ob), (.long (z41 + (gf (jj).toNatClampNeg))), (.int jj), (.ref at0)])) _
      refine st46.trans ?_
      show Steps p.tables e below (T46.setTop (mkF m 61 #[.val (.ref ob), .val (.int jj)] [(.long z46), (.long (z41 + (gf (jj).toNatClampNeg))), (.int jj), (.ref at0)])) _
      refine XS.ladd X46.here hx rfl (hb hby d9_61) rfl ?_
      show Steps p.tables e below (T46.setTop (mkF m 62 #[.val (.ref ob), .val (.int jj)] [(.long ((z41 + (gf (jj).toNatClampNeg)) + z46)), (.int jj), (.ref at0)])) _
      refine st47 _ ?_
      show Steps p.tables e below (T47.setTop (mkF m 63 #[.val (.ref ob), .val (.int jj)] [])) _
      refine XS.iloadN X47.here hx rfl (hb hby d9_63) rfl ?_
      exact k)
  obtain ⟨fs, hr, hrun, hended, hW, hsame⟩ := X47.leave (v := some (.int jj)) (fun h => by rw [Bd.returns] at h; cases h)
  refine ⟨_, _, pre48 _ ?_, hrun, hended, _, _, rfl, ?_, ⟨_, rfl⟩, hW, hsame.mono (by decide) (by decide)⟩
  · show Steps p.tables e below (T47.setTop (mkF m 64 #[.val (.ref ob), .val (.int jj)] [(.int jj)])) _
    exact retI X47 hx Bd.returns (hb hby d9_64) hr
  · show Q9 Z ob jj ag ap al ar ad ac at0 root sb sa pf lf rf cf df gf tf h0 n0 _ T47.heap _
    rw [e47]
    exact ⟨rfl, N47, Z47, _, _, HT2⟩
theorem d8_0 : decode prog_94_method_12_code 0 = .ok (.iload_n 1, 1) := by decide +kernel
theorem d8_1 : decode prog_94_method_12_code 1 = .ok (.iconst (-1), 1) := by decide +kernel
theorem d8_2 : decode prog_94_method_12_code 2 = .ok (.if_icmp .ne 16, 3) := by decide +kernel
theorem d8_5 : decode prog_94_method_12_code 5 = .ok (.aload_n 0, 1) := by decide +kernel
theorem d8_6 : decode prog_94_method_12_code 6 = .ok (.iconst (-1), 1) := by decide +kernel
theorem d8_7 : decode prog_94_method_12_code 7 = .ok (.putfield 53, 3) := by decide +kernel
theorem d8_10 : decode prog_94_method_12_code 10 = .ok (.aload_n 0, 1) := by decide +kernel
theorem d8_11 : decode prog_94_method_12_code 11 = .ok (.iconst (-1), 1) := by decide +kernel
theorem d8_12 : decode prog_94_method_12_code 12 = .ok (.putfield 56, 3) := by decide +kernel
theorem d8_15 : decode prog_94_method_12_code 15 = .ok (.goto 75, 3) := by decide +kernel
theorem d8_18 : decode prog_94_method_12_code 18 = .ok (.aload_n 0, 1) := by decide +kernel
theorem d8_19 : decode prog_94_method_12_code 19 = .ok (.iload_n 1, 1) := by decide +kernel
theorem d8_20 : decode prog_94_method_12_code 20 = .ok (.iload_n 2, 1) := by decide +kernel
theorem d8_21 : decode prog_94_method_12_code 21 = .ok (.invokevirtual 63, 3) := by decide +kernel
theorem d8_24 : decode prog_94_method_12_code 24 = .ok (.ifCond .eq 36, 3) := by decide +kernel
theorem d8_27 : decode prog_94_method_12_code 27 = .ok (.aload_n 0, 1) := by decide +kernel
theorem d8_28 : decode prog_94_method_12_code 28 = .ok (.aload_n 0, 1) := by decide +kernel
theorem d8_29 : decode prog_94_method_12_code 29 = .ok (.getfield 24, 3) := by decide +kernel
theorem d8_32 : decode prog_94_method_12_code 32 = .ok (.iload_n 1, 1) := by decide +kernel
theorem d8_33 : decode prog_94_method_12_code 33 = .ok (.iaload, 1) := by decide +kernel
theorem d8_34 : decode prog_94_method_12_code 34 = .ok (.iload_n 2, 1) := by decide +kernel
theorem d8_35 : decode prog_94_method_12_code 35 = .ok (.invokevirtual 49, 3) := by decide +kernel
theorem d8_38 : decode prog_94_method_12_code 38 = .ok (.aload_n 0, 1) := by decide +kernel
theorem d8_39 : decode prog_94_method_12_code 39 = .ok (.getfield 24, 3) := by decide +kernel
theorem d8_42 : decode prog_94_method_12_code 42 = .ok (.iload_n 1, 1) := by decide +kernel
theorem d8_43 : decode prog_94_method_12_code 43 = .ok (.aload_n 0, 1) := by decide +kernel
theorem d8_44 : decode prog_94_method_12_code 44 = .ok (.getfield 53, 3) := by decide +kernel
theorem d8_47 : decode prog_94_method_12_code 47 = .ok (.iastore, 1) := by decide +kernel
theorem d8_48 : decode prog_94_method_12_code 48 = .ok (.aload_n 0, 1) := by decide +kernel
theorem d8_49 : decode prog_94_method_12_code 49 = .ok (.aload_n 0, 1) := by decide +kernel
theorem d8_50 : decode prog_94_method_12_code 50 = .ok (.iload_n 1, 1) := by decide +kernel
theorem d8_51 : decode prog_94_method_12_code 51 = .ok (.invokevirtual 59, 3) := by decide +kernel
theorem d8_54 : decode prog_94_method_12_code 54 = .ok (.putfield 53, 3) := by decide +kernel
theorem d8_57 : decode prog_94_method_12_code 57 = .ok (.goto 33, 3) := by decide +kernel
theorem d8_60 : decode prog_94_method_12_code 60 = .ok (.aload_n 0, 1) := by decide +kernel
theorem d8_61 : decode prog_94_method_12_code 61 = .ok (.aload_n 0, 1) := by decide +kernel
theorem d8_62 : decode prog_94_method_12_code 62 = .ok (.getfield 20, 3) := by decide +kernel
theorem d8_65 : decode prog_94_method_12_code 65 = .ok (.iload_n 1, 1) := by decide +kernel
theorem d8_66 : decode prog_94_method_12_code 66 = .ok (.iaload, 1) := by decide +kernel
theorem d8_67 : decode prog_94_method_12_code 67 = .ok (.iload_n 2, 1) := by decide +kernel
theorem d8_68 : decode prog_94_method_12_code 68 = .ok (.invokevirtual 49, 3) := by decide +kernel
theorem d8_71 : decode prog_94_method_12_code 71 = .ok (.aload_n 0, 1) := by decide +kernel
theorem d8_72 : decode prog_94_method_12_code 72 = .ok (.getfield 20, 3) := by decide +kernel
theorem d8_75 : decode prog_94_method_12_code 75 = .ok (.iload_n 1, 1) := by decide +kernel
theorem d8_76 : decode prog_94_method_12_code 76 = .ok (.aload_n 0, 1) := by decide +kernel
theorem d8_77 : decode prog_94_method_12_code 77 = .ok (.getfield 56, 3) := by decide +kernel
theorem d8_80 : decode prog_94_method_12_code 80 = .ok (.iastore, 1) := by decide +kernel
theorem d8_81 : decode prog_94_method_12_code 81 = .ok (.aload_n 0, 1) := by decide +kernel
theorem d8_82 : decode prog_94_method_12_code 82 = .ok (.aload_n 0, 1) := by decide +kernel
theorem d8_83 : decode prog_94_method_12_code 83 = .ok (.iload_n 1, 1) := by decide +kernel
theorem d8_84 : decode prog_94_method_12_code 84 = .ok (.invokevirtual 59, 3) := by decide +kernel
theorem d8_87 : decode prog_94_method_12_code 87 = .ok (.putfield 56, 3) := by decide +kernel
theorem d8_90 : decode prog_94_method_12_code 90 = .ok (.return_, 1) := by decide +kernel
theorem own_pd2 : parseMethodDescriptor "(II)Z" = some ⟨[.int, .int], some .boolean⟩ := by decide +kernel
theorem own_pd3 : parseMethodDescriptor "(II)V" = some ⟨[.int, .int], none⟩ := by decide +kernel
theorem pn_8 : plainName "com/example/accord_scheduler/accordscheduler/Treap" = true := by first | (simp [plainName, overriddenIn]; done) | decide +kernel
theorem ef_8 (m : MethodId) (a0 : Addr) (p1 : Int32) (p2 : Int32) : entryFrame m #[(.ref a0), (.int p1), (.int p2)] 3 = mkF m 0 #[.val (.ref a0), .val (.int p1), .val (.int p2)] [] := by first | (simp [entryFrame, mkF, argsToLocals, Value.category]; done) | rfl
def Q8a (Z : State) (ob : Addr) (tt : Int32) (ag ap al ar ad ac at0 : Addr) (root sb sa : Int32) (pf : Nat → Int64) (lf rf cf : Nat → Int32) (df gf tf : Nat → Int64) (h0 : Heap) (n0 : Nat) (v : Option Value) (h : Heap) (L : List Loc) : Prop := v = none ∧ Fr n0 L ∧ n0 ≤ h.size ∧ own_T Z h ob ag ap al ar ad ac at0 root (-1) (-1) pf lf rf cf df gf tf
set_option maxRecDepth 65536 in
set_option maxHeartbeats 40000000 in
theorem rm8a (l : Launch) (Z : State) (a0 : Array Value) (hw : ∀ d ∈ tables_1, d.before a0 Z = true) (ws : List Jvm.Cond) (ob : Addr) (tt : Int32) (ag ap al ar ad ac at0 : Addr) (root sb sa : Int32) (pf : Nat → Int64) (lf rf cf : Nat → Int32) (df gf tf : Nat → Int64) (h0 : Heap) (n0 : Nat) (Z0 : n0 ≤ h0.size) (HT : own_T Z h0 ob ag ap al ar ad ac at0 root sb sa pf lf rf cf df gf tf) (HD : own_D n0 ob ag ap al ar ad ac at0) :
    MetFree l (⟨"com/example/accord_scheduler/accordscheduler/Treap", "split", "(II)V"⟩ : MethodName) (head1 (Jvm.Cond.code (⟨"com/example/accord_scheduler/accordscheduler/Treap", "split", "(II)V"⟩ : MethodName) prog_94_method_12_code 3 none :: ws) ({ frames := 0, cells := 0, slots := 0, locals := 0 } : Room)) (fun a U => a = #[(.ref ob), (.int (-1 : Int32)), (.int tt)] ∧ Z.Warmed39 U.vm ∧ U.heap = h0) (fun _ _ _ _ _ => True) (fun _ U o U' => ∃ v L, o = .returned v ∧ Q8a Z ob tt ag ap al ar ad ac at0 root sb sa pf lf rf cf df gf tf h0 n0 v U'.heap L ∧ FrameEnd U o U' L ({ frames := 0, cells := 0, slots := 0, locals := 0 } : Room).cells ({ frames := 0, cells := 0, slots := 0, locals := 0 } : Room).slots) := by
  refine MetFree.of_bodySF (plainFor_of_name pn_8) hisR ?_
  intro p e s m args below meth c s₁ Bd hml0 hP hK
  obtain ⟨rfl, hZ, hh⟩ := hP
  have hx := Bd.exec
  have hby := Bd.bytes
  have hml : c.maxLocals = 3 := hml0
  have hown : s.vm.findClass "com/example/accord_scheduler/accordscheduler/Treap" = some m.cls := findClass_of_methodNamed Bd.named
  have hnm := (name_of_methodNamed Bd.named Bd.method).1
  have X0 : Stand p l e ({ frames := 0, cells := 0, slots := 0, locals := 0 } : Room) s m #[(.ref ob), (.int (-1 : Int32)), (.int tt)] below meth c s₁ [] 0 0 := Stand.of_body Bd
  have e0 : s₁.heap = h0 := by rw [← hh, Bd.state]; rfl
  have N0 := Fr.nil n0
  have pre0 : ∀ t, Steps p.tables e below (s₁.setTop (mkF m 0 #[.val (.ref ob), .val (.int (-1 : Int32)), .val (.int tt)] [])) t → Steps p.tables e below (s₁.setTop (entryFrame m #[(.ref ob), (.int (-1 : Int32)), (.int tt)] 3)) t := fun t k => castTop (ef_8 m ob (-1 : Int32) tt) k
  have HT0 := HT
  obtain ⟨E0, F_root0, F_priority0, F_left0, F_right0, F_splitBefore0, F_splitAfter0, F_due0, F_length0, F_count0, F_total0, A_priority0, A_left0, A_right0, A_due0, A_length0, A_count0, A_total0⟩ := HT0
  obtain ⟨T49, h49, X49, e49, W49, st49⟩ := putF X0 hx hZ hown (host := "") (Or.inl (hw _ (List.mem_of_getElem? (i := 65) rfl))) Via.refl e0 F_splitBefore0 E0 (Or.inl (hw _ (List.mem_of_getElem? (i := 66) rfl))) (hw _ (List.mem_of_getElem? (i := 1) rfl)) (ty := .int) (by decide) rfl rfl (g := (mkF m 7 #[.val (.ref ob), .val (.int (-1 : Int32)), .val (.int tt)] [(.int ((-1) : Int32)), (.ref ob)])) rfl rfl (hb hby d8_7)
  have N49 := Fr.snoc X49 N0 HD.1
  have Z49 : n0 ≤ h49.size := Nat.le_trans Z0 (Nat.le_of_eq W49.size.symm)
  have HT1 := own_T.w_splitBefore hw HT HD W49
  have HT1' := HT1
  obtain ⟨E1, F_root1, F_priority1, F_left1, F_right1, F_splitBefore1, F_splitAfter1, F_due1, F_length1, F_count1, F_total1, A_priority1, A_left1, A_right1, A_due1, A_length1, A_count1, A_total1⟩ := HT1'
  obtain ⟨T50, h50, X50, e50, W50, st50⟩ := putF X49 hx hZ hown (host := "") (Or.inl (hw _ (List.mem_of_getElem? (i := 67) rfl))) Via.refl e49 F_splitAfter1 E1 (Or.inl (hw _ (List.mem_of_getElem? (i := 68) rfl))) (hw _ (List.mem_of_getElem? (i := 1) rfl)) (ty := .int) (by decide) rfl rfl (g := (mkF m 12 #[.val (.ref ob), .val (.int (-1 : Int32)), .val (.int tt)] [(.int ((-1) : Int32)), (.ref ob)])) rfl rfl (hb hby d8_12)
  have N50 := Fr.snoc X50 N49 HD.1
  have Z50 : n0 ≤ h50.size := Nat.le_trans Z49 (Nat.le_of_eq W50.size.symm)
  have HT2 := own_T.w_splitAfter hw HT1 HD W50
  have pre51 : ∀ t, Steps p.tables e below (T50.setTop (mkF m 90 #[.val (.ref ob), .val (.int (-1 : Int32)), .val (.int tt)] [])) t → Steps p.tables e below (s₁.setTop (entryFrame m #[(.ref ob), (.int (-1 : Int32)), (.int tt)] 3)) t := fun t k => pre0 t (by
      show Steps p.tables e below (s₁.setTop (mkF m 0 #[.val (.ref ob), .val (.int (-1 : Int32)), .val (.int tt)] [])) _
      refine XS.iloadN X0.here hx rfl (hb hby d8_0) rfl ?_
      show Steps p.tables e below (s₁.setTop (mkF m 1 #[.val (.ref ob), .val (.int (-1 : Int32)), .val (.int tt)] [(.int (-1 : Int32))])) _
      refine XS.iconst X0.here hx rfl (hb hby d8_1) ?_
      show Steps p.tables e below (s₁.setTop (mkF m 2 #[.val (.ref ob), .val (.int (-1 : Int32)), .val (.int tt)] [(.int ((-1) : Int32)), (.int (-1 : Int32))])) _
      refine XS.icmpNo X0.here hx rfl (hb hby d8_2) rfl (teq rfl).2 ?_
      show Steps p.tables e below (s₁.setTop (mkF m 5 #[.val (.ref ob), .val (.int (-1 : Int32)), .val (.int tt)] [])) _
      refine XS.aloadN X0.here hx rfl (hb hby d8_5) rfl rfl ?_
      show Steps p.tables e below (s₁.setTop (mkF m 6 #[.val (.ref ob), .val (.int (-1 : Int32)), .val (.int tt)] [(.ref ob)])) _
      refine XS.iconst X0.here hx rfl (hb hby d8_6) ?_
      show Steps p.tables e below (s₁.setTop (mkF m 7 #[.val (.ref ob), .val (.int (-1 : Int32)), .val (.int tt)] [(.int ((-1) : Int32)), (.ref ob)])) _
      refine st49 _ ?_
      show Steps p.tables e below (T49.setTop (mkF m 10 #[.val (.ref ob), .val (.int (-1 : Int32)), .val (.int tt)] [])) _
      refine XS.aloadN X49.here hx rfl (hb hby d8_10) rfl rfl ?_
      show Steps p.tables e below (T49.setTop (mkF m 11 #[.val (.ref ob), .val (.int (-1 : Int32)), .val (.int tt)] [(.ref ob)])) _
      refine XS.iconst X49.here hx rfl (hb hby d8_11) ?_
      show Steps p.tables e below (T49.setTop (mkF m 12 #[.val (.ref ob), .val (.int (-1 : Int32)), .val (.int tt)] [(.int ((-1) : Int32)), (.ref ob)])) _
      refine st50 _ ?_
      show Steps p.tables e below (T50.setTop (mkF m 15 #[.val (.ref ob), .val (.int (-1 : Int32)), .val (.int tt)] [])) _
      refine XS.goto X50.here hx rfl (pc0 := 15) (pc' := 90) rfl (hb hby d8_15) (by decide) (by decide) ?_
      exact k)
  obtain ⟨fs, hr, hrun, hended, hW, hsame⟩ := X50.leave (v := none) (fun _ => rfl)
  refine ⟨_, _, pre51 _ ?_, hrun, hended, _, _, rfl, ?_, ⟨_, rfl⟩, hW, hsame.mono (by decide) (by decide)⟩
  · show Steps p.tables e below (T50.setTop (mkF m 90 #[.val (.ref ob), .val (.int (-1 : Int32)), .val (.int tt)] [])) _
    exact X50.returnOut hx Bd.returns (hb hby d8_90) hr
  · show Q8a Z ob tt ag ap al ar ad ac at0 root sb sa pf lf rf cf df gf tf h0 n0 _ T50.heap _
    rw [e50]
    exact ⟨rfl, N50, Z50, HT2⟩
def Q8b (Z : State) (ob : Addr) (ag ap al ar ad ac at0 : Addr) (root sb sa : Int32) (pf : Nat → Int64) (lf rf cf : Nat → Int32) (df gf tf : Nat → Int64) (h0 : Heap) (n0 : Nat) (v : Option Value) (h : Heap) (L : List Loc) : Prop := v = none ∧ Fr n0 L ∧ n0 ≤ h.size ∧ ∃ (sb' sa' : Int32) (lf' rf' cf' : Nat → Int32) (tf' : Nat → Int64), own_N sb' ∧ own_N sa' ∧ own_T Z h ob ag ap al ar ad ac at0 root sb' sa' pf lf' rf' cf' df gf tf'
set_option maxRecDepth 65536 in
set_option maxHeartbeats 40000000 in
theorem rm8b (l : Launch) (Z : State) (a0 : Array Value) (hw : ∀ d ∈ tables_1, d.before a0 Z = true) (ws : List Jvm.Cond) (ob : Addr) (ag ap al ar ad ac at0 : Addr) (root sb sa : Int32) (pf : Nat → Int64) (lf rf cf : Nat → Int32) (df gf tf : Nat → Int64) (h0 : Heap) (n0 : Nat) (Z0 : n0 ≤ h0.size) (HT : own_T Z h0 ob ag ap al ar ad ac at0 root sb sa pf lf rf cf df gf tf) (HD : own_D n0 ob ag ap al ar ad ac at0) (hl0 : lf 0 = -1) (hr0 : rf 0 = -1) :
    MetFree l (⟨"com/example/accord_scheduler/accordscheduler/Treap", "split", "(II)V"⟩ : MethodName) (head1 (Jvm.Cond.code (⟨"com/example/accord_scheduler/accordscheduler/Treap", "split", "(II)V"⟩ : MethodName) prog_94_method_12_code 3 none :: ws) ({ frames := 2, cells := 0, slots := 0, locals := 40 } : Room)) (fun a U => a = #[(.ref ob), (.int (0 : Int32)), (.int (1 : Int32))] ∧ Z.Warmed39 U.vm ∧ U.heap = h0) (fun _ _ _ _ _ => True) (fun _ U o U' => ∃ v L, o = .returned v ∧ Q8b Z ob ag ap al ar ad ac at0 root sb sa pf lf rf cf df gf tf h0 n0 v U'.heap L ∧ FrameEnd U o U' L ({ frames := 2, cells := 0, slots := 0, locals := 40 } : Room).cells ({ frames := 2, cells := 0, slots := 0, locals := 40 } : Room).slots) := by
  refine MetFree.of_bodySF (plainFor_of_name pn_8) hisR ?_
  intro p e s m args below meth c s₁ Bd hml0 hP hK
  obtain ⟨rfl, hZ, hh⟩ := hP
  have hx := Bd.exec
  have hby := Bd.bytes
  have hml : c.maxLocals = 3 := hml0
  have hown : s.vm.findClass "com/example/accord_scheduler/accordscheduler/Treap" = some m.cls := findClass_of_methodNamed Bd.named
  have hnm := (name_of_methodNamed Bd.named Bd.method).1
  have X0 : Stand p l e ({ frames := 2, cells := 0, slots := 0, locals := 40 } : Room) s m #[(.ref ob), (.int (0 : Int32)), (.int (1 : Int32))] below meth c s₁ [] 0 0 := Stand.of_body Bd
  have e0 : s₁.heap = h0 := by rw [← hh, Bd.state]; rfl
  have N0 := Fr.nil n0
  have pre0 : ∀ t, Steps p.tables e below (s₁.setTop (mkF m 0 #[.val (.ref ob), .val (.int (0 : Int32)), .val (.int (1 : Int32))] [])) t → Steps p.tables e below (s₁.setTop (entryFrame m #[(.ref ob), (.int (0 : Int32)), (.int (1 : Int32))] 3)) t := fun t k => castTop (ef_8 m ob (0 : Int32) (1 : Int32)) k
  have HT0 := HT
  obtain ⟨E0, F_root0, F_priority0, F_left0, F_right0, F_splitBefore0, F_splitAfter0, F_due0, F_length0, F_count0, F_total0, A_priority0, A_left0, A_right0, A_due0, A_length0, A_count0, A_total0⟩ := HT0
  obtain ⟨cq52, kq52, q52a, q52b, q52c⟩ := isOf hZ e0 E0
  obtain ⟨_, _, ⟨T52, L52, k52, n52⟩, -, X52, ⟨Lc52, hQ52, l52, y52, z52⟩, st52⟩ := X0.virtualBack hx (y := (⟨"com/example/accord_scheduler/accordscheduler/Treap", "before", "(II)Z"⟩ : MethodName)) (z := (⟨"com/example/accord_scheduler/accordscheduler/MomentTree", "before", "(II)Z"⟩ : MethodName)) hown (mvT hZ (hw _ (List.mem_of_getElem? (i := 86) rfl))) (mvT hZ (hw _ (List.mem_of_getElem? (i := 87) rfl))) (own_nf (args := #[]) (mvT hZ (hw _ (List.mem_of_getElem? (i := 95) rfl))) rfl) (mvT hZ (hw _ (List.mem_of_getElem? (i := 88) rfl))) (mvT hZ (hw _ (List.mem_of_getElem? (i := 89) rfl))) (by decide) (backOf (W := 0) (rm12 l Z a0 hw [] ob (0 : Int32) (1 : Int32) ad df h0 n0 Z0 F_due0 A_due0 (Or.inl rfl) (Or.inr rfl)) hZ (hw _ (List.mem_of_getElem? (i := 90) rfl)) (hw _ (List.mem_of_getElem? (i := 2) rfl)) (by decide) (by decide)) q52a q52c (g := (mkF m 21 #[.val (.ref ob), .val (.int (0 : Int32)), .val (.int (1 : Int32))] [(.int (1 : Int32)), (.int (0 : Int32)), (.ref ob)])) rfl (by rw [hml]; rfl) (Steps.refl _) (argsL := [(.int (0 : Int32)), (.int (1 : Int32))]) (rest := []) (lenOf own_pd2 rfl) rfl (by show 2 * 0 + _ ≤ _; exact Nat.le_of_eq rfl) (hb hby d8_21) (fun _ _ => ⟨rfl, e0, (by decide : 0 + 0 ≤ _), (by decide : 0 + 0 ≤ _)⟩)
  dsimp only [Pt.U, Pt.locs, Pt.cells, Pt.slots] at X52 l52 y52 z52 st52 hQ52
  subst l52 y52 z52
  obtain ⟨z52, rfl, hz52, N52q, e52⟩ := hQ52
  have N52 := Fr.app N0 N52q
  have pre53 : ∀ t, Steps p.tables e below (T52.setTop (mkF m 24 #[.val (.ref ob), .val (.int (0 : Int32)), .val (.int (1 : Int32))] [(.int z52)])) t → Steps p.tables e below (s₁.setTop (entryFrame m #[(.ref ob), (.int (0 : Int32)), (.int (1 : Int32))] 3)) t := fun t k => pre0 t (by
      show Steps p.tables e below (s₁.setTop (mkF m 0 #[.val (.ref ob), .val (.int (0 : Int32)), .val (.int (1 : Int32))] [])) _
      refine XS.iloadN X0.here hx rfl (hb hby d8_0) rfl ?_
      show Steps p.tables e below (s₁.setTop (mkF m 1 #[.val (.ref ob), .val (.int (0 : Int32)), .val (.int (1 : Int32))] [(.int (0 : Int32))])) _
      refine XS.iconst X0.here hx rfl (hb hby d8_1) ?_
      show Steps p.tables e below (s₁.setTop (mkF m 2 #[.val (.ref ob), .val (.int (0 : Int32)), .val (.int (1 : Int32))] [(.int ((-1) : Int32)), (.int (0 : Int32))])) _
      refine XS.icmpYes X0.here hx rfl (pc0 := 2) (pc' := 18) rfl (hb hby d8_2) rfl (feq (by decide)).2 (by decide) (by decide) ?_
      show Steps p.tables e below (s₁.setTop (mkF m 18 #[.val (.ref ob), .val (.int (0 : Int32)), .val (.int (1 : Int32))] [])) _
      refine XS.aloadN X0.here hx rfl (hb hby d8_18) rfl rfl ?_
      show Steps p.tables e below (s₁.setTop (mkF m 19 #[.val (.ref ob), .val (.int (0 : Int32)), .val (.int (1 : Int32))] [(.ref ob)])) _
      refine XS.iloadN X0.here hx rfl (hb hby d8_19) rfl ?_
      show Steps p.tables e below (s₁.setTop (mkF m 20 #[.val (.ref ob), .val (.int (0 : Int32)), .val (.int (1 : Int32))] [(.int (0 : Int32)), (.ref ob)])) _
      refine XS.iloadN X0.here hx rfl (hb hby d8_20) rfl ?_
      show Steps p.tables e below (s₁.setTop (mkF m 21 #[.val (.ref ob), .val (.int (0 : Int32)), .val (.int (1 : Int32))] [(.int (1 : Int32)), (.int (0 : Int32)), (.ref ob)])) _
      refine st52.trans ?_
      exact k)
  by_cases hz : z52 = (0 : Int32)
  · skip
    obtain ⟨T54, X54, e54, st54⟩ := getF X52 hx hZ hown (host := "") (Or.inl (hw _ (List.mem_of_getElem? (i := 22) rfl))) Via.refl e52 F_left0 (g := (mkF m 62 #[.val (.ref ob), .val (.int (0 : Int32)), .val (.int (1 : Int32))] [(.ref ob), (.ref ob)])) rfl rfl (hb hby d8_62)
    obtain ⟨cl55, Ar55, Sz55, Hs55⟩ := A_left0
    have hin55 : ¬ ((0 : Int32) < 0 ∨ cl55.slots.size ≤ ((0 : Int32)).toNatClampNeg) := by rw [Sz55]; exact (by decide)
    have hat55 : cl55.slots[((0 : Int32)).toNatClampNeg]? = some (.int (lf ((0 : Int32)).toNatClampNeg)) := Hs55 _ (Nat.lt_of_not_le fun q => hin55 (Or.inr (Nat.le_trans (Nat.le_of_eq Sz55) q)))
    have hat55 : cl55.slots[((0 : Int32)).toNatClampNeg]? = some (.int (-1 : Int32)) := hat55.trans (congrArg (fun z => some (Value.int z)) (hl0 : (lf ((0 : Int32)).toNatClampNeg) = (-1 : Int32)))
    have A_left0 : own_I Z h0 al lf := ⟨cl55, Ar55, Sz55, Hs55⟩
    obtain ⟨cq56, q56, q56'⟩ := Exa.cell E0
    obtain ⟨_, _, ⟨T56, L56, k56, n56⟩, -, X56, ⟨Lc56, hQ56, l56, y56, z56⟩, st56⟩ := X54.privateBack hx (y := (⟨"com/example/accord_scheduler/accordscheduler/Treap", "split", "(II)V"⟩ : MethodName)) hown (mvT hZ (hw _ (List.mem_of_getElem? (i := 61) rfl))) (mvT hZ (hw _ (List.mem_of_getElem? (i := 62) rfl))) (own_selp (args := #[]) (mvT hZ (hw _ (List.mem_of_getElem? (i := 95) rfl))) rfl (Cond.privateMethod_at (mvP hZ (hw _ (List.mem_of_getElem? (i := 63) rfl)) (args := #[]))) (mvT hZ (hw _ (List.mem_of_getElem? (i := 62) rfl))) (by decide)) (Cond.privateMethod_at (mvP hZ (hw _ (List.mem_of_getElem? (i := 63) rfl)) (args := #[]))) (mvT hZ (hw _ (List.mem_of_getElem? (i := 64) rfl))) (by decide) (backOf (W := 0) (rm8a l Z a0 hw [] ob (1 : Int32) ag ap al ar ad ac at0 root sb sa pf lf rf cf df gf tf h0 n0 Z0 HT HD) hZ (hw _ (List.mem_of_getElem? (i := 64) rfl)) (hw _ (List.mem_of_getElem? (i := 10) rfl)) (by decide) (by decide)) (g := (mkF m 68 #[.val (.ref ob), .val (.int (0 : Int32)), .val (.int (1 : Int32))] [(.int (1 : Int32)), (.int (-1 : Int32)), (.ref ob)])) rfl (by rw [hml]; rfl) (Steps.refl _) (a := ob) (by rw [e54]; exact q56) q56' (argsL := [(.int (-1 : Int32)), (.int (1 : Int32))]) (rest := []) (lenOf own_pd3 rfl) rfl (by show 2 * 0 + _ ≤ _; exact Nat.le_of_eq rfl) (hb hby d8_68) (fun _ _ => ⟨rfl, e54, (by decide : 0 + 0 ≤ _), (by decide : 0 + 0 ≤ _)⟩)
    dsimp only [Pt.U, Pt.locs, Pt.cells, Pt.slots] at X56 l56 y56 z56 st56 hQ56
    subst l56 y56 z56
    obtain ⟨h56, e56'⟩ : ∃ z, z = T56.heap := ⟨_, rfl⟩
    rw [← e56'] at hQ56
    have e56 := e56'.symm
    obtain ⟨rfl, N56q, Z56, HT1⟩ := hQ56
    have N56 := Fr.app N52 N56q
    have HT1' := HT1
    obtain ⟨E1, F_root1, F_priority1, F_left1, F_right1, F_splitBefore1, F_splitAfter1, F_due1, F_length1, F_count1, F_total1, A_priority1, A_left1, A_right1, A_due1, A_length1, A_count1, A_total1⟩ := HT1'
    obtain ⟨T57, X57, e57, st57⟩ := getF X56 hx hZ hown (host := "") (Or.inl (hw _ (List.mem_of_getElem? (i := 22) rfl))) Via.refl e56 F_left1 (g := (mkF m 72 #[.val (.ref ob), .val (.int (0 : Int32)), .val (.int (1 : Int32))] [(.ref ob)])) rfl rfl (hb hby d8_72)
    obtain ⟨T58, X58, e58, st58⟩ := getF X57 hx hZ hown (host := "") (Or.inl (hw _ (List.mem_of_getElem? (i := 67) rfl))) Via.refl e57 F_splitAfter1 (g := (mkF m 77 #[.val (.ref ob), .val (.int (0 : Int32)), .val (.int (1 : Int32))] [(.ref ob), (.int (0 : Int32)), (.ref al)])) rfl rfl (hb hby d8_77)
    obtain ⟨cl59, Ar59, Sz59, Hs59⟩ := A_left1
    have hin59 : ¬ ((0 : Int32) < 0 ∨ cl59.slots.size ≤ ((0 : Int32)).toNatClampNeg) := by rw [Sz59]; exact (by decide)
    obtain ⟨T59, h59, X59, e59, W59, st59⟩ := stI X58 hx hZ e58 Ar59 (j := (0 : Int32)) hin59 (g := (mkF m 80 #[.val (.ref ob), .val (.int (0 : Int32)), .val (.int (1 : Int32))] [(.int (-1 : Int32)), (.int (0 : Int32)), (.ref al)])) rfl rfl (hb hby d8_80)
    have N59 := Fr.snoc X59 N56 (own_ge HD).2.2.1
    have Z59 : n0 ≤ h59.size := Nat.le_trans Z56 (Nat.le_of_eq W59.size.symm)
    have lt59 : ((0 : Int32)).toNatClampNeg < 2 := Nat.lt_of_not_le fun q => hin59 (Or.inr (Nat.le_trans (Nat.le_of_eq Sz59) q))
    have HT2 := own_T.w_left HT1 HD W59 lt59
    have HT2' := HT2
    obtain ⟨E2, F_root2, F_priority2, F_left2, F_right2, F_splitBefore2, F_splitAfter2, F_due2, F_length2, F_count2, F_total2, A_priority2, A_left2, A_right2, A_due2, A_length2, A_count2, A_total2⟩ := HT2'
    obtain ⟨cq60, kq60, q60a, q60b, q60c⟩ := isOf hZ e59 E2
    obtain ⟨_, _, ⟨T60, L60, k60, n60⟩, -, X60, ⟨Lc60, hQ60, l60, y60, z60⟩, st60⟩ := X59.virtualBack hx (y := (⟨"com/example/accord_scheduler/accordscheduler/Treap", "update", "(I)I"⟩ : MethodName)) (z := (⟨"com/example/accord_scheduler/accordscheduler/MomentTree", "update", "(I)I"⟩ : MethodName)) hown (mvT hZ (hw _ (List.mem_of_getElem? (i := 69) rfl))) (mvT hZ (hw _ (List.mem_of_getElem? (i := 70) rfl))) (own_nf (args := #[]) (mvT hZ (hw _ (List.mem_of_getElem? (i := 95) rfl))) rfl) (mvT hZ (hw _ (List.mem_of_getElem? (i := 71) rfl))) (mvT hZ (hw _ (List.mem_of_getElem? (i := 72) rfl))) (by decide) (backOf (W := 1) (rm9 l Z a0 hw [] ob (0 : Int32) ag ap al ar ad ac at0 root (-1) (-1) pf (own_upd lf (0 : Int32).toNatClampNeg (-1)) rf cf df gf tf h59 n0 Z59 HT2 HD (Or.inl rfl) (Or.inl rfl) (Or.inl hr0)) hZ (hw _ (List.mem_of_getElem? (i := 73) rfl)) (hw _ (List.mem_of_getElem? (i := 2) rfl)) (by decide) (by decide)) q60a q60c (g := (mkF m 84 #[.val (.ref ob), .val (.int (0 : Int32)), .val (.int (1 : Int32))] [(.int (0 : Int32)), (.ref ob), (.ref ob)])) rfl (by rw [hml]; rfl) (Steps.refl _) (argsL := [(.int (0 : Int32))]) (rest := [(.ref ob)]) (lenOf own_pd0 rfl) rfl (by show 2 * 0 + _ ≤ _; exact Nat.le_of_eq rfl) (hb hby d8_84) (fun _ _ => ⟨rfl, e59, (by decide : 0 + 0 ≤ _), (by decide : 0 + 0 ≤ _)⟩)
    dsimp only [Pt.U, Pt.locs, Pt.cells, Pt.slots] at X60 l60 y60 z60 st60 hQ60
    subst l60 y60 z60
    obtain ⟨h60, e60'⟩ : ∃ z, z = T60.heap := ⟨_, rfl⟩
    rw [← e60'] at hQ60
    have e60 := e60'.symm
    obtain ⟨rfl, N60q, Z60, cv, tv, HT3⟩ := hQ60
    have N60 := Fr.app N59 N60q
    have HT3' := HT3
    obtain ⟨E3, F_root3, F_priority3, F_left3, F_right3, F_splitBefore3, F_splitAfter3, F_due3, F_length3, F_count3, F_total3, A_priority3, A_left3, A_right3, A_due3, A_length3, A_count3, A_total3⟩ := HT3'
    obtain ⟨T61, h61, X61, e61, W61, st61⟩ := putF X60 hx hZ hown (host := "") (Or.inl (hw _ (List.mem_of_getElem? (i := 67) rfl))) Via.refl e60 F_splitAfter3 E3 (Or.inl (hw _ (List.mem_of_getElem? (i := 68) rfl))) (hw _ (List.mem_of_getElem? (i := 1) rfl)) (ty := .int) (by decide) rfl rfl (g := (mkF m 87 #[.val (.ref ob), .val (.int (0 : Int32)), .val (.int (1 : Int32))] [(.int (0 : Int32)), (.ref ob)])) rfl rfl (hb hby d8_87)
    have N61 := Fr.snoc X61 N60 HD.1
    have Z61 : n0 ≤ h61.size := Nat.le_trans Z60 (Nat.le_of_eq W61.size.symm)
    have HT4 := own_T.w_splitAfter hw HT3 HD W61
    have pre62 : ∀ t, Steps p.tables e below (T61.setTop (mkF m 90 #[.val (.ref ob), .val (.int (0 : Int32)), .val (.int (1 : Int32))] [])) t → Steps p.tables e below (s₁.setTop (entryFrame m #[(.ref ob), (.int (0 : Int32)), (.int (1 : Int32))] 3)) t := fun t k => pre53 t (by
        show Steps p.tables e below (T52.setTop (mkF m 24 #[.val (.ref ob), .val (.int (0 : Int32)), .val (.int (1 : Int32))] [(.int z52)])) _
        refine XS.ifYes X52.here hx rfl (pc0 := 24) (pc' := 60) rfl (hb hby d8_24) rfl ((if0 _ _).trans (teq hz).1) (by decide) (by decide) ?_
        show Steps p.tables e below (T52.setTop (mkF m 60 #[.val (.ref ob), .val (.int (0 : Int32)), .val (.int (1 : Int32))] [])) _
        refine XS.aloadN X52.here hx rfl (hb hby d8_60) rfl rfl ?_
        show Steps p.tables e below (T52.setTop (mkF m 61 #[.val (.ref ob), .val (.int (0 : Int32)), .val (.int (1 : Int32))] [(.ref ob)])) _
        refine XS.aloadN X52.here hx rfl (hb hby d8_61) rfl rfl ?_
        show Steps p.tables e below (T52.setTop (mkF m 62 #[.val (.ref ob), .val (.int (0 : Int32)), .val (.int (1 : Int32))] [(.ref ob), (.ref ob)])) _
        refine st54 _ ?_
        show Steps p.tables e below (T54.setTop (mkF m 65 #[.val (.ref ob), .val (.int (0 : Int32)), .val (.int (1 : Int32))] [(.ref al), (.ref ob)])) _
        refine XS.iloadN X54.here hx rfl (hb hby d8_65) rfl ?_
        show Steps p.tables e below (T54.setTop (mkF m 66 #[.val (.ref ob), .val (.int (0 : Int32)), .val (.int (1 : Int32))] [(.int (0 : Int32)), (.ref al), (.ref ob)])) _
        refine X54.iaload hx (j := (0 : Int32)) (v := (.int (-1 : Int32))) (by rw [e54]; exact Ar55.1) (State.isArrayOf_alike hZ.alike Ar55.2.1) Ar55.2.2 hin55 hat55 (g := (mkF m 66 #[.val (.ref ob), .val (.int (0 : Int32)), .val (.int (1 : Int32))] [(.int (0 : Int32)), (.ref al), (.ref ob)])) rfl rfl (hb hby d8_66) _ ?_
        show Steps p.tables e below (T54.setTop (mkF m 67 #[.val (.ref ob), .val (.int (0 : Int32)), .val (.int (1 : Int32))] [(.int (-1 : Int32)), (.ref ob)])) _
        refine XS.iloadN X54.here hx rfl (hb hby d8_67) rfl ?_
        show Steps p.tables e below (T54.setTop (mkF m 68 #[.val (.ref ob), .val (.int (0 : Int32)), .val (.int (1 : Int32))] [(.int (1 : Int32)), (.int (-1 : Int32)), (.ref ob)])) _
        refine st56.trans ?_
        show Steps p.tables e below (T56.setTop (mkF m 71 #[.val (.ref ob), .val (.int (0 : Int32)), .val (.int (1 : Int32))] [])) _
        refine XS.aloadN X56.here hx rfl (hb hby d8_71) rfl rfl ?_
        show Steps p.tables e below (T56.setTop (mkF m 72 #[.val (.ref ob), .val (.int (0 : Int32)), .val (.int (1 : Int32))] [(.ref ob)])) _
        refine st57 _ ?_
        show Steps p.tables e below (T57.setTop (mkF m 75 #[.val (.ref ob), .val (.int (0 : Int32)), .val (.int (1 : Int32))] [(.ref al)])) _
        refine XS.iloadN X57.here hx rfl (hb hby d8_75) rfl ?_
        show Steps p.tables e below (T57.setTop (mkF m 76 #[.val (.ref ob), .val (.int (0 : Int32)), .val (.int (1 : Int32))] [(.int (0 : Int32)), (.ref al)])) _
        refine XS.aloadN X57.here hx rfl (hb hby d8_76) rfl rfl ?_
        show Steps p.tables e below (T57.setTop (mkF m 77 #[.val (.ref ob), .val (.int (0 : Int32)), .val (.int (1 : Int32))] [(.ref ob), (.int (0 : Int32)), (.ref al)])) _
        refine st58 _ ?_
        show Steps p.tables e below (T58.setTop (mkF m 80 #[.val (.ref ob), .val (.int (0 : Int32)), .val (.int (1 : Int32))] [(.int (-1 : Int32)), (.int (0 : Int32)), (.ref al)])) _
        refine st59 _ ?_
        show Steps p.tables e below (T59.setTop (mkF m 81 #[.val (.ref ob), .val (.int (0 : Int32)), .val (.int (1 : Int32))] [])) _
        refine XS.aloadN X59.here hx rfl (hb hby d8_81) rfl rfl ?_
        show Steps p.tables e below (T59.setTop (mkF m 82 #[.val (.ref ob), .val (.int (0 : Int32)), .val (.int (1 : Int32))] [(.ref ob)])) _
        refine XS.aloadN X59.here hx rfl (hb hby d8_82) rfl rfl ?_
        show Steps p.tables e below (T59.setTop (mkF m 83 #[.val (.ref ob), .val (.int (0 : Int32)), .val (.int (1 : Int32))] [(.ref ob), (.ref ob)])) _
        refine XS.iloadN X59.here hx rfl (hb hby d8_83) rfl ?_
        show Steps p.tables e below (T59.setTop (mkF m 84 #[.val (.ref ob), .val (.int (0 : Int32)), .val (.int (1 : Int32))] [(.int (0 : Int32)), (.ref ob), (.ref ob)])) _
        refine st60.trans ?_
        show Steps p.tables e below (T60.setTop (mkF m 87 #[.val (.ref ob), .val (.int (0 : Int32)), .val (.int (1 : Int32))] [(.int (0 : Int32)), (.ref ob)])) _
        refine st61 _ ?_
        exact k)
    obtain ⟨fs, hr, hrun, hended, hW, hsame⟩ := X61.leave (v := none) (fun _ => rfl)
    refine ⟨_, _, pre62 _ ?_, hrun, hended, _, _, rfl, ?_, ⟨_, rfl⟩, hW, hsame.mono (by decide) (by decide)⟩
    · show Steps p.tables e below (T61.setTop (mkF m 90 #[.val (.ref ob), .val (.int (0 : Int32)), .val (.int (1 : Int32))] [])) _
      exact X61.returnOut hx Bd.returns (hb hby d8_90) hr
    · show Q8b Z ob ag ap al ar ad ac at0 root sb sa pf lf rf cf df gf tf h0 n0 _ T61.heap _
      rw [e61]
      exact ⟨rfl, N61, Z61, _, _, _, _, _, _, Or.inl rfl, Or.inr (Or.inl rfl), HT4⟩
  · skip
    obtain ⟨T63, X63, e63, st63⟩ := getF X52 hx hZ hown (host := "") (Or.inl (hw _ (List.mem_of_getElem? (i := 24) rfl))) Via.refl e52 F_right0 (g := (mkF m 29 #[.val (.ref ob), .val (.int (0 : Int32)), .val (.int (1 : Int32))] [(.ref ob), (.ref ob)])) rfl rfl (hb hby d8_29)
    obtain ⟨cl64, Ar64, Sz64, Hs64⟩ := A_right0
    have hin64 : ¬ ((0 : Int32) < 0 ∨ cl64.slots.size ≤ ((0 : Int32)).toNatClampNeg) := by rw [Sz64]; exact (by decide)
    have hat64 : cl64.slots[((0 : Int32)).toNatClampNeg]? = some (.int (rf ((0 : Int32)).toNatClampNeg)) := Hs64 _ (Nat.lt_of_not_le fun q => hin64 (Or.inr (Nat.le_trans (Nat.le_of_eq Sz64) q)))
    have hat64 : cl64.slots[((0 : Int32)).toNatClampNeg]? = some (.int (-1 : Int32)) := hat64.trans (congrArg (fun z => some (Value.int z)) (hr0 : (rf ((0 : Int32)).toNatClampNeg) = (-1 : Int32)))
    have A_right0 : own_I Z h0 ar rf := ⟨cl64, Ar64, Sz64, Hs64⟩
    obtain ⟨cq65, q65, q65'⟩ := Exa.cell E0
    obtain ⟨_, _, ⟨T65, L65, k65, n65⟩, -, X65, ⟨Lc65, hQ65, l65, y65, z65⟩, st65⟩ := X63.privateBack hx (y := (⟨"com/example/accord_scheduler/accordscheduler/Treap", "split", "(II)V"⟩ : MethodName)) hown (mvT hZ (hw _ (List.mem_of_getElem? (i := 61) rfl))) (mvT hZ (hw _ (List.mem_of_getElem? (i := 62) rfl))) (own_selp (args := #[]) (mvT hZ (hw _ (List.mem_of_getElem? (i := 95) rfl))) rfl (Cond.privateMethod_at (mvP hZ (hw _ (List.mem_of_getElem? (i := 63) rfl)) (args := #[]))) (mvT hZ (hw _ (List.mem_of_getElem? (i := 62) rfl))) (by decide)) (Cond.privateMethod_at (mvP hZ (hw _ (List.mem_of_getElem? (i := 63) rfl)) (args := #[]))) (mvT hZ (hw _ (List.mem_of_getElem? (i := 64) rfl))) (by decide) (backOf (W := 0) (rm8a l Z a0 hw [] ob (1 : Int32) ag ap al ar ad ac at0 root sb sa pf lf rf cf df gf tf h0 n0 Z0 HT HD) hZ (hw _ (List.mem_of_getElem? (i := 64) rfl)) (hw _ (List.mem_of_getElem? (i := 10) rfl)) (by decide) (by decide)) (g := (mkF m 35 #[.val (.ref ob), .val (.int (0 : Int32)), .val (.int (1 : Int32))] [(.int (1 : Int32)), (.int (-1 : Int32)), (.ref ob)])) rfl (by rw [hml]; rfl) (Steps.refl _) (a := ob) (by rw [e63]; exact q65) q65' (argsL := [(.int (-1 : Int32)), (.int (1 : Int32))]) (rest := []) (lenOf own_pd3 rfl) rfl (by show 2 * 0 + _ ≤ _; exact Nat.le_of_eq rfl) (hb hby d8_35) (fun _ _ => ⟨rfl, e63, (by decide : 0 + 0 ≤ _), (by decide : 0 + 0 ≤ _)⟩)
    dsimp only [Pt.U, Pt.locs, Pt.cells, Pt.slots] at X65 l65 y65 z65 st65 hQ65
    subst l65 y65 z65
    obtain ⟨h65, e65'⟩ : ∃ z, z = T65.heap := ⟨_, rfl⟩
    rw [← e65'] at hQ65
    have e65 := e65'.symm
    obtain ⟨rfl, N65q, Z65, HT1⟩ := hQ65
    have N65 := Fr.app N52 N65q
    have HT1' := HT1
    obtain ⟨E1, F_root1, F_priority1, F_left1, F_right1, F_splitBefore1, F_splitAfter1, F_due1, F_length1, F_count1, F_total1, A_priority1, A_left1, A_right1, A_due1, A_length1, A_count1, A_total1⟩ := HT1'
    obtain ⟨T66, X66, e66, st66⟩ := getF X65 hx hZ hown (host := "") (Or.inl (hw _ (List.mem_of_getElem? (i := 24) rfl))) Via.refl e65 F_right1 (g := (mkF m 39 #[.val (.ref ob), .val (.int (0 : Int32)), .val (.int (1 : Int32))] [(.ref ob)])) rfl rfl (hb hby d8_39)
    obtain ⟨T67, X67, e67, st67⟩ := getF X66 hx hZ hown (host := "") (Or.inl (hw _ (List.mem_of_getElem? (i := 65) rfl))) Via.refl e66 F_splitBefore1 (g := (mkF m 44 #[.val (.ref ob), .val (.int (0 : Int32)), .val (.int (1 : Int32))] [(.ref ob), (.int (0 : Int32)), (.ref ar)])) rfl rfl (hb hby d8_44)
    obtain ⟨cl68, Ar68, Sz68, Hs68⟩ := A_right1
    have hin68 : ¬ ((0 : Int32) < 0 ∨ cl68.slots.size ≤ ((0 : Int32)).toNatClampNeg) := by rw [Sz68]; exact (by decide)
    obtain ⟨T68, h68, X68, e68, W68, st68⟩ := stI X67 hx hZ e67 Ar68 (j := (0 : Int32)) hin68 (g := (mkF m 47 #[.val (.ref ob), .val (.int (0 : Int32)), .val (.int (1 : Int32))] [(.int (-1 : Int32)), (.int (0 : Int32)), (.ref ar)])) rfl rfl (hb hby d8_47)
    have N68 := Fr.snoc X68 N65 (own_ge HD).2.2.2.1
    have Z68 : n0 ≤ h68.size := Nat.le_trans Z65 (Nat.le_of_eq W68.size.symm)
    have lt68 : ((0 : Int32)).toNatClampNeg < 2 := Nat.lt_of_not_le fun q => hin68 (Or.inr (Nat.le_trans (Nat.le_of_eq Sz68) q))
    have HT2 := own_T.w_right HT1 HD W68 lt68
    have HT2' := HT2
    obtain ⟨E2, F_root2, F_priority2, F_left2, F_right2, F_splitBefore2, F_splitAfter2, F_due2, F_length2, F_count2, F_total2, A_priority2, A_left2, A_right2, A_due2, A_length2, A_count2, A_total2⟩ := HT2'
    obtain ⟨cq69, kq69, q69a, q69b, q69c⟩ := isOf hZ e68 E2
    obtain ⟨_, _, ⟨T69, L69, k69, n69⟩, -, X69, ⟨Lc69, hQ69, l69, y69, z69⟩, st69⟩ := X68.virtualBack hx (y := (⟨"com/example/accord_scheduler/accordscheduler/Treap", "update", "(I)I"⟩ : MethodName)) (z := (⟨"com/example/accord_scheduler/accordscheduler/MomentTree", "update", "(I)I"⟩ : MethodName)) hown (mvT hZ (hw _ (List.mem_of_getElem? (i := 69) rfl))) (mvT hZ (hw _ (List.mem_of_getElem? (i := 70) rfl))) (own_nf (args := #[]) (mvT hZ (hw _ (List.mem_of_getElem? (i := 95) rfl))) rfl) (mvT hZ (hw _ (List.mem_of_getElem? (i := 71) rfl))) (mvT hZ (hw _ (List.mem_of_getElem? (i := 72) rfl))) (by decide) (backOf (W := 1) (rm9 l Z a0 hw [] ob (0 : Int32) ag ap al ar ad ac at0 root (-1) (-1) pf lf (own_upd rf (0 : Int32).toNatClampNeg (-1)) cf df gf tf h68 n0 Z68 HT2 HD (Or.inl rfl) (Or.inl hl0) (Or.inl rfl)) hZ (hw _ (List.mem_of_getElem? (i := 73) rfl)) (hw _ (List.mem_of_getElem? (i := 2) rfl)) (by decide) (by decide)) q69a q69c (g := (mkF m 51 #[.val (.ref ob), .val (.int (0 : Int32)), .val (.int (1 : Int32))] [(.int (0 : Int32)), (.ref ob), (.ref ob)])) rfl (by rw [hml]; rfl) (Steps.refl _) (argsL := [(.int (0 : Int32))]) (rest := [(.ref ob)]) (lenOf own_pd0 rfl) rfl (by show 2 * 0 + _ ≤ _; exact Nat.le_of_eq rfl) (hb hby d8_51) (fun _ _ => ⟨rfl, e68, (by decide : 0 + 0 ≤ _), (by decide : 0 + 0 ≤ _)⟩)
    dsimp only [Pt.U, Pt.locs, Pt.cells, Pt.slots] at X69 l69 y69 z69 st69 hQ69
    subst l69 y69 z69
    obtain ⟨h69, e69'⟩ : ∃ z, z = T69.heap := ⟨_, rfl⟩
    rw [← e69'] at hQ69
    have e69 := e69'.symm
    obtain ⟨rfl, N69q, Z69, cv, tv, HT3⟩ := hQ69
    have N69 := Fr.app N68 N69q
    have HT3' := HT3
    obtain ⟨E3, F_root3, F_priority3, F_left3, F_right3, F_splitBefore3, F_splitAfter3, F_due3, F_length3, F_count3, F_total3, A_priority3, A_left3, A_right3, A_due3, A_length3, A_count3, A_total3⟩ := HT3'
    obtain ⟨T70, h70, X70, e70, W70, st70⟩ := putF X69 hx hZ hown (host := "") (Or.inl (hw _ (List.mem_of_getElem? (i := 65) rfl))) Via.refl e69 F_splitBefore3 E3 (Or.inl (hw _ (List.mem_of_getElem? (i := 66) rfl))) (hw _ (List.mem_of_getElem? (i := 1) rfl)) (ty := .int) (by decide) rfl rfl (g := (mkF m 54 #[.val (.ref ob), .val (.int (0 : Int32)), .val (.int (1 : Int32))] [(.int (0 : Int32)), (.ref ob)])) rfl rfl (hb hby d8_54)
    have N70 := Fr.snoc X70 N69 HD.1
    have Z70 : n0 ≤ h70.size := Nat.le_trans Z69 (Nat.le_of_eq W70.size.symm)
    have HT4 := own_T.w_splitBefore hw HT3 HD W70
    have pre71 : ∀ t, Steps p.tables e below (T70.setTop (mkF m 90 #[.val (.ref ob), .val (.int (0 : Int32)), .val (.int (1 : Int32))] [])) t → Steps p.tables e below (s₁.setTop (entryFrame m #[(.ref ob), (.int (0 : Int32)), (.int (1 : Int32))] 3)) t := fun t k => pre53 t (by
        show Steps p.tables e below (T52.setTop (mkF m 24 #[.val (.ref ob), .val (.int (0 : Int32)), .val (.int (1 : Int32))] [(.int z52)])) _
        refine XS.ifNo X52.here hx rfl (hb hby d8_24) rfl ((if0 _ _).trans (feq hz).1) ?_
        show Steps p.tables e below (T52.setTop (mkF m 27 #[.val (.ref ob), .val (.int (0 : Int32)), .val (.int (1 : Int32))] [])) _
        refine XS.aloadN X52.here hx rfl (hb hby d8_27) rfl rfl ?_
        show Steps p.tables e below (T52.setTop (mkF m 28 #[.val (.ref ob), .val (.int (0 : Int32)), .val (.int (1 : Int32))] [(.ref ob)])) _
        refine XS.aloadN X52.here hx rfl (hb hby d8_28) rfl rfl ?_
        show Steps p.tables e below (T52.setTop (mkF m 29 #[.val (.ref ob), .val (.int (0 : Int32)), .val (.int (1 : Int32))] [(.ref ob), (.ref ob)])) _
        refine st63 _ ?_
        show Steps p.tables e below (T63.setTop (mkF m 32 #[.val (.ref ob), .val (.int (0 : Int32)), .val (.int (1 : Int32))] [(.ref ar), (.ref ob)])) _
        refine XS.iloadN X63.here hx rfl (hb hby d8_32) rfl ?_
        show Steps p.tables e below (T63.setTop (mkF m 33 #[.val (.ref ob), .val (.int (0 : Int32)), .val (.int (1 : Int32))] [(.int (0 : Int32)), (.ref ar), (.ref ob)])) _
        refine X63.iaload hx (j := (0 : Int32)) (v := (.int (-1 : Int32))) (by rw [e63]; exact Ar64.1) (State.isArrayOf_alike hZ.alike Ar64.2.1) Ar64.2.2 hin64 hat64 (g := (mkF m 33 #[.val (.ref ob), .val (.int (0 : Int32)), .val (.int (1 : Int32))] [(.int (0 : Int32)), (.ref ar), (.ref ob)])) rfl rfl (hb hby d8_33) _ ?_
        show Steps p.tables e below (T63.setTop (mkF m 34 #[.val (.ref ob), .val (.int (0 : Int32)), .val (.int (1 : Int32))] [(.int (-1 : Int32)), (.ref ob)])) _
        refine XS.iloadN X63.here hx rfl (hb hby d8_34) rfl ?_
        show Steps p.tables e below (T63.setTop (mkF m 35 #[.val (.ref ob), .val (.int (0 : Int32)), .val (.int (1 : Int32))] [(.int (1 : Int32)), (.int (-1 : Int32)), (.ref ob)])) _
        refine st65.trans ?_
        show Steps p.tables e below (T65.setTop (mkF m 38 #[.val (.ref ob), .val (.int (0 : Int32)), .val (.int (1 : Int32))] [])) _
        refine XS.aloadN X65.here hx rfl (hb hby d8_38) rfl rfl ?_
        show Steps p.tables e below (T65.setTop (mkF m 39 #[.val (.ref ob), .val (.int (0 : Int32)), .val (.int (1 : Int32))] [(.ref ob)])) _
        refine st66 _ ?_
        show Steps p.tables e below (T66.setTop (mkF m 42 #[.val (.ref ob), .val (.int (0 : Int32)), .val (.int (1 : Int32))] [(.ref ar)])) _
        refine XS.iloadN X66.here hx rfl (hb hby d8_42) rfl ?_
        show Steps p.tables e below (T66.setTop (mkF m 43 #[.val (.ref ob), .val (.int (0 : Int32)), .val (.int (1 : Int32))] [(.int (0 : Int32)), (.ref ar)])) _
        refine XS.aloadN X66.here hx rfl (hb hby d8_43) rfl rfl ?_
        show Steps p.tables e below (T66.setTop (mkF m 44 #[.val (.ref ob), .val (.int (0 : Int32)), .val (.int (1 : Int32))] [(.ref ob), (.int (0 : Int32)), (.ref ar)])) _
        refine st67 _ ?_
        show Steps p.tables e below (T67.setTop (mkF m 47 #[.val (.ref ob), .val (.int (0 : Int32)), .val (.int (1 : Int32))] [(.int (-1 : Int32)), (.int (0 : Int32)), (.ref ar)])) _
        refine st68 _ ?_
        show Steps p.tables e below (T68.setTop (mkF m 48 #[.val (.ref ob), .val (.int (0 : Int32)), .val (.int (1 : Int32))] [])) _
        refine XS.aloadN X68.here hx rfl (hb hby d8_48) rfl rfl ?_
        show Steps p.tables e below (T68.setTop (mkF m 49 #[.val (.ref ob), .val (.int (0 : Int32)), .val (.int (1 : Int32))] [(.ref ob)])) _
        refine XS.aloadN X68.here hx rfl (hb hby d8_49) rfl rfl ?_
        show Steps p.tables e below (T68.setTop (mkF m 50 #[.val (.ref ob), .val (.int (0 : Int32)), .val (.int (1 : Int32))] [(.ref ob), (.ref ob)])) _
        refine XS.iloadN X68.here hx rfl (hb hby d8_50) rfl ?_
        show Steps p.tables e below (T68.setTop (mkF m 51 #[.val (.ref ob), .val (.int (0 : Int32)), .val (.int (1 : Int32))] [(.int (0 : Int32)), (.ref ob), (.ref ob)])) _
        refine st69.trans ?_
        show Steps p.tables e below (T69.setTop (mkF m 54 #[.val (.ref ob), .val (.int (0 : Int32)), .val (.int (1 : Int32))] [(.int (0 : Int32)), (.ref ob)])) _
        refine st70 _ ?_
        show Steps p.tables e below (T70.setTop (mkF m 57 #[.val (.ref ob), .val (.int (0 : Int32)), .val (.int (1 : Int32))] [])) _
        refine XS.goto X70.here hx rfl (pc0 := 57) (pc' := 90) rfl (hb hby d8_57) (by decide) (by decide) ?_
        exact k)
    obtain ⟨fs, hr, hrun, hended, hW, hsame⟩ := X70.leave (v := none) (fun _ => rfl)
    refine ⟨_, _, pre71 _ ?_, hrun, hended, _, _, rfl, ?_, ⟨_, rfl⟩, hW, hsame.mono (by decide) (by decide)⟩
    · show Steps p.tables e below (T70.setTop (mkF m 90 #[.val (.ref ob), .val (.int (0 : Int32)), .val (.int (1 : Int32))] [])) _
      exact X70.returnOut hx Bd.returns (hb hby d8_90) hr
    · show Q8b Z ob ag ap al ar ad ac at0 root sb sa pf lf rf cf df gf tf h0 n0 _ T70.heap _
      rw [e70]
      exact ⟨rfl, N70, Z70, _, _, _, _, _, _, Or.inr (Or.inl rfl), Or.inl rfl, HT4⟩
theorem d7_0 : decode prog_94_method_8_code 0 = .ok (.iload_n 1, 1) := by decide +kernel
theorem d7_1 : decode prog_94_method_8_code 1 = .ok (.iconst (-1), 1) := by decide +kernel
theorem d7_2 : decode prog_94_method_8_code 2 = .ok (.if_icmp .eq 19, 3) := by decide +kernel
theorem d7_5 : decode prog_94_method_8_code 5 = .ok (.aload_n 0, 1) := by decide +kernel
theorem d7_6 : decode prog_94_method_8_code 6 = .ok (.getfield 16, 3) := by decide +kernel
theorem d7_9 : decode prog_94_method_8_code 9 = .ok (.iload_n 2, 1) := by decide +kernel
theorem d7_10 : decode prog_94_method_8_code 10 = .ok (.laload, 1) := by decide +kernel
theorem d7_11 : decode prog_94_method_8_code 11 = .ok (.aload_n 0, 1) := by decide +kernel
theorem d7_12 : decode prog_94_method_8_code 12 = .ok (.getfield 16, 3) := by decide +kernel
theorem d7_15 : decode prog_94_method_8_code 15 = .ok (.iload_n 1, 1) := by decide +kernel
theorem d7_16 : decode prog_94_method_8_code 16 = .ok (.laload, 1) := by decide +kernel
theorem d7_17 : decode prog_94_method_8_code 17 = .ok (.lcmp, 1) := by decide +kernel
theorem d7_18 : decode prog_94_method_8_code 18 = .ok (.ifCond .le 35, 3) := by decide +kernel
theorem d7_21 : decode prog_94_method_8_code 21 = .ok (.aload_n 0, 1) := by decide +kernel
theorem d7_22 : decode prog_94_method_8_code 22 = .ok (.iload_n 1, 1) := by decide +kernel
theorem d7_23 : decode prog_94_method_8_code 23 = .ok (.iload_n 2, 1) := by decide +kernel
theorem d7_24 : decode prog_94_method_8_code 24 = .ok (.invokevirtual 49, 3) := by decide +kernel
theorem d7_27 : decode prog_94_method_8_code 27 = .ok (.aload_n 0, 1) := by decide +kernel
theorem d7_28 : decode prog_94_method_8_code 28 = .ok (.getfield 20, 3) := by decide +kernel
theorem d7_31 : decode prog_94_method_8_code 31 = .ok (.iload_n 2, 1) := by decide +kernel
theorem d7_32 : decode prog_94_method_8_code 32 = .ok (.aload_n 0, 1) := by decide +kernel
theorem d7_33 : decode prog_94_method_8_code 33 = .ok (.getfield 53, 3) := by decide +kernel
theorem d7_36 : decode prog_94_method_8_code 36 = .ok (.iastore, 1) := by decide +kernel
theorem d7_37 : decode prog_94_method_8_code 37 = .ok (.aload_n 0, 1) := by decide +kernel
theorem d7_38 : decode prog_94_method_8_code 38 = .ok (.getfield 24, 3) := by decide +kernel
theorem d7_41 : decode prog_94_method_8_code 41 = .ok (.iload_n 2, 1) := by decide +kernel
theorem d7_42 : decode prog_94_method_8_code 42 = .ok (.aload_n 0, 1) := by decide +kernel
theorem d7_43 : decode prog_94_method_8_code 43 = .ok (.getfield 56, 3) := by decide +kernel
theorem d7_46 : decode prog_94_method_8_code 46 = .ok (.iastore, 1) := by decide +kernel
theorem d7_47 : decode prog_94_method_8_code 47 = .ok (.aload_n 0, 1) := by decide +kernel
theorem d7_48 : decode prog_94_method_8_code 48 = .ok (.iload_n 2, 1) := by decide +kernel
theorem d7_49 : decode prog_94_method_8_code 49 = .ok (.invokevirtual 59, 3) := by decide +kernel
theorem d7_52 : decode prog_94_method_8_code 52 = .ok (.ireturn, 1) := by decide +kernel
theorem d7_53 : decode prog_94_method_8_code 53 = .ok (.aload_n 0, 1) := by decide +kernel
theorem d7_54 : decode prog_94_method_8_code 54 = .ok (.iload_n 2, 1) := by decide +kernel
theorem d7_55 : decode prog_94_method_8_code 55 = .ok (.iload_n 1, 1) := by decide +kernel
theorem d7_56 : decode prog_94_method_8_code 56 = .ok (.invokevirtual 63, 3) := by decide +kernel
theorem d7_59 : decode prog_94_method_8_code 59 = .ok (.ifCond .eq 23, 3) := by decide +kernel
theorem d7_62 : decode prog_94_method_8_code 62 = .ok (.aload_n 0, 1) := by decide +kernel
theorem d7_63 : decode prog_94_method_8_code 63 = .ok (.getfield 20, 3) := by decide +kernel
theorem d7_66 : decode prog_94_method_8_code 66 = .ok (.iload_n 1, 1) := by decide +kernel
theorem d7_67 : decode prog_94_method_8_code 67 = .ok (.aload_n 0, 1) := by decide +kernel
theorem d7_68 : decode prog_94_method_8_code 68 = .ok (.aload_n 0, 1) := by decide +kernel
theorem d7_69 : decode prog_94_method_8_code 69 = .ok (.getfield 20, 3) := by decide +kernel
theorem d7_72 : decode prog_94_method_8_code 72 = .ok (.iload_n 1, 1) := by decide +kernel
theorem d7_73 : decode prog_94_method_8_code 73 = .ok (.iaload, 1) := by decide +kernel
theorem d7_74 : decode prog_94_method_8_code 74 = .ok (.iload_n 2, 1) := by decide +kernel
theorem d7_75 : decode prog_94_method_8_code 75 = .ok (.invokevirtual 67, 3) := by decide +kernel
theorem d7_78 : decode prog_94_method_8_code 78 = .ok (.iastore, 1) := by decide +kernel
theorem d7_79 : decode prog_94_method_8_code 79 = .ok (.goto 20, 3) := by decide +kernel
theorem d7_82 : decode prog_94_method_8_code 82 = .ok (.aload_n 0, 1) := by decide +kernel
theorem d7_83 : decode prog_94_method_8_code 83 = .ok (.getfield 24, 3) := by decide +kernel
theorem d7_86 : decode prog_94_method_8_code 86 = .ok (.iload_n 1, 1) := by decide +kernel
theorem d7_87 : decode prog_94_method_8_code 87 = .ok (.aload_n 0, 1) := by decide +kernel
theorem d7_88 : decode prog_94_method_8_code 88 = .ok (.aload_n 0, 1) := by decide +kernel
theorem d7_89 : decode prog_94_method_8_code 89 = .ok (.getfield 24, 3) := by decide +kernel
theorem d7_92 : decode prog_94_method_8_code 92 = .ok (.iload_n 1, 1) := by decide +kernel
theorem d7_93 : decode prog_94_method_8_code 93 = .ok (.iaload, 1) := by decide +kernel
theorem d7_94 : decode prog_94_method_8_code 94 = .ok (.iload_n 2, 1) := by decide +kernel
theorem d7_95 : decode prog_94_method_8_code 95 = .ok (.invokevirtual 67, 3) := by decide +kernel
theorem d7_98 : decode prog_94_method_8_code 98 = .ok (.iastore, 1) := by decide +kernel
theorem d7_99 : decode prog_94_method_8_code 99 = .ok (.aload_n 0, 1) := by decide +kernel
theorem d7_100 : decode prog_94_method_8_code 100 = .ok (.iload_n 1, 1) := by decide +kernel
theorem d7_101 : decode prog_94_method_8_code 101 = .ok (.invokevirtual 59, 3) := by decide +kernel
theorem d7_104 : decode prog_94_method_8_code 104 = .ok (.ireturn, 1) := by decide +kernel
theorem own_pd4 : parseMethodDescriptor "(II)I" = some ⟨[.int, .int], some .int⟩ := by decide +kernel
theorem pn_7 : plainName "com/example/accord_scheduler/accordscheduler/Treap" = true := by first | (simp [plainName, overriddenIn]; done) | decide +kernel
theorem ef_7 (m : MethodId) (a0 : Addr) (p1 : Int32) (p2 : Int32) : entryFrame m #[(.ref a0), (.int p1), (.int p2)] 3 = mkF m 0 #[.val (.ref a0), .val (.int p1), .val (.int p2)] [] := by first | (simp [entryFrame, mkF, argsToLocals, Value.category]; done) | rfl
def Q7a (Z : State) (ob : Addr) (ag ap al ar ad ac at0 : Addr) (root sb sa : Int32) (pf : Nat → Int64) (lf rf cf : Nat → Int32) (df gf tf : Nat → Int64) (h0 : Heap) (n0 : Nat) (v : Option Value) (h : Heap) (L : List Loc) : Prop := v = some (.int 0) ∧ Fr n0 L ∧ n0 ≤ h.size ∧ ∃ (cv : Int32) (tv : Int64), own_T Z h ob ag ap al ar ad ac at0 root (-1) (-1) pf (own_upd lf 0 (-1)) (own_upd rf 0 (-1)) (own_upd cf 0 cv) df gf (own_upd tf 0 tv)
set_option maxRecDepth 65536 in
set_option maxHeartbeats 40000000 in
theorem rm7a (l : Launch) (Z : State) (a0 : Array Value) (hw : ∀ d ∈ tables_1, d.before a0 Z = true) (ws : List Jvm.Cond) (ob : Addr) (ag ap al ar ad ac at0 : Addr) (root sb sa : Int32) (pf : Nat → Int64) (lf rf cf : Nat → Int32) (df gf tf : Nat → Int64) (h0 : Heap) (n0 : Nat) (Z0 : n0 ≤ h0.size) (HT : own_T Z h0 ob ag ap al ar ad ac at0 root sb sa pf lf rf cf df gf tf) (HD : own_D n0 ob ag ap al ar ad ac at0) :
    MetFree l (⟨"com/example/accord_scheduler/accordscheduler/Treap", "insert", "(II)I"⟩ : MethodName) (head1 (Jvm.Cond.code (⟨"com/example/accord_scheduler/accordscheduler/Treap", "insert", "(II)I"⟩ : MethodName) prog_94_method_8_code 3 (some .int) :: ws) ({ frames := 2, cells := 0, slots := 0, locals := 40 } : Room)) (fun a U => a = #[(.ref ob), (.int (-1 : Int32)), (.int (0 : Int32))] ∧ Z.Warmed39 U.vm ∧ U.heap = h0) (fun _ _ _ _ _ => True) (fun _ U o U' => ∃ v L, o = .returned v ∧ Q7a Z ob ag ap al ar ad ac at0 root sb sa pf lf rf cf df gf tf h0 n0 v U'.heap L ∧ FrameEnd U o U' L ({ frames := 2, cells := 0, slots := 0, locals := 40 } : Room).cells ({ frames := 2, cells := 0, slots := 0, locals := 40 } : Room).slots) := by
  refine MetFree.of_bodySF (plainFor_of_name pn_7) hisR ?_
  intro p e s m args below meth c s₁ Bd hml0 hP hK
  obtain ⟨rfl, hZ, hh⟩ := hP
  have hx := Bd.exec
  have hby := Bd.bytes
  have hml : c.maxLocals = 3 := hml0
  have hown : s.vm.findClass "com/example/accord_scheduler/accordscheduler/Treap" = some m.cls := findClass_of_methodNamed Bd.named
  have hnm := (name_of_methodNamed Bd.named Bd.method).1
  have X0 : Stand p l e ({ frames := 2, cells := 0, slots := 0, locals := 40 } : Room) s m #[(.ref ob), (.int (-1 : Int32)), (.int (0 : Int32))] below meth c s₁ [] 0 0 := Stand.of_body Bd
  have e0 : s₁.heap = h0 := by rw [← hh, Bd.state]; rfl
  have N0 := Fr.nil n0
  have pre0 : ∀ t, Steps p.tables e below (s₁.setTop (mkF m 0 #[.val (.ref ob), .val (.int (-1 : Int32)), .val (.int (0 : Int32))] [])) t → Steps p.tables e below (s₁.setTop (entryFrame m #[(.ref ob), (.int (-1 : Int32)), (.int (0 : Int32))] 3)) t := fun t k => castTop (ef_7 m ob (-1 : Int32) (0 : Int32)) k
  have HT0 := HT
  obtain ⟨E0, F_root0, F_priority0, F_left0, F_right0, F_splitBefore0, F_splitAfter0, F_due0, F_length0, F_count0, F_total0, A_priority0, A_left0, A_right0, A_due0, A_length0, A_count0, A_total0⟩ := HT0
  obtain ⟨cq72, q72, q72'⟩ := Exa.cell E0
  obtain ⟨_, _, ⟨T72, L72, k72, n72⟩, -, X72, ⟨Lc72, hQ72, l72, y72, z72⟩, st72⟩ := X0.privateBack hx (y := (⟨"com/example/accord_scheduler/accordscheduler/Treap", "split", "(II)V"⟩ : MethodName)) hown (mvT hZ (hw _ (List.mem_of_getElem? (i := 61) rfl))) (mvT hZ (hw _ (List.mem_of_getElem? (i := 62) rfl))) (own_selp (args := #[]) (mvT hZ (hw _ (List.mem_of_getElem? (i := 95) rfl))) rfl (Cond.privateMethod_at (mvP hZ (hw _ (List.mem_of_getElem? (i := 63) rfl)) (args := #[]))) (mvT hZ (hw _ (List.mem_of_getElem? (i := 62) rfl))) (by decide)) (Cond.privateMethod_at (mvP hZ (hw _ (List.mem_of_getElem? (i := 63) rfl)) (args := #[]))) (mvT hZ (hw _ (List.mem_of_getElem? (i := 64) rfl))) (by decide) (backOf (W := 0) (rm8a l Z a0 hw [] ob (0 : Int32) ag ap al ar ad ac at0 root sb sa pf lf rf cf df gf tf h0 n0 Z0 HT HD) hZ (hw _ (List.mem_of_getElem? (i := 64) rfl)) (hw _ (List.mem_of_getElem? (i := 10) rfl)) (by decide) (by decide)) (g := (mkF m 24 #[.val (.ref ob), .val (.int (-1 : Int32)), .val (.int (0 : Int32))] [(.int (0 : Int32)), (.int (-1 : Int32)), (.ref ob)])) rfl (by rw [hml]; rfl) (Steps.refl _) (a := ob) (by rw [e0]; exact q72) q72' (argsL := [(.int (-1 : Int32)), (.int (0 : Int32))]) (rest := []) (lenOf own_pd3 rfl) rfl (by show 2 * 0 + _ ≤ _; exact Nat.le_of_eq rfl) (hb hby d7_24) (fun _ _ => ⟨rfl, e0, (by decide : 0 + 0 ≤ _), (by decide : 0 + 0 ≤ _)⟩)
  dsimp only [Pt.U, Pt.locs, Pt.cells, Pt.slots] at X72 l72 y72 z72 st72 hQ72
  subst l72 y72 z72
  obtain ⟨h72, e72'⟩ : ∃ z, z = T72.heap := ⟨_, rfl⟩
  rw [← e72'] at hQ72
  have e72 := e72'.symm
  obtain ⟨rfl, N72q, Z72, HT1⟩ := hQ72
  have N72 := Fr.app N0 N72q
  have HT1' := HT1
  obtain ⟨E1, F_root1, F_priority1, F_left1, F_right1, F_splitBefore1, F_splitAfter1, F_due1, F_length1, F_count1, F_total1, A_priority1, A_left1, A_right1, A_due1, A_length1, A_count1, A_total1⟩ := HT1'
  obtain ⟨T73, X73, e73, st73⟩ := getF X72 hx hZ hown (host := "") (Or.inl (hw _ (List.mem_of_getElem? (i := 22) rfl))) Via.refl e72 F_left1 (g := (mkF m 28 #[.val (.ref ob), .val (.int (-1 : Int32)), .val (.int (0 : Int32))] [(.ref ob)])) rfl rfl (hb hby d7_28)
  obtain ⟨T74, X74, e74, st74⟩ := getF X73 hx hZ hown (host := "") (Or.inl (hw _ (List.mem_of_getElem? (i := 65) rfl))) Via.refl e73 F_splitBefore1 (g := (mkF m 33 #[.val (.ref ob), .val (.int (-1 : Int32)), .val (.int (0 : Int32))] [(.ref ob), (.int (0 : Int32)), (.ref al)])) rfl rfl (hb hby d7_33)
  obtain ⟨cl75, Ar75, Sz75, Hs75⟩ := A_left1
  have hin75 : ¬ ((0 : Int32) < 0 ∨ cl75.slots.size ≤ ((0 : Int32)).toNatClampNeg) := by rw [Sz75]; exact (by decide)
  obtain ⟨T75, h75, X75, e75, W75, st75⟩ := stI X74 hx hZ e74 Ar75 (j := (0 : Int32)) hin75 (g := (mkF m 36 #[.val (.ref ob), .val (.int (-1 : Int32)), .val (.int (0 : Int32))] [(.int (-1 : Int32)), (.int (0 : Int32)), (.ref al)])) rfl rfl (hb hby d7_36)
  have N75 := Fr.snoc X75 N72 (own_ge HD).2.2.1
  have Z75 : n0 ≤ h75.size := Nat.le_trans Z72 (Nat.le_of_eq W75.size.symm)
  have lt75 : ((0 : Int32)).toNatClampNeg < 2 := Nat.lt_of_not_le fun q => hin75 (Or.inr (Nat.le_trans (Nat.le_of_eq Sz75) q))
  have HT2 := own_T.w_left HT1 HD W75 lt75
  have HT2' := HT2
  obtain ⟨E2, F_root2, F_priority2, F_left2, F_right2, F_splitBefore2, F_splitAfter2, F_due2, F_length2, F_count2, F_total2, A_priority2, A_left2, A_right2, A_due2, A_length2, A_count2, A_total2⟩ := HT2'
  obtain ⟨T76, X76, e76, st76⟩ := getF X75 hx hZ hown (host := "") (Or.inl (hw _ (List.mem_of_getElem? (i := 24) rfl))) Via.refl e75 F_right2 (g := (mkF m 38 #[.val (.ref ob), .val (.int (-1 : Int32)), .val (.int (0 : Int32))] [(.ref ob)])) rfl rfl (hb hby d7_38)
  obtain ⟨T77, X77, e77, st77⟩ := getF X76 hx hZ hown (host := "") (Or.inl (hw _ (List.mem_of_getElem? (i := 67) rfl))) Via.refl e76 F_splitAfter2 (g := (mkF m 43 #[.val (.ref ob), .val (.int (-1 : Int32)), .val (.int (0 : Int32))] [(.ref ob), (.int (0 : Int32)), (.ref ar)])) rfl rfl (hb hby d7_43)
  obtain ⟨cl78, Ar78, Sz78, Hs78⟩ := A_right2
  have hin78 : ¬ ((0 : Int32) < 0 ∨ cl78.slots.size ≤ ((0 : Int32)).toNatClampNeg) := by rw [Sz78]; exact (by decide)
  obtain ⟨T78, h78, X78, e78, W78, st78⟩ := stI X77 hx hZ e77 Ar78 (j := (0 : Int32)) hin78 (g := (mkF m 46 #[.val (.ref ob), .val (.int (-1 : Int32)), .val (.int (0 : Int32))] [(.int (-1 : Int32)), (.int (0 : Int32)), (.ref ar)])) rfl rfl (hb hby d7_46)
  have N78 := Fr.snoc X78 N75 (own_ge HD).2.2.2.1
  have Z78 : n0 ≤ h78.size := Nat.le_trans Z75 (Nat.le_of_eq W78.size.symm)
  have lt78 : ((0 : Int32)).toNatClampNeg < 2 := Nat.lt_of_not_le fun q => hin78 (Or.inr (Nat.le_trans (Nat.le_of_eq Sz78) q))
  have HT3 := own_T.w_right HT2 HD W78 lt78
  have HT3' := HT3
  obtain ⟨E3, F_root3, F_priority3, F_left3, F_right3, F_splitBefore3, F_splitAfter3, F_due3, F_length3, F_count3, F_total3, A_priority3, A_left3, A_right3, A_due3, A_length3, A_count3, A_total3⟩ := HT3'
  obtain ⟨cq79, kq79, q79a, q79b, q79c⟩ := isOf hZ e78 E3
  obtain ⟨_, _, ⟨T79, L79, k79, n79⟩, -, X79, ⟨Lc79, hQ79, l79, y79, z79⟩, st79⟩ := X78.virtualBack hx (y := (⟨"com/example/accord_scheduler/accordscheduler/Treap", "update", "(I)I"⟩ : MethodName)) (z := (⟨"com/example/accord_scheduler/accordscheduler/MomentTree", "update", "(I)I"⟩ : MethodName)) hown (mvT hZ (hw _ (List.mem_of_getElem? (i := 69) rfl))) (mvT hZ (hw _ (List.mem_of_getElem? (i := 70) rfl))) (own_nf (args := #[]) (mvT hZ (hw _ (List.mem_of_getElem? (i := 95) rfl))) rfl) (mvT hZ (hw _ (List.mem_of_getElem? (i := 71) rfl))) (mvT hZ (hw _ (List.mem_of_getElem? (i := 72) rfl))) (by decide) (backOf (W := 0) (rm9 l Z a0 hw [] ob (0 : Int32) ag ap al ar ad ac at0 root (-1) (-1) pf (own_upd lf (0 : Int32).toNatClampNeg (-1 : Int32)) (own_upd rf (0 : Int32).toNatClampNeg (-1 : Int32)) cf df gf tf h78 n0 Z78 HT3 HD (Or.inl rfl) (Or.inl rfl) (Or.inl rfl)) hZ (hw _ (List.mem_of_getElem? (i := 73) rfl)) (hw _ (List.mem_of_getElem? (i := 2) rfl)) (by decide) (by decide)) q79a q79c (g := (mkF m 49 #[.val (.ref ob), .val (.int (-1 : Int32)), .val (.int (0 : Int32))] [(.int (0 : Int32)), (.ref ob)])) rfl (by rw [hml]; rfl) (Steps.refl _) (argsL := [(.int (0 : Int32))]) (rest := []) (lenOf own_pd0 rfl) rfl (by show 2 * 0 + _ ≤ _; exact Nat.le_of_eq rfl) (hb hby d7_49) (fun _ _ => ⟨rfl, e78, (by decide : 0 + 0 ≤ _), (by decide : 0 + 0 ≤ _)⟩)
  dsimp only [Pt.U, Pt.locs, Pt.cells, Pt.slots] at X79 l79 y79 z79 st79 hQ79
  subst l79 y79 z79
  obtain ⟨h79, e79'⟩ : ∃ z, z = T79.heap := ⟨_, rfl⟩
  rw [← e79'] at hQ79
  have e79 := e79'.symm
  obtain ⟨rfl, N79q, Z79, cv, tv, HT4⟩ := hQ79
  have N79 := Fr.app N78 N79q
  have pre80 : ∀ t, Steps p.tables e below (T79.setTop (mkF m 52 #[.val (.ref ob), .val (.int (-1 : Int32)), .val (.int (0 : Int32))] [(.int (0 : Int32))])) t → Steps p.tables e below (s₁.setTop (entryFrame m #[(.ref ob), (.int (-1 : Int32)), (.int (0 : Int32))] 3)) t := fun t k => pre0 t (by
      show Steps p.tables e below (s₁.setTop (mkF m 0 #[.val (.ref ob), .val (.int (-1 : Int32)), .val (.int (0 : Int32))] [])) _
      refine XS.iloadN X0.here hx rfl (hb hby d7_0) rfl ?_
      show Steps p.tables e below (s₁.setTop (mkF m 1 #[.val (.ref ob), .val (.int (-1 : Int32)), .val (.int (0 : Int32))] [(.int (-1 : Int32))])) _
      refine XS.iconst X0.here hx rfl (hb hby d7_1) ?_
      show Steps p.tables e below (s₁.setTop (mkF m 2 #[.val (.ref ob), .val (.int (-1 : Int32)), .val (.int (0 : Int32))] [(.int ((-1) : Int32)), (.int (-1 : Int32))])) _
      refine XS.icmpYes X0.here hx rfl (pc0 := 2) (pc' := 21) rfl (hb hby d7_2) rfl (teq rfl).1 (by decide) (by decide) ?_
      show Steps p.tables e below (s₁.setTop (mkF m 21 #[.val (.ref ob), .val (.int (-1 : Int32)), .val (.int (0 : Int32))] [])) _
      refine XS.aloadN X0.here hx rfl (hb hby d7_21) rfl rfl ?_
      show Steps p.tables e below (s₁.setTop (mkF m 22 #[.val (.ref ob), .val (.int (-1 : Int32)), .val (.int (0 : Int32))] [(.ref ob)])) _
      refine XS.iloadN X0.here hx rfl (hb hby d7_22) rfl ?_
      show Steps p.tables e below (s₁.setTop (mkF m 23 #[.val (.ref ob), .val (.int (-1 : Int32)), .val (.int (0 : Int32))] [(.int (-1 : Int32)), (.ref ob)])) _
      refine XS.iloadN X0.here hx rfl (hb hby d7_23) rfl ?_
      show Steps p.tables e below (s₁.setTop (mkF m 24 #[.val (.ref ob), .val (.int (-1 : Int32)), .val (.int (0 : Int32))] [(.int (0 : Int32)), (.int (-1 : Int32)), (.ref ob)])) _
      refine st72.trans ?_
      show Steps p.tables e below (T72.setTop (mkF m 27 #[.val (.ref ob), .val (.int (-1 : Int32)), .val (.int (0 : Int32))] [])) _
      refine XS.aloadN X72.here hx rfl (hb hby d7_27) rfl rfl ?_
      show Steps p.tables e below (T72.setTop (mkF m 28 #[.val (.ref ob), .val (.int (-1 : Int32)), .val (.int (0 : Int32))] [(.ref ob)])) _
      refine st73 _ ?_
      show Steps p.tables e below (T73.setTop (mkF m 31 #[.val (.ref ob), .val (.int (-1 : Int32)), .val (.int (0 : Int32))] [(.ref al)])) _
      refine XS.iloadN X73.here hx rfl (hb hby d7_31) rfl ?_
      show Steps p.tables e below (T73.setTop (mkF m 32 #[.val (.ref ob), .val (.int (-1 : Int32)), .val (.int (0 : Int32))] [(.int (0 : Int32)), (.ref al)])) _
      refine XS.aloadN X73.here hx rfl (hb hby d7_32) rfl rfl ?_
      show Steps p.tables e below (T73.setTop (mkF m 33 #[.val (.ref ob), .val (.int (-1 : Int32)), .val (.int (0 : Int32))] [(.ref ob), (.int (0 : Int32)), (.ref al)])) _
      refine st74 _ ?_
      show Steps p.tables e below (T74.setTop (mkF m 36 #[.val (.ref ob), .val (.int (-1 : Int32)), .val (.int (0 : Int32))] [(.int (-1 : Int32)), (.int (0 : Int32)), (.ref al)])) _
      refine st75 _ ?_
      show Steps p.tables e below (T75.setTop (mkF m 37 #[.val (.ref ob), .val (.int (-1 : Int32)), .val (.int (0 : Int32))] [])) _
      refine XS.aloadN X75.here hx rfl (hb hby d7_37) rfl rfl ?_
      show Steps p.tables e below (T75.setTop (mkF m 38 #[.val (.ref ob), .val (.int (-1 : Int32)), .val (.int (0 : Int32))] [(.ref ob)])) _
      refine st76 _ ?_
      show Steps p.tables e below (T76.setTop (mkF m 41 #[.val (.ref ob), .val (.int (-1 : Int32)), .val (.int (0 : Int32))] [(.ref ar)])) _
      refine XS.iloadN X76.here hx rfl (hb hby d7_41) rfl ?_
      show Steps p.tables e below (T76.setTop (mkF m 42 #[.val (.ref ob), .val (.int (-1 : Int32)), .val (.int (0 : Int32))] [(.int (0 : Int32)), (.ref ar)])) _
      refine XS.aloadN X76.here hx rfl (hb hby d7_42) rfl rfl ?_
      show Steps p.tables e below (T76.setTop (mkF m 43 #[.val (.ref ob), .val (.int (-1 : Int32)), .val (.int (0 : Int32))] [(.ref ob), (.int (0 : Int32)), (.ref ar)])) _
      refine st77 _ ?_
      show Steps p.tables e below (T77.setTop (mkF m 46 #[.val (.ref ob), .val (.int (-1 : Int32)), .val (.int (0 : Int32))] [(.int (-1 : Int32)), (.int (0 : Int32)), (.ref ar)])) _
      refine st78 _ ?_
      show Steps p.tables e below (T78.setTop (mkF m 47 #[.val (.ref ob), .val (.int (-1 : Int32)), .val (.int (0 : Int32))] [])) _
      refine XS.aloadN X78.here hx rfl (hb hby d7_47) rfl rfl ?_
      show Steps p.tables e below (T78.setTop (mkF m 48 #[.val (.ref ob), .val (.int (-1 : Int32)), .val (.int (0 : Int32))] [(.ref ob)])) _
      refine XS.iloadN X78.here hx rfl (hb hby d7_48) rfl ?_
      show Steps p.tables e below (T78.setTop (mkF m 49 #[.val (.ref ob), .val (.int (-1 : Int32)), .val (.int (0 : Int32))] [(.int (0 : Int32)), (.ref ob)])) _
      refine st79.trans ?_
      exact k)
  obtain ⟨fs, hr, hrun, hended, hW, hsame⟩ := X79.leave (v := some (.int (0 : Int32))) (fun h => by rw [Bd.returns] at h; cases h)
  refine ⟨_, _, pre80 _ ?_, hrun, hended, _, _, rfl, ?_, ⟨_, rfl⟩, hW, hsame.mono (by decide) (by decide)⟩
  · show Steps p.tables e below (T79.setTop (mkF m 52 #[.val (.ref ob), .val (.int (-1 : Int32)), .val (.int (0 : Int32))] [(.int (0 : Int32))])) _
    exact retI X79 hx Bd.returns (hb hby d7_52) hr
  · show Q7a Z ob ag ap al ar ad ac at0 root sb sa pf lf rf cf df gf tf h0 n0 _ T79.heap _
    rw [e79]
    exact ⟨rfl, N79, Z79, _, _, HT4⟩
def Q7b (Z : State) (ob : Addr) (ag ap al ar ad ac at0 : Addr) (root sb sa : Int32) (pf : Nat → Int64) (lf rf cf : Nat → Int32) (df gf tf : Nat → Int64) (h0 : Heap) (n0 : Nat) (v : Option Value) (h : Heap) (L : List Loc) : Prop := v = some (.int 1) ∧ Fr n0 L ∧ n0 ≤ h.size ∧ ∃ (sb' sa' : Int32) (lf' rf' cf' : Nat → Int32) (tf' : Nat → Int64), own_T Z h ob ag ap al ar ad ac at0 root sb' sa' pf lf' rf' cf' df gf tf'
set_option maxRecDepth 65536 in
set_option maxHeartbeats 40000000 in
theorem rm7b (l : Launch) (Z : State) (a0 : Array Value) (hw : ∀ d ∈ tables_1, d.before a0 Z = true) (ws : List Jvm.Cond) (ob : Addr) (ag ap al ar ad ac at0 : Addr) (root sb sa : Int32) (pf : Nat → Int64) (lf rf cf : Nat → Int32) (df gf tf : Nat → Int64) (h0 : Heap) (n0 : Nat) (Z0 : n0 ≤ h0.size) (HT : own_T Z h0 ob ag ap al ar ad ac at0 root sb sa pf lf rf cf df gf tf) (HD : own_D n0 ob ag ap al ar ad ac at0) (hl0 : lf 0 = -1) (hr0 : rf 0 = -1) (hp : pf 0 < pf 1) :
    MetFree l (⟨"com/example/accord_scheduler/accordscheduler/Treap", "insert", "(II)I"⟩ : MethodName) (head1 (Jvm.Cond.code (⟨"com/example/accord_scheduler/accordscheduler/Treap", "insert", "(II)I"⟩ : MethodName) prog_94_method_8_code 3 (some .int) :: ws) ({ frames := 3, cells := 0, slots := 0, locals := 60 } : Room)) (fun a U => a = #[(.ref ob), (.int (0 : Int32)), (.int (1 : Int32))] ∧ Z.Warmed39 U.vm ∧ U.heap = h0) (fun _ _ _ _ _ => True) (fun _ U o U' => ∃ v L, o = .returned v ∧ Q7b Z ob ag ap al ar ad ac at0 root sb sa pf lf rf cf df gf tf h0 n0 v U'.heap L ∧ FrameEnd U o U' L ({ frames := 3, cells := 0, slots := 0, locals := 60 } : Room).cells ({ frames := 3, cells := 0, slots := 0, locals := 60 } : Room).slots) := by
  refine MetFree.of_bodySF (plainFor_of_name pn_7) hisR ?_
  intro p e s m args below meth c s₁ Bd hml0 hP hK
  obtain ⟨rfl, hZ, hh⟩ := hP
  have hx := Bd.exec
  have hby := Bd.bytes
  have hml : c.maxLocals = 3 := hml0
  have hown : s.vm.findClass "com/example/accord_scheduler/accordscheduler/Treap" = some m.cls := findClass_of_methodNamed Bd.named
  have hnm := (name_of_methodNamed Bd.named Bd.method).1
  have X0 : Stand p l e ({ frames := 3, cells := 0, slots := 0, locals := 60 } : Room) s m #[(.ref ob), (.int (0 : Int32)), (.int (1 : Int32))] below meth c s₁ [] 0 0 := Stand.of_body Bd
  have e0 : s₁.heap = h0 := by rw [← hh, Bd.state]; rfl
  have N0 := Fr.nil n0
  have pre0 : ∀ t, Steps p.tables e below (s₁.setTop (mkF m 0 #[.val (.ref ob), .val (.int (0 : Int32)), .val (.int (1 : Int32))] [])) t → Steps p.tables e below (s₁.setTop (entryFrame m #[(.ref ob), (.int (0 : Int32)), (.int (1 : Int32))] 3)) t := fun t k => castTop (ef_7 m ob (0 : Int32) (1 : Int32)) k
  have HT0 := HT
  obtain ⟨E0, F_root0, F_priority0, F_left0, F_right0, F_splitBefore0, F_splitAfter0, F_due0, F_length0, F_count0, F_total0, A_priority0, A_left0, A_right0, A_due0, A_length0, A_count0, A_total0⟩ := HT0
  obtain ⟨T81, X81, e81, st81⟩ := getF X0 hx hZ hown (host := "") (Or.inl (hw _ (List.mem_of_getElem? (i := 19) rfl))) Via.refl e0 F_priority0 (g := (mkF m 6 #[.val (.ref ob), .val (.int (0 : Int32)), .val (.int (1 : Int32))] [(.ref ob)])) rfl rfl (hb hby d7_6)
  obtain ⟨cl82, Ar82, Sz82, Hs82⟩ := A_priority0
  have hin82 : ¬ ((1 : Int32) < 0 ∨ cl82.slots.size ≤ ((1 : Int32)).toNatClampNeg) := by rw [Sz82]; exact (by decide)
  have hat82 : cl82.slots[((1 : Int32)).toNatClampNeg]? = some (.long (pf ((1 : Int32)).toNatClampNeg)) := Hs82 _ (Nat.lt_of_not_le fun q => hin82 (Or.inr (Nat.le_trans (Nat.le_of_eq Sz82) q)))
  have hat82 : cl82.slots[((1 : Int32)).toNatClampNeg]? = some (.long (pf 1)) := hat82.trans (congrArg (fun z => some (Value.long z)) (rfl : (pf ((1 : Int32)).toNatClampNeg) = (pf 1)))
  have A_priority0 : own_J Z h0 ap pf := ⟨cl82, Ar82, Sz82, Hs82⟩
  obtain ⟨T83, X83, e83, st83⟩ := getF X81 hx hZ hown (host := "") (Or.inl (hw _ (List.mem_of_getElem? (i := 19) rfl))) Via.refl e81 F_priority0 (g := (mkF m 12 #[.val (.ref ob), .val (.int (0 : Int32)), .val (.int (1 : Int32))] [(.ref ob), (.long (pf 1))])) rfl rfl (hb hby d7_12)
  obtain ⟨cl84, Ar84, Sz84, Hs84⟩ := A_priority0
  have hin84 : ¬ ((0 : Int32) < 0 ∨ cl84.slots.size ≤ ((0 : Int32)).toNatClampNeg) := by rw [Sz84]; exact (by decide)
  have hat84 : cl84.slots[((0 : Int32)).toNatClampNeg]? = some (.long (pf ((0 : Int32)).toNatClampNeg)) := Hs84 _ (Nat.lt_of_not_le fun q => hin84 (Or.inr (Nat.le_trans (Nat.le_of_eq Sz84) q)))
  have hat84 : cl84.slots[((0 : Int32)).toNatClampNeg]? = some (.long (pf 0)) := hat84.trans (congrArg (fun z => some (Value.long z)) (rfl : (pf ((0 : Int32)).toNatClampNeg) = (pf 0)))
  have A_priority0 : own_J Z h0 ap pf := ⟨cl84, Ar84, Sz84, Hs84⟩
  obtain ⟨cq85, q85, q85'⟩ := Exa.cell E0
  obtain ⟨_, _, ⟨T85, L85, k85, n85⟩, -, X85, ⟨Lc85, hQ85, l85, y85, z85⟩, st85⟩ := X83.privateBack hx (y := (⟨"com/example/accord_scheduler/accordscheduler/Treap", "split", "(II)V"⟩ : MethodName)) hown (mvT hZ (hw _ (List.mem_of_getElem? (i := 61) rfl))) (mvT hZ (hw _ (List.mem_of_getElem? (i := 62) rfl))) (own_selp (args := #[]) (mvT hZ (hw _ (List.mem_of_getElem? (i := 95) rfl))) rfl (Cond.privateMethod_at (mvP hZ (hw _ (List.mem_of_getElem? (i := 63) rfl)) (args := #[]))) (mvT hZ (hw _ (List.mem_of_getElem? (i := 62) rfl))) (by decide)) (Cond.privateMethod_at (mvP hZ (hw _ (List.mem_of_getElem? (i := 63) rfl)) (args := #[]))) (mvT hZ (hw _ (List.mem_of_getElem? (i := 64) rfl))) (by decide) (backOf (W := 0) (rm8b l Z a0 hw [] ob ag ap al ar ad ac at0 root sb sa pf lf rf cf df gf tf h0 n0 Z0 HT HD hl0 hr0) hZ (hw _ (List.mem_of_getElem? (i := 64) rfl)) (hw _ (List.mem_of_getElem? (i := 10) rfl)) (by decide) (by decide)) (g := (mkF m 24 #[.val (.ref ob), .val (.int (0 : Int32)), .val (.int (1 : Int32))] [(.int (1 : Int32)), (.int (0 : Int32)), (.ref ob)])) rfl (by rw [hml]; rfl) (Steps.refl _) (a := ob) (by rw [e83]; exact q85) q85' (argsL := [(.int (0 : Int32)), (.int (1 : Int32))]) (rest := []) (lenOf own_pd3 rfl) rfl (by show 2 * 0 + _ ≤ _; exact Nat.le_of_eq rfl) (hb hby d7_24) (fun _ _ => ⟨rfl, e83, (by decide : 0 + 0 ≤ _), (by decide : 0 + 0 ≤ _)⟩)
  dsimp only [Pt.U, Pt.locs, Pt.cells, Pt.slots] at X85 l85 y85 z85 st85 hQ85
  subst l85 y85 z85
  obtain ⟨h85, e85'⟩ : ∃ z, z = T85.heap := ⟨_, rfl⟩
  rw [← e85'] at hQ85
  have e85 := e85'.symm
  obtain ⟨rfl, N85q, Z85, sb', sa', lf', rf', cf', tf', nb, na, HT1⟩ := hQ85
  have N85 := Fr.app N0 N85q
  have HT1' := HT1
  obtain ⟨E1, F_root1, F_priority1, F_left1, F_right1, F_splitBefore1, F_splitAfter1, F_due1, F_length1, F_count1, F_total1, A_priority1, A_left1, A_right1, A_due1, A_length1, A_count1, A_total1⟩ := HT1'
  obtain ⟨T86, X86, e86, st86⟩ := getF X85 hx hZ hown (host := "") (Or.inl (hw _ (List.mem_of_getElem? (i := 22) rfl))) Via.refl e85 F_left1 (g := (mkF m 28 #[.val (.ref ob), .val (.int (0 : Int32)), .val (.int (1 : Int32))] [(.ref ob)])) rfl rfl (hb hby d7_28)
  obtain ⟨T87, X87, e87, st87⟩ := getF X86 hx hZ hown (host := "") (Or.inl (hw _ (List.mem_of_getElem? (i := 65) rfl))) Via.refl e86 F_splitBefore1 (g := (mkF m 33 #[.val (.ref ob), .val (.int (0 : Int32)), .val (.int (1 : Int32))] [(.ref ob), (.int (1 : Int32)), (.ref al)])) rfl rfl (hb hby d7_33)
  obtain ⟨cl88, Ar88, Sz88, Hs88⟩ := A_left1
  have hin88 : ¬ ((1 : Int32) < 0 ∨ cl88.slots.size ≤ ((1 : Int32)).toNatClampNeg) := by rw [Sz88]; exact (by decide)
  obtain ⟨T88, h88, X88, e88, W88, st88⟩ := stI X87 hx hZ e87 Ar88 (j := (1 : Int32)) hin88 (g := (mkF m 36 #[.val (.ref ob), .val (.int (0 : Int32)), .val (.int (1 : Int32))] [(.int sb'), (.int (1 : Int32)), (.ref al)])) rfl rfl (hb hby d7_36)
  have N88 := Fr.snoc X88 N85 (own_ge HD).2.2.1
  have Z88 : n0 ≤ h88.size := Nat.le_trans Z85 (Nat.le_of_eq W88.size.symm)
  have lt88 : ((1 : Int32)).toNatClampNeg < 2 := Nat.lt_of_not_le fun q => hin88 (Or.inr (Nat.le_trans (Nat.le_of_eq Sz88) q))
  have HT2 := own_T.w_left HT1 HD W88 lt88
  have HT2' := HT2
  obtain ⟨E2, F_root2, F_priority2, F_left2, F_right2, F_splitBefore2, F_splitAfter2, F_due2, F_length2, F_count2, F_total2, A_priority2, A_left2, A_right2, A_due2, A_length2, A_count2, A_total2⟩ := HT2'
  obtain ⟨T89, X89, e89, st89⟩ := getF X88 hx hZ hown (host := "") (Or.inl (hw _ (List.mem_of_getElem? (i := 24) rfl))) Via.refl e88 F_right2 (g := (mkF m 38 #[.val (.ref ob), .val (.int (0 : Int32)), .val (.int (1 : Int32))] [(.ref ob)])) rfl rfl (hb hby d7_38)
  obtain ⟨T90, X90, e90, st90⟩ := getF X89 hx hZ hown (host := "") (Or.inl (hw _ (List.mem_of_getElem? (i := 67) rfl))) Via.refl e89 F_splitAfter2 (g := (mkF m 43 #[.val (.ref ob), .val (.int (0 : Int32)), .val (.int (1 : Int32))] [(.ref ob), (.int (1 : Int32)), (.ref ar)])) rfl rfl (hb hby d7_43)
  obtain ⟨cl91, Ar91, Sz91, Hs91⟩ := A_right2
  have hin91 : ¬ ((1 : Int32) < 0 ∨ cl91.slots.size ≤ ((1 : Int32)).toNatClampNeg) := by rw [Sz91]; exact (by decide)
  obtain ⟨T91, h91, X91, e91, W91, st91⟩ := stI X90 hx hZ e90 Ar91 (j := (1 : Int32)) hin91 (g := (mkF m 46 #[.val (.ref ob), .val (.int (0 : Int32)), .val (.int (1 : Int32))] [(.int sa'), (.int (1 : Int32)), (.ref ar)])) rfl rfl (hb hby d7_46)
  have N91 := Fr.snoc X91 N88 (own_ge HD).2.2.2.1
  have Z91 : n0 ≤ h91.size := Nat.le_trans Z88 (Nat.le_of_eq W91.size.symm)
  have lt91 : ((1 : Int32)).toNatClampNeg < 2 := Nat.lt_of_not_le fun q => hin91 (Or.inr (Nat.le_trans (Nat.le_of_eq Sz91) q))
  have HT3 := own_T.w_right HT2 HD W91 lt91
  have HT3' := HT3
  obtain ⟨E3, F_root3, F_priority3, F_left3, F_right3, F_splitBefore3, F_splitAfter3, F_due3, F_length3, F_count3, F_total3, A_priority3, A_left3, A_right3, A_due3, A_length3, A_count3, A_total3⟩ := HT3'
  obtain ⟨cq92, kq92, q92a, q92b, q92c⟩ := isOf hZ e91 E3
  obtain ⟨_, _, ⟨T92, L92, k92, n92⟩, -, X92, ⟨Lc92, hQ92, l92, y92, z92⟩, st92⟩ := X91.virtualBack hx (y := (⟨"com/example/accord_scheduler/accordscheduler/Treap", "update", "(I)I"⟩ : MethodName)) (z := (⟨"com/example/accord_scheduler/accordscheduler/MomentTree", "update", "(I)I"⟩ : MethodName)) hown (mvT hZ (hw _ (List.mem_of_getElem? (i := 69) rfl))) (mvT hZ (hw _ (List.mem_of_getElem? (i := 70) rfl))) (own_nf (args := #[]) (mvT hZ (hw _ (List.mem_of_getElem? (i := 95) rfl))) rfl) (mvT hZ (hw _ (List.mem_of_getElem? (i := 71) rfl))) (mvT hZ (hw _ (List.mem_of_getElem? (i := 72) rfl))) (by decide) (backOf (W := 0) (rm9 l Z a0 hw [] ob (1 : Int32) ag ap al ar ad ac at0 root sb' sa' pf (own_upd lf' (1 : Int32).toNatClampNeg sb') (own_upd rf' (1 : Int32).toNatClampNeg sa') cf' df gf tf' h91 n0 Z91 HT3 HD (Or.inr rfl) nb na) hZ (hw _ (List.mem_of_getElem? (i := 73) rfl)) (hw _ (List.mem_of_getElem? (i := 2) rfl)) (by decide) (by decide)) q92a q92c (g := (mkF m 49 #[.val (.ref ob), .val (.int (0 : Int32)), .val (.int (1 : Int32))] [(.int (1 : Int32)), (.ref ob)])) rfl (by rw [hml]; rfl) (Steps.refl _) (argsL := [(.int (1 : Int32))]) (rest := []) (lenOf own_pd0 rfl) rfl (by show 2 * 0 + _ ≤ _; exact Nat.le_of_eq rfl) (hb hby d7_49) (fun _ _ => ⟨rfl, e91, (by decide : 0 + 0 ≤ _), (by decide : 0 + 0 ≤ _)⟩)
  dsimp only [Pt.U, Pt.locs, Pt.cells, Pt.slots] at X92 l92 y92 z92 st92 hQ92
  subst l92 y92 z92
  obtain ⟨h92, e92'⟩ : ∃ z, z = T92.heap := ⟨_, rfl⟩
  rw [← e92'] at hQ92
  have e92 := e92'.symm
  obtain ⟨rfl, N92q, Z92, cv, tv, HT4⟩ := hQ92
  have N92 := Fr.app N91 N92q
  have pre93 : ∀ t, Steps p.tables e below (T92.setTop (mkF m 52 #[.val (.ref ob), .val (.int (0 : Int32)), .val (.int (1 : Int32))] [(.int (1 : Int32))])) t → Steps p.tables e below (s₁.setTop (entryFrame m #[(.ref ob), (.int (0 : Int32)), (.int (1 : Int32))] 3)) t := fun t k => pre0 t (by
      show Steps p.tables e below (s₁.setTop (mkF m 0 #[.val (.ref ob), .val (.int (0 : Int32)), .val (.int (1 : Int32))] [])) _
      refine XS.iloadN X0.here hx rfl (hb hby d7_0) rfl ?_
      show Steps p.tables e below (s₁.setTop (mkF m 1 #[.val (.ref ob), .val (.int (0 : Int32)), .val (.int (1 : Int32))] [(.int (0 : Int32))])) _
      refine XS.iconst X0.here hx rfl (hb hby d7_1) ?_
      show Steps p.tables e below (s₁.setTop (mkF m 2 #[.val (.ref ob), .val (.int (0 : Int32)), .val (.int (1 : Int32))] [(.int ((-1) : Int32)), (.int (0 : Int32))])) _
      refine XS.icmpNo X0.here hx rfl (hb hby d7_2) rfl (feq (by decide)).1 ?_
      show Steps p.tables e below (s₁.setTop (mkF m 5 #[.val (.ref ob), .val (.int (0 : Int32)), .val (.int (1 : Int32))] [])) _
      refine XS.aloadN X0.here hx rfl (hb hby d7_5) rfl rfl ?_
      show Steps p.tables e below (s₁.setTop (mkF m 6 #[.val (.ref ob), .val (.int (0 : Int32)), .val (.int (1 : Int32))] [(.ref ob)])) _
      refine st81 _ ?_
      show Steps p.tables e below (T81.setTop (mkF m 9 #[.val (.ref ob), .val (.int (0 : Int32)), .val (.int (1 : Int32))] [(.ref ap)])) _
      refine XS.iloadN X81.here hx rfl (hb hby d7_9) rfl ?_
      show Steps p.tables e below (T81.setTop (mkF m 10 #[.val (.ref ob), .val (.int (0 : Int32)), .val (.int (1 : Int32))] [(.int (1 : Int32)), (.ref ap)])) _
      refine X81.laload hx (j := (1 : Int32)) (v := (.long (pf 1))) (by rw [e81]; exact Ar82.1) (State.isArrayOf_alike hZ.alike Ar82.2.1) Ar82.2.2 hin82 hat82 (g := (mkF m 10 #[.val (.ref ob), .val (.int (0 : Int32)), .val (.int (1 : Int32))] [(.int (1 : Int32)), (.ref ap)])) rfl rfl (hb hby d7_10) _ ?_
      show Steps p.tables e below (T81.setTop (mkF m 11 #[.val (.ref ob), .val (.int (0 : Int32)), .val (.int (1 : Int32))] [(.long (pf 1))])) _
      refine XS.aloadN X81.here hx rfl (hb hby d7_11) rfl rfl ?_
      show Steps p.tables e below (T81.setTop (mkF m 12 #[.val (.ref ob), .val (.int (0 : Int32)), .val (.int (1 : Int32))] [(.ref ob), (.long (pf 1))])) _
      refine st83 _ ?_
      show Steps p.tables e below (T83.setTop (mkF m 15 #[.val (.ref ob), .val (.int (0 : Int32)), .val (.int (1 : Int32))] [(.ref ap), (.long (pf 1))])) _
      refine XS.iloadN X83.here hx rfl (hb hby d7_15) rfl ?_
      show Steps p.tables e below (T83.setTop (mkF m 16 #[.val (.ref ob), .val (.int (0 : Int32)), .val (.int (1 : Int32))] [(.int (0 : Int32)), (.ref ap), (.long (pf 1))])) _
      refine X83.laload hx (j := (0 : Int32)) (v := (.long (pf 0))) (by rw [e83]; exact Ar84.1) (State.isArrayOf_alike hZ.alike Ar84.2.1) Ar84.2.2 hin84 hat84 (g := (mkF m 16 #[.val (.ref ob), .val (.int (0 : Int32)), .val (.int (1 : Int32))] [(.int (0 : Int32)), (.ref ap), (.long (pf 1))])) rfl rfl (hb hby d7_16) _ ?_
      show Steps p.tables e below (T83.setTop (mkF m 17 #[.val (.ref ob), .val (.int (0 : Int32)), .val (.int (1 : Int32))] [(.long (pf 0)), (.long (pf 1))])) _
      refine XS.lcmp X83.here hx rfl (hb hby d7_17) rfl ?_
      show Steps p.tables e below (T83.setTop (mkF m 18 #[.val (.ref ob), .val (.int (0 : Int32)), .val (.int (1 : Int32))] [(.int (lcmpW (pf 1) (pf 0)))])) _
      refine XS.ifNo X83.here hx rfl (hb hby d7_18) rfl ((if0 _ _).trans (tlt ((lw_gt _ _).mpr hp)).2.2.2) ?_
      show Steps p.tables e below (T83.setTop (mkF m 21 #[.val (.ref ob), .val (.int (0 : Int32)), .val (.int (1 : Int32))] [])) _
      refine XS.aloadN X83.here hx rfl (hb hby d7_21) rfl rfl ?_
      show Steps p.tables e below (T83.setTop (mkF m 22 #[.val (.ref ob), .val (.int (0 : Int32)), .val (.int (1 : Int32))] [(.ref ob)])) _
      refine XS.iloadN X83.here hx rfl (hb hby d7_22) rfl ?_
      show Steps p.tables e below (T83.setTop (mkF m 23 #[.val (.ref ob), .val (.int (0 : Int32)), .val (.int (1 : Int32))] [(.int (0 : Int32)), (.ref ob)])) _
      refine XS.iloadN X83.here hx rfl (hb hby d7_23) rfl ?_
      show Steps p.tables e below (T83.setTop (mkF m 24 #[.val (.ref ob), .val (.int (0 : Int32)), .val (.int (1 : Int32))] [(.int (1 : Int32)), (.int (0 : Int32)), (.ref ob)])) _
      refine st85.trans ?_
      show Steps p.tables e below (T85.setTop (mkF m 27 #[.val (.ref ob), .val (.int (0 : Int32)), .val (.int (1 : Int32))] [])) _
      refine XS.aloadN X85.here hx rfl (hb hby d7_27) rfl rfl ?_
      show Steps p.tables e below (T85.setTop (mkF m 28 #[.val (.ref ob), .val (.int (0 : Int32)), .val (.int (1 : Int32))] [(.ref ob)])) _
      refine st86 _ ?_
      show Steps p.tables e below (T86.setTop (mkF m 31 #[.val (.ref ob), .val (.int (0 : Int32)), .val (.int (1 : Int32))] [(.ref al)])) _
      refine XS.iloadN X86.here hx rfl (hb hby d7_31) rfl ?_
      show Steps p.tables e below (T86.setTop (mkF m 32 #[.val (.ref ob), .val (.int (0 : Int32)), .val (.int (1 : Int32))] [(.int (1 : Int32)), (.ref al)])) _
      refine XS.aloadN X86.here hx rfl (hb hby d7_32) rfl rfl ?_
      show Steps p.tables e below (T86.setTop (mkF m 33 #[.val (.ref ob), .val (.int (0 : Int32)), .val (.int (1 : Int32))] [(.ref ob), (.int (1 : Int32)), (.ref al)])) _
      refine st87 _ ?_
      show Steps p.tables e below (T87.setTop (mkF m 36 #[.val (.ref ob), .val (.int (0 : Int32)), .val (.int (1 : Int32))] [(.int sb'), (.int (1 : Int32)), (.ref al)])) _
      refine st88 _ ?_
      show Steps p.tables e below (T88.setTop (mkF m 37 #[.val (.ref ob), .val (.int (0 : Int32)), .val (.int (1 : Int32))] [])) _
      refine XS.aloadN X88.here hx rfl (hb hby d7_37) rfl rfl ?_
      show Steps p.tables e below (T88.setTop (mkF m 38 #[.val (.ref ob), .val (.int (0 : Int32)), .val (.int (1 : Int32))] [(.ref ob)])) _
      refine st89 _ ?_
      show Steps p.tables e below (T89.setTop (mkF m 41 #[.val (.ref ob), .val (.int (0 : Int32)), .val (.int (1 : Int32))] [(.ref ar)])) _
      refine XS.iloadN X89.here hx rfl (hb hby d7_41) rfl ?_
      show Steps p.tables e below (T89.setTop (mkF m 42 #[.val (.ref ob), .val (.int (0 : Int32)), .val (.int (1 : Int32))] [(.int (1 : Int32)), (.ref ar)])) _
      refine XS.aloadN X89.here hx rfl (hb hby d7_42) rfl rfl ?_
      show Steps p.tables e below (T89.setTop (mkF m 43 #[.val (.ref ob), .val (.int (0 : Int32)), .val (.int (1 : Int32))] [(.ref ob), (.int (1 : Int32)), (.ref ar)])) _
      refine st90 _ ?_
      show Steps p.tables e below (T90.setTop (mkF m 46 #[.val (.ref ob), .val (.int (0 : Int32)), .val (.int (1 : Int32))] [(.int sa'), (.int (1 : Int32)), (.ref ar)])) _
      refine st91 _ ?_
      show Steps p.tables e below (T91.setTop (mkF m 47 #[.val (.ref ob), .val (.int (0 : Int32)), .val (.int (1 : Int32))] [])) _
      refine XS.aloadN X91.here hx rfl (hb hby d7_47) rfl rfl ?_
      show Steps p.tables e below (T91.setTop (mkF m 48 #[.val (.ref ob), .val (.int (0 : Int32)), .val (.int (1 : Int32))] [(.ref ob)])) _
      refine XS.iloadN X91.here hx rfl (hb hby d7_48) rfl ?_
      show Steps p.tables e below (T91.setTop (mkF m 49 #[.val (.ref ob), .val (.int (0 : Int32)), .val (.int (1 : Int32))] [(.int (1 : Int32)), (.ref ob)])) _
      refine st92.trans ?_
      exact k)
  obtain ⟨fs, hr, hrun, hended, hW, hsame⟩ := X92.leave (v := some (.int (1 : Int32))) (fun h => by rw [Bd.returns] at h; cases h)
  refine ⟨_, _, pre93 _ ?_, hrun, hended, _, _, rfl, ?_, ⟨_, rfl⟩, hW, hsame.mono (by decide) (by decide)⟩
  · show Steps p.tables e below (T92.setTop (mkF m 52 #[.val (.ref ob), .val (.int (0 : Int32)), .val (.int (1 : Int32))] [(.int (1 : Int32))])) _
    exact retI X92 hx Bd.returns (hb hby d7_52) hr
  · show Q7b Z ob ag ap al ar ad ac at0 root sb sa pf lf rf cf df gf tf h0 n0 _ T92.heap _
    rw [e92]
    exact ⟨rfl, N92, Z92, _, _, _, _, _, _, HT4⟩
theorem d5_0 : decode prog_44_method_5_code 0 = .ok (.aload_n 0, 1) := by decide +kernel
theorem d5_1 : decode prog_44_method_5_code 1 = .ok (.iload_n 1, 1) := by decide +kernel
theorem d5_2 : decode prog_44_method_5_code 2 = .ok (.invokevirtual 38, 3) := by decide +kernel
theorem d5_5 : decode prog_44_method_5_code 5 = .ok (.aload_n 0, 1) := by decide +kernel
theorem d5_6 : decode prog_44_method_5_code 6 = .ok (.getfield 7, 3) := by decide +kernel
theorem d5_9 : decode prog_44_method_5_code 9 = .ok (.iload_n 1, 1) := by decide +kernel
theorem d5_10 : decode prog_44_method_5_code 10 = .ok (.lload_n 2, 1) := by decide +kernel
theorem d5_11 : decode prog_44_method_5_code 11 = .ok (.lastore, 1) := by decide +kernel
theorem d5_12 : decode prog_44_method_5_code 12 = .ok (.aload_n 0, 1) := by decide +kernel
theorem d5_13 : decode prog_44_method_5_code 13 = .ok (.aload_n 0, 1) := by decide +kernel
theorem d5_14 : decode prog_44_method_5_code 14 = .ok (.aload_n 0, 1) := by decide +kernel
theorem d5_15 : decode prog_44_method_5_code 15 = .ok (.getfield 30, 3) := by decide +kernel
theorem d5_18 : decode prog_44_method_5_code 18 = .ok (.iload_n 1, 1) := by decide +kernel
theorem d5_19 : decode prog_44_method_5_code 19 = .ok (.invokevirtual 41, 3) := by decide +kernel
theorem d5_22 : decode prog_44_method_5_code 22 = .ok (.putfield 30, 3) := by decide +kernel
theorem d5_25 : decode prog_44_method_5_code 25 = .ok (.return_, 1) := by decide +kernel
theorem own_pd5 : parseMethodDescriptor "(I)V" = some ⟨[.int], none⟩ := by decide +kernel
theorem pn_5 : plainName "com/example/accord_scheduler/accordscheduler/MomentTree" = true := by first | (simp [plainName, overriddenIn]; done) | decide +kernel
theorem ef_5 (m : MethodId) (a0 : Addr) (p1 : Int32) (q2 : Int64) : entryFrame m #[(.ref a0), (.int p1), (.long q2)] 4 = mkF m 0 #[.val (.ref a0), .val (.int p1), .val (.long q2), .second] [] := by first | (simp [entryFrame, mkF, argsToLocals, Value.category]; done) | rfl
def Q5a (Z : State) (ob : Addr) (dd : Int64) (ag ap al ar ad ac at0 : Addr) (sb sa : Int32) (pf : Nat → Int64) (lf rf cf : Nat → Int32) (df gf tf : Nat → Int64) (h0 : Heap) (n0 : Nat) (v : Option Value) (h : Heap) (L : List Loc) : Prop := v = none ∧ Fr n0 L ∧ n0 ≤ h.size ∧ ∃ (cv : Int32) (tv : Int64), own_T Z h ob ag ap al ar ad ac at0 0 (-1) (-1) pf (own_upd lf 0 (-1)) (own_upd rf 0 (-1)) (own_upd cf 0 cv) (own_upd df 0 dd) gf (own_upd tf 0 tv)
set_option maxRecDepth 65536 in
set_option maxHeartbeats 40000000 in
theorem rm5a (l : Launch) (Z : State) (a0 : Array Value) (hw : ∀ d ∈ tables_1, d.before a0 Z = true) (ws : List Jvm.Cond) (ob : Addr) (dd : Int64) (ag ap al ar ad ac at0 : Addr) (sb sa : Int32) (pf : Nat → Int64) (lf rf cf : Nat → Int32) (df gf tf : Nat → Int64) (h0 : Heap) (n0 : Nat) (Z0 : n0 ≤ h0.size) (HT : own_T Z h0 ob ag ap al ar ad ac at0 (-1) sb sa pf lf rf cf df gf tf) (HD : own_D n0 ob ag ap al ar ad ac at0) (hc : cf 0 = 0) :
    MetFree l (⟨"com/example/accord_scheduler/accordscheduler/MomentTree", "put", "(IJ)V"⟩ : MethodName) (head1 (Jvm.Cond.code (⟨"com/example/accord_scheduler/accordscheduler/MomentTree", "put", "(IJ)V"⟩ : MethodName) prog_44_method_5_code 4 none :: ws) ({ frames := 3, cells := 0, slots := 0, locals := 60 } : Room)) (fun a U => a = #[(.ref ob), (.int (0 : Int32)), (.long dd)] ∧ Z.Warmed39 U.vm ∧ U.heap = h0) (fun _ _ _ _ _ => True) (fun _ U o U' => ∃ v L, o = .returned v ∧ Q5a Z ob dd ag ap al ar ad ac at0 sb sa pf lf rf cf df gf tf h0 n0 v U'.heap L ∧ FrameEnd U o U' L ({ frames := 3, cells := 0, slots := 0, locals := 60 } : Room).cells ({ frames := 3, cells := 0, slots := 0, locals := 60 } : Room).slots) := by
  refine MetFree.of_bodySF (plainFor_of_name pn_5) hisR ?_
  intro p e s m args below meth c s₁ Bd hml0 hP hK
  obtain ⟨rfl, hZ, hh⟩ := hP
  have hx := Bd.exec
  have hby := Bd.bytes
  have hml : c.maxLocals = 4 := hml0
  have hown : s.vm.findClass "com/example/accord_scheduler/accordscheduler/MomentTree" = some m.cls := findClass_of_methodNamed Bd.named
  have hnm := (name_of_methodNamed Bd.named Bd.method).1
  have X0 : Stand p l e ({ frames := 3, cells := 0, slots := 0, locals := 60 } : Room) s m #[(.ref ob), (.int (0 : Int32)), (.long dd)] below meth c s₁ [] 0 0 := Stand.of_body Bd
  have e0 : s₁.heap = h0 := by rw [← hh, Bd.state]; rfl
  have N0 := Fr.nil n0
  have pre0 : ∀ t, Steps p.tables e below (s₁.setTop (mkF m 0 #[.val (.ref ob), .val (.int (0 : Int32)), .val (.long dd), .second] [])) t → Steps p.tables e below (s₁.setTop (entryFrame m #[(.ref ob), (.int (0 : Int32)), (.long dd)] 4)) t := fun t k => castTop (ef_5 m ob (0 : Int32) dd) k
  have HT0 := HT
  obtain ⟨E0, F_root0, F_priority0, F_left0, F_right0, F_splitBefore0, F_splitAfter0, F_due0, F_length0, F_count0, F_total0, A_priority0, A_left0, A_right0, A_due0, A_length0, A_count0, A_total0⟩ := HT0
  obtain ⟨cq94, kq94, q94a, q94b, q94c⟩ := isOf hZ e0 E0
  obtain ⟨_, _, ⟨T94, L94, k94, n94⟩, -, X94, ⟨Lc94, hQ94, l94, y94, z94⟩, st94⟩ := X0.virtualBack hx (y := (⟨"com/example/accord_scheduler/accordscheduler/MomentTree", "remove", "(I)V"⟩ : MethodName)) (z := (⟨"com/example/accord_scheduler/accordscheduler/MomentTree", "remove", "(I)V"⟩ : MethodName)) hown (mvT hZ (hw _ (List.mem_of_getElem? (i := 48) rfl))) (mvT hZ (hw _ (List.mem_of_getElem? (i := 49) rfl))) (notFace_of_selects (args := #[]) (mvT hZ (hw _ (List.mem_of_getElem? (i := 51) rfl)))) (mvT hZ (hw _ (List.mem_of_getElem? (i := 51) rfl))) (mvT hZ (hw _ (List.mem_of_getElem? (i := 50) rfl))) (by decide) (backOf (W := 0) (rm6 l Z a0 hw [] ob (0 : Int32) ac cf h0 n0 Z0 F_count0 A_count0 (Or.inl rfl) hc) hZ (hw _ (List.mem_of_getElem? (i := 52) rfl)) (hw _ (List.mem_of_getElem? (i := 2) rfl)) (by decide) (by decide)) q94a q94c (g := (mkF m 2 #[.val (.ref ob), .val (.int (0 : Int32)), .val (.long dd), .second] [(.int (0 : Int32)), (.ref ob)])) rfl (by rw [hml]; rfl) (Steps.refl _) (argsL := [(.int (0 : Int32))]) (rest := []) (lenOf own_pd5 rfl) rfl (by show 2 * 0 + _ ≤ _; exact Nat.le_of_eq rfl) (hb hby d5_2) (fun _ _ => ⟨rfl, e0, (by decide : 0 + 0 ≤ _), (by decide : 0 + 0 ≤ _)⟩)
  dsimp only [Pt.U, Pt.locs, Pt.cells, Pt.slots] at X94 l94 y94 z94 st94 hQ94
  subst l94 y94 z94
  obtain ⟨rfl, N94q, e94⟩ := hQ94
  have N94 := Fr.app N0 N94q
  obtain ⟨T95, X95, e95, st95⟩ := getF X94 hx hZ hown (host := "") (Or.inl (hw _ (List.mem_of_getElem? (i := 26) rfl))) Via.refl e94 F_due0 (g := (mkF m 6 #[.val (.ref ob), .val (.int (0 : Int32)), .val (.long dd), .second] [(.ref ob)])) rfl rfl (hb hby d5_6)
  obtain ⟨cl96, Ar96, Sz96, Hs96⟩ := A_due0
  have hin96 : ¬ ((0 : Int32) < 0 ∨ cl96.slots.size ≤ ((0 : Int32)).toNatClampNeg) := by rw [Sz96]; exact (by decide)
  obtain ⟨T96, h96, X96, e96, W96, st96⟩ := stJ X95 hx hZ e95 Ar96 (j := (0 : Int32)) hin96 (g := (mkF m 11 #[.val (.ref ob), .val (.int (0 : Int32)), .val (.long dd), .second] [(.long dd), (.int (0 : Int32)), (.ref ad)])) rfl rfl (hb hby d5_11)
  have N96 := Fr.snoc X96 N94 (own_ge HD).2.2.2.2.1
  have Z96 : n0 ≤ h96.size := Nat.le_trans Z0 (Nat.le_of_eq W96.size.symm)
  have lt96 : ((0 : Int32)).toNatClampNeg < 2 := Nat.lt_of_not_le fun q => hin96 (Or.inr (Nat.le_trans (Nat.le_of_eq Sz96) q))
  have HT1 := own_T.w_due HT HD W96 lt96
  have HT1' := HT1
  obtain ⟨E1, F_root1, F_priority1, F_left1, F_right1, F_splitBefore1, F_splitAfter1, F_due1, F_length1, F_count1, F_total1, A_priority1, A_left1, A_right1, A_due1, A_length1, A_count1, A_total1⟩ := HT1'
  obtain ⟨T97, X97, e97, st97⟩ := getF X96 hx hZ hown (host := "") (Or.inl (hw _ (List.mem_of_getElem? (i := 53) rfl))) (Via.of (hw _ (List.mem_of_getElem? (i := 54) rfl))) e96 F_root1 (g := (mkF m 15 #[.val (.ref ob), .val (.int (0 : Int32)), .val (.long dd), .second] [(.ref ob), (.ref ob), (.ref ob)])) rfl rfl (hb hby d5_15)
  obtain ⟨cq98, kq98, q98a, q98b, q98c⟩ := isOf hZ e97 E1
  obtain ⟨_, _, ⟨T98, L98, k98, n98⟩, -, X98, ⟨Lc98, hQ98, l98, y98, z98⟩, st98⟩ := X97.virtualBackUp hx (owner := "com/example/accord_scheduler/accordscheduler/Treap") (x := (⟨"com/example/accord_scheduler/accordscheduler/MomentTree", "insert", "(II)I"⟩ : MethodName)) (y := (⟨"com/example/accord_scheduler/accordscheduler/Treap", "insert", "(II)I"⟩ : MethodName)) hown (mvT hZ (hw _ (List.mem_of_getElem? (i := 55) rfl))) (own_mvS hZ (hw _ (List.mem_of_getElem? (i := 56) rfl))) (mvT hZ (hw _ (List.mem_of_getElem? (i := 57) rfl))) (by decide) (mvT hZ (hw _ (List.mem_of_getElem? (i := 59) rfl))) (mvT hZ (hw _ (List.mem_of_getElem? (i := 58) rfl))) (backOf (W := 1) (rm7a l Z a0 hw [] ob ag ap al ar ad ac at0 (-1) sb sa pf lf rf cf (own_upd df 0 dd) gf tf h96 n0 Z96 HT1 HD) hZ (hw _ (List.mem_of_getElem? (i := 60) rfl)) (hw _ (List.mem_of_getElem? (i := 10) rfl)) (by decide) (by decide)) q98a q98c (g := (mkF m 19 #[.val (.ref ob), .val (.int (0 : Int32)), .val (.long dd), .second] [(.int (0 : Int32)), (.int (-1 : Int32)), (.ref ob), (.ref ob)])) rfl (by rw [hml]; rfl) (Steps.refl _) (argsL := [(.int (-1 : Int32)), (.int (0 : Int32))]) (rest := [(.ref ob)]) (lenOf own_pd4 rfl) rfl (by show 2 * 0 + _ ≤ _; exact Nat.le_of_eq rfl) (hb hby d5_19) (fun _ _ => ⟨rfl, e97, (by decide : 0 + 0 ≤ _), (by decide : 0 + 0 ≤ _)⟩)
  dsimp only [Pt.U, Pt.locs, Pt.cells, Pt.slots] at X98 l98 y98 z98 st98 hQ98
  subst l98 y98 z98
  obtain ⟨h98, e98'⟩ : ∃ z, z = T98.heap := ⟨_, rfl⟩
  rw [← e98'] at hQ98
  have e98 := e98'.symm
  obtain ⟨rfl, N98q, Z98, cv, tv, HT2⟩ := hQ98
  have N98 := Fr.app N96 N98q
  have HT2' := HT2
  obtain ⟨E2, F_root2, F_priority2, F_left2, F_right2, F_splitBefore2, F_splitAfter2, F_due2, F_length2, F_count2, F_total2, A_priority2, A_left2, A_right2, A_due2, A_length2, A_count2, A_total2⟩ := HT2'
  obtain ⟨T99, h99, X99, e99, W99, st99⟩ := putF X98 hx hZ hown (host := "") (Or.inl (hw _ (List.mem_of_getElem? (i := 53) rfl))) (Via.of (hw _ (List.mem_of_getElem? (i := 54) rfl))) e98 F_root2 E2 (Or.inl (hw _ (List.mem_of_getElem? (i := 16) rfl))) (hw _ (List.mem_of_getElem? (i := 1) rfl)) (ty := .int) (by decide) rfl rfl (g := (mkF m 22 #[.val (.ref ob), .val (.int (0 : Int32)), .val (.long dd), .second] [(.int (0 : Int32)), (.ref ob)])) rfl rfl (hb hby d5_22)
  have N99 := Fr.snoc X99 N98 HD.1
  have Z99 : n0 ≤ h99.size := Nat.le_trans Z98 (Nat.le_of_eq W99.size.symm)
  have HT3 := own_T.w_root hw HT2 HD W99
  have pre100 : ∀ t, Steps p.tables e below (T99.setTop (mkF m 25 #[.val (.ref ob), .val (.int (0 : Int32)), .val (.long dd), .second] [])) t → Steps p.tables e below (s₁.setTop (entryFrame m #[(.ref ob), (.int (0 : Int32)), (.long dd)] 4)) t := fun t k => pre0 t (by
      show Steps p.tables e below (s₁.setTop (mkF m 0 #[.val (.ref ob), .val (.int (0 : Int32)), .val (.long dd), .second] [])) _
      refine XS.aloadN X0.here hx rfl (hb hby d5_0) rfl rfl ?_
      show Steps p.tables e below (s₁.setTop (mkF m 1 #[.val (.ref ob), .val (.int (0 : Int32)), .val (.long dd), .second] [(.ref ob)])) _
      refine XS.iloadN X0.here hx rfl (hb hby d5_1) rfl ?_
      show Steps p.tables e below (s₁.setTop (mkF m 2 #[.val (.ref ob), .val (.int (0 : Int32)), .val (.long dd), .second] [(.int (0 : Int32)), (.ref ob)])) _
      refine st94.trans ?_
      show Steps p.tables e below (T94.setTop (mkF m 5 #[.val (.ref ob), .val (.int (0 : Int32)), .val (.long dd), .second] [])) _
      refine XS.aloadN X94.here hx rfl (hb hby d5_5) rfl rfl ?_
      show Steps p.tables e below (T94.setTop (mkF m 6 #[.val (.ref ob), .val (.int (0 : Int32)), .val (.long dd), .second] [(.ref ob)])) _
      refine st95 _ ?_
      show Steps p.tables e below (T95.setTop (mkF m 9 #[.val (.ref ob), .val (.int (0 : Int32)), .val (.long dd), .second] [(.ref ad)])) _
      refine XS.iloadN X95.here hx rfl (hb hby d5_9) rfl ?_
      show Steps p.tables e below (T95.setTop (mkF m 10 #[.val (.ref ob), .val (.int (0 : Int32)), .val (.long dd), .second] [(.int (0 : Int32)), (.ref ad)])) _
      refine XS.lloadN X95.here hx rfl (hb hby d5_10) rfl ?_
      show Steps p.tables e below (T95.setTop (mkF m 11 #[.val (.ref ob), .val (.int (0 : Int32)), .val (.long dd), .second] [(.long dd), (.int (0 : Int32)), (.ref ad)])) _
      refine st96 _ ?_
      show Steps p.tables e below (T96.setTop (mkF m 12 #[.val (.ref ob), .val (.int (0 : Int32)), .val (.long dd), .second] [])) _
      refine XS.aloadN X96.here hx rfl (hb hby d5_12) rfl rfl ?_
      show Steps p.tables e below (T96.setTop (mkF m 13 #[.val (.ref ob), .val (.int (0 : Int32)), .val (.long dd), .second] [(.ref ob)])) _
      refine XS.aloadN X96.here hx rfl (hb hby d5_13) rfl rfl ?_
      show Steps p.tables e below (T96.setTop (mkF m 14 #[.val (.ref ob), .val (.int (0 : Int32)), .val (.long dd), .second] [(.ref ob), (.ref ob)])) _
      refine XS.aloadN X96.here hx rfl (hb hby d5_14) rfl rfl ?_
      show Steps p.tables e below (T96.setTop (mkF m 15 #[.val (.ref ob), .val (.int (0 : Int32)), .val (.long dd), .second] [(.ref ob), (.ref ob), (.ref ob)])) _
      refine st97 _ ?_
      show Steps p.tables e below (T97.setTop (mkF m 18 #[.val (.ref ob), .val (.int (0 : Int32)), .val (.long dd), .second] [(.int (-1 : Int32)), (.ref ob), (.ref ob)])) _
      refine XS.iloadN X97.here hx rfl (hb hby d5_18) rfl ?_
      show Steps p.tables e below (T97.setTop (mkF m 19 #[.val (.ref ob), .val (.int (0 : Int32)), .val (.long dd), .second] [(.int (0 : Int32)), (.int (-1 : Int32)), (.ref ob), (.ref ob)])) _
      refine st98.trans ?_
      show Steps p.tables e below (T98.setTop (mkF m 22 #[.val (.ref ob), .val (.int (0 : Int32)), .val (.long dd), .second] [(.int (0 : Int32)), (.ref ob)])) _
      refine st99 _ ?_
      exact k)
  obtain ⟨fs, hr, hrun, hended, hW, hsame⟩ := X99.leave (v := none) (fun _ => rfl)
  refine ⟨_, _, pre100 _ ?_, hrun, hended, _, _, rfl, ?_, ⟨_, rfl⟩, hW, hsame.mono (by decide) (by decide)⟩
  · show Steps p.tables e below (T99.setTop (mkF m 25 #[.val (.ref ob), .val (.int (0 : Int32)), .val (.long dd), .second] [])) _
    exact X99.returnOut hx Bd.returns (hb hby d5_25) hr
  · show Q5a Z ob dd ag ap al ar ad ac at0 sb sa pf lf rf cf df gf tf h0 n0 _ T99.heap _
    rw [e99]
    exact ⟨rfl, N99, Z99, _, _, HT3⟩
def Q5b (Z : State) (ob : Addr) (dd : Int64) (ag ap al ar ad ac at0 : Addr) (sb sa : Int32) (pf : Nat → Int64) (lf rf cf : Nat → Int32) (df gf tf : Nat → Int64) (h0 : Heap) (n0 : Nat) (v : Option Value) (h : Heap) (L : List Loc) : Prop := v = none ∧ Fr n0 L ∧ n0 ≤ h.size ∧ ∃ (sb' sa' : Int32) (lf' rf' cf' : Nat → Int32) (tf' : Nat → Int64), own_T Z h ob ag ap al ar ad ac at0 1 sb' sa' pf lf' rf' cf' (own_upd df 1 dd) gf tf'
set_option maxRecDepth 65536 in
set_option maxHeartbeats 40000000 in
theorem rm5b (l : Launch) (Z : State) (a0 : Array Value) (hw : ∀ d ∈ tables_1, d.before a0 Z = true) (ws : List Jvm.Cond) (ob : Addr) (dd : Int64) (ag ap al ar ad ac at0 : Addr) (sb sa : Int32) (pf : Nat → Int64) (lf rf cf : Nat → Int32) (df gf tf : Nat → Int64) (h0 : Heap) (n0 : Nat) (Z0 : n0 ≤ h0.size) (HT : own_T Z h0 ob ag ap al ar ad ac at0 (0) sb sa pf lf rf cf df gf tf) (HD : own_D n0 ob ag ap al ar ad ac at0) (hc : cf 1 = 0) (hl0 : lf 0 = -1) (hr0 : rf 0 = -1) (hp : pf 0 < pf 1) :
    MetFree l (⟨"com/example/accord_scheduler/accordscheduler/MomentTree", "put", "(IJ)V"⟩ : MethodName) (head1 (Jvm.Cond.code (⟨"com/example/accord_scheduler/accordscheduler/MomentTree", "put", "(IJ)V"⟩ : MethodName) prog_44_method_5_code 4 none :: ws) ({ frames := 4, cells := 0, slots := 0, locals := 80 } : Room)) (fun a U => a = #[(.ref ob), (.int (1 : Int32)), (.long dd)] ∧ Z.Warmed39 U.vm ∧ U.heap = h0) (fun _ _ _ _ _ => True) (fun _ U o U' => ∃ v L, o = .returned v ∧ Q5b Z ob dd ag ap al ar ad ac at0 sb sa pf lf rf cf df gf tf h0 n0 v U'.heap L ∧ FrameEnd U o U' L ({ frames := 4, cells := 0, slots := 0, locals := 80 } : Room).cells ({ frames := 4, cells := 0, slots := 0, locals := 80 } : Room).slots) := by
  refine MetFree.of_bodySF (plainFor_of_name pn_5) hisR ?_
  intro p e s m args below meth c s₁ Bd hml0 hP hK
  obtain ⟨rfl, hZ, hh⟩ := hP
  have hx := Bd.exec
  have hby := Bd.bytes
  have hml : c.maxLocals = 4 := hml0
  have hown : s.vm.findClass "com/example/accord_scheduler/accordscheduler/MomentTree" = some m.cls := findClass_of_methodNamed Bd.named
  have hnm := (name_of_methodNamed Bd.named Bd.method).1
  have X0 : Stand p l e ({ frames := 4, cells := 0, slots := 0, locals := 80 } : Room) s m #[(.ref ob), (.int (1 : Int32)), (.long dd)] below meth c s₁ [] 0 0 := Stand.of_body Bd
  have e0 : s₁.heap = h0 := by rw [← hh, Bd.state]; rfl
  have N0 := Fr.nil n0
  have pre0 : ∀ t, Steps p.tables e below (s₁.setTop (mkF m 0 #[.val (.ref ob), .val (.int (1 : Int32)), .val (.long dd), .second] [])) t → Steps p.tables e below (s₁.setTop (entryFrame m #[(.ref ob), (.int (1 : Int32)), (.long dd)] 4)) t := fun t k => castTop (ef_5 m ob (1 : Int32) dd) k
  have HT0 := HT
  obtain ⟨E0, F_root0, F_priority0, F_left0, F_right0, F_splitBefore0, F_splitAfter0, F_due0, F_length0, F_count0, F_total0, A_priority0, A_left0, A_right0, A_due0, A_length0, A_count0, A_total0⟩ := HT0
  obtain ⟨cq101, kq101, q101a, q101b, q101c⟩ := isOf hZ e0 E0
  obtain ⟨_, _, ⟨T101, L101, k101, n101⟩, -, X101, ⟨Lc101, hQ101, l101, y101, z101⟩, st101⟩ := X0.virtualBack hx (y := (⟨"com/example/accord_scheduler/accordscheduler/MomentTree", "remove", "(I)V"⟩ : MethodName)) (z := (⟨"com/example/accord_scheduler/accordscheduler/MomentTree", "remove", "(I)V"⟩ : MethodName)) hown (mvT hZ (hw _ (List.mem_of_getElem? (i := 48) rfl))) (mvT hZ (hw _ (List.mem_of_getElem? (i := 49) rfl))) (notFace_of_selects (args := #[]) (mvT hZ (hw _ (List.mem_of_getElem? (i := 51) rfl)))) (mvT hZ (hw _ (List.mem_of_getElem? (i := 51) rfl))) (mvT hZ (hw _ (List.mem_of_getElem? (i := 50) rfl))) (by decide) (backOf (W := 0) (rm6 l Z a0 hw [] ob (1 : Int32) ac cf h0 n0 Z0 F_count0 A_count0 (Or.inr rfl) hc) hZ (hw _ (List.mem_of_getElem? (i := 52) rfl)) (hw _ (List.mem_of_getElem? (i := 2) rfl)) (by decide) (by decide)) q101a q101c (g := (mkF m 2 #[.val (.ref ob), .val (.int (1 : Int32)), .val (.long dd), .second] [(.int (1 : Int32)), (.ref ob)])) rfl (by rw [hml]; rfl) (Steps.refl _) (argsL := [(.int (1 : Int32))]) (rest := []) (lenOf own_pd5 rfl) rfl (by show 2 * 0 + _ ≤ _; exact Nat.le_of_eq rfl) (hb hby d5_2) (fun _ _ => ⟨rfl, e0, (by decide : 0 + 0 ≤ _), (by decide : 0 + 0 ≤ _)⟩)
  dsimp only [Pt.U, Pt.locs, Pt.cells, Pt.slots] at X101 l101 y101 z101 st101 hQ101
  subst l101 y101 z101
  obtain ⟨rfl, N101q, e101⟩ := hQ101
  have N101 := Fr.app N0 N101q
  obtain ⟨T102, X102, e102, st102⟩ := getF X101 hx hZ hown (host := "") (Or.inl (hw _ (List.mem_of_getElem? (i := 26) rfl))) Via.refl e101 F_due0 (g := (mkF m 6 #[.val (.ref ob), .val (.int (1 : Int32)), .val (.long dd), .second] [(.ref ob)])) rfl rfl (hb hby d5_6)
  obtain ⟨cl103, Ar103, Sz103, Hs103⟩ := A_due0
  have hin103 : ¬ ((1 : Int32) < 0 ∨ cl103.slots.size ≤ ((1 : Int32)).toNatClampNeg) := by rw [Sz103]; exact (by decide)
  obtain ⟨T103, h103, X103, e103, W103, st103⟩ := stJ X102 hx hZ e102 Ar103 (j := (1 : Int32)) hin103 (g := (mkF m 11 #[.val (.ref ob), .val (.int (1 : Int32)), .val (.long dd), .second] [(.long dd), (.int (1 : Int32)), (.ref ad)])) rfl rfl (hb hby d5_11)
  have N103 := Fr.snoc X103 N101 (own_ge HD).2.2.2.2.1
  have Z103 : n0 ≤ h103.size := Nat.le_trans Z0 (Nat.le_of_eq W103.size.symm)
  have lt103 : ((1 : Int32)).toNatClampNeg < 2 := Nat.lt_of_not_le fun q => hin103 (Or.inr (Nat.le_trans (Nat.le_of_eq Sz103) q))
  have HT1 := own_T.w_due HT HD W103 lt103
  have HT1' := HT1
  obtain ⟨E1, F_root1, F_priority1, F_left1, F_right1, F_splitBefore1, F_splitAfter1, F_due1, F_length1, F_count1, F_total1, A_priority1, A_left1, A_right1, A_due1, A_length1, A_count1, A_total1⟩ := HT1'
  obtain ⟨T104, X104, e104, st104⟩ := getF X103 hx hZ hown (host := "") (Or.inl (hw _ (List.mem_of_getElem? (i := 53) rfl))) (Via.of (hw _ (List.mem_of_getElem? (i := 54) rfl))) e103 F_root1 (g := (mkF m 15 #[.val (.ref ob), .val (.int (1 : Int32)), .val (.long dd), .second] [(.ref ob), (.ref ob), (.ref ob)])) rfl rfl (hb hby d5_15)
  obtain ⟨cq105, kq105, q105a, q105b, q105c⟩ := isOf hZ e104 E1
  obtain ⟨_, _, ⟨T105, L105, k105, n105⟩, -, X105, ⟨Lc105, hQ105, l105, y105, z105⟩, st105⟩ := X104.virtualBackUp hx (owner := "com/example/accord_scheduler/accordscheduler/Treap") (x := (⟨"com/example/accord_scheduler/accordscheduler/MomentTree", "insert", "(II)I"⟩ : MethodName)) (y := (⟨"com/example/accord_scheduler/accordscheduler/Treap", "insert", "(II)I"⟩ : MethodName)) hown (mvT hZ (hw _ (List.mem_of_getElem? (i := 55) rfl))) (own_mvS hZ (hw _ (List.mem_of_getElem? (i := 56) rfl))) (mvT hZ (hw _ (List.mem_of_getElem? (i := 57) rfl))) (by decide) (mvT hZ (hw _ (List.mem_of_getElem? (i := 59) rfl))) (mvT hZ (hw _ (List.mem_of_getElem? (i := 58) rfl))) (backOf (W := 1) (rm7b l Z a0 hw [] ob ag ap al ar ad ac at0 (0) sb sa pf lf rf cf (own_upd df 1 dd) gf tf h103 n0 Z103 HT1 HD hl0 hr0 hp) hZ (hw _ (List.mem_of_getElem? (i := 60) rfl)) (hw _ (List.mem_of_getElem? (i := 10) rfl)) (by decide) (by decide)) q105a q105c (g := (mkF m 19 #[.val (.ref ob), .val (.int (1 : Int32)), .val (.long dd), .second] [(.int (1 : Int32)), (.int (0 : Int32)), (.ref ob), (.ref ob)])) rfl (by rw [hml]; rfl) (Steps.refl _) (argsL := [(.int (0 : Int32)), (.int (1 : Int32))]) (rest := [(.ref ob)]) (lenOf own_pd4 rfl) rfl (by show 2 * 0 + _ ≤ _; exact Nat.le_of_eq rfl) (hb hby d5_19) (fun _ _ => ⟨rfl, e104, (by decide : 0 + 0 ≤ _), (by decide : 0 + 0 ≤ _)⟩)
  dsimp only [Pt.U, Pt.locs, Pt.cells, Pt.slots] at X105 l105 y105 z105 st105 hQ105
  subst l105 y105 z105
  obtain ⟨h105, e105'⟩ : ∃ z, z = T105.heap := ⟨_, rfl⟩
  rw [← e105'] at hQ105
  have e105 := e105'.symm
  obtain ⟨rfl, N105q, Z105, sb', sa', lf', rf', cf', tf', HT2⟩ := hQ105
  have N105 := Fr.app N103 N105q
  have HT2' := HT2
  obtain ⟨E2, F_root2, F_priority2, F_left2, F_right2, F_splitBefore2, F_splitAfter2, F_due2, F_length2, F_count2, F_total2, A_priority2, A_left2, A_right2, A_due2, A_length2, A_count2, A_total2⟩ := HT2'
  obtain ⟨T106, h106, X106, e106, W106, st106⟩ := putF X105 hx hZ hown (host := "") (Or.inl (hw _ (List.mem_of_getElem? (i := 53) rfl))) (Via.of (hw _ (List.mem_of_getElem? (i := 54) rfl))) e105 F_root2 E2 (Or.inl (hw _ (List.mem_of_getElem? (i := 16) rfl))) (hw _ (List.mem_of_getElem? (i := 1) rfl)) (ty := .int) (by decide) rfl rfl (g := (mkF m 22 #[.val (.ref ob), .val (.int (1 : Int32)), .val (.long dd), .second] [(.int (1 : Int32)), (.ref ob)])) rfl rfl (hb hby d5_22)
  have N106 := Fr.snoc X106 N105 HD.1
  have Z106 : n0 ≤ h106.size := Nat.le_trans Z105 (Nat.le_of_eq W106.size.symm)
  have HT3 := own_T.w_root hw HT2 HD W106
  have pre107 : ∀ t, Steps p.tables e below (T106.setTop (mkF m 25 #[.val (.ref ob), .val (.int (1 : Int32)), .val (.long dd), .second] [])) t → Steps p.tables e below (s₁.setTop (entryFrame m #[(.ref ob), (.int (1 : Int32)), (.long dd)] 4)) t := fun t k => pre0 t (by
      show Steps p.tables e below (s₁.setTop (mkF m 0 #[.val (.ref ob), .val (.int (1 : Int32)), .val (.long dd), .second] [])) _
      refine XS.aloadN X0.here hx rfl (hb hby d5_0) rfl rfl ?_
      show Steps p.tables e below (s₁.setTop (mkF m 1 #[.val (.ref ob), .val (.int (1 : Int32)), .val (.long dd), .second] [(.ref ob)])) _
      refine XS.iloadN X0.here hx rfl (hb hby d5_1) rfl ?_
      show Steps p.tables e below (s₁.setTop (mkF m 2 #[.val (.ref ob), .val (.int (1 : Int32)), .val (.long dd), .second] [(.int (1 : Int32)), (.ref ob)])) _
      refine st101.trans ?_
      show Steps p.tables e below (T101.setTop (mkF m 5 #[.val (.ref ob), .val (.int (1 : Int32)), .val (.long dd), .second] [])) _
      refine XS.aloadN X101.here hx rfl (hb hby d5_5) rfl rfl ?_
      show Steps p.tables e below (T101.setTop (mkF m 6 #[.val (.ref ob), .val (.int (1 : Int32)), .val (.long dd), .second] [(.ref ob)])) _
      refine st102 _ ?_
      show Steps p.tables e below (T102.setTop (mkF m 9 #[.val (.ref ob), .val (.int (1 : Int32)), .val (.long dd), .second] [(.ref ad)])) _
      refine XS.iloadN X102.here hx rfl (hb hby d5_9) rfl ?_
      show Steps p.tables e below (T102.setTop (mkF m 10 #[.val (.ref ob), .val (.int (1 : Int32)), .val (.long dd), .second] [(.int (1 : Int32)), (.ref ad)])) _
      refine XS.lloadN X102.here hx rfl (hb hby d5_10) rfl ?_
      show Steps p.tables e below (T102.setTop (mkF m 11 #[.val (.ref ob), .val (.int (1 : Int32)), .val (.long dd), .second] [(.long dd), (.int (1 : Int32)), (.ref ad)])) _
      refine st103 _ ?_
      show Steps p.tables e below (T103.setTop (mkF m 12 #[.val (.ref ob), .val (.int (1 : Int32)), .val (.long dd), .second] [])) _
      refine XS.aloadN X103.here hx rfl (hb hby d5_12) rfl rfl ?_
      show Steps p.tables e below (T103.setTop (mkF m 13 #[.val (.ref ob), .val (.int (1 : Int32)), .val (.long dd), .second] [(.ref ob)])) _
      refine XS.aloadN X103.here hx rfl (hb hby d5_13) rfl rfl ?_
      show Steps p.tables e below (T103.setTop (mkF m 14 #[.val (.ref ob), .val (.int (1 : Int32)), .val (.long dd), .second] [(.ref ob), (.ref ob)])) _
      refine XS.aloadN X103.here hx rfl (hb hby d5_14) rfl rfl ?_
      show Steps p.tables e below (T103.setTop (mkF m 15 #[.val (.ref ob), .val (.int (1 : Int32)), .val (.long dd), .second] [(.ref ob), (.ref ob), (.ref ob)])) _
      refine st104 _ ?_
      show Steps p.tables e below (T104.setTop (mkF m 18 #[.val (.ref ob), .val (.int (1 : Int32)), .val (.long dd), .second] [(.int (0 : Int32)), (.ref ob), (.ref ob)])) _
      refine XS.iloadN X104.here hx rfl (hb hby d5_18) rfl ?_
      show Steps p.tables e below (T104.setTop (mkF m 19 #[.val (.ref ob), .val (.int (1 : Int32)), .val (.long dd), .second] [(.int (1 : Int32)), (.int (0 : Int32)), (.ref ob), (.ref ob)])) _
      refine st105.trans ?_
      show Steps p.tables e below (T105.setTop (mkF m 22 #[.val (.ref ob), .val (.int (1 : Int32)), .val (.long dd), .second] [(.int (1 : Int32)), (.ref ob)])) _
      refine st106 _ ?_
      exact k)
  obtain ⟨fs, hr, hrun, hended, hW, hsame⟩ := X106.leave (v := none) (fun _ => rfl)
  refine ⟨_, _, pre107 _ ?_, hrun, hended, _, _, rfl, ?_, ⟨_, rfl⟩, hW, hsame.mono (by decide) (by decide)⟩
  · show Steps p.tables e below (T106.setTop (mkF m 25 #[.val (.ref ob), .val (.int (1 : Int32)), .val (.long dd), .second] [])) _
    exact X106.returnOut hx Bd.returns (hb hby d5_25) hr
  · show Q5b Z ob dd ag ap al ar ad ac at0 sb sa pf lf rf cf df gf tf h0 n0 _ T106.heap _
    rw [e106]
    exact ⟨rfl, N106, Z106, _, _, _, _, _, _, HT3⟩
theorem d2_0 : decode prog_94_method_1_code 0 = .ok (.aload_n 0, 1) := by decide +kernel
theorem d2_1 : decode prog_94_method_1_code 1 = .ok (.invokespecial 1, 3) := by decide +kernel
theorem d2_4 : decode prog_94_method_1_code 4 = .ok (.aload_n 0, 1) := by decide +kernel
theorem d2_5 : decode prog_94_method_1_code 5 = .ok (.iconst (-1), 1) := by decide +kernel
theorem d2_6 : decode prog_94_method_1_code 6 = .ok (.putfield 9, 3) := by decide +kernel
theorem d2_9 : decode prog_94_method_1_code 9 = .ok (.aload_n 0, 1) := by decide +kernel
theorem d2_10 : decode prog_94_method_1_code 10 = .ok (.iconst (-1), 1) := by decide +kernel
theorem d2_11 : decode prog_94_method_1_code 11 = .ok (.putfield 13, 3) := by decide +kernel
theorem d2_14 : decode prog_94_method_1_code 14 = .ok (.aload_n 0, 1) := by decide +kernel
theorem d2_15 : decode prog_94_method_1_code 15 = .ok (.iload_n 1, 1) := by decide +kernel
theorem d2_16 : decode prog_94_method_1_code 16 = .ok (.newarray .long, 2) := by decide +kernel
theorem d2_18 : decode prog_94_method_1_code 18 = .ok (.putfield 16, 3) := by decide +kernel
theorem d2_21 : decode prog_94_method_1_code 21 = .ok (.aload_n 0, 1) := by decide +kernel
theorem d2_22 : decode prog_94_method_1_code 22 = .ok (.iload_n 1, 1) := by decide +kernel
theorem d2_23 : decode prog_94_method_1_code 23 = .ok (.newarray .int, 2) := by decide +kernel
theorem d2_25 : decode prog_94_method_1_code 25 = .ok (.putfield 20, 3) := by decide +kernel
theorem d2_28 : decode prog_94_method_1_code 28 = .ok (.aload_n 0, 1) := by decide +kernel
theorem d2_29 : decode prog_94_method_1_code 29 = .ok (.iload_n 1, 1) := by decide +kernel
theorem d2_30 : decode prog_94_method_1_code 30 = .ok (.newarray .int, 2) := by decide +kernel
theorem d2_32 : decode prog_94_method_1_code 32 = .ok (.putfield 24, 3) := by decide +kernel
theorem d2_35 : decode prog_94_method_1_code 35 = .ok (.return_, 1) := by decide +kernel
theorem own_pd6 : parseMethodDescriptor "()V" = some ⟨[], none⟩ := by decide +kernel
theorem pn_2 : plainName "com/example/accord_scheduler/accordscheduler/Treap" = true := by first | (simp [plainName, overriddenIn]; done) | decide +kernel
theorem ef_2 (m : MethodId) (a0 : Addr) (p1 : Int32) : entryFrame m #[(.ref a0), (.int p1)] 2 = mkF m 0 #[.val (.ref a0), .val (.int p1)] [] := by first | (simp [entryFrame, mkF, argsToLocals, Value.category]; done) | rfl
def Q2 (Z : State) (ob : Addr) (ag : Addr) (gf : Nat → Int64) (h0 : Heap) (n0 : Nat) (v : Option Value) (h : Heap) (L : List Loc) : Prop := v = none ∧ Fr n0 L ∧ n0 ≤ h.size ∧ ∃ ap al ar : Addr, @LT.lt Nat _ ag ap ∧ @LT.lt Nat _ ap al ∧ @LT.lt Nat _ al ar ∧ own_J Z h ag gf ∧ own_J Z h ap (fun _ => 0) ∧ own_I Z h al (fun _ => 0) ∧ own_I Z h ar (fun _ => 0) ∧ Exa Z h ob "com/example/accord_scheduler/accordscheduler/MomentTree" ∧ Fld Z h ob "com/example/accord_scheduler/accordscheduler/Treap" "root" "I" (.int (-1)) ∧ Fld Z h ob "com/example/accord_scheduler/accordscheduler/Treap" "priority" "[J" (.ref ap) ∧ Fld Z h ob "com/example/accord_scheduler/accordscheduler/Treap" "left" "[I" (.ref al) ∧ Fld Z h ob "com/example/accord_scheduler/accordscheduler/Treap" "right" "[I" (.ref ar) ∧ Fld Z h ob "com/example/accord_scheduler/accordscheduler/Treap" "splitBefore" "I" (.int 0) ∧ Fld Z h ob "com/example/accord_scheduler/accordscheduler/Treap" "splitAfter" "I" (.int 0) ∧ Fld Z h ob "com/example/accord_scheduler/accordscheduler/MomentTree" "due" "[J" .null ∧ Fld Z h ob "com/example/accord_scheduler/accordscheduler/MomentTree" "length" "[J" .null ∧ Fld Z h ob "com/example/accord_scheduler/accordscheduler/MomentTree" "count" "[I" .null ∧ Fld Z h ob "com/example/accord_scheduler/accordscheduler/MomentTree" "total" "[J" .null
set_option maxRecDepth 65536 in
set_option maxHeartbeats 40000000 in
theorem rm2 (l : Launch) (Z : State) (a0 : Array Value) (hw : ∀ d ∈ tables_1, d.before a0 Z = true) (ws : List Jvm.Cond) (ob : Addr) (ag : Addr) (gf : Nat → Int64) (h0 : Heap) (n0 : Nat) (Z0 : n0 ≤ h0.size) (gob : n0 ≤ ob) (lt_ag : @LT.lt Nat _ ob ag) (A_ag : own_J Z h0 ag gf) (E : Exa Z h0 ob "com/example/accord_scheduler/accordscheduler/MomentTree") (F_vacant : Fld Z h0 ob "com/example/accord_scheduler/accordscheduler/Treap" "vacant" "I" (.int 0)) (F_root : Fld Z h0 ob "com/example/accord_scheduler/accordscheduler/Treap" "root" "I" (.int 0)) (F_priority : Fld Z h0 ob "com/example/accord_scheduler/accordscheduler/Treap" "priority" "[J" .null) (F_left : Fld Z h0 ob "com/example/accord_scheduler/accordscheduler/Treap" "left" "[I" .null) (F_right : Fld Z h0 ob "com/example/accord_scheduler/accordscheduler/Treap" "right" "[I" .null) (F_splitBefore : Fld Z h0 ob "com/example/accord_scheduler/accordscheduler/Treap" "splitBefore" "I" (.int 0)) (F_splitAfter : Fld Z h0 ob "com/example/accord_scheduler/accordscheduler/Treap" "splitAfter" "I" (.int 0)) (F_due : Fld Z h0 ob "com/example/accord_scheduler/accordscheduler/MomentTree" "due" "[J" .null) (F_length : Fld Z h0 ob "com/example/accord_scheduler/accordscheduler/MomentTree" "length" "[J" .null) (F_count : Fld Z h0 ob "com/example/accord_scheduler/accordscheduler/MomentTree" "count" "[I" .null) (F_total : Fld Z h0 ob "com/example/accord_scheduler/accordscheduler/MomentTree" "total" "[J" .null) :
    MetFree l (⟨"com/example/accord_scheduler/accordscheduler/Treap", "<init>", "(I)V"⟩ : MethodName) (head1 (Jvm.Cond.code (⟨"com/example/accord_scheduler/accordscheduler/Treap", "<init>", "(I)V"⟩ : MethodName) prog_94_method_1_code 2 none :: ws) ({ frames := 1, cells := 3, slots := 6, locals := 12 } : Room)) (fun a U => a = #[(.ref ob), (.int (2 : Int32))] ∧ Z.Warmed39 U.vm ∧ U.heap = h0) (fun _ _ _ _ _ => True) (fun _ U o U' => ∃ v L, o = .returned v ∧ Q2 Z ob ag gf h0 n0 v U'.heap L ∧ FrameEnd U o U' L ({ frames := 1, cells := 3, slots := 6, locals := 12 } : Room).cells ({ frames := 1, cells := 3, slots := 6, locals := 12 } : Room).slots) := by
  refine MetFree.of_bodySF (plainFor_of_name pn_2) hisR ?_
  intro p e s m args below meth c s₁ Bd hml0 hP hK
  obtain ⟨rfl, hZ, hh⟩ := hP
  have hx := Bd.exec
  have hby := Bd.bytes
  have hml : c.maxLocals = 2 := hml0
  have hown : s.vm.findClass "com/example/accord_scheduler/accordscheduler/Treap" = some m.cls := findClass_of_methodNamed Bd.named
  have hnm := (name_of_methodNamed Bd.named Bd.method).1
  have X0 : Stand p l e ({ frames := 1, cells := 3, slots := 6, locals := 12 } : Room) s m #[(.ref ob), (.int (2 : Int32))] below meth c s₁ [] 0 0 := Stand.of_body Bd
  have e0 : s₁.heap = h0 := by rw [← hh, Bd.state]; rfl
  have N0 := Fr.nil n0
  have pre0 : ∀ t, Steps p.tables e below (s₁.setTop (mkF m 0 #[.val (.ref ob), .val (.int (2 : Int32))] [])) t → Steps p.tables e below (s₁.setTop (entryFrame m #[(.ref ob), (.int (2 : Int32))] 2)) t := fun t k => castTop (ef_2 m ob (2 : Int32)) k
  obtain ⟨T108, X108, e108, st108⟩ := initO X0 hx hZ hown (hw _ (List.mem_of_getElem? (i := 12) rfl)) (hw _ (List.mem_of_getElem? (i := 13) rfl)) (hw _ (List.mem_of_getElem? (i := 14) rfl)) e0 (g := (mkF m 1 #[.val (.ref ob), .val (.int (2 : Int32))] [(.ref ob)])) rfl (by rw [hml]; rfl) rfl (hb hby d2_1) (by decide) (W := 0) (by show 2 * 0 + _ ≤ _; exact Nat.le_of_eq rfl) (by decide)
  obtain ⟨T109, h109, X109, e109, W109, st109⟩ := putF X108 hx hZ hown (host := "") (Or.inl (hw _ (List.mem_of_getElem? (i := 15) rfl))) Via.refl e108 F_root E (Or.inl (hw _ (List.mem_of_getElem? (i := 16) rfl))) (hw _ (List.mem_of_getElem? (i := 1) rfl)) (ty := .int) (by decide) rfl rfl (g := (mkF m 6 #[.val (.ref ob), .val (.int (2 : Int32))] [(.int ((-1) : Int32)), (.ref ob)])) rfl rfl (hb hby d2_6)
  have N109 := Fr.snoc X109 N0 gob
  have Z109 : n0 ≤ h109.size := Nat.le_trans Z0 (Nat.le_of_eq W109.size.symm)
  have E_109 := E.wr W109
  have F_vacant_109 := F_vacant.other W109 (Or.inr (slot_ne (Or.inl (hw _ (List.mem_of_getElem? (i := 18) rfl))) (Or.inl (hw _ (List.mem_of_getElem? (i := 16) rfl))) (by decide) (t := .int) (t' := .int) (by decide) (by decide)))
  have F_root_109 := F_root.same W109
  have F_priority_109 := F_priority.other W109 (Or.inr (slot_ne (Or.inl (hw _ (List.mem_of_getElem? (i := 20) rfl))) (Or.inl (hw _ (List.mem_of_getElem? (i := 16) rfl))) (by decide) (t := (.array .long)) (t' := .int) (by decide) (by decide)))
  have F_left_109 := F_left.other W109 (Or.inr (slot_ne (Or.inl (hw _ (List.mem_of_getElem? (i := 23) rfl))) (Or.inl (hw _ (List.mem_of_getElem? (i := 16) rfl))) (by decide) (t := (.array .int)) (t' := .int) (by decide) (by decide)))
  have F_right_109 := F_right.other W109 (Or.inr (slot_ne (Or.inl (hw _ (List.mem_of_getElem? (i := 25) rfl))) (Or.inl (hw _ (List.mem_of_getElem? (i := 16) rfl))) (by decide) (t := (.array .int)) (t' := .int) (by decide) (by decide)))
  have F_splitBefore_109 := F_splitBefore.other W109 (Or.inr (slot_ne (Or.inl (hw _ (List.mem_of_getElem? (i := 66) rfl))) (Or.inl (hw _ (List.mem_of_getElem? (i := 16) rfl))) (by decide) (t := .int) (t' := .int) (by decide) (by decide)))
  have F_splitAfter_109 := F_splitAfter.other W109 (Or.inr (slot_ne (Or.inl (hw _ (List.mem_of_getElem? (i := 68) rfl))) (Or.inl (hw _ (List.mem_of_getElem? (i := 16) rfl))) (by decide) (t := .int) (t' := .int) (by decide) (by decide)))
  have F_due_109 := F_due.other W109 (Or.inr (slot_ne (Or.inr (hw _ (List.mem_of_getElem? (i := 27) rfl))) (Or.inl (hw _ (List.mem_of_getElem? (i := 16) rfl))) (by decide) (t := (.array .long)) (t' := .int) (by decide) (by decide)))
  have F_length_109 := F_length.other W109 (Or.inr (slot_ne (Or.inr (hw _ (List.mem_of_getElem? (i := 29) rfl))) (Or.inl (hw _ (List.mem_of_getElem? (i := 16) rfl))) (by decide) (t := (.array .long)) (t' := .int) (by decide) (by decide)))
  have F_count_109 := F_count.other W109 (Or.inr (slot_ne (Or.inr (hw _ (List.mem_of_getElem? (i := 31) rfl))) (Or.inl (hw _ (List.mem_of_getElem? (i := 16) rfl))) (by decide) (t := (.array .int)) (t' := .int) (by decide) (by decide)))
  have F_total_109 := F_total.other W109 (Or.inr (slot_ne (Or.inr (hw _ (List.mem_of_getElem? (i := 33) rfl))) (Or.inl (hw _ (List.mem_of_getElem? (i := 16) rfl))) (by decide) (t := (.array .long)) (t' := .int) (by decide) (by decide)))
  have A_ag_109 := A_ag.other W109 (own_ne (by omega))
  obtain ⟨T110, h110, X110, e110, W110, st110⟩ := putF X109 hx hZ hown (host := "") (Or.inl (hw _ (List.mem_of_getElem? (i := 17) rfl))) Via.refl e109 F_vacant_109 E_109 (Or.inl (hw _ (List.mem_of_getElem? (i := 18) rfl))) (hw _ (List.mem_of_getElem? (i := 1) rfl)) (ty := .int) (by decide) rfl rfl (g := (mkF m 11 #[.val (.ref ob), .val (.int (2 : Int32))] [(.int ((-1) : Int32)), (.ref ob)])) rfl rfl (hb hby d2_11)
  have N110 := Fr.snoc X110 N109 gob
  have Z110 : n0 ≤ h110.size := Nat.le_trans Z109 (Nat.le_of_eq W110.size.symm)
  have E_110 := E_109.wr W110
  have F_vacant_110 := F_vacant_109.same W110
  have F_root_110 := F_root_109.other W110 (Or.inr (slot_ne (Or.inl (hw _ (List.mem_of_getElem? (i := 16) rfl))) (Or.inl (hw _ (List.mem_of_getElem? (i := 18) rfl))) (by decide) (t := .int) (t' := .int) (by decide) (by decide)))
  have F_priority_110 := F_priority_109.other W110 (Or.inr (slot_ne (Or.inl (hw _ (List.mem_of_getElem? (i := 20) rfl))) (Or.inl (hw _ (List.mem_of_getElem? (i := 18) rfl))) (by decide) (t := (.array .long)) (t' := .int) (by decide) (by decide)))
  have F_left_110 := F_left_109.other W110 (Or.inr (slot_ne (Or.inl (hw _ (List.mem_of_getElem? (i := 23) rfl))) (Or.inl (hw _ (List.mem_of_getElem? (i := 18) rfl))) (by decide) (t := (.array .int)) (t' := .int) (by decide) (by decide)))
  have F_right_110 := F_right_109.other W110 (Or.inr (slot_ne (Or.inl (hw _ (List.mem_of_getElem? (i := 25) rfl))) (Or.inl (hw _ (List.mem_of_getElem? (i := 18) rfl))) (by decide) (t := (.array .int)) (t' := .int) (by decide) (by decide)))
  have F_splitBefore_110 := F_splitBefore_109.other W110 (Or.inr (slot_ne (Or.inl (hw _ (List.mem_of_getElem? (i := 66) rfl))) (Or.inl (hw _ (List.mem_of_getElem? (i := 18) rfl))) (by decide) (t := .int) (t' := .int) (by decide) (by decide)))
  have F_splitAfter_110 := F_splitAfter_109.other W110 (Or.inr (slot_ne (Or.inl (hw _ (List.mem_of_getElem? (i := 68) rfl))) (Or.inl (hw _ (List.mem_of_getElem? (i := 18) rfl))) (by decide) (t := .int) (t' := .int) (by decide) (by decide)))
  have F_due_110 := F_due_109.other W110 (Or.inr (slot_ne (Or.inr (hw _ (List.mem_of_getElem? (i := 27) rfl))) (Or.inl (hw _ (List.mem_of_getElem? (i := 18) rfl))) (by decide) (t := (.array .long)) (t' := .int) (by decide) (by decide)))
  have F_length_110 := F_length_109.other W110 (Or.inr (slot_ne (Or.inr (hw _ (List.mem_of_getElem? (i := 29) rfl))) (Or.inl (hw _ (List.mem_of_getElem? (i := 18) rfl))) (by decide) (t := (.array .long)) (t' := .int) (by decide) (by decide)))
  have F_count_110 := F_count_109.other W110 (Or.inr (slot_ne (Or.inr (hw _ (List.mem_of_getElem? (i := 31) rfl))) (Or.inl (hw _ (List.mem_of_getElem? (i := 18) rfl))) (by decide) (t := (.array .int)) (t' := .int) (by decide) (by decide)))
  have F_total_110 := F_total_109.other W110 (Or.inr (slot_ne (Or.inr (hw _ (List.mem_of_getElem? (i := 33) rfl))) (Or.inl (hw _ (List.mem_of_getElem? (i := 18) rfl))) (by decide) (t := (.array .long)) (t' := .int) (by decide) (by decide)))
  have A_ag_110 := A_ag_109.other W110 (own_ne (by omega))
  obtain ⟨T111, h111, k111, X111, e111, E111, A111, st111⟩ := newP X110 hx hZ (hw _ (List.mem_of_getElem? (i := 3) rfl)) e110 (g := (mkF m 16 #[.val (.ref ob), .val (.int (2 : Int32))] [(.int (2 : Int32)), (.ref ob)])) rfl (hb hby d2_16) rfl (by decide) (cap := 2) (by decide) (by decide) (by decide) (by decide)
  obtain ⟨b111, g111⟩ : ∃ z, z = h110.size := ⟨_, rfl⟩
  rw [← g111] at A111 st111
  have gb111 : n0 ≤ b111 := Nat.le_trans Z110 (Nat.le_of_eq g111.symm)
  have Z111 : n0 ≤ h111.size := Nat.le_trans Z110 E111.1
  have lt_ap : @LT.lt Nat _ ag b111 := Nat.lt_of_lt_of_le A_ag_110.lt (Nat.le_of_eq g111.symm)
  have E_111 := E_110.ext E111
  have F_vacant_111 := F_vacant_110.ext E111
  have F_root_111 := F_root_110.ext E111
  have F_priority_111 := F_priority_110.ext E111
  have F_left_111 := F_left_110.ext E111
  have F_right_111 := F_right_110.ext E111
  have F_splitBefore_111 := F_splitBefore_110.ext E111
  have F_splitAfter_111 := F_splitAfter_110.ext E111
  have F_due_111 := F_due_110.ext E111
  have F_length_111 := F_length_110.ext E111
  have F_count_111 := F_count_110.ext E111
  have F_total_111 := F_total_110.ext E111
  have A_ag_111 := A_ag_110.ext E111
  have A_ap_111 : own_J Z h111 b111 (fun _ => 0) := own_J.made A111
  obtain ⟨T112, h112, X112, e112, W112, st112⟩ := putF X111 hx hZ hown (host := "") (Or.inl (hw _ (List.mem_of_getElem? (i := 19) rfl))) Via.refl e111 F_priority_111 E_111 (Or.inl (hw _ (List.mem_of_getElem? (i := 20) rfl))) (hw _ (List.mem_of_getElem? (i := 1) rfl)) (ty := (.array .long)) (by decide) rfl rfl (g := (mkF m 18 #[.val (.ref ob), .val (.int (2 : Int32))] [(.ref b111), (.ref ob)])) rfl rfl (hb hby d2_18)
  have N112 := Fr.snoc X112 N110 gob
  have Z112 : n0 ≤ h112.size := Nat.le_trans Z111 (Nat.le_of_eq W112.size.symm)
  have E_112 := E_111.wr W112
  have F_vacant_112 := F_vacant_111.other W112 (Or.inr (slot_ne (Or.inl (hw _ (List.mem_of_getElem? (i := 18) rfl))) (Or.inl (hw _ (List.mem_of_getElem? (i := 20) rfl))) (by decide) (t := .int) (t' := (.array .long)) (by decide) (by decide)))
  have F_root_112 := F_root_111.other W112 (Or.inr (slot_ne (Or.inl (hw _ (List.mem_of_getElem? (i := 16) rfl))) (Or.inl (hw _ (List.mem_of_getElem? (i := 20) rfl))) (by decide) (t := .int) (t' := (.array .long)) (by decide) (by decide)))
  have F_priority_112 := F_priority_111.same W112
  have F_left_112 := F_left_111.other W112 (Or.inr (slot_ne (Or.inl (hw _ (List.mem_of_getElem? (i := 23) rfl))) (Or.inl (hw _ (List.mem_of_getElem? (i := 20) rfl))) (by decide) (t := (.array .int)) (t' := (.array .long)) (by decide) (by decide)))
  have F_right_112 := F_right_111.other W112 (Or.inr (slot_ne (Or.inl (hw _ (List.mem_of_getElem? (i := 25) rfl))) (Or.inl (hw _ (List.mem_of_getElem? (i := 20) rfl))) (by decide) (t := (.array .int)) (t' := (.array .long)) (by decide) (by decide)))
  have F_splitBefore_112 := F_splitBefore_111.other W112 (Or.inr (slot_ne (Or.inl (hw _ (List.mem_of_getElem? (i := 66) rfl))) (Or.inl (hw _ (List.mem_of_getElem? (i := 20) rfl))) (by decide) (t := .int) (t' := (.array .long)) (by decide) (by decide)))
  have F_splitAfter_112 := F_splitAfter_111.other W112 (Or.inr (slot_ne (Or.inl (hw _ (List.mem_of_getElem? (i := 68) rfl))) (Or.inl (hw _ (List.mem_of_getElem? (i := 20) rfl))) (by decide) (t := .int) (t' := (.array .long)) (by decide) (by decide)))
  have F_due_112 := F_due_111.other W112 (Or.inr (slot_ne (Or.inr (hw _ (List.mem_of_getElem? (i := 27) rfl))) (Or.inl (hw _ (List.mem_of_getElem? (i := 20) rfl))) (by decide) (t := (.array .long)) (t' := (.array .long)) (by decide) (by decide)))
  have F_length_112 := F_length_111.other W112 (Or.inr (slot_ne (Or.inr (hw _ (List.mem_of_getElem? (i := 29) rfl))) (Or.inl (hw _ (List.mem_of_getElem? (i := 20) rfl))) (by decide) (t := (.array .long)) (t' := (.array .long)) (by decide) (by decide)))
  have F_count_112 := F_count_111.other W112 (Or.inr (slot_ne (Or.inr (hw _ (List.mem_of_getElem? (i := 31) rfl))) (Or.inl (hw _ (List.mem_of_getElem? (i := 20) rfl))) (by decide) (t := (.array .int)) (t' := (.array .long)) (by decide) (by decide)))
  have F_total_112 := F_total_111.other W112 (Or.inr (slot_ne (Or.inr (hw _ (List.mem_of_getElem? (i := 33) rfl))) (Or.inl (hw _ (List.mem_of_getElem? (i := 20) rfl))) (by decide) (t := (.array .long)) (t' := (.array .long)) (by decide) (by decide)))
  have A_ag_112 := A_ag_111.other W112 (own_ne (by omega))
  have A_ap_112 := A_ap_111.other W112 (own_ne (by omega))
  obtain ⟨T113, h113, k113, X113, e113, E113, A113, st113⟩ := newP X112 hx hZ (hw _ (List.mem_of_getElem? (i := 21) rfl)) e112 (g := (mkF m 23 #[.val (.ref ob), .val (.int (2 : Int32))] [(.int (2 : Int32)), (.ref ob)])) rfl (hb hby d2_23) rfl (by decide) (cap := 2) (by decide) (by decide) (by decide) (by decide)
  obtain ⟨b113, g113⟩ : ∃ z, z = h112.size := ⟨_, rfl⟩
  rw [← g113] at A113 st113
  have gb113 : n0 ≤ b113 := Nat.le_trans Z112 (Nat.le_of_eq g113.symm)
  have Z113 : n0 ≤ h113.size := Nat.le_trans Z112 E113.1
  have lt_al : @LT.lt Nat _ b111 b113 := Nat.lt_of_lt_of_le A_ap_112.lt (Nat.le_of_eq g113.symm)
  have E_113 := E_112.ext E113
  have F_vacant_113 := F_vacant_112.ext E113
  have F_root_113 := F_root_112.ext E113
  have F_priority_113 := F_priority_112.ext E113
  have F_left_113 := F_left_112.ext E113
  have F_right_113 := F_right_112.ext E113
  have F_splitBefore_113 := F_splitBefore_112.ext E113
  have F_splitAfter_113 := F_splitAfter_112.ext E113
  have F_due_113 := F_due_112.ext E113
  have F_length_113 := F_length_112.ext E113
  have F_count_113 := F_count_112.ext E113
  have F_total_113 := F_total_112.ext E113
  have A_ag_113 := A_ag_112.ext E113
  have A_ap_113 := A_ap_112.ext E113
  have A_al_113 : own_I Z h113 b113 (fun _ => 0) := own_I.made A113
  obtain ⟨T114, h114, X114, e114, W114, st114⟩ := putF X113 hx hZ hown (host := "") (Or.inl (hw _ (List.mem_of_getElem? (i := 22) rfl))) Via.refl e113 F_left_113 E_113 (Or.inl (hw _ (List.mem_of_getElem? (i := 23) rfl))) (hw _ (List.mem_of_getElem? (i := 1) rfl)) (ty := (.array .int)) (by decide) rfl rfl (g := (mkF m 25 #[.val (.ref ob), .val (.int (2 : Int32))] [(.ref b113), (.ref ob)])) rfl rfl (hb hby d2_25)
  have N114 := Fr.snoc X114 N112 gob
  have Z114 : n0 ≤ h114.size := Nat.le_trans Z113 (Nat.le_of_eq W114.size.symm)
  have E_114 := E_113.wr W114
  have F_vacant_114 := F_vacant_113.other W114 (Or.inr (slot_ne (Or.inl (hw _ (List.mem_of_getElem? (i := 18) rfl))) (Or.inl (hw _ (List.mem_of_getElem? (i := 23) rfl))) (by decide) (t := .int) (t' := (.array .int)) (by decide) (by decide)))
  have F_root_114 := F_root_113.other W114 (Or.inr (slot_ne (Or.inl (hw _ (List.mem_of_getElem? (i := 16) rfl))) (Or.inl (hw _ (List.mem_of_getElem? (i := 23) rfl))) (by decide) (t := .int) (t' := (.array .int)) (by decide) (by decide)))
  have F_priority_114 := F_priority_113.other W114 (Or.inr (slot_ne (Or.inl (hw _ (List.mem_of_getElem? (i := 20) rfl))) (Or.inl (hw _ (List.mem_of_getElem? (i := 23) rfl))) (by decide) (t := (.array .long)) (t' := (.array .int)) (by decide) (by decide)))
  have F_left_114 := F_left_113.same W114
  have F_right_114 := F_right_113.other W114 (Or.inr (slot_ne (Or.inl (hw _ (List.mem_of_getElem? (i := 25) rfl))) (Or.inl (hw _ (List.mem_of_getElem? (i := 23) rfl))) (by decide) (t := (.array .int)) (t' := (.array .int)) (by decide) (by decide)))
  have F_splitBefore_114 := F_splitBefore_113.other W114 (Or.inr (slot_ne (Or.inl (hw _ (List.mem_of_getElem? (i := 66) rfl))) (Or.inl (hw _ (List.mem_of_getElem? (i := 23) rfl))) (by decide) (t := .int) (t' := (.array .int)) (by decide) (by decide)))
  have F_splitAfter_114 := F_splitAfter_113.other W114 (Or.inr (slot_ne (Or.inl (hw _ (List.mem_of_getElem? (i := 68) rfl))) (Or.inl (hw _ (List.mem_of_getElem? (i := 23) rfl))) (by decide) (t := .int) (t' := (.array .int)) (by decide) (by decide)))
  have F_due_114 := F_due_113.other W114 (Or.inr (slot_ne (Or.inr (hw _ (List.mem_of_getElem? (i := 27) rfl))) (Or.inl (hw _ (List.mem_of_getElem? (i := 23) rfl))) (by decide) (t := (.array .long)) (t' := (.array .int)) (by decide) (by decide)))
  have F_length_114 := F_length_113.other W114 (Or.inr (slot_ne (Or.inr (hw _ (List.mem_of_getElem? (i := 29) rfl))) (Or.inl (hw _ (List.mem_of_getElem? (i := 23) rfl))) (by decide) (t := (.array .long)) (t' := (.array .int)) (by decide) (by decide)))
  have F_count_114 := F_count_113.other W114 (Or.inr (slot_ne (Or.inr (hw _ (List.mem_of_getElem? (i := 31) rfl))) (Or.inl (hw _ (List.mem_of_getElem? (i := 23) rfl))) (by decide) (t := (.array .int)) (t' := (.array .int)) (by decide) (by decide)))
  have F_total_114 := F_total_113.other W114 (Or.inr (slot_ne (Or.inr (hw _ (List.mem_of_getElem? (i := 33) rfl))) (Or.inl (hw _ (List.mem_of_getElem? (i := 23) rfl))) (by decide) (t := (.array .long)) (t' := (.array .int)) (by decide) (by decide)))
  have A_ag_114 := A_ag_113.other W114 (own_ne (by omega))
  have A_ap_114 := A_ap_113.other W114 (own_ne (by omega))
  have A_al_114 := A_al_113.other W114 (own_ne (by omega))
  obtain ⟨T115, h115, k115, X115, e115, E115, A115, st115⟩ := newP X114 hx hZ (hw _ (List.mem_of_getElem? (i := 21) rfl)) e114 (g := (mkF m 30 #[.val (.ref ob), .val (.int (2 : Int32))] [(.int (2 : Int32)), (.ref ob)])) rfl (hb hby d2_30) rfl (by decide) (cap := 2) (by decide) (by decide) (by decide) (by decide)
  obtain ⟨b115, g115⟩ : ∃ z, z = h114.size := ⟨_, rfl⟩
  rw [← g115] at A115 st115
  have gb115 : n0 ≤ b115 := Nat.le_trans Z114 (Nat.le_of_eq g115.symm)
  have Z115 : n0 ≤ h115.size := Nat.le_trans Z114 E115.1
  have lt_ar : @LT.lt Nat _ b113 b115 := Nat.lt_of_lt_of_le A_al_114.lt (Nat.le_of_eq g115.symm)
  have E_115 := E_114.ext E115
  have F_vacant_115 := F_vacant_114.ext E115
  have F_root_115 := F_root_114.ext E115
  have F_priority_115 := F_priority_114.ext E115
  have F_left_115 := F_left_114.ext E115
  have F_right_115 := F_right_114.ext E115
  have F_splitBefore_115 := F_splitBefore_114.ext E115
  have F_splitAfter_115 := F_splitAfter_114.ext E115
  have F_due_115 := F_due_114.ext E115
  have F_length_115 := F_length_114.ext E115
  have F_count_115 := F_count_114.ext E115
  have F_total_115 := F_total_114.ext E115
  have A_ag_115 := A_ag_114.ext E115
  have A_ap_115 := A_ap_114.ext E115
  have A_al_115 := A_al_114.ext E115
  have A_ar_115 : own_I Z h115 b115 (fun _ => 0) := own_I.made A115
  obtain ⟨T116, h116, X116, e116, W116, st116⟩ := putF X115 hx hZ hown (host := "") (Or.inl (hw _ (List.mem_of_getElem? (i := 24) rfl))) Via.refl e115 F_right_115 E_115 (Or.inl (hw _ (List.mem_of_getElem? (i := 25) rfl))) (hw _ (List.mem_of_getElem? (i := 1) rfl)) (ty := (.array .int)) (by decide) rfl rfl (g := (mkF m 32 #[.val (.ref ob), .val (.int (2 : Int32))] [(.ref b115), (.ref ob)])) rfl rfl (hb hby d2_32)
  have N116 := Fr.snoc X116 N114 gob
  have Z116 : n0 ≤ h116.size := Nat.le_trans Z115 (Nat.le_of_eq W116.size.symm)
  have E_116 := E_115.wr W116
  have F_vacant_116 := F_vacant_115.other W116 (Or.inr (slot_ne (Or.inl (hw _ (List.mem_of_getElem? (i := 18) rfl))) (Or.inl (hw _ (List.mem_of_getElem? (i := 25) rfl))) (by decide) (t := .int) (t' := (.array .int)) (by decide) (by decide)))
  have F_root_116 := F_root_115.other W116 (Or.inr (slot_ne (Or.inl (hw _ (List.mem_of_getElem? (i := 16) rfl))) (Or.inl (hw _ (List.mem_of_getElem? (i := 25) rfl))) (by decide) (t := .int) (t' := (.array .int)) (by decide) (by decide)))
  have F_priority_116 := F_priority_115.other W116 (Or.inr (slot_ne (Or.inl (hw _ (List.mem_of_getElem? (i := 20) rfl))) (Or.inl (hw _ (List.mem_of_getElem? (i := 25) rfl))) (by decide) (t := (.array .long)) (t' := (.array .int)) (by decide) (by decide)))
  have F_left_116 := F_left_115.other W116 (Or.inr (slot_ne (Or.inl (hw _ (List.mem_of_getElem? (i := 23) rfl))) (Or.inl (hw _ (List.mem_of_getElem? (i := 25) rfl))) (by decide) (t := (.array .int)) (t' := (.array .int)) (by decide) (by decide)))
  have F_right_116 := F_right_115.same W116
  have F_splitBefore_116 := F_splitBefore_115.other W116 (Or.inr (slot_ne (Or.inl (hw _ (List.mem_of_getElem? (i := 66) rfl))) (Or.inl (hw _ (List.mem_of_getElem? (i := 25) rfl))) (by decide) (t := .int) (t' := (.array .int)) (by decide) (by decide)))
  have F_splitAfter_116 := F_splitAfter_115.other W116 (Or.inr (slot_ne (Or.inl (hw _ (List.mem_of_getElem? (i := 68) rfl))) (Or.inl (hw _ (List.mem_of_getElem? (i := 25) rfl))) (by decide) (t := .int) (t' := (.array .int)) (by decide) (by decide)))
  have F_due_116 := F_due_115.other W116 (Or.inr (slot_ne (Or.inr (hw _ (List.mem_of_getElem? (i := 27) rfl))) (Or.inl (hw _ (List.mem_of_getElem? (i := 25) rfl))) (by decide) (t := (.array .long)) (t' := (.array .int)) (by decide) (by decide)))
  have F_length_116 := F_length_115.other W116 (Or.inr (slot_ne (Or.inr (hw _ (List.mem_of_getElem? (i := 29) rfl))) (Or.inl (hw _ (List.mem_of_getElem? (i := 25) rfl))) (by decide) (t := (.array .long)) (t' := (.array .int)) (by decide) (by decide)))
  have F_count_116 := F_count_115.other W116 (Or.inr (slot_ne (Or.inr (hw _ (List.mem_of_getElem? (i := 31) rfl))) (Or.inl (hw _ (List.mem_of_getElem? (i := 25) rfl))) (by decide) (t := (.array .int)) (t' := (.array .int)) (by decide) (by decide)))
  have F_total_116 := F_total_115.other W116 (Or.inr (slot_ne (Or.inr (hw _ (List.mem_of_getElem? (i := 33) rfl))) (Or.inl (hw _ (List.mem_of_getElem? (i := 25) rfl))) (by decide) (t := (.array .long)) (t' := (.array .int)) (by decide) (by decide)))
  have A_ag_116 := A_ag_115.other W116 (own_ne (by omega))
  have A_ap_116 := A_ap_115.other W116 (own_ne (by omega))
  have A_al_116 := A_al_115.other W116 (own_ne (by omega))
  have A_ar_116 := A_ar_115.other W116 (own_ne (by omega))
  have pre117 : ∀ t, Steps p.tables e below (T116.setTop (mkF m 35 #[.val (.ref ob), .val (.int (2 : Int32))] [])) t → Steps p.tables e below (s₁.setTop (entryFrame m #[(.ref ob), (.int (2 : Int32))] 2)) t := fun t k => pre0 t (by
      show Steps p.tables e below (s₁.setTop (mkF m 0 #[.val (.ref ob), .val (.int (2 : Int32))] [])) _
      refine XS.aloadN X0.here hx rfl (hb hby d2_0) rfl rfl ?_
      show Steps p.tables e below (s₁.setTop (mkF m 1 #[.val (.ref ob), .val (.int (2 : Int32))] [(.ref ob)])) _
      refine st108 _ ?_
      show Steps p.tables e below (T108.setTop (mkF m 4 #[.val (.ref ob), .val (.int (2 : Int32))] [])) _
      refine XS.aloadN X108.here hx rfl (hb hby d2_4) rfl rfl ?_
      show Steps p.tables e below (T108.setTop (mkF m 5 #[.val (.ref ob), .val (.int (2 : Int32))] [(.ref ob)])) _
      refine XS.iconst X108.here hx rfl (hb hby d2_5) ?_
      show Steps p.tables e below (T108.setTop (mkF m 6 #[.val (.ref ob), .val (.int (2 : Int32))] [(.int ((-1) : Int32)), (.ref ob)])) _
      refine st109 _ ?_
      show Steps p.tables e below (T109.setTop (mkF m 9 #[.val (.ref ob), .val (.int (2 : Int32))] [])) _
      refine XS.aloadN X109.here hx rfl (hb hby d2_9) rfl rfl ?_
      show Steps p.tables e below (T109.setTop (mkF m 10 #[.val (.ref ob), .val (.int (2 : Int32))] [(.ref ob)])) _
      refine XS.iconst X109.here hx rfl (hb hby d2_10) ?_
      show Steps p.tables e below (T109.setTop (mkF m 11 #[.val (.ref ob), .val (.int (2 : Int32))] [(.int ((-1) : Int32)), (.ref ob)])) _
      refine st110 _ ?_
      show Steps p.tables e below (T110.setTop (mkF m 14 #[.val (.ref ob), .val (.int (2 : Int32))] [])) _
      refine XS.aloadN X110.here hx rfl (hb hby d2_14) rfl rfl ?_
      show Steps p.tables e below (T110.setTop (mkF m 15 #[.val (.ref ob), .val (.int (2 : Int32))] [(.ref ob)])) _
      refine XS.iloadN X110.here hx rfl (hb hby d2_15) rfl ?_
      show Steps p.tables e below (T110.setTop (mkF m 16 #[.val (.ref ob), .val (.int (2 : Int32))] [(.int (2 : Int32)), (.ref ob)])) _
      refine st111 _ ?_
      show Steps p.tables e below (T111.setTop (mkF m 18 #[.val (.ref ob), .val (.int (2 : Int32))] [(.ref b111), (.ref ob)])) _
      refine st112 _ ?_
      show Steps p.tables e below (T112.setTop (mkF m 21 #[.val (.ref ob), .val (.int (2 : Int32))] [])) _
      refine XS.aloadN X112.here hx rfl (hb hby d2_21) rfl rfl ?_
      show Steps p.tables e below (T112.setTop (mkF m 22 #[.val (.ref ob), .val (.int (2 : Int32))] [(.ref ob)])) _
      refine XS.iloadN X112.here hx rfl (hb hby d2_22) rfl ?_
      show Steps p.tables e below (T112.setTop (mkF m 23 #[.val (.ref ob), .val (.int (2 : Int32))] [(.int (2 : Int32)), (.ref ob)])) _
      refine st113 _ ?_
      show Steps p.tables e below (T113.setTop (mkF m 25 #[.val (.ref ob), .val (.int (2 : Int32))] [(.ref b113), (.ref ob)])) _
      refine st114 _ ?_
      show Steps p.tables e below (T114.setTop (mkF m 28 #[.val (.ref ob), .val (.int (2 : Int32))] [])) _
      refine XS.aloadN X114.here hx rfl (hb hby d2_28) rfl rfl ?_
      show Steps p.tables e below (T114.setTop (mkF m 29 #[.val (.ref ob), .val (.int (2 : Int32))] [(.ref ob)])) _
      refine XS.iloadN X114.here hx rfl (hb hby d2_29) rfl ?_
      show Steps p.tables e below (T114.setTop (mkF m 30 #[.val (.ref ob), .val (.int (2 : Int32))] [(.int (2 : Int32)), (.ref ob)])) _
      refine st115 _ ?_
      show Steps p.tables e below (T115.setTop (mkF m 32 #[.val (.ref ob), .val (.int (2 : Int32))] [(.ref b115), (.ref ob)])) _
      refine st116 _ ?_
      exact k)
  obtain ⟨fs, hr, hrun, hended, hW, hsame⟩ := X116.leave (v := none) (fun _ => rfl)
  refine ⟨_, _, pre117 _ ?_, hrun, hended, _, _, rfl, ?_, ⟨_, rfl⟩, hW, hsame.mono (by decide) (by decide)⟩
  · show Steps p.tables e below (T116.setTop (mkF m 35 #[.val (.ref ob), .val (.int (2 : Int32))] [])) _
    exact X116.returnOut hx Bd.returns (hb hby d2_35) hr
  · show Q2 Z ob ag gf h0 n0 _ T116.heap _
    rw [e116]
    exact ⟨rfl, N116, Z116, _, _, _, lt_ap, lt_al, lt_ar, A_ag_116, A_ap_116, A_al_116, A_ar_116, E_116, F_root_116, F_priority_116, F_left_116, F_right_116, F_splitBefore_116, F_splitAfter_116, F_due_116, F_length_116, F_count_116, F_total_116⟩
theorem d1_0 : decode prog_44_method_1_code 0 = .ok (.aload_n 0, 1) := by decide +kernel
theorem d1_1 : decode prog_44_method_1_code 1 = .ok (.aload_n 1, 1) := by decide +kernel
theorem d1_2 : decode prog_44_method_1_code 2 = .ok (.arraylength, 1) := by decide +kernel
theorem d1_3 : decode prog_44_method_1_code 3 = .ok (.invokespecial 1, 3) := by decide +kernel
theorem d1_6 : decode prog_44_method_1_code 6 = .ok (.aload_n 0, 1) := by decide +kernel
theorem d1_7 : decode prog_44_method_1_code 7 = .ok (.aload_n 1, 1) := by decide +kernel
theorem d1_8 : decode prog_44_method_1_code 8 = .ok (.arraylength, 1) := by decide +kernel
theorem d1_9 : decode prog_44_method_1_code 9 = .ok (.newarray .long, 2) := by decide +kernel
theorem d1_11 : decode prog_44_method_1_code 11 = .ok (.putfield 7, 3) := by decide +kernel
theorem d1_14 : decode prog_44_method_1_code 14 = .ok (.aload_n 0, 1) := by decide +kernel
theorem d1_15 : decode prog_44_method_1_code 15 = .ok (.aload_n 1, 1) := by decide +kernel
theorem d1_16 : decode prog_44_method_1_code 16 = .ok (.putfield 13, 3) := by decide +kernel
theorem d1_19 : decode prog_44_method_1_code 19 = .ok (.aload_n 0, 1) := by decide +kernel
theorem d1_20 : decode prog_44_method_1_code 20 = .ok (.aload_n 1, 1) := by decide +kernel
theorem d1_21 : decode prog_44_method_1_code 21 = .ok (.arraylength, 1) := by decide +kernel
theorem d1_22 : decode prog_44_method_1_code 22 = .ok (.newarray .int, 2) := by decide +kernel
theorem d1_24 : decode prog_44_method_1_code 24 = .ok (.putfield 16, 3) := by decide +kernel
theorem d1_27 : decode prog_44_method_1_code 27 = .ok (.aload_n 0, 1) := by decide +kernel
theorem d1_28 : decode prog_44_method_1_code 28 = .ok (.aload_n 1, 1) := by decide +kernel
theorem d1_29 : decode prog_44_method_1_code 29 = .ok (.arraylength, 1) := by decide +kernel
theorem d1_30 : decode prog_44_method_1_code 30 = .ok (.newarray .long, 2) := by decide +kernel
theorem d1_32 : decode prog_44_method_1_code 32 = .ok (.putfield 20, 3) := by decide +kernel
theorem d1_35 : decode prog_44_method_1_code 35 = .ok (.iconst 0, 1) := by decide +kernel
theorem d1_36 : decode prog_44_method_1_code 36 = .ok (.istore_n 2, 1) := by decide +kernel
theorem d1_37 : decode prog_44_method_1_code 37 = .ok (.iload_n 2, 1) := by decide +kernel
theorem d1_38 : decode prog_44_method_1_code 38 = .ok (.aload_n 1, 1) := by decide +kernel
theorem d1_39 : decode prog_44_method_1_code 39 = .ok (.arraylength, 1) := by decide +kernel
theorem d1_40 : decode prog_44_method_1_code 40 = .ok (.if_icmp .ge 20, 3) := by decide +kernel
theorem d1_43 : decode prog_44_method_1_code 43 = .ok (.aload_n 0, 1) := by decide +kernel
theorem d1_44 : decode prog_44_method_1_code 44 = .ok (.getfield 23, 3) := by decide +kernel
theorem d1_47 : decode prog_44_method_1_code 47 = .ok (.iload_n 2, 1) := by decide +kernel
theorem d1_48 : decode prog_44_method_1_code 48 = .ok (.iload_n 2, 1) := by decide +kernel
theorem d1_49 : decode prog_44_method_1_code 49 = .ok (.i2l, 1) := by decide +kernel
theorem d1_50 : decode prog_44_method_1_code 50 = .ok (.invokestatic 26, 3) := by decide +kernel
theorem d1_53 : decode prog_44_method_1_code 53 = .ok (.lastore, 1) := by decide +kernel
theorem d1_54 : decode prog_44_method_1_code 54 = .ok (.iinc 2 1, 3) := by decide +kernel
theorem d1_57 : decode prog_44_method_1_code 57 = .ok (.goto (-20), 3) := by decide +kernel
theorem d1_60 : decode prog_44_method_1_code 60 = .ok (.return_, 1) := by decide +kernel
theorem own_pd7 : parseMethodDescriptor "(J)J" = some ⟨[.long], some .long⟩ := by decide +kernel
theorem pn_1 : plainName "com/example/accord_scheduler/accordscheduler/MomentTree" = true := by first | (simp [plainName, overriddenIn]; done) | decide +kernel
theorem ef_1 (m : MethodId) (a0 : Addr) (a1 : Addr) : entryFrame m #[(.ref a0), (.ref a1)] 3 = mkF m 0 #[.val (.ref a0), .val (.ref a1), .unset] [] := by first | (simp [entryFrame, mkF, argsToLocals, Value.category]; done) | rfl
def Q1 (Z : State) (ob : Addr) (ag : Addr) (gf : Nat → Int64) (h0 : Heap) (n0 : Nat) (v : Option Value) (h : Heap) (L : List Loc) : Prop := v = none ∧ Fr n0 L ∧ n0 ≤ h.size ∧ ∃ ap al ar ad ac at0 : Addr, own_D n0 ob ag ap al ar ad ac at0 ∧ own_T Z h ob ag ap al ar ad ac at0 (-1) 0 0 (own_upd (own_upd (fun _ => 0) 0 (own_mix 0)) 1 (own_mix 1)) (fun _ => 0) (fun _ => 0) (fun _ => 0) (fun _ => 0) gf (fun _ => 0)
set_option maxRecDepth 65536 in
set_option maxHeartbeats 40000000 in
theorem rm1 (l : Launch) (Z : State) (a0 : Array Value) (hw : ∀ d ∈ tables_1, d.before a0 Z = true) (ws : List Jvm.Cond) (ob : Addr) (ag : Addr) (gf : Nat → Int64) (h0 : Heap) (n0 : Nat) (Z0 : n0 ≤ h0.size) (gob : n0 ≤ ob) (lt_ag : @LT.lt Nat _ ob ag) (A_ag : own_J Z h0 ag gf) (E : Exa Z h0 ob "com/example/accord_scheduler/accordscheduler/MomentTree") (F_vacant : Fld Z h0 ob "com/example/accord_scheduler/accordscheduler/Treap" "vacant" "I" (.int 0)) (F_root : Fld Z h0 ob "com/example/accord_scheduler/accordscheduler/Treap" "root" "I" (.int 0)) (F_priority : Fld Z h0 ob "com/example/accord_scheduler/accordscheduler/Treap" "priority" "[J" .null) (F_left : Fld Z h0 ob "com/example/accord_scheduler/accordscheduler/Treap" "left" "[I" .null) (F_right : Fld Z h0 ob "com/example/accord_scheduler/accordscheduler/Treap" "right" "[I" .null) (F_splitBefore : Fld Z h0 ob "com/example/accord_scheduler/accordscheduler/Treap" "splitBefore" "I" (.int 0)) (F_splitAfter : Fld Z h0 ob "com/example/accord_scheduler/accordscheduler/Treap" "splitAfter" "I" (.int 0)) (F_due : Fld Z h0 ob "com/example/accord_scheduler/accordscheduler/MomentTree" "due" "[J" .null) (F_length : Fld Z h0 ob "com/example/accord_scheduler/accordscheduler/MomentTree" "length" "[J" .null) (F_count : Fld Z h0 ob "com/example/accord_scheduler/accordscheduler/MomentTree" "count" "[I" .null) (F_total : Fld Z h0 ob "com/example/accord_scheduler/accordscheduler/MomentTree" "total" "[J" .null) :
    MetFree l (⟨"com/example/accord_scheduler/accordscheduler/MomentTree", "<init>", "([J)V"⟩ : MethodName) (head1 (Jvm.Cond.code (⟨"com/example/accord_scheduler/accordscheduler/MomentTree", "<init>", "([J)V"⟩ : MethodName) prog_44_method_1_code 3 none :: ws) ({ frames := 2, cells := 6, slots := 12, locals := 25 } : Room)) (fun a U => a = #[(.ref ob), (.ref ag)] ∧ Z.Warmed39 U.vm ∧ U.heap = h0) (fun _ _ _ _ _ => True) (fun _ U o U' => ∃ v L, o = .returned v ∧ Q1 Z ob ag gf h0 n0 v U'.heap L ∧ FrameEnd U o U' L ({ frames := 2, cells := 6, slots := 12, locals := 25 } : Room).cells ({ frames := 2, cells := 6, slots := 12, locals := 25 } : Room).slots) := by
  refine MetFree.of_bodySF (plainFor_of_name pn_1) hisR ?_
  intro p e s m args below meth c s₁ Bd hml0 hP hK
  obtain ⟨rfl, hZ, hh⟩ := hP
  have hx := Bd.exec
  have hby := Bd.bytes
  have hml : c.maxLocals = 3 := hml0
  have hown : s.vm.findClass "com/example/accord_scheduler/accordscheduler/MomentTree" = some m.cls := findClass_of_methodNamed Bd.named
  have hnm := (name_of_methodNamed Bd.named Bd.method).1
  have X0 : Stand p l e ({ frames := 2, cells := 6, slots := 12, locals := 25 } : Room) s m #[(.ref ob), (.ref ag)] below meth c s₁ [] 0 0 := Stand.of_body Bd
  have e0 : s₁.heap = h0 := by rw [← hh, Bd.state]; rfl
  have N0 := Fr.nil n0
  have pre0 : ∀ t, Steps p.tables e below (s₁.setTop (mkF m 0 #[.val (.ref ob), .val (.ref ag), .unset] [])) t → Steps p.tables e below (s₁.setTop (entryFrame m #[(.ref ob), (.ref ag)] 3)) t := fun t k => castTop (ef_1 m ob ag) k
  have A_ag0 := A_ag
  obtain ⟨cl118, Ar118, Sz118, -⟩ := A_ag0
  obtain ⟨_, _, ⟨T119, L119, k119, n119⟩, -, X119, ⟨Lc119, hQ119, l119, y119, z119⟩, st119⟩ := X0.specialBack hx (y := (⟨"com/example/accord_scheduler/accordscheduler/Treap", "<init>", "(I)V"⟩ : MethodName)) rfl hown (mvT hZ (hw _ (List.mem_of_getElem? (i := 7) rfl))) (mvT hZ (hw _ (List.mem_of_getElem? (i := 8) rfl))) (mvT hZ (hw _ (List.mem_of_getElem? (i := 11) rfl))) (by decide) (backOf (W := 0) (rm2 l Z a0 hw [] ob ag gf h0 n0 Z0 gob lt_ag A_ag E F_vacant F_root F_priority F_left F_right F_splitBefore F_splitAfter F_due F_length F_count F_total) hZ (hw _ (List.mem_of_getElem? (i := 11) rfl)) (hw _ (List.mem_of_getElem? (i := 10) rfl)) (by decide) (by decide)) (g := (mkF m 3 #[.val (.ref ob), .val (.ref ag), .unset] [(.int (2 : Int32)), (.ref ob)])) rfl (by rw [hml]; rfl) (Steps.refl _) (a := ob) (argsL := [(.int (2 : Int32))]) (rest := []) (lenOf own_pd5 rfl) rfl (by show 2 * 0 + _ ≤ _; exact Nat.le_of_eq rfl) (hb hby d1_3) (fun _ _ => ⟨rfl, e0, (by decide : 0 + 3 ≤ _), (by decide : 0 + 6 ≤ _)⟩)
  dsimp only [Pt.U, Pt.locs, Pt.cells, Pt.slots] at X119 l119 y119 z119 st119 hQ119
  subst l119 y119 z119
  obtain ⟨h119, e119'⟩ : ∃ z, z = T119.heap := ⟨_, rfl⟩
  rw [← e119'] at hQ119
  have e119 := e119'.symm
  obtain ⟨rfl, N119q, Z119, ap, al, ar, lt_ap, lt_al, lt_ar, B_ag, B_ap, B_al, B_ar, G, G_root, G_priority, G_left, G_right, G_splitBefore, G_splitAfter, G_due, G_length, G_count, G_total⟩ := hQ119
  have N119 := Fr.app N0 N119q
  have B_ag_d := B_ag
  obtain ⟨cl120, Ar120, Sz120, -⟩ := B_ag_d
  obtain ⟨T121, h121, k121, X121, e121, E121, A121, st121⟩ := newP X119 hx hZ (hw _ (List.mem_of_getElem? (i := 3) rfl)) e119 (g := (mkF m 9 #[.val (.ref ob), .val (.ref ag), .unset] [(.int (2 : Int32)), (.ref ob)])) rfl (hb hby d1_9) rfl (by decide) (cap := 2) (by decide) (by decide) (by decide) (by decide)
  obtain ⟨b121, g121⟩ : ∃ z, z = h119.size := ⟨_, rfl⟩
  rw [← g121] at A121 st121
  have gb121 : n0 ≤ b121 := Nat.le_trans Z119 (Nat.le_of_eq g121.symm)
  have Z121 : n0 ≤ h121.size := Nat.le_trans Z119 E121.1
  have lt_ad : @LT.lt Nat _ ar b121 := Nat.lt_of_lt_of_le B_ar.lt (Nat.le_of_eq g121.symm)
  have E_121 := G.ext E121
  have F_root_121 := G_root.ext E121
  have F_priority_121 := G_priority.ext E121
  have F_left_121 := G_left.ext E121
  have F_right_121 := G_right.ext E121
  have F_splitBefore_121 := G_splitBefore.ext E121
  have F_splitAfter_121 := G_splitAfter.ext E121
  have F_due_121 := G_due.ext E121
  have F_length_121 := G_length.ext E121
  have F_count_121 := G_count.ext E121
  have F_total_121 := G_total.ext E121
  have A_ag_121 := B_ag.ext E121
  have A_ap_121 := B_ap.ext E121
  have A_al_121 := B_al.ext E121
  have A_ar_121 := B_ar.ext E121
  have A_ad_121 : own_J Z h121 b121 (fun _ => 0) := own_J.made A121
  obtain ⟨T122, h122, X122, e122, W122, st122⟩ := putF X121 hx hZ hown (host := "") (Or.inl (hw _ (List.mem_of_getElem? (i := 26) rfl))) Via.refl e121 F_due_121 E_121 (Or.inr ⟨(hw _ (List.mem_of_getElem? (i := 27) rfl)), rfl, hnm⟩) (hw _ (List.mem_of_getElem? (i := 1) rfl)) (ty := (.array .long)) (by decide) rfl rfl (g := (mkF m 11 #[.val (.ref ob), .val (.ref ag), .unset] [(.ref b121), (.ref ob)])) rfl rfl (hb hby d1_11)
  have N122 := Fr.snoc X122 N119 gob
  have Z122 : n0 ≤ h122.size := Nat.le_trans Z121 (Nat.le_of_eq W122.size.symm)
  have E_122 := E_121.wr W122
  have F_root_122 := F_root_121.other W122 (Or.inr (slot_ne (Or.inl (hw _ (List.mem_of_getElem? (i := 16) rfl))) (Or.inr (hw _ (List.mem_of_getElem? (i := 27) rfl))) (by decide) (t := .int) (t' := (.array .long)) (by decide) (by decide)))
  have F_priority_122 := F_priority_121.other W122 (Or.inr (slot_ne (Or.inl (hw _ (List.mem_of_getElem? (i := 20) rfl))) (Or.inr (hw _ (List.mem_of_getElem? (i := 27) rfl))) (by decide) (t := (.array .long)) (t' := (.array .long)) (by decide) (by decide)))
  have F_left_122 := F_left_121.other W122 (Or.inr (slot_ne (Or.inl (hw _ (List.mem_of_getElem? (i := 23) rfl))) (Or.inr (hw _ (List.mem_of_getElem? (i := 27) rfl))) (by decide) (t := (.array .int)) (t' := (.array .long)) (by decide) (by decide)))
  have F_right_122 := F_right_121.other W122 (Or.inr (slot_ne (Or.inl (hw _ (List.mem_of_getElem? (i := 25) rfl))) (Or.inr (hw _ (List.mem_of_getElem? (i := 27) rfl))) (by decide) (t := (.array .int)) (t' := (.array .long)) (by decide) (by decide)))
  have F_splitBefore_122 := F_splitBefore_121.other W122 (Or.inr (slot_ne (Or.inl (hw _ (List.mem_of_getElem? (i := 66) rfl))) (Or.inr (hw _ (List.mem_of_getElem? (i := 27) rfl))) (by decide) (t := .int) (t' := (.array .long)) (by decide) (by decide)))
  have F_splitAfter_122 := F_splitAfter_121.other W122 (Or.inr (slot_ne (Or.inl (hw _ (List.mem_of_getElem? (i := 68) rfl))) (Or.inr (hw _ (List.mem_of_getElem? (i := 27) rfl))) (by decide) (t := .int) (t' := (.array .long)) (by decide) (by decide)))
  have F_due_122 := F_due_121.same W122
  have F_length_122 := F_length_121.other W122 (Or.inr (slot_ne (Or.inr (hw _ (List.mem_of_getElem? (i := 29) rfl))) (Or.inr (hw _ (List.mem_of_getElem? (i := 27) rfl))) (by decide) (t := (.array .long)) (t' := (.array .long)) (by decide) (by decide)))
  have F_count_122 := F_count_121.other W122 (Or.inr (slot_ne (Or.inr (hw _ (List.mem_of_getElem? (i := 31) rfl))) (Or.inr (hw _ (List.mem_of_getElem? (i := 27) rfl))) (by decide) (t := (.array .int)) (t' := (.array .long)) (by decide) (by decide)))
  have F_total_122 := F_total_121.other W122 (Or.inr (slot_ne (Or.inr (hw _ (List.mem_of_getElem? (i := 33) rfl))) (Or.inr (hw _ (List.mem_of_getElem? (i := 27) rfl))) (by decide) (t := (.array .long)) (t' := (.array .long)) (by decide) (by decide)))
  have A_ag_122 := A_ag_121.other W122 (own_ne (by omega))
  have A_ap_122 := A_ap_121.other W122 (own_ne (by omega))
  have A_al_122 := A_al_121.other W122 (own_ne (by omega))
  have A_ar_122 := A_ar_121.other W122 (own_ne (by omega))
  have A_ad_122 := A_ad_121.other W122 (own_ne (by omega))
  obtain ⟨T123, h123, X123, e123, W123, st123⟩ := putF X122 hx hZ hown (host := "") (Or.inl (hw _ (List.mem_of_getElem? (i := 28) rfl))) Via.refl e122 F_length_122 E_122 (Or.inr ⟨(hw _ (List.mem_of_getElem? (i := 29) rfl)), rfl, hnm⟩) (hw _ (List.mem_of_getElem? (i := 1) rfl)) (ty := (.array .long)) (by decide) rfl rfl (g := (mkF m 16 #[.val (.ref ob), .val (.ref ag), .unset] [(.ref ag), (.ref ob)])) rfl rfl (hb hby d1_16)
  have N123 := Fr.snoc X123 N122 gob
  have Z123 : n0 ≤ h123.size := Nat.le_trans Z122 (Nat.le_of_eq W123.size.symm)
  have E_123 := E_122.wr W123
  have F_root_123 := F_root_122.other W123 (Or.inr (slot_ne (Or.inl (hw _ (List.mem_of_getElem? (i := 16) rfl))) (Or.inr (hw _ (List.mem_of_getElem? (i := 29) rfl))) (by decide) (t := .int) (t' := (.array .long)) (by decide) (by decide)))
  have F_priority_123 := F_priority_122.other W123 (Or.inr (slot_ne (Or.inl (hw _ (List.mem_of_getElem? (i := 20) rfl))) (Or.inr (hw _ (List.mem_of_getElem? (i := 29) rfl))) (by decide) (t := (.array .long)) (t' := (.array .long)) (by decide) (by decide)))
  have F_left_123 := F_left_122.other W123 (Or.inr (slot_ne (Or.inl (hw _ (List.mem_of_getElem? (i := 23) rfl))) (Or.inr (hw _ (List.mem_of_getElem? (i := 29) rfl))) (by decide) (t := (.array .int)) (t' := (.array .long)) (by decide) (by decide)))
  have F_right_123 := F_right_122.other W123 (Or.inr (slot_ne (Or.inl (hw _ (List.mem_of_getElem? (i := 25) rfl))) (Or.inr (hw _ (List.mem_of_getElem? (i := 29) rfl))) (by decide) (t := (.array .int)) (t' := (.array .long)) (by decide) (by decide)))
  have F_splitBefore_123 := F_splitBefore_122.other W123 (Or.inr (slot_ne (Or.inl (hw _ (List.mem_of_getElem? (i := 66) rfl))) (Or.inr (hw _ (List.mem_of_getElem? (i := 29) rfl))) (by decide) (t := .int) (t' := (.array .long)) (by decide) (by decide)))
  have F_splitAfter_123 := F_splitAfter_122.other W123 (Or.inr (slot_ne (Or.inl (hw _ (List.mem_of_getElem? (i := 68) rfl))) (Or.inr (hw _ (List.mem_of_getElem? (i := 29) rfl))) (by decide) (t := .int) (t' := (.array .long)) (by decide) (by decide)))
  have F_due_123 := F_due_122.other W123 (Or.inr (slot_ne (Or.inr (hw _ (List.mem_of_getElem? (i := 27) rfl))) (Or.inr (hw _ (List.mem_of_getElem? (i := 29) rfl))) (by decide) (t := (.array .long)) (t' := (.array .long)) (by decide) (by decide)))
  have F_length_123 := F_length_122.same W123
  have F_count_123 := F_count_122.other W123 (Or.inr (slot_ne (Or.inr (hw _ (List.mem_of_getElem? (i := 31) rfl))) (Or.inr (hw _ (List.mem_of_getElem? (i := 29) rfl))) (by decide) (t := (.array .int)) (t' := (.array .long)) (by decide) (by decide)))
  have F_total_123 := F_total_122.other W123 (Or.inr (slot_ne (Or.inr (hw _ (List.mem_of_getElem? (i := 33) rfl))) (Or.inr (hw _ (List.mem_of_getElem? (i := 29) rfl))) (by decide) (t := (.array .long)) (t' := (.array .long)) (by decide) (by decide)))
  have A_ag_123 := A_ag_122.other W123 (own_ne (by omega))
  have A_ap_123 := A_ap_122.other W123 (own_ne (by omega))
  have A_al_123 := A_al_122.other W123 (own_ne (by omega))
  have A_ar_123 := A_ar_122.other W123 (own_ne (by omega))
  have A_ad_123 := A_ad_122.other W123 (own_ne (by omega))
  have A_ag_123_d := A_ag_123
  obtain ⟨cl124, Ar124, Sz124, -⟩ := A_ag_123_d
  obtain ⟨T125, h125, k125, X125, e125, E125, A125, st125⟩ := newP X123 hx hZ (hw _ (List.mem_of_getElem? (i := 21) rfl)) e123 (g := (mkF m 22 #[.val (.ref ob), .val (.ref ag), .unset] [(.int (2 : Int32)), (.ref ob)])) rfl (hb hby d1_22) rfl (by decide) (cap := 2) (by decide) (by decide) (by decide) (by decide)
  obtain ⟨b125, g125⟩ : ∃ z, z = h123.size := ⟨_, rfl⟩
  rw [← g125] at A125 st125
  have gb125 : n0 ≤ b125 := Nat.le_trans Z123 (Nat.le_of_eq g125.symm)
  have Z125 : n0 ≤ h125.size := Nat.le_trans Z123 E125.1
  have lt_ac : @LT.lt Nat _ b121 b125 := Nat.lt_of_lt_of_le A_ad_123.lt (Nat.le_of_eq g125.symm)
  have E_125 := E_123.ext E125
  have F_root_125 := F_root_123.ext E125
  have F_priority_125 := F_priority_123.ext E125
  have F_left_125 := F_left_123.ext E125
  have F_right_125 := F_right_123.ext E125
  have F_splitBefore_125 := F_splitBefore_123.ext E125
  have F_splitAfter_125 := F_splitAfter_123.ext E125
  have F_due_125 := F_due_123.ext E125
  have F_length_125 := F_length_123.ext E125
  have F_count_125 := F_count_123.ext E125
  have F_total_125 := F_total_123.ext E125
  have A_ag_125 := A_ag_123.ext E125
  have A_ap_125 := A_ap_123.ext E125
  have A_al_125 := A_al_123.ext E125
  have A_ar_125 := A_ar_123.ext E125
  have A_ad_125 := A_ad_123.ext E125
  have A_ac_125 : own_I Z h125 b125 (fun _ => 0) := own_I.made A125
  obtain ⟨T126, h126, X126, e126, W126, st126⟩ := putF X125 hx hZ hown (host := "") (Or.inl (hw _ (List.mem_of_getElem? (i := 30) rfl))) Via.refl e125 F_count_125 E_125 (Or.inr ⟨(hw _ (List.mem_of_getElem? (i := 31) rfl)), rfl, hnm⟩) (hw _ (List.mem_of_getElem? (i := 1) rfl)) (ty := (.array .int)) (by decide) rfl rfl (g := (mkF m 24 #[.val (.ref ob), .val (.ref ag), .unset] [(.ref b125), (.ref ob)])) rfl rfl (hb hby d1_24)
  have N126 := Fr.snoc X126 N123 gob
  have Z126 : n0 ≤ h126.size := Nat.le_trans Z125 (Nat.le_of_eq W126.size.symm)
  have E_126 := E_125.wr W126
  have F_root_126 := F_root_125.other W126 (Or.inr (slot_ne (Or.inl (hw _ (List.mem_of_getElem? (i := 16) rfl))) (Or.inr (hw _ (List.mem_of_getElem? (i := 31) rfl))) (by decide) (t := .int) (t' := (.array .int)) (by decide) (by decide)))
  have F_priority_126 := F_priority_125.other W126 (Or.inr (slot_ne (Or.inl (hw _ (List.mem_of_getElem? (i := 20) rfl))) (Or.inr (hw _ (List.mem_of_getElem? (i := 31) rfl))) (by decide) (t := (.array .long)) (t' := (.array .int)) (by decide) (by decide)))
  have F_left_126 := F_left_125.other W126 (Or.inr (slot_ne (Or.inl (hw _ (List.mem_of_getElem? (i := 23) rfl))) (Or.inr (hw _ (List.mem_of_getElem? (i := 31) rfl))) (by decide) (t := (.array .int)) (t' := (.array .int)) (by decide) (by decide)))
  have F_right_126 := F_right_125.other W126 (Or.inr (slot_ne (Or.inl (hw _ (List.mem_of_getElem? (i := 25) rfl))) (Or.inr (hw _ (List.mem_of_getElem? (i := 31) rfl))) (by decide) (t := (.array .int)) (t' := (.array .int)) (by decide) (by decide)))
  have F_splitBefore_126 := F_splitBefore_125.other W126 (Or.inr (slot_ne (Or.inl (hw _ (List.mem_of_getElem? (i := 66) rfl))) (Or.inr (hw _ (List.mem_of_getElem? (i := 31) rfl))) (by decide) (t := .int) (t' := (.array .int)) (by decide) (by decide)))
  have F_splitAfter_126 := F_splitAfter_125.other W126 (Or.inr (slot_ne (Or.inl (hw _ (List.mem_of_getElem? (i := 68) rfl))) (Or.inr (hw _ (List.mem_of_getElem? (i := 31) rfl))) (by decide) (t := .int) (t' := (.array .int)) (by decide) (by decide)))
  have F_due_126 := F_due_125.other W126 (Or.inr (slot_ne (Or.inr (hw _ (List.mem_of_getElem? (i := 27) rfl))) (Or.inr (hw _ (List.mem_of_getElem? (i := 31) rfl))) (by decide) (t := (.array .long)) (t' := (.array .int)) (by decide) (by decide)))
  have F_length_126 := F_length_125.other W126 (Or.inr (slot_ne (Or.inr (hw _ (List.mem_of_getElem? (i := 29) rfl))) (Or.inr (hw _ (List.mem_of_getElem? (i := 31) rfl))) (by decide) (t := (.array .long)) (t' := (.array .int)) (by decide) (by decide)))
  have F_count_126 := F_count_125.same W126
  have F_total_126 := F_total_125.other W126 (Or.inr (slot_ne (Or.inr (hw _ (List.mem_of_getElem? (i := 33) rfl))) (Or.inr (hw _ (List.mem_of_getElem? (i := 31) rfl))) (by decide) (t := (.array .long)) (t' := (.array .int)) (by decide) (by decide)))
  have A_ag_126 := A_ag_125.other W126 (own_ne (by omega))
  have A_ap_126 := A_ap_125.other W126 (own_ne (by omega))
  have A_al_126 := A_al_125.other W126 (own_ne (by omega))
  have A_ar_126 := A_ar_125.other W126 (own_ne (by omega))
  have A_ad_126 := A_ad_125.other W126 (own_ne (by omega))
  have A_ac_126 := A_ac_125.other W126 (own_ne (by omega))
  have A_ag_126_d := A_ag_126
  obtain ⟨cl127, Ar127, Sz127, -⟩ := A_ag_126_d
  obtain ⟨T128, h128, k128, X128, e128, E128, A128, st128⟩ := newP X126 hx hZ (hw _ (List.mem_of_getElem? (i := 3) rfl)) e126 (g := (mkF m 30 #[.val (.ref ob), .val (.ref ag), .unset] [(.int (2 : Int32)), (.ref ob)])) rfl (hb hby d1_30) rfl (by decide) (cap := 2) (by decide) (by decide) (by decide) (by decide)
  obtain ⟨b128, g128⟩ : ∃ z, z = h126.size := ⟨_, rfl⟩
  rw [← g128] at A128 st128
  have gb128 : n0 ≤ b128 := Nat.le_trans Z126 (Nat.le_of_eq g128.symm)
  have Z128 : n0 ≤ h128.size := Nat.le_trans Z126 E128.1
  have lt_at0 : @LT.lt Nat _ b125 b128 := Nat.lt_of_lt_of_le A_ac_126.lt (Nat.le_of_eq g128.symm)
  have E_128 := E_126.ext E128
  have F_root_128 := F_root_126.ext E128
  have F_priority_128 := F_priority_126.ext E128
  have F_left_128 := F_left_126.ext E128
  have F_right_128 := F_right_126.ext E128
  have F_splitBefore_128 := F_splitBefore_126.ext E128
  have F_splitAfter_128 := F_splitAfter_126.ext E128
  have F_due_128 := F_due_126.ext E128
  have F_length_128 := F_length_126.ext E128
  have F_count_128 := F_count_126.ext E128
  have F_total_128 := F_total_126.ext E128
  have A_ag_128 := A_ag_126.ext E128
  have A_ap_128 := A_ap_126.ext E128
  have A_al_128 := A_al_126.ext E128
  have A_ar_128 := A_ar_126.ext E128
  have A_ad_128 := A_ad_126.ext E128
  have A_ac_128 := A_ac_126.ext E128
  have A_at0_128 : own_J Z h128 b128 (fun _ => 0) := own_J.made A128
  obtain ⟨T129, h129, X129, e129, W129, st129⟩ := putF X128 hx hZ hown (host := "") (Or.inl (hw _ (List.mem_of_getElem? (i := 32) rfl))) Via.refl e128 F_total_128 E_128 (Or.inr ⟨(hw _ (List.mem_of_getElem? (i := 33) rfl)), rfl, hnm⟩) (hw _ (List.mem_of_getElem? (i := 1) rfl)) (ty := (.array .long)) (by decide) rfl rfl (g := (mkF m 32 #[.val (.ref ob), .val (.ref ag), .unset] [(.ref b128), (.ref ob)])) rfl rfl (hb hby d1_32)
  have N129 := Fr.snoc X129 N126 gob
  have Z129 : n0 ≤ h129.size := Nat.le_trans Z128 (Nat.le_of_eq W129.size.symm)
  have E_129 := E_128.wr W129
  have F_root_129 := F_root_128.other W129 (Or.inr (slot_ne (Or.inl (hw _ (List.mem_of_getElem? (i := 16) rfl))) (Or.inr (hw _ (List.mem_of_getElem? (i := 33) rfl))) (by decide) (t := .int) (t' := (.array .long)) (by decide) (by decide)))
  have F_priority_129 := F_priority_128.other W129 (Or.inr (slot_ne (Or.inl (hw _ (List.mem_of_getElem? (i := 20) rfl))) (Or.inr (hw _ (List.mem_of_getElem? (i := 33) rfl))) (by decide) (t := (.array .long)) (t' := (.array .long)) (by decide) (by decide)))
  have F_left_129 := F_left_128.other W129 (Or.inr (slot_ne (Or.inl (hw _ (List.mem_of_getElem? (i := 23) rfl))) (Or.inr (hw _ (List.mem_of_getElem? (i := 33) rfl))) (by decide) (t := (.array .int)) (t' := (.array .long)) (by decide) (by decide)))
  have F_right_129 := F_right_128.other W129 (Or.inr (slot_ne (Or.inl (hw _ (List.mem_of_getElem? (i := 25) rfl))) (Or.inr (hw _ (List.mem_of_getElem? (i := 33) rfl))) (by decide) (t := (.array .int)) (t' := (.array .long)) (by decide) (by decide)))
  have F_splitBefore_129 := F_splitBefore_128.other W129 (Or.inr (slot_ne (Or.inl (hw _ (List.mem_of_getElem? (i := 66) rfl))) (Or.inr (hw _ (List.mem_of_getElem? (i := 33) rfl))) (by decide) (t := .int) (t' := (.array .long)) (by decide) (by decide)))
  have F_splitAfter_129 := F_splitAfter_128.other W129 (Or.inr (slot_ne (Or.inl (hw _ (List.mem_of_getElem? (i := 68) rfl))) (Or.inr (hw _ (List.mem_of_getElem? (i := 33) rfl))) (by decide) (t := .int) (t' := (.array .long)) (by decide) (by decide)))
  have F_due_129 := F_due_128.other W129 (Or.inr (slot_ne (Or.inr (hw _ (List.mem_of_getElem? (i := 27) rfl))) (Or.inr (hw _ (List.mem_of_getElem? (i := 33) rfl))) (by decide) (t := (.array .long)) (t' := (.array .long)) (by decide) (by decide)))
  have F_length_129 := F_length_128.other W129 (Or.inr (slot_ne (Or.inr (hw _ (List.mem_of_getElem? (i := 29) rfl))) (Or.inr (hw _ (List.mem_of_getElem? (i := 33) rfl))) (by decide) (t := (.array .long)) (t' := (.array .long)) (by decide) (by decide)))
  have F_count_129 := F_count_128.other W129 (Or.inr (slot_ne (Or.inr (hw _ (List.mem_of_getElem? (i := 31) rfl))) (Or.inr (hw _ (List.mem_of_getElem? (i := 33) rfl))) (by decide) (t := (.array .int)) (t' := (.array .long)) (by decide) (by decide)))
  have F_total_129 := F_total_128.same W129
  have A_ag_129 := A_ag_128.other W129 (own_ne (by omega))
  have A_ap_129 := A_ap_128.other W129 (own_ne (by omega))
  have A_al_129 := A_al_128.other W129 (own_ne (by omega))
  have A_ar_129 := A_ar_128.other W129 (own_ne (by omega))
  have A_ad_129 := A_ad_128.other W129 (own_ne (by omega))
  have A_ac_129 := A_ac_128.other W129 (own_ne (by omega))
  have A_at0_129 := A_at0_128.other W129 (own_ne (by omega))
  have HD : own_D n0 ob ag ap al ar b121 b125 b128 := ⟨gob, lt_ag, lt_ap, lt_al, lt_ar, lt_ad, lt_ac, lt_at0⟩
  have HT0 : own_T Z h129 ob ag ap al ar b121 b125 b128 (-1) 0 0 (fun _ => 0) (fun _ => 0) (fun _ => 0) (fun _ => 0) (fun _ => 0) gf (fun _ => 0) := ⟨E_129, F_root_129, F_priority_129, F_left_129, F_right_129, F_splitBefore_129, F_splitAfter_129, F_due_129, F_length_129, F_count_129, F_total_129, A_ap_129, A_al_129, A_ar_129, A_ad_129, A_ag_129, A_ac_129, A_at0_129⟩
  have HTa0 := HT0
  obtain ⟨E_0, F_root_0, F_priority_0, F_left_0, F_right_0, F_splitBefore_0, F_splitAfter_0, F_due_0, F_length_0, F_count_0, F_total_0, A_priority_0, A_left_0, A_right_0, A_due_0, A_length_0, A_count_0, A_total_0⟩ := HTa0
  have Al0 := A_length_0
  obtain ⟨cl130, Ar130, Sz130, -⟩ := Al0
  obtain ⟨T131, X131, e131, st131⟩ := getF X129 hx hZ hown (host := "") (Or.inl (hw _ (List.mem_of_getElem? (i := 34) rfl))) (Via.of (hw _ (List.mem_of_getElem? (i := 35) rfl))) e129 F_priority_0 (g := (mkF m 44 #[.val (.ref ob), .val (.ref ag), .val (.int (0 : Int32))] [(.ref ob)])) rfl rfl (hb hby d1_44)
  obtain ⟨mk132, hnm132⟩ := Cond.code_named (mvT hZ (hw _ (List.mem_of_getElem? (i := 39) rfl)) : (Jvm.Cond.code (⟨"com/example/accord_scheduler/accordscheduler/Treap", "mix", "(J)J"⟩ : MethodName) prog_94_method_13_code 4 (some .long)).before #[(.ref ob), (.ref ag)] s = true)
  obtain ⟨mM132, cM132, hM132, -, -, -, -, -, -, hs132⟩ := Cond.code_spec hnm132 (mvT hZ (hw _ (List.mem_of_getElem? (i := 39) rfl)) : (Jvm.Cond.code (⟨"com/example/accord_scheduler/accordscheduler/Treap", "mix", "(J)J"⟩ : MethodName) prog_94_method_13_code 4 (some .long)).before #[(.ref ob), (.ref ag)] s = true)
  obtain ⟨_, _, ⟨T132, L132, k132, n132⟩, -, X132, ⟨Lc132, hQ132, l132, y132, z132⟩, st132⟩ := X131.staticBackUp hx (owner := "com/example/accord_scheduler/accordscheduler/Treap") (x := (⟨"com/example/accord_scheduler/accordscheduler/MomentTree", "mix", "(J)J"⟩ : MethodName)) hown (mvT hZ (hw _ (List.mem_of_getElem? (i := 36) rfl))) (own_mvS hZ (hw _ (List.mem_of_getElem? (i := 37) rfl))) (mvT hZ (hw _ (List.mem_of_getElem? (i := 38) rfl))) (mvT hZ (hw _ (List.mem_of_getElem? (i := 10) rfl))) hnm132 hM132 hs132 (by decide) (backOf (W := 2) (rm4 l Z a0 hw [] (0 : Int64) h129 n0 Z129) hZ (hw _ (List.mem_of_getElem? (i := 39) rfl)) (hw _ (List.mem_of_getElem? (i := 10) rfl)) (by decide) (by decide)) (g := (mkF m 50 #[.val (.ref ob), .val (.ref ag), .val (.int (0 : Int32))] [(.long (0 : Int64)), (.int (0 : Int32)), (.ref ap)])) rfl (by rw [hml]; rfl) (Steps.refl _) (argsL := [(.long (0 : Int64))]) (rest := [(.int (0 : Int32)), (.ref ap)]) (lenOf own_pd7 rfl) rfl (by show 2 * 0 + _ ≤ _; exact Nat.le_of_eq rfl) (hb hby d1_50) (fun _ _ => ⟨rfl, e131, (by decide : 6 + 0 ≤ _), (by decide : 12 + 0 ≤ _)⟩)
  dsimp only [Pt.U, Pt.locs, Pt.cells, Pt.slots] at X132 l132 y132 z132 st132 hQ132
  subst l132 y132 z132
  obtain ⟨rfl, N132q, e132⟩ := hQ132
  have N132 := Fr.app N129 N132q
  obtain ⟨cl133, Ar133, Sz133, Hs133⟩ := A_priority_0
  have hin133 : ¬ ((0 : Int32) < 0 ∨ cl133.slots.size ≤ ((0 : Int32)).toNatClampNeg) := by rw [Sz133]; exact (by decide)
  obtain ⟨T133, h133, X133, e133, W133, st133⟩ := stJ X132 hx hZ e132 Ar133 (j := (0 : Int32)) hin133 (g := (mkF m 53 #[.val (.ref ob), .val (.ref ag), .val (.int (0 : Int32))] [(.long (own_mix 0)), (.int (0 : Int32)), (.ref ap)])) rfl rfl (hb hby d1_53)
  have N133 := Fr.snoc X133 N132 (own_ge HD).2.1
  have Z133 : n0 ≤ h133.size := Nat.le_trans Z129 (Nat.le_of_eq W133.size.symm)
  have lt133 : ((0 : Int32)).toNatClampNeg < 2 := Nat.lt_of_not_le fun q => hin133 (Or.inr (Nat.le_trans (Nat.le_of_eq Sz133) q))
  have HT1 := own_T.w_priority HT0 HD W133 lt133
  have pre134 : ∀ t, Steps p.tables e below (T133.setTop (mkF m 37 #[.val (.ref ob), .val (.ref ag), .val (.int (1 : Int32))] [])) t → Steps p.tables e below (s₁.setTop (entryFrame m #[(.ref ob), (.ref ag)] 3)) t := fun t k => pre0 t (by
      show Steps p.tables e below (s₁.setTop (mkF m 0 #[.val (.ref ob), .val (.ref ag), .unset] [])) _
      refine XS.aloadN X0.here hx rfl (hb hby d1_0) rfl rfl ?_
      show Steps p.tables e below (s₁.setTop (mkF m 1 #[.val (.ref ob), .val (.ref ag), .unset] [(.ref ob)])) _
      refine XS.aloadN X0.here hx rfl (hb hby d1_1) rfl rfl ?_
      show Steps p.tables e below (s₁.setTop (mkF m 2 #[.val (.ref ob), .val (.ref ag), .unset] [(.ref ag), (.ref ob)])) _
      (refine X0.arraylength hx (by rw [e0]; exact Ar118.1) (State.isArrayOf_alike hZ.alike Ar118.2.1) (g := (mkF m 2 #[.val (.ref ob), .val (.ref ag), .unset] [(.ref ag), (.ref ob)])) rfl rfl (hb hby d1_2) _ ?_; rw [Sz118])
      show Steps p.tables e below (s₁.setTop (mkF m 3 #[.val (.ref ob), .val (.ref ag), .unset] [(.int (2 : Int32)), (.ref ob)])) _
      refine st119.trans ?_
      show Steps p.tables e below (T119.setTop (mkF m 6 #[.val (.ref ob), .val (.ref ag), .unset] [])) _
      refine XS.aloadN X119.here hx rfl (hb hby d1_6) rfl rfl ?_
      show Steps p.tables e below (T119.setTop (mkF m 7 #[.val (.ref ob), .val (.ref ag), .unset] [(.ref ob)])) _
      refine XS.aloadN X119.here hx rfl (hb hby d1_7) rfl rfl ?_
      show Steps p.tables e below (T119.setTop (mkF m 8 #[.val (.ref ob), .val (.ref ag), .unset] [(.ref ag), (.ref ob)])) _
      (refine X119.arraylength hx (by rw [e119]; exact Ar120.1) (State.isArrayOf_alike hZ.alike Ar120.2.1) (g := (mkF m 8 #[.val (.ref ob), .val (.ref ag), .unset] [(.ref ag), (.ref ob)])) rfl rfl (hb hby d1_8) _ ?_; rw [Sz120])
      show Steps p.tables e below (T119.setTop (mkF m 9 #[.val (.ref ob), .val (.ref ag), .unset] [(.int (2 : Int32)), (.ref ob)])) _
      refine st121 _ ?_
      show Steps p.tables e below (T121.setTop (mkF m 11 #[.val (.ref ob), .val (.ref ag), .unset] [(.ref b121), (.ref ob)])) _
      refine st122 _ ?_
      show Steps p.tables e below (T122.setTop (mkF m 14 #[.val (.ref ob), .val (.ref ag), .unset] [])) _
      refine XS.aloadN X122.here hx rfl (hb hby d1_14) rfl rfl ?_
      show Steps p.tables e below (T122.setTop (mkF m 15 #[.val (.ref ob), .val (.ref ag), .unset] [(.ref ob)])) _
      refine XS.aloadN X122.here hx rfl (hb hby d1_15) rfl rfl ?_
      show Steps p.tables e below (T122.setTop (mkF m 16 #[.val (.ref ob), .val (.ref ag), .unset] [(.ref ag), (.ref ob)])) _
      refine st123 _ ?_
      show Steps p.tables e below (T123.setTop (mkF m 19 #[.val (.ref ob), .val (.ref ag), .unset] [])) _
      refine XS.aloadN X123.here hx rfl (hb hby d1_19) rfl rfl ?_
      show Steps p.tables e below (T123.setTop (mkF m 20 #[.val (.ref ob), .val (.ref ag), .unset] [(.ref ob)])) _
      refine XS.aloadN X123.here hx rfl (hb hby d1_20) rfl rfl ?_
      show Steps p.tables e below (T123.setTop (mkF m 21 #[.val (.ref ob), .val (.ref ag), .unset] [(.ref ag), (.ref ob)])) _
      (refine X123.arraylength hx (by rw [e123]; exact Ar124.1) (State.isArrayOf_alike hZ.alike Ar124.2.1) (g := (mkF m 21 #[.val (.ref ob), .val (.ref ag), .unset] [(.ref ag), (.ref ob)])) rfl rfl (hb hby d1_21) _ ?_; rw [Sz124])
      show Steps p.tables e below (T123.setTop (mkF m 22 #[.val (.ref ob), .val (.ref ag), .unset] [(.int (2 : Int32)), (.ref ob)])) _
      refine st125 _ ?_
      show Steps p.tables e below (T125.setTop (mkF m 24 #[.val (.ref ob), .val (.ref ag), .unset] [(.ref b125), (.ref ob)])) _
      refine st126 _ ?_
      show Steps p.tables e below (T126.setTop (mkF m 27 #[.val (.ref ob), .val (.ref ag), .unset] [])) _
      refine XS.aloadN X126.here hx rfl (hb hby d1_27) rfl rfl ?_
      show Steps p.tables e below (T126.setTop (mkF m 28 #[.val (.ref ob), .val (.ref ag), .unset] [(.ref ob)])) _
      refine XS.aloadN X126.here hx rfl (hb hby d1_28) rfl rfl ?_
      show Steps p.tables e below (T126.setTop (mkF m 29 #[.val (.ref ob), .val (.ref ag), .unset] [(.ref ag), (.ref ob)])) _
      (refine X126.arraylength hx (by rw [e126]; exact Ar127.1) (State.isArrayOf_alike hZ.alike Ar127.2.1) (g := (mkF m 29 #[.val (.ref ob), .val (.ref ag), .unset] [(.ref ag), (.ref ob)])) rfl rfl (hb hby d1_29) _ ?_; rw [Sz127])
      show Steps p.tables e below (T126.setTop (mkF m 30 #[.val (.ref ob), .val (.ref ag), .unset] [(.int (2 : Int32)), (.ref ob)])) _
      refine st128 _ ?_
      show Steps p.tables e below (T128.setTop (mkF m 32 #[.val (.ref ob), .val (.ref ag), .unset] [(.ref b128), (.ref ob)])) _
      refine st129 _ ?_
      show Steps p.tables e below (T129.setTop (mkF m 35 #[.val (.ref ob), .val (.ref ag), .unset] [])) _
      refine XS.iconst X129.here hx rfl (hb hby d1_35) ?_
      show Steps p.tables e below (T129.setTop (mkF m 36 #[.val (.ref ob), .val (.ref ag), .unset] [(.int (0 : Int32))])) _
      refine XS.istoreN X129.here hx rfl (hb hby d1_36) rfl (l' := #[.val (.ref ob), .val (.ref ag), .val (.int (0 : Int32))]) rfl ?_
      show Steps p.tables e below (T129.setTop (mkF m 37 #[.val (.ref ob), .val (.ref ag), .val (.int (0 : Int32))] [])) _
      refine XS.iloadN X129.here hx rfl (hb hby d1_37) rfl ?_
      show Steps p.tables e below (T129.setTop (mkF m 38 #[.val (.ref ob), .val (.ref ag), .val (.int (0 : Int32))] [(.int (0 : Int32))])) _
      refine XS.aloadN X129.here hx rfl (hb hby d1_38) rfl rfl ?_
      show Steps p.tables e below (T129.setTop (mkF m 39 #[.val (.ref ob), .val (.ref ag), .val (.int (0 : Int32))] [(.ref ag), (.int (0 : Int32))])) _
      (refine X129.arraylength hx (by rw [e129]; exact Ar130.1) (State.isArrayOf_alike hZ.alike Ar130.2.1) (g := (mkF m 39 #[.val (.ref ob), .val (.ref ag), .val (.int (0 : Int32))] [(.ref ag), (.int (0 : Int32))])) rfl rfl (hb hby d1_39) _ ?_; rw [Sz130])
      show Steps p.tables e below (T129.setTop (mkF m 40 #[.val (.ref ob), .val (.ref ag), .val (.int (0 : Int32))] [(.int (2 : Int32)), (.int (0 : Int32))])) _
      refine XS.icmpNo X129.here hx rfl (hb hby d1_40) rfl (tlt (by decide)).2.1 ?_
      show Steps p.tables e below (T129.setTop (mkF m 43 #[.val (.ref ob), .val (.ref ag), .val (.int (0 : Int32))] [])) _
      refine XS.aloadN X129.here hx rfl (hb hby d1_43) rfl rfl ?_
      show Steps p.tables e below (T129.setTop (mkF m 44 #[.val (.ref ob), .val (.ref ag), .val (.int (0 : Int32))] [(.ref ob)])) _
      refine st131 _ ?_
      show Steps p.tables e below (T131.setTop (mkF m 47 #[.val (.ref ob), .val (.ref ag), .val (.int (0 : Int32))] [(.ref ap)])) _
      refine XS.iloadN X131.here hx rfl (hb hby d1_47) rfl ?_
      show Steps p.tables e below (T131.setTop (mkF m 48 #[.val (.ref ob), .val (.ref ag), .val (.int (0 : Int32))] [(.int (0 : Int32)), (.ref ap)])) _
      refine XS.iloadN X131.here hx rfl (hb hby d1_48) rfl ?_
      show Steps p.tables e below (T131.setTop (mkF m 49 #[.val (.ref ob), .val (.ref ag), .val (.int (0 : Int32))] [(.int (0 : Int32)), (.int (0 : Int32)), (.ref ap)])) _
      refine XS.i2l X131.here hx rfl (hb hby d1_49) rfl ?_
      show Steps p.tables e below (T131.setTop (mkF m 50 #[.val (.ref ob), .val (.ref ag), .val (.int (0 : Int32))] [(.long (0 : Int64)), (.int (0 : Int32)), (.ref ap)])) _
      refine st132.trans ?_
      show Steps p.tables e below (T132.setTop (mkF m 53 #[.val (.ref ob), .val (.ref ag), .val (.int (0 : Int32))] [(.long (own_mix 0)), (.int (0 : Int32)), (.ref ap)])) _
      refine st133 _ ?_
      show Steps p.tables e below (T133.setTop (mkF m 54 #[.val (.ref ob), .val (.ref ag), .val (.int (0 : Int32))] [])) _
      refine XS.iinc X133.here hx rfl (hb hby d1_54) rfl (l' := #[.val (.ref ob), .val (.ref ag), .val (.int ((0 : Int32) + (1 : Int32)))]) rfl ?_
      show Steps p.tables e below (T133.setTop (mkF m 57 #[.val (.ref ob), .val (.ref ag), .val (.int ((0 : Int32) + (1 : Int32)))] [])) _
      refine XS.goto X133.here hx rfl (pc0 := 57) (pc' := 37) rfl (hb hby d1_57) (by decide) (by decide) ?_
      exact k)
  have HTa1 := HT1
  obtain ⟨E_1, F_root_1, F_priority_1, F_left_1, F_right_1, F_splitBefore_1, F_splitAfter_1, F_due_1, F_length_1, F_count_1, F_total_1, A_priority_1, A_left_1, A_right_1, A_due_1, A_length_1, A_count_1, A_total_1⟩ := HTa1
  have Al1 := A_length_1
  obtain ⟨cl135, Ar135, Sz135, -⟩ := Al1
  obtain ⟨T136, X136, e136, st136⟩ := getF X133 hx hZ hown (host := "") (Or.inl (hw _ (List.mem_of_getElem? (i := 34) rfl))) (Via.of (hw _ (List.mem_of_getElem? (i := 35) rfl))) e133 F_priority_1 (g := (mkF m 44 #[.val (.ref ob), .val (.ref ag), .val (.int (1 : Int32))] [(.ref ob)])) rfl rfl (hb hby d1_44)
  obtain ⟨mk137, hnm137⟩ := Cond.code_named (mvT hZ (hw _ (List.mem_of_getElem? (i := 39) rfl)) : (Jvm.Cond.code (⟨"com/example/accord_scheduler/accordscheduler/Treap", "mix", "(J)J"⟩ : MethodName) prog_94_method_13_code 4 (some .long)).before #[(.ref ob), (.ref ag)] s = true)
  obtain ⟨mM137, cM137, hM137, -, -, -, -, -, -, hs137⟩ := Cond.code_spec hnm137 (mvT hZ (hw _ (List.mem_of_getElem? (i := 39) rfl)) : (Jvm.Cond.code (⟨"com/example/accord_scheduler/accordscheduler/Treap", "mix", "(J)J"⟩ : MethodName) prog_94_method_13_code 4 (some .long)).before #[(.ref ob), (.ref ag)] s = true)
  obtain ⟨_, _, ⟨T137, L137, k137, n137⟩, -, X137, ⟨Lc137, hQ137, l137, y137, z137⟩, st137⟩ := X136.staticBackUp hx (owner := "com/example/accord_scheduler/accordscheduler/Treap") (x := (⟨"com/example/accord_scheduler/accordscheduler/MomentTree", "mix", "(J)J"⟩ : MethodName)) hown (mvT hZ (hw _ (List.mem_of_getElem? (i := 36) rfl))) (own_mvS hZ (hw _ (List.mem_of_getElem? (i := 37) rfl))) (mvT hZ (hw _ (List.mem_of_getElem? (i := 38) rfl))) (mvT hZ (hw _ (List.mem_of_getElem? (i := 10) rfl))) hnm137 hM137 hs137 (by decide) (backOf (W := 2) (rm4 l Z a0 hw [] (1 : Int64) h133 n0 Z133) hZ (hw _ (List.mem_of_getElem? (i := 39) rfl)) (hw _ (List.mem_of_getElem? (i := 10) rfl)) (by decide) (by decide)) (g := (mkF m 50 #[.val (.ref ob), .val (.ref ag), .val (.int (1 : Int32))] [(.long (1 : Int64)), (.int (1 : Int32)), (.ref ap)])) rfl (by rw [hml]; rfl) (Steps.refl _) (argsL := [(.long (1 : Int64))]) (rest := [(.int (1 : Int32)), (.ref ap)]) (lenOf own_pd7 rfl) rfl (by show 2 * 0 + _ ≤ _; exact Nat.le_of_eq rfl) (hb hby d1_50) (fun _ _ => ⟨rfl, e136, (by decide : 6 + 0 ≤ _), (by decide : 12 + 0 ≤ _)⟩)
  dsimp only [Pt.U, Pt.locs, Pt.cells, Pt.slots] at X137 l137 y137 z137 st137 hQ137
  subst l137 y137 z137
  obtain ⟨rfl, N137q, e137⟩ := hQ137
  have N137 := Fr.app N133 N137q
  obtain ⟨cl138, Ar138, Sz138, Hs138⟩ := A_priority_1
  have hin138 : ¬ ((1 : Int32) < 0 ∨ cl138.slots.size ≤ ((1 : Int32)).toNatClampNeg) := by rw [Sz138]; exact (by decide)
  obtain ⟨T138, h138, X138, e138, W138, st138⟩ := stJ X137 hx hZ e137 Ar138 (j := (1 : Int32)) hin138 (g := (mkF m 53 #[.val (.ref ob), .val (.ref ag), .val (.int (1 : Int32))] [(.long (own_mix 1)), (.int (1 : Int32)), (.ref ap)])) rfl rfl (hb hby d1_53)
  have N138 := Fr.snoc X138 N137 (own_ge HD).2.1
  have Z138 : n0 ≤ h138.size := Nat.le_trans Z133 (Nat.le_of_eq W138.size.symm)
  have lt138 : ((1 : Int32)).toNatClampNeg < 2 := Nat.lt_of_not_le fun q => hin138 (Or.inr (Nat.le_trans (Nat.le_of_eq Sz138) q))
  have HT2 := own_T.w_priority HT1 HD W138 lt138
  have pre139 : ∀ t, Steps p.tables e below (T138.setTop (mkF m 37 #[.val (.ref ob), .val (.ref ag), .val (.int (2 : Int32))] [])) t → Steps p.tables e below (s₁.setTop (entryFrame m #[(.ref ob), (.ref ag)] 3)) t := fun t k => pre134 t (by
      show Steps p.tables e below (T133.setTop (mkF m 37 #[.val (.ref ob), .val (.ref ag), .val (.int (1 : Int32))] [])) _
      refine XS.iloadN X133.here hx rfl (hb hby d1_37) rfl ?_
      show Steps p.tables e below (T133.setTop (mkF m 38 #[.val (.ref ob), .val (.ref ag), .val (.int (1 : Int32))] [(.int (1 : Int32))])) _
      refine XS.aloadN X133.here hx rfl (hb hby d1_38) rfl rfl ?_
      show Steps p.tables e below (T133.setTop (mkF m 39 #[.val (.ref ob), .val (.ref ag), .val (.int (1 : Int32))] [(.ref ag), (.int (1 : Int32))])) _
      (refine X133.arraylength hx (by rw [e133]; exact Ar135.1) (State.isArrayOf_alike hZ.alike Ar135.2.1) (g := (mkF m 39 #[.val (.ref ob), .val (.ref ag), .val (.int (1 : Int32))] [(.ref ag), (.int (1 : Int32))])) rfl rfl (hb hby d1_39) _ ?_; rw [Sz135])
      show Steps p.tables e below (T133.setTop (mkF m 40 #[.val (.ref ob), .val (.ref ag), .val (.int (1 : Int32))] [(.int (2 : Int32)), (.int (1 : Int32))])) _
      refine XS.icmpNo X133.here hx rfl (hb hby d1_40) rfl (tlt (by decide)).2.1 ?_
      show Steps p.tables e below (T133.setTop (mkF m 43 #[.val (.ref ob), .val (.ref ag), .val (.int (1 : Int32))] [])) _
      refine XS.aloadN X133.here hx rfl (hb hby d1_43) rfl rfl ?_
      show Steps p.tables e below (T133.setTop (mkF m 44 #[.val (.ref ob), .val (.ref ag), .val (.int (1 : Int32))] [(.ref ob)])) _
      refine st136 _ ?_
      show Steps p.tables e below (T136.setTop (mkF m 47 #[.val (.ref ob), .val (.ref ag), .val (.int (1 : Int32))] [(.ref ap)])) _
      refine XS.iloadN X136.here hx rfl (hb hby d1_47) rfl ?_
      show Steps p.tables e below (T136.setTop (mkF m 48 #[.val (.ref ob), .val (.ref ag), .val (.int (1 : Int32))] [(.int (1 : Int32)), (.ref ap)])) _
      refine XS.iloadN X136.here hx rfl (hb hby d1_48) rfl ?_
      show Steps p.tables e below (T136.setTop (mkF m 49 #[.val (.ref ob), .val (.ref ag), .val (.int (1 : Int32))] [(.int (1 : Int32)), (.int (1 : Int32)), (.ref ap)])) _
      refine XS.i2l X136.here hx rfl (hb hby d1_49) rfl ?_
      show Steps p.tables e below (T136.setTop (mkF m 50 #[.val (.ref ob), .val (.ref ag), .val (.int (1 : Int32))] [(.long (1 : Int64)), (.int (1 : Int32)), (.ref ap)])) _
      refine st137.trans ?_
      show Steps p.tables e below (T137.setTop (mkF m 53 #[.val (.ref ob), .val (.ref ag), .val (.int (1 : Int32))] [(.long (own_mix 1)), (.int (1 : Int32)), (.ref ap)])) _
      refine st138 _ ?_
      show Steps p.tables e below (T138.setTop (mkF m 54 #[.val (.ref ob), .val (.ref ag), .val (.int (1 : Int32))] [])) _
      refine XS.iinc X138.here hx rfl (hb hby d1_54) rfl (l' := #[.val (.ref ob), .val (.ref ag), .val (.int ((1 : Int32) + (1 : Int32)))]) rfl ?_
      show Steps p.tables e below (T138.setTop (mkF m 57 #[.val (.ref ob), .val (.ref ag), .val (.int ((1 : Int32) + (1 : Int32)))] [])) _
      refine XS.goto X138.here hx rfl (pc0 := 57) (pc' := 37) rfl (hb hby d1_57) (by decide) (by decide) ?_
      exact k)
  have HTa2 := HT2
  obtain ⟨E_2, F_root_2, F_priority_2, F_left_2, F_right_2, F_splitBefore_2, F_splitAfter_2, F_due_2, F_length_2, F_count_2, F_total_2, A_priority_2, A_left_2, A_right_2, A_due_2, A_length_2, A_count_2, A_total_2⟩ := HTa2
  have Al2 := A_length_2
  obtain ⟨cl140, Ar140, Sz140, -⟩ := Al2
  have pre141 : ∀ t, Steps p.tables e below (T138.setTop (mkF m 60 #[.val (.ref ob), .val (.ref ag), .val (.int (2 : Int32))] [])) t → Steps p.tables e below (s₁.setTop (entryFrame m #[(.ref ob), (.ref ag)] 3)) t := fun t k => pre139 t (by
      show Steps p.tables e below (T138.setTop (mkF m 37 #[.val (.ref ob), .val (.ref ag), .val (.int (2 : Int32))] [])) _
      refine XS.iloadN X138.here hx rfl (hb hby d1_37) rfl ?_
      show Steps p.tables e below (T138.setTop (mkF m 38 #[.val (.ref ob), .val (.ref ag), .val (.int (2 : Int32))] [(.int (2 : Int32))])) _
      refine XS.aloadN X138.here hx rfl (hb hby d1_38) rfl rfl ?_
      show Steps p.tables e below (T138.setTop (mkF m 39 #[.val (.ref ob), .val (.ref ag), .val (.int (2 : Int32))] [(.ref ag), (.int (2 : Int32))])) _
      (refine X138.arraylength hx (by rw [e138]; exact Ar140.1) (State.isArrayOf_alike hZ.alike Ar140.2.1) (g := (mkF m 39 #[.val (.ref ob), .val (.ref ag), .val (.int (2 : Int32))] [(.ref ag), (.int (2 : Int32))])) rfl rfl (hb hby d1_39) _ ?_; rw [Sz140])
      show Steps p.tables e below (T138.setTop (mkF m 40 #[.val (.ref ob), .val (.ref ag), .val (.int (2 : Int32))] [(.int (2 : Int32)), (.int (2 : Int32))])) _
      refine XS.icmpYes X138.here hx rfl (pc0 := 40) (pc' := 60) rfl (hb hby d1_40) rfl (flt (by decide)).2.1 (by decide) (by decide) ?_
      exact k)
  obtain ⟨fs, hr, hrun, hended, hW, hsame⟩ := X138.leave (v := none) (fun _ => rfl)
  refine ⟨_, _, pre141 _ ?_, hrun, hended, _, _, rfl, ?_, ⟨_, rfl⟩, hW, hsame.mono (by decide) (by decide)⟩
  · show Steps p.tables e below (T138.setTop (mkF m 60 #[.val (.ref ob), .val (.ref ag), .val (.int (2 : Int32))] [])) _
    exact X138.returnOut hx Bd.returns (hb hby d1_60) hr
  · show Q1 Z ob ag gf h0 n0 _ T138.heap _
    rw [e138]
    exact ⟨rfl, N138, Z138, _, _, _, _, _, _, HD, HT2⟩
theorem own_pd8 : parseMethodDescriptor "([J)V" = some ⟨[(.array .long)], none⟩ := by decide +kernel
theorem own_pd9 : parseMethodDescriptor "(IJ)V" = some ⟨[.int, .long], none⟩ := by decide +kernel
theorem pn_0 : plainName "com/example/accord_scheduler/accordscheduler/MomentTreeBeforePinLaw" = true := by first | (simp [plainName, overriddenIn]; done) | decide +kernel
theorem ef_0 (m : MethodId) (q0 : Int64) (q1 : Int64) (p2 : Int32) : entryFrame m #[(.long q0), (.long q1), (.int p2)] maxLocals = mkF m 0 #[.val (.long q0), .second, .val (.long q1), .second, .val (.int p2), .unset, .unset, .unset, .unset, .unset, .unset] [] := by first | (simp [entryFrame, mkF, argsToLocals, Value.category, maxLocals]; done) | rfl
def Q0 (Z : State) (aa : Int64) (dr : Int64) (md : Int32)  (h0 : Heap) (n0 : Nat) (v : Option Value) (h : Heap) (L : List Loc) : Prop := v = some (.int 1) ∧ Fr n0 L
set_option maxRecDepth 65536 in
set_option maxHeartbeats 40000000 in
theorem rm0 (l : Launch) (Z : State) (a0 : Array Value) (hw : ∀ d ∈ tables_1, d.before a0 Z = true) (ws : List Jvm.Cond) (aa : Int64) (dr : Int64) (md : Int32)  (h0 : Heap) (n0 : Nat) (Z0 : n0 ≤ h0.size)  :
    MetFree l x (head1 (Jvm.Cond.code x code maxLocals ret :: ws) room_1) (fun a U => a = #[(.long aa), (.long dr), (.int md)] ∧ Z.Warmed39 U.vm ∧ U.heap = h0) (fun _ _ _ _ _ => True) (fun _ U o U' => ∃ v L, o = .returned v ∧ Q0 Z aa dr md h0 n0 v U'.heap L ∧ FrameEnd U o U' L room_1.cells room_1.slots) := by
  refine MetFree.of_bodySF (plainFor_of_name pn_0) hisR ?_
  intro p e s m args below meth c s₁ Bd hml0 hP hK
  obtain ⟨rfl, hZ, hh⟩ := hP
  have hx := Bd.exec
  have hby := Bd.bytes
  have hml : c.maxLocals = 11 := hml0
  have hown : s.vm.findClass "com/example/accord_scheduler/accordscheduler/MomentTreeBeforePinLaw" = some m.cls := findClass_of_methodNamed Bd.named
  have hnm := (name_of_methodNamed Bd.named Bd.method).1
  have X0 : Stand p l e room_1 s m #[(.long aa), (.long dr), (.int md)] below meth c s₁ [] 0 0 := Stand.of_body Bd
  have e0 : s₁.heap = h0 := by rw [← hh, Bd.state]; rfl
  have N0 := Fr.nil n0
  have pre0 : ∀ t, Steps p.tables e below (s₁.setTop (mkF m 0 #[.val (.long aa), .second, .val (.long dr), .second, .val (.int md), .unset, .unset, .unset, .unset, .unset, .unset] [])) t → Steps p.tables e below (s₁.setTop (entryFrame m #[(.long aa), (.long dr), (.int md)] maxLocals)) t := fun t k => castTop (ef_0 m aa dr md) k
  have pre142 : ∀ t, Steps p.tables e below (s₁.setTop (mkF m 6 #[.val (.long aa), .second, .val (.long dr), .second, .val (.int md), .val (.int (md &&& (3 : Int32))), .unset, .unset, .unset, .unset, .unset] [])) t → Steps p.tables e below (s₁.setTop (entryFrame m #[(.long aa), (.long dr), (.int md)] maxLocals)) t := fun t k => pre0 t (by
      show Steps p.tables e below (s₁.setTop (mkF m 0 #[.val (.long aa), .second, .val (.long dr), .second, .val (.int md), .unset, .unset, .unset, .unset, .unset, .unset] [])) _
      refine XS.iload X0.here hx rfl (hb hby at_0) rfl ?_
      show Steps p.tables e below (s₁.setTop (mkF m 2 #[.val (.long aa), .second, .val (.long dr), .second, .val (.int md), .unset, .unset, .unset, .unset, .unset, .unset] [(.int md)])) _
      refine XS.iconst X0.here hx rfl (hb hby at_2) ?_
      show Steps p.tables e below (s₁.setTop (mkF m 3 #[.val (.long aa), .second, .val (.long dr), .second, .val (.int md), .unset, .unset, .unset, .unset, .unset, .unset] [(.int (3 : Int32)), (.int md)])) _
      refine XS.iand X0.here hx rfl (hb hby at_3) rfl ?_
      show Steps p.tables e below (s₁.setTop (mkF m 4 #[.val (.long aa), .second, .val (.long dr), .second, .val (.int md), .unset, .unset, .unset, .unset, .unset, .unset] [(.int (md &&& (3 : Int32)))])) _
      refine XS.istore X0.here hx rfl (hb hby at_4) rfl (l' := #[.val (.long aa), .second, .val (.long dr), .second, .val (.int md), .val (.int (md &&& (3 : Int32))), .unset, .unset, .unset, .unset, .unset]) rfl ?_
      exact k)
  obtain ⟨bb, hbb, pre143⟩ : ∃ bb : Int64, (True) ∧ ∀ t, Steps p.tables e below (s₁.setTop (mkF m 48 #[.val (.long aa), .second, .val (.long dr), .second, .val (.int md), .val (.int (md &&& (3 : Int32))), .val (.long bb), .second, .unset, .unset, .unset] [])) t → Steps p.tables e below (s₁.setTop (entryFrame m #[(.long aa), (.long dr), (.int md)] maxLocals)) t := by
    have pre144 : ∀ t, Steps p.tables e below (s₁.setTop (mkF m 8 #[.val (.long aa), .second, .val (.long dr), .second, .val (.int md), .val (.int (md &&& (3 : Int32))), .unset, .unset, .unset, .unset, .unset] [(.int (md &&& (3 : Int32)))])) t → Steps p.tables e below (s₁.setTop (entryFrame m #[(.long aa), (.long dr), (.int md)] maxLocals)) t := fun t k => pre142 t (by
        show Steps p.tables e below (s₁.setTop (mkF m 6 #[.val (.long aa), .second, .val (.long dr), .second, .val (.int md), .val (.int (md &&& (3 : Int32))), .unset, .unset, .unset, .unset, .unset] [])) _
        refine XS.iload X0.here hx rfl (hb hby at_6) rfl ?_
        exact k)
    by_cases hc8 : (md &&& (3 : Int32)) = (0 : Int32)
    · skip
      have pre145 : ∀ t, Steps p.tables e below (s₁.setTop (mkF m 48 #[.val (.long aa), .second, .val (.long dr), .second, .val (.int md), .val (.int (md &&& (3 : Int32))), .val (.long dr), .second, .unset, .unset, .unset] [])) t → Steps p.tables e below (s₁.setTop (entryFrame m #[(.long aa), (.long dr), (.int md)] maxLocals)) t := fun t k => pre144 t (by
          show Steps p.tables e below (s₁.setTop (mkF m 8 #[.val (.long aa), .second, .val (.long dr), .second, .val (.int md), .val (.int (md &&& (3 : Int32))), .unset, .unset, .unset, .unset, .unset] [(.int (md &&& (3 : Int32)))])) _
          refine XS.ifNo X0.here hx rfl (hb hby at_8) rfl ((if0 _ _).trans (teq hc8).2) ?_
          show Steps p.tables e below (s₁.setTop (mkF m 11 #[.val (.long aa), .second, .val (.long dr), .second, .val (.int md), .val (.int (md &&& (3 : Int32))), .unset, .unset, .unset, .unset, .unset] [])) _
          refine XS.lloadN X0.here hx rfl (hb hby at_11) rfl ?_
          show Steps p.tables e below (s₁.setTop (mkF m 12 #[.val (.long aa), .second, .val (.long dr), .second, .val (.int md), .val (.int (md &&& (3 : Int32))), .unset, .unset, .unset, .unset, .unset] [(.long dr)])) _
          refine XS.lstore X0.here hx rfl (hb hby at_12) rfl (l' := #[.val (.long aa), .second, .val (.long dr), .second, .val (.int md), .val (.int (md &&& (3 : Int32))), .val (.long dr), .second, .unset, .unset, .unset]) rfl ?_
          show Steps p.tables e below (s₁.setTop (mkF m 14 #[.val (.long aa), .second, .val (.long dr), .second, .val (.int md), .val (.int (md &&& (3 : Int32))), .val (.long dr), .second, .unset, .unset, .unset] [])) _
          refine XS.goto X0.here hx rfl (pc0 := 14) (pc' := 48) rfl (hb hby at_14) (by decide) (by decide) ?_
          exact k)
      exact ⟨_, trivial, pre145⟩
    · skip
      have pre146 : ∀ t, Steps p.tables e below (s₁.setTop (mkF m 20 #[.val (.long aa), .second, .val (.long dr), .second, .val (.int md), .val (.int (md &&& (3 : Int32))), .unset, .unset, .unset, .unset, .unset] [(.int (1 : Int32)), (.int (md &&& (3 : Int32)))])) t → Steps p.tables e below (s₁.setTop (entryFrame m #[(.long aa), (.long dr), (.int md)] maxLocals)) t := fun t k => pre144 t (by
          show Steps p.tables e below (s₁.setTop (mkF m 8 #[.val (.long aa), .second, .val (.long dr), .second, .val (.int md), .val (.int (md &&& (3 : Int32))), .unset, .unset, .unset, .unset, .unset] [(.int (md &&& (3 : Int32)))])) _
          refine XS.ifYes X0.here hx rfl (pc0 := 8) (pc' := 17) rfl (hb hby at_8) rfl ((if0 _ _).trans (feq hc8).2) (by decide) (by decide) ?_
          show Steps p.tables e below (s₁.setTop (mkF m 17 #[.val (.long aa), .second, .val (.long dr), .second, .val (.int md), .val (.int (md &&& (3 : Int32))), .unset, .unset, .unset, .unset, .unset] [])) _
          refine XS.iload X0.here hx rfl (hb hby at_17) rfl ?_
          show Steps p.tables e below (s₁.setTop (mkF m 19 #[.val (.long aa), .second, .val (.long dr), .second, .val (.int md), .val (.int (md &&& (3 : Int32))), .unset, .unset, .unset, .unset, .unset] [(.int (md &&& (3 : Int32)))])) _
          refine XS.iconst X0.here hx rfl (hb hby at_19) ?_
          exact k)
      by_cases hc20 : (md &&& (3 : Int32)) = (1 : Int32)
      · skip
        have pre147 : ∀ t, Steps p.tables e below (s₁.setTop (mkF m 48 #[.val (.long aa), .second, .val (.long dr), .second, .val (.int md), .val (.int (md &&& (3 : Int32))), .val (.long aa), .second, .unset, .unset, .unset] [])) t → Steps p.tables e below (s₁.setTop (entryFrame m #[(.long aa), (.long dr), (.int md)] maxLocals)) t := fun t k => pre146 t (by
            show Steps p.tables e below (s₁.setTop (mkF m 20 #[.val (.long aa), .second, .val (.long dr), .second, .val (.int md), .val (.int (md &&& (3 : Int32))), .unset, .unset, .unset, .unset, .unset] [(.int (1 : Int32)), (.int (md &&& (3 : Int32)))])) _
            refine XS.icmpNo X0.here hx rfl (hb hby at_20) rfl (teq hc20).2 ?_
            show Steps p.tables e below (s₁.setTop (mkF m 23 #[.val (.long aa), .second, .val (.long dr), .second, .val (.int md), .val (.int (md &&& (3 : Int32))), .unset, .unset, .unset, .unset, .unset] [])) _
            refine XS.lloadN X0.here hx rfl (hb hby at_23) rfl ?_
            show Steps p.tables e below (s₁.setTop (mkF m 24 #[.val (.long aa), .second, .val (.long dr), .second, .val (.int md), .val (.int (md &&& (3 : Int32))), .unset, .unset, .unset, .unset, .unset] [(.long aa)])) _
            refine XS.lstore X0.here hx rfl (hb hby at_24) rfl (l' := #[.val (.long aa), .second, .val (.long dr), .second, .val (.int md), .val (.int (md &&& (3 : Int32))), .val (.long aa), .second, .unset, .unset, .unset]) rfl ?_
            show Steps p.tables e below (s₁.setTop (mkF m 26 #[.val (.long aa), .second, .val (.long dr), .second, .val (.int md), .val (.int (md &&& (3 : Int32))), .val (.long aa), .second, .unset, .unset, .unset] [])) _
            refine XS.goto X0.here hx rfl (pc0 := 26) (pc' := 48) rfl (hb hby at_26) (by decide) (by decide) ?_
            exact k)
        exact ⟨_, trivial, pre147⟩
      · skip
        have pre148 : ∀ t, Steps p.tables e below (s₁.setTop (mkF m 32 #[.val (.long aa), .second, .val (.long dr), .second, .val (.int md), .val (.int (md &&& (3 : Int32))), .unset, .unset, .unset, .unset, .unset] [(.int (2 : Int32)), (.int (md &&& (3 : Int32)))])) t → Steps p.tables e below (s₁.setTop (entryFrame m #[(.long aa), (.long dr), (.int md)] maxLocals)) t := fun t k => pre146 t (by
            show Steps p.tables e below (s₁.setTop (mkF m 20 #[.val (.long aa), .second, .val (.long dr), .second, .val (.int md), .val (.int (md &&& (3 : Int32))), .unset, .unset, .unset, .unset, .unset] [(.int (1 : Int32)), (.int (md &&& (3 : Int32)))])) _
            refine XS.icmpYes X0.here hx rfl (pc0 := 20) (pc' := 29) rfl (hb hby at_20) rfl (feq hc20).2 (by decide) (by decide) ?_
            show Steps p.tables e below (s₁.setTop (mkF m 29 #[.val (.long aa), .second, .val (.long dr), .second, .val (.int md), .val (.int (md &&& (3 : Int32))), .unset, .unset, .unset, .unset, .unset] [])) _
            refine XS.iload X0.here hx rfl (hb hby at_29) rfl ?_
            show Steps p.tables e below (s₁.setTop (mkF m 31 #[.val (.long aa), .second, .val (.long dr), .second, .val (.int md), .val (.int (md &&& (3 : Int32))), .unset, .unset, .unset, .unset, .unset] [(.int (md &&& (3 : Int32)))])) _
            refine XS.iconst X0.here hx rfl (hb hby at_31) ?_
            exact k)
        by_cases hc32 : (md &&& (3 : Int32)) = (2 : Int32)
        · skip
          have pre149 : ∀ t, Steps p.tables e below (s₁.setTop (mkF m 48 #[.val (.long aa), .second, .val (.long dr), .second, .val (.int md), .val (.int (md &&& (3 : Int32))), .val (.long (aa + (1 : Int64))), .second, .unset, .unset, .unset] [])) t → Steps p.tables e below (s₁.setTop (entryFrame m #[(.long aa), (.long dr), (.int md)] maxLocals)) t := fun t k => pre148 t (by
              show Steps p.tables e below (s₁.setTop (mkF m 32 #[.val (.long aa), .second, .val (.long dr), .second, .val (.int md), .val (.int (md &&& (3 : Int32))), .unset, .unset, .unset, .unset, .unset] [(.int (2 : Int32)), (.int (md &&& (3 : Int32)))])) _
              refine XS.icmpNo X0.here hx rfl (hb hby at_32) rfl (teq hc32).2 ?_
              show Steps p.tables e below (s₁.setTop (mkF m 35 #[.val (.long aa), .second, .val (.long dr), .second, .val (.int md), .val (.int (md &&& (3 : Int32))), .unset, .unset, .unset, .unset, .unset] [])) _
              refine XS.lloadN X0.here hx rfl (hb hby at_35) rfl ?_
              show Steps p.tables e below (s₁.setTop (mkF m 36 #[.val (.long aa), .second, .val (.long dr), .second, .val (.int md), .val (.int (md &&& (3 : Int32))), .unset, .unset, .unset, .unset, .unset] [(.long aa)])) _
              refine XS.lconst X0.here hx rfl (hb hby at_36) ?_
              show Steps p.tables e below (s₁.setTop (mkF m 37 #[.val (.long aa), .second, .val (.long dr), .second, .val (.int md), .val (.int (md &&& (3 : Int32))), .unset, .unset, .unset, .unset, .unset] [(.long (1 : Int64)), (.long aa)])) _
              refine XS.ladd X0.here hx rfl (hb hby at_37) rfl ?_
              show Steps p.tables e below (s₁.setTop (mkF m 38 #[.val (.long aa), .second, .val (.long dr), .second, .val (.int md), .val (.int (md &&& (3 : Int32))), .unset, .unset, .unset, .unset, .unset] [(.long (aa + (1 : Int64)))])) _
              refine XS.lstore X0.here hx rfl (hb hby at_38) rfl (l' := #[.val (.long aa), .second, .val (.long dr), .second, .val (.int md), .val (.int (md &&& (3 : Int32))), .val (.long (aa + (1 : Int64))), .second, .unset, .unset, .unset]) rfl ?_
              show Steps p.tables e below (s₁.setTop (mkF m 40 #[.val (.long aa), .second, .val (.long dr), .second, .val (.int md), .val (.int (md &&& (3 : Int32))), .val (.long (aa + (1 : Int64))), .second, .unset, .unset, .unset] [])) _
              refine XS.goto X0.here hx rfl (pc0 := 40) (pc' := 48) rfl (hb hby at_40) (by decide) (by decide) ?_
              exact k)
          exact ⟨_, trivial, pre149⟩
        · skip
          have pre150 : ∀ t, Steps p.tables e below (s₁.setTop (mkF m 48 #[.val (.long aa), .second, .val (.long dr), .second, .val (.int md), .val (.int (md &&& (3 : Int32))), .val (.long (aa - (1 : Int64))), .second, .unset, .unset, .unset] [])) t → Steps p.tables e below (s₁.setTop (entryFrame m #[(.long aa), (.long dr), (.int md)] maxLocals)) t := fun t k => pre148 t (by
              show Steps p.tables e below (s₁.setTop (mkF m 32 #[.val (.long aa), .second, .val (.long dr), .second, .val (.int md), .val (.int (md &&& (3 : Int32))), .unset, .unset, .unset, .unset, .unset] [(.int (2 : Int32)), (.int (md &&& (3 : Int32)))])) _
              refine XS.icmpYes X0.here hx rfl (pc0 := 32) (pc' := 43) rfl (hb hby at_32) rfl (feq hc32).2 (by decide) (by decide) ?_
              show Steps p.tables e below (s₁.setTop (mkF m 43 #[.val (.long aa), .second, .val (.long dr), .second, .val (.int md), .val (.int (md &&& (3 : Int32))), .unset, .unset, .unset, .unset, .unset] [])) _
              refine XS.lloadN X0.here hx rfl (hb hby at_43) rfl ?_
              show Steps p.tables e below (s₁.setTop (mkF m 44 #[.val (.long aa), .second, .val (.long dr), .second, .val (.int md), .val (.int (md &&& (3 : Int32))), .unset, .unset, .unset, .unset, .unset] [(.long aa)])) _
              refine XS.lconst X0.here hx rfl (hb hby at_44) ?_
              show Steps p.tables e below (s₁.setTop (mkF m 45 #[.val (.long aa), .second, .val (.long dr), .second, .val (.int md), .val (.int (md &&& (3 : Int32))), .unset, .unset, .unset, .unset, .unset] [(.long (1 : Int64)), (.long aa)])) _
              refine XS.lsub X0.here hx rfl (hb hby at_45) rfl ?_
              show Steps p.tables e below (s₁.setTop (mkF m 46 #[.val (.long aa), .second, .val (.long dr), .second, .val (.int md), .val (.int (md &&& (3 : Int32))), .unset, .unset, .unset, .unset, .unset] [(.long (aa - (1 : Int64)))])) _
              refine XS.lstore X0.here hx rfl (hb hby at_46) rfl (l' := #[.val (.long aa), .second, .val (.long dr), .second, .val (.int md), .val (.int (md &&& (3 : Int32))), .val (.long (aa - (1 : Int64))), .second, .unset, .unset, .unset]) rfl ?_
              exact k)
          exact ⟨_, trivial, pre150⟩
  obtain ⟨T151, h151, X151, e151, E151, A151, D151, -, st151⟩ := newO X0 hx hZ hown (hw _ (List.mem_of_getElem? (i := 0) rfl)) (hw _ (List.mem_of_getElem? (i := 1) rfl)) (hw _ (List.mem_of_getElem? (i := 2) rfl)) e0 (g := (mkF m 48 #[.val (.long aa), .second, .val (.long dr), .second, .val (.int md), .val (.int (md &&& (3 : Int32))), .val (.long bb), .second, .unset, .unset, .unset] [])) rfl (hb hby at_48) (by decide) (by decide)
  obtain ⟨b151, g151⟩ : ∃ z, z = h0.size := ⟨_, rfl⟩
  rw [← g151] at A151 D151 st151
  have gb151 : n0 ≤ b151 := Nat.le_trans Z0 (Nat.le_of_eq g151.symm)
  have Z151 : n0 ≤ h151.size := Nat.le_trans Z0 E151.1
  have F_vacant : Fld Z h151 b151 "com/example/accord_scheduler/accordscheduler/Treap" "vacant" "I" (.int 0) := D151 (Or.inl (hw _ (List.mem_of_getElem? (i := 18) rfl))) (ty := .int) (by decide)
  have F_root : Fld Z h151 b151 "com/example/accord_scheduler/accordscheduler/Treap" "root" "I" (.int 0) := D151 (Or.inl (hw _ (List.mem_of_getElem? (i := 16) rfl))) (ty := .int) (by decide)
  have F_priority : Fld Z h151 b151 "com/example/accord_scheduler/accordscheduler/Treap" "priority" "[J" .null := D151 (Or.inl (hw _ (List.mem_of_getElem? (i := 20) rfl))) (ty := (.array .long)) (by decide)
  have F_left : Fld Z h151 b151 "com/example/accord_scheduler/accordscheduler/Treap" "left" "[I" .null := D151 (Or.inl (hw _ (List.mem_of_getElem? (i := 23) rfl))) (ty := (.array .int)) (by decide)
  have F_right : Fld Z h151 b151 "com/example/accord_scheduler/accordscheduler/Treap" "right" "[I" .null := D151 (Or.inl (hw _ (List.mem_of_getElem? (i := 25) rfl))) (ty := (.array .int)) (by decide)
  have F_splitBefore : Fld Z h151 b151 "com/example/accord_scheduler/accordscheduler/Treap" "splitBefore" "I" (.int 0) := D151 (Or.inl (hw _ (List.mem_of_getElem? (i := 66) rfl))) (ty := .int) (by decide)
  have F_splitAfter : Fld Z h151 b151 "com/example/accord_scheduler/accordscheduler/Treap" "splitAfter" "I" (.int 0) := D151 (Or.inl (hw _ (List.mem_of_getElem? (i := 68) rfl))) (ty := .int) (by decide)
  have F_due : Fld Z h151 b151 "com/example/accord_scheduler/accordscheduler/MomentTree" "due" "[J" .null := D151 (Or.inr (hw _ (List.mem_of_getElem? (i := 27) rfl))) (ty := (.array .long)) (by decide)
  have F_length : Fld Z h151 b151 "com/example/accord_scheduler/accordscheduler/MomentTree" "length" "[J" .null := D151 (Or.inr (hw _ (List.mem_of_getElem? (i := 29) rfl))) (ty := (.array .long)) (by decide)
  have F_count : Fld Z h151 b151 "com/example/accord_scheduler/accordscheduler/MomentTree" "count" "[I" .null := D151 (Or.inr (hw _ (List.mem_of_getElem? (i := 31) rfl))) (ty := (.array .int)) (by decide)
  have F_total : Fld Z h151 b151 "com/example/accord_scheduler/accordscheduler/MomentTree" "total" "[J" .null := D151 (Or.inr (hw _ (List.mem_of_getElem? (i := 33) rfl))) (ty := (.array .long)) (by decide)
  obtain ⟨T152, h152, k152, X152, e152, E152, A152, st152⟩ := newP X151 hx hZ (hw _ (List.mem_of_getElem? (i := 3) rfl)) e151 (g := (mkF m 53 #[.val (.long aa), .second, .val (.long dr), .second, .val (.int md), .val (.int (md &&& (3 : Int32))), .val (.long bb), .second, .unset, .unset, .unset] [(.int (2 : Int32)), (.ref b151), (.ref b151)])) rfl (hb hby at_53) rfl (by decide) (cap := 2) (by decide) (by decide) (by decide) (by decide)
  obtain ⟨b152, g152⟩ : ∃ z, z = h151.size := ⟨_, rfl⟩
  rw [← g152] at A152 st152
  have gb152 : n0 ≤ b152 := Nat.le_trans Z151 (Nat.le_of_eq g152.symm)
  have Z152 : n0 ≤ h152.size := Nat.le_trans Z151 E152.1
  have lt_ag : @LT.lt Nat _ b151 b152 := Nat.lt_of_lt_of_le A151.lt (Nat.le_of_eq g152.symm)
  have A_ag := own_J.made A152
  obtain ⟨_, _, ⟨T153, L153, k153, n153⟩, -, X153, ⟨Lc153, hQ153, l153, y153, z153⟩, st153⟩ := X152.specialBack hx (y := (⟨"com/example/accord_scheduler/accordscheduler/MomentTree", "<init>", "([J)V"⟩ : MethodName)) rfl hown (mvT hZ (hw _ (List.mem_of_getElem? (i := 4) rfl))) (mvT hZ (hw _ (List.mem_of_getElem? (i := 5) rfl))) (mvT hZ (hw _ (List.mem_of_getElem? (i := 6) rfl))) (by decide) (backOf (W := 1) (rm1 l Z a0 hw [] b151 b152 (fun _ => 0) h152 n0 Z152 gb151 lt_ag A_ag (A151.ext E152) (F_vacant.ext E152) (F_root.ext E152) (F_priority.ext E152) (F_left.ext E152) (F_right.ext E152) (F_splitBefore.ext E152) (F_splitAfter.ext E152) (F_due.ext E152) (F_length.ext E152) (F_count.ext E152) (F_total.ext E152)) hZ (hw _ (List.mem_of_getElem? (i := 6) rfl)) (hw _ (List.mem_of_getElem? (i := 2) rfl)) (by decide) (by decide)) (g := (mkF m 55 #[.val (.long aa), .second, .val (.long dr), .second, .val (.int md), .val (.int (md &&& (3 : Int32))), .val (.long bb), .second, .unset, .unset, .unset] [(.ref b152), (.ref b151), (.ref b151)])) rfl (by rw [hml]; rfl) (Steps.refl _) (a := b151) (argsL := [(.ref b152)]) (rest := [(.ref b151)]) (lenOf own_pd8 rfl) rfl (by show 2 * 0 + _ ≤ _; exact Nat.le_of_eq rfl) (hb hby at_55) (fun _ _ => ⟨rfl, e152, (by decide : 2 + 6 ≤ _), (by decide : 14 + 12 ≤ _)⟩)
  dsimp only [Pt.U, Pt.locs, Pt.cells, Pt.slots] at X153 l153 y153 z153 st153 hQ153
  subst l153 y153 z153
  obtain ⟨h153, e153'⟩ : ∃ z, z = T153.heap := ⟨_, rfl⟩
  rw [← e153'] at hQ153
  have e153 := e153'.symm
  obtain ⟨rfl, N153q, Z153, ap, al, ar, ad, ac, at0, HD, HT⟩ := hQ153
  have N153 := Fr.app N0 N153q
  have HT0 := HT
  obtain ⟨E0, F_root0, F_priority0, F_left0, F_right0, F_splitBefore0, F_splitAfter0, F_due0, F_length0, F_count0, F_total0, A_priority0, A_left0, A_right0, A_due0, A_length0, A_count0, A_total0⟩ := HT0
  obtain ⟨cq154, kq154, q154a, q154b, q154c⟩ := isOf hZ e153 E0
  obtain ⟨_, _, ⟨T154, L154, k154, n154⟩, -, X154, ⟨Lc154, hQ154, l154, y154, z154⟩, st154⟩ := X153.virtualBack hx (y := (⟨"com/example/accord_scheduler/accordscheduler/MomentTree", "put", "(IJ)V"⟩ : MethodName)) (z := (⟨"com/example/accord_scheduler/accordscheduler/MomentTree", "put", "(IJ)V"⟩ : MethodName)) hown (mvT hZ (hw _ (List.mem_of_getElem? (i := 43) rfl))) (mvT hZ (hw _ (List.mem_of_getElem? (i := 44) rfl))) (notFace_of_selects (args := #[]) (mvT hZ (hw _ (List.mem_of_getElem? (i := 46) rfl)))) (mvT hZ (hw _ (List.mem_of_getElem? (i := 46) rfl))) (mvT hZ (hw _ (List.mem_of_getElem? (i := 45) rfl))) (by decide) (backOf (W := 0) (rm5a l Z a0 hw [] b151 aa b152 ap al ar ad ac at0 0 0 (own_upd (own_upd (fun _ => 0) 0 (own_mix 0)) 1 (own_mix 1)) (fun _ => 0) (fun _ => 0) (fun _ => 0) (fun _ => 0) (fun _ => 0) (fun _ => 0) h153 n0 Z153 HT HD rfl) hZ (hw _ (List.mem_of_getElem? (i := 47) rfl)) (hw _ (List.mem_of_getElem? (i := 2) rfl)) (by decide) (by decide)) q154a q154c (g := (mkF m 64 #[.val (.long aa), .second, .val (.long dr), .second, .val (.int md), .val (.int (md &&& (3 : Int32))), .val (.long bb), .second, .val (.ref b151), .unset, .unset] [(.long aa), (.int (0 : Int32)), (.ref b151)])) rfl (by rw [hml]; rfl) (Steps.refl _) (argsL := [(.int (0 : Int32)), (.long aa)]) (rest := []) (lenOf own_pd9 rfl) rfl (by show 2 * 0 + _ ≤ _; exact Nat.le_of_eq rfl) (hb hby at_64) (fun _ _ => ⟨rfl, e153, (by decide : 8 + 0 ≤ _), (by decide : 26 + 0 ≤ _)⟩)
  dsimp only [Pt.U, Pt.locs, Pt.cells, Pt.slots] at X154 l154 y154 z154 st154 hQ154
  subst l154 y154 z154
  obtain ⟨h154, e154'⟩ : ∃ z, z = T154.heap := ⟨_, rfl⟩
  rw [← e154'] at hQ154
  have e154 := e154'.symm
  obtain ⟨rfl, N154q, Z154, cv, tv, HTp⟩ := hQ154
  have N154 := Fr.app N153 N154q
  have HTp0 := HTp
  obtain ⟨E1, F_root1, F_priority1, F_left1, F_right1, F_splitBefore1, F_splitAfter1, F_due1, F_length1, F_count1, F_total1, A_priority1, A_left1, A_right1, A_due1, A_length1, A_count1, A_total1⟩ := HTp0
  obtain ⟨cq155, kq155, q155a, q155b, q155c⟩ := isOf hZ e154 E1
  obtain ⟨_, _, ⟨T155, L155, k155, n155⟩, -, X155, ⟨Lc155, hQ155, l155, y155, z155⟩, st155⟩ := X154.virtualBack hx (y := (⟨"com/example/accord_scheduler/accordscheduler/MomentTree", "put", "(IJ)V"⟩ : MethodName)) (z := (⟨"com/example/accord_scheduler/accordscheduler/MomentTree", "put", "(IJ)V"⟩ : MethodName)) hown (mvT hZ (hw _ (List.mem_of_getElem? (i := 43) rfl))) (mvT hZ (hw _ (List.mem_of_getElem? (i := 44) rfl))) (notFace_of_selects (args := #[]) (mvT hZ (hw _ (List.mem_of_getElem? (i := 46) rfl)))) (mvT hZ (hw _ (List.mem_of_getElem? (i := 46) rfl))) (mvT hZ (hw _ (List.mem_of_getElem? (i := 45) rfl))) (by decide) (backOf (W := 0) (rm5b l Z a0 hw [] b151 bb b152 ap al ar ad ac at0 (-1) (-1) (own_upd (own_upd (fun _ => 0) 0 (own_mix 0)) 1 (own_mix 1)) (own_upd (fun _ => 0) 0 (-1)) (own_upd (fun _ => 0) 0 (-1)) (own_upd (fun _ => 0) 0 cv) (own_upd (fun _ => 0) 0 aa) (fun _ => 0) (own_upd (fun _ => 0) 0 tv) h154 n0 Z154 HTp HD rfl rfl rfl own_mix_lt) hZ (hw _ (List.mem_of_getElem? (i := 47) rfl)) (hw _ (List.mem_of_getElem? (i := 2) rfl)) (by decide) (by decide)) q155a q155c (g := (mkF m 72 #[.val (.long aa), .second, .val (.long dr), .second, .val (.int md), .val (.int (md &&& (3 : Int32))), .val (.long bb), .second, .val (.ref b151), .unset, .unset] [(.long bb), (.int (1 : Int32)), (.ref b151)])) rfl (by rw [hml]; rfl) (Steps.refl _) (argsL := [(.int (1 : Int32)), (.long bb)]) (rest := []) (lenOf own_pd9 rfl) rfl (by show 2 * 0 + _ ≤ _; exact Nat.le_of_eq rfl) (hb hby at_72) (fun _ _ => ⟨rfl, e154, (by decide : 8 + 0 ≤ _), (by decide : 26 + 0 ≤ _)⟩)
  dsimp only [Pt.U, Pt.locs, Pt.cells, Pt.slots] at X155 l155 y155 z155 st155 hQ155
  subst l155 y155 z155
  obtain ⟨h155, e155'⟩ : ∃ z, z = T155.heap := ⟨_, rfl⟩
  rw [← e155'] at hQ155
  have e155 := e155'.symm
  obtain ⟨rfl, N155q, Z155, sb', sa', lf', rf', cf', tf', HTq⟩ := hQ155
  have N155 := Fr.app N154 N155q
  obtain ⟨E2, F_root2, F_priority2, F_left2, F_right2, F_splitBefore2, F_splitAfter2, F_due2, F_length2, F_count2, F_total2, A_priority2, A_left2, A_right2, A_due2, A_length2, A_count2, A_total2⟩ := HTq
  have pre156 : ∀ t, Steps p.tables e below (T155.setTop (mkF m 75 #[.val (.long aa), .second, .val (.long dr), .second, .val (.int md), .val (.int (md &&& (3 : Int32))), .val (.long bb), .second, .val (.ref b151), .unset, .unset] [])) t → Steps p.tables e below (s₁.setTop (entryFrame m #[(.long aa), (.long dr), (.int md)] maxLocals)) t := fun t k => pre143 t (by
      show Steps p.tables e below (s₁.setTop (mkF m 48 #[.val (.long aa), .second, .val (.long dr), .second, .val (.int md), .val (.int (md &&& (3 : Int32))), .val (.long bb), .second, .unset, .unset, .unset] [])) _
      refine st151 _ ?_
      show Steps p.tables e below (T151.setTop (mkF m 51 #[.val (.long aa), .second, .val (.long dr), .second, .val (.int md), .val (.int (md &&& (3 : Int32))), .val (.long bb), .second, .unset, .unset, .unset] [(.ref b151)])) _
      refine XS.dup X151.here hx rfl (hb hby at_51) rfl rfl ?_
      show Steps p.tables e below (T151.setTop (mkF m 52 #[.val (.long aa), .second, .val (.long dr), .second, .val (.int md), .val (.int (md &&& (3 : Int32))), .val (.long bb), .second, .unset, .unset, .unset] [(.ref b151), (.ref b151)])) _
      refine XS.iconst X151.here hx rfl (hb hby at_52) ?_
      show Steps p.tables e below (T151.setTop (mkF m 53 #[.val (.long aa), .second, .val (.long dr), .second, .val (.int md), .val (.int (md &&& (3 : Int32))), .val (.long bb), .second, .unset, .unset, .unset] [(.int (2 : Int32)), (.ref b151), (.ref b151)])) _
      refine st152 _ ?_
      show Steps p.tables e below (T152.setTop (mkF m 55 #[.val (.long aa), .second, .val (.long dr), .second, .val (.int md), .val (.int (md &&& (3 : Int32))), .val (.long bb), .second, .unset, .unset, .unset] [(.ref b152), (.ref b151), (.ref b151)])) _
      refine st153.trans ?_
      show Steps p.tables e below (T153.setTop (mkF m 58 #[.val (.long aa), .second, .val (.long dr), .second, .val (.int md), .val (.int (md &&& (3 : Int32))), .val (.long bb), .second, .unset, .unset, .unset] [(.ref b151)])) _
      refine XS.astore X153.here hx rfl (hb hby at_58) rfl rfl (l' := #[.val (.long aa), .second, .val (.long dr), .second, .val (.int md), .val (.int (md &&& (3 : Int32))), .val (.long bb), .second, .val (.ref b151), .unset, .unset]) rfl ?_
      show Steps p.tables e below (T153.setTop (mkF m 60 #[.val (.long aa), .second, .val (.long dr), .second, .val (.int md), .val (.int (md &&& (3 : Int32))), .val (.long bb), .second, .val (.ref b151), .unset, .unset] [])) _
      refine XS.aload X153.here hx rfl (hb hby at_60) rfl rfl ?_
      show Steps p.tables e below (T153.setTop (mkF m 62 #[.val (.long aa), .second, .val (.long dr), .second, .val (.int md), .val (.int (md &&& (3 : Int32))), .val (.long bb), .second, .val (.ref b151), .unset, .unset] [(.ref b151)])) _
      refine XS.iconst X153.here hx rfl (hb hby at_62) ?_
      show Steps p.tables e below (T153.setTop (mkF m 63 #[.val (.long aa), .second, .val (.long dr), .second, .val (.int md), .val (.int (md &&& (3 : Int32))), .val (.long bb), .second, .val (.ref b151), .unset, .unset] [(.int (0 : Int32)), (.ref b151)])) _
      refine XS.lloadN X153.here hx rfl (hb hby at_63) rfl ?_
      show Steps p.tables e below (T153.setTop (mkF m 64 #[.val (.long aa), .second, .val (.long dr), .second, .val (.int md), .val (.int (md &&& (3 : Int32))), .val (.long bb), .second, .val (.ref b151), .unset, .unset] [(.long aa), (.int (0 : Int32)), (.ref b151)])) _
      refine st154.trans ?_
      show Steps p.tables e below (T154.setTop (mkF m 67 #[.val (.long aa), .second, .val (.long dr), .second, .val (.int md), .val (.int (md &&& (3 : Int32))), .val (.long bb), .second, .val (.ref b151), .unset, .unset] [])) _
      refine XS.aload X154.here hx rfl (hb hby at_67) rfl rfl ?_
      show Steps p.tables e below (T154.setTop (mkF m 69 #[.val (.long aa), .second, .val (.long dr), .second, .val (.int md), .val (.int (md &&& (3 : Int32))), .val (.long bb), .second, .val (.ref b151), .unset, .unset] [(.ref b151)])) _
      refine XS.iconst X154.here hx rfl (hb hby at_69) ?_
      show Steps p.tables e below (T154.setTop (mkF m 70 #[.val (.long aa), .second, .val (.long dr), .second, .val (.int md), .val (.int (md &&& (3 : Int32))), .val (.long bb), .second, .val (.ref b151), .unset, .unset] [(.int (1 : Int32)), (.ref b151)])) _
      refine XS.lload X154.here hx rfl (hb hby at_70) rfl ?_
      show Steps p.tables e below (T154.setTop (mkF m 72 #[.val (.long aa), .second, .val (.long dr), .second, .val (.int md), .val (.int (md &&& (3 : Int32))), .val (.long bb), .second, .val (.ref b151), .unset, .unset] [(.long bb), (.int (1 : Int32)), (.ref b151)])) _
      refine st155.trans ?_
      exact k)
  obtain ⟨vz, hvz, pre157⟩ : ∃ vz : Int32, (own_says (¬ bb < aa) vz) ∧ ∀ t, Steps p.tables e below (T155.setTop (mkF m 87 #[.val (.long aa), .second, .val (.long dr), .second, .val (.int md), .val (.int (md &&& (3 : Int32))), .val (.long bb), .second, .val (.ref b151), .unset, .unset] [(.int vz)])) t → Steps p.tables e below (s₁.setTop (entryFrame m #[(.long aa), (.long dr), (.int md)] maxLocals)) t := by
    have pre158 : ∀ t, Steps p.tables e below (T155.setTop (mkF m 79 #[.val (.long aa), .second, .val (.long dr), .second, .val (.int md), .val (.int (md &&& (3 : Int32))), .val (.long bb), .second, .val (.ref b151), .unset, .unset] [(.int (lcmpW bb aa))])) t → Steps p.tables e below (s₁.setTop (entryFrame m #[(.long aa), (.long dr), (.int md)] maxLocals)) t := fun t k => pre156 t (by
        show Steps p.tables e below (T155.setTop (mkF m 75 #[.val (.long aa), .second, .val (.long dr), .second, .val (.int md), .val (.int (md &&& (3 : Int32))), .val (.long bb), .second, .val (.ref b151), .unset, .unset] [])) _
        refine XS.lload X155.here hx rfl (hb hby at_75) rfl ?_
        show Steps p.tables e below (T155.setTop (mkF m 77 #[.val (.long aa), .second, .val (.long dr), .second, .val (.int md), .val (.int (md &&& (3 : Int32))), .val (.long bb), .second, .val (.ref b151), .unset, .unset] [(.long bb)])) _
        refine XS.lloadN X155.here hx rfl (hb hby at_77) rfl ?_
        show Steps p.tables e below (T155.setTop (mkF m 78 #[.val (.long aa), .second, .val (.long dr), .second, .val (.int md), .val (.int (md &&& (3 : Int32))), .val (.long bb), .second, .val (.ref b151), .unset, .unset] [(.long aa), (.long bb)])) _
        refine XS.lcmp X155.here hx rfl (hb hby at_78) rfl ?_
        exact k)
    by_cases hc79 : bb < aa
    · skip
      have pre159 : ∀ t, Steps p.tables e below (T155.setTop (mkF m 87 #[.val (.long aa), .second, .val (.long dr), .second, .val (.int md), .val (.int (md &&& (3 : Int32))), .val (.long bb), .second, .val (.ref b151), .unset, .unset] [(.int (0 : Int32))])) t → Steps p.tables e below (s₁.setTop (entryFrame m #[(.long aa), (.long dr), (.int md)] maxLocals)) t := fun t k => pre158 t (by
          show Steps p.tables e below (T155.setTop (mkF m 79 #[.val (.long aa), .second, .val (.long dr), .second, .val (.int md), .val (.int (md &&& (3 : Int32))), .val (.long bb), .second, .val (.ref b151), .unset, .unset] [(.int (lcmpW bb aa))])) _
          refine XS.ifYes X155.here hx rfl (pc0 := 79) (pc' := 86) rfl (hb hby at_79) rfl ((if0 _ _).trans (tlt ((lw_lt _ _).mpr hc79)).1) (by decide) (by decide) ?_
          show Steps p.tables e below (T155.setTop (mkF m 86 #[.val (.long aa), .second, .val (.long dr), .second, .val (.int md), .val (.int (md &&& (3 : Int32))), .val (.long bb), .second, .val (.ref b151), .unset, .unset] [])) _
          refine XS.iconst X155.here hx rfl (hb hby at_86) ?_
          exact k)
      exact ⟨_, (by simp [own_says, hc79]), pre159⟩
    · skip
      have pre160 : ∀ t, Steps p.tables e below (T155.setTop (mkF m 87 #[.val (.long aa), .second, .val (.long dr), .second, .val (.int md), .val (.int (md &&& (3 : Int32))), .val (.long bb), .second, .val (.ref b151), .unset, .unset] [(.int (1 : Int32))])) t → Steps p.tables e below (s₁.setTop (entryFrame m #[(.long aa), (.long dr), (.int md)] maxLocals)) t := fun t k => pre158 t (by
          show Steps p.tables e below (T155.setTop (mkF m 79 #[.val (.long aa), .second, .val (.long dr), .second, .val (.int md), .val (.int (md &&& (3 : Int32))), .val (.long bb), .second, .val (.ref b151), .unset, .unset] [(.int (lcmpW bb aa))])) _
          refine XS.ifNo X155.here hx rfl (hb hby at_79) rfl ((if0 _ _).trans (flt (fun q => hc79 ((lw_lt _ _).mp q))).1) ?_
          show Steps p.tables e below (T155.setTop (mkF m 82 #[.val (.long aa), .second, .val (.long dr), .second, .val (.int md), .val (.int (md &&& (3 : Int32))), .val (.long bb), .second, .val (.ref b151), .unset, .unset] [])) _
          refine XS.iconst X155.here hx rfl (hb hby at_82) ?_
          show Steps p.tables e below (T155.setTop (mkF m 83 #[.val (.long aa), .second, .val (.long dr), .second, .val (.int md), .val (.int (md &&& (3 : Int32))), .val (.long bb), .second, .val (.ref b151), .unset, .unset] [(.int (1 : Int32))])) _
          refine XS.goto X155.here hx rfl (pc0 := 83) (pc' := 87) rfl (hb hby at_83) (by decide) (by decide) ?_
          exact k)
      exact ⟨_, (by simp [own_says, hc79]), pre160⟩
  have pre161 : ∀ t, Steps p.tables e below (T155.setTop (mkF m 89 #[.val (.long aa), .second, .val (.long dr), .second, .val (.int md), .val (.int (md &&& (3 : Int32))), .val (.long bb), .second, .val (.ref b151), .val (.int vz), .unset] [])) t → Steps p.tables e below (s₁.setTop (entryFrame m #[(.long aa), (.long dr), (.int md)] maxLocals)) t := fun t k => pre157 t (by
      show Steps p.tables e below (T155.setTop (mkF m 87 #[.val (.long aa), .second, .val (.long dr), .second, .val (.int md), .val (.int (md &&& (3 : Int32))), .val (.long bb), .second, .val (.ref b151), .unset, .unset] [(.int vz)])) _
      refine XS.istore X155.here hx rfl (hb hby at_87) rfl (l' := #[.val (.long aa), .second, .val (.long dr), .second, .val (.int md), .val (.int (md &&& (3 : Int32))), .val (.long bb), .second, .val (.ref b151), .val (.int vz), .unset]) rfl ?_
      exact k)
  obtain ⟨vo, hvo, pre162⟩ : ∃ vo : Int32, (own_says (bb < aa) vo) ∧ ∀ t, Steps p.tables e below (T155.setTop (mkF m 101 #[.val (.long aa), .second, .val (.long dr), .second, .val (.int md), .val (.int (md &&& (3 : Int32))), .val (.long bb), .second, .val (.ref b151), .val (.int vz), .unset] [(.int vo)])) t → Steps p.tables e below (s₁.setTop (entryFrame m #[(.long aa), (.long dr), (.int md)] maxLocals)) t := by
    have pre163 : ∀ t, Steps p.tables e below (T155.setTop (mkF m 93 #[.val (.long aa), .second, .val (.long dr), .second, .val (.int md), .val (.int (md &&& (3 : Int32))), .val (.long bb), .second, .val (.ref b151), .val (.int vz), .unset] [(.int (lcmpW bb aa))])) t → Steps p.tables e below (s₁.setTop (entryFrame m #[(.long aa), (.long dr), (.int md)] maxLocals)) t := fun t k => pre161 t (by
        show Steps p.tables e below (T155.setTop (mkF m 89 #[.val (.long aa), .second, .val (.long dr), .second, .val (.int md), .val (.int (md &&& (3 : Int32))), .val (.long bb), .second, .val (.ref b151), .val (.int vz), .unset] [])) _
        refine XS.lload X155.here hx rfl (hb hby at_89) rfl ?_
        show Steps p.tables e below (T155.setTop (mkF m 91 #[.val (.long aa), .second, .val (.long dr), .second, .val (.int md), .val (.int (md &&& (3 : Int32))), .val (.long bb), .second, .val (.ref b151), .val (.int vz), .unset] [(.long bb)])) _
        refine XS.lloadN X155.here hx rfl (hb hby at_91) rfl ?_
        show Steps p.tables e below (T155.setTop (mkF m 92 #[.val (.long aa), .second, .val (.long dr), .second, .val (.int md), .val (.int (md &&& (3 : Int32))), .val (.long bb), .second, .val (.ref b151), .val (.int vz), .unset] [(.long aa), (.long bb)])) _
        refine XS.lcmp X155.here hx rfl (hb hby at_92) rfl ?_
        exact k)
    by_cases hc93 : bb < aa
    · skip
      have pre164 : ∀ t, Steps p.tables e below (T155.setTop (mkF m 101 #[.val (.long aa), .second, .val (.long dr), .second, .val (.int md), .val (.int (md &&& (3 : Int32))), .val (.long bb), .second, .val (.ref b151), .val (.int vz), .unset] [(.int (1 : Int32))])) t → Steps p.tables e below (s₁.setTop (entryFrame m #[(.long aa), (.long dr), (.int md)] maxLocals)) t := fun t k => pre163 t (by
          show Steps p.tables e below (T155.setTop (mkF m 93 #[.val (.long aa), .second, .val (.long dr), .second, .val (.int md), .val (.int (md &&& (3 : Int32))), .val (.long bb), .second, .val (.ref b151), .val (.int vz), .unset] [(.int (lcmpW bb aa))])) _
          refine XS.ifNo X155.here hx rfl (hb hby at_93) rfl ((if0 _ _).trans (tlt ((lw_lt _ _).mpr hc93)).2.1) ?_
          show Steps p.tables e below (T155.setTop (mkF m 96 #[.val (.long aa), .second, .val (.long dr), .second, .val (.int md), .val (.int (md &&& (3 : Int32))), .val (.long bb), .second, .val (.ref b151), .val (.int vz), .unset] [])) _
          refine XS.iconst X155.here hx rfl (hb hby at_96) ?_
          show Steps p.tables e below (T155.setTop (mkF m 97 #[.val (.long aa), .second, .val (.long dr), .second, .val (.int md), .val (.int (md &&& (3 : Int32))), .val (.long bb), .second, .val (.ref b151), .val (.int vz), .unset] [(.int (1 : Int32))])) _
          refine XS.goto X155.here hx rfl (pc0 := 97) (pc' := 101) rfl (hb hby at_97) (by decide) (by decide) ?_
          exact k)
      exact ⟨_, (by simp [own_says, hc93]), pre164⟩
    · skip
      have pre165 : ∀ t, Steps p.tables e below (T155.setTop (mkF m 101 #[.val (.long aa), .second, .val (.long dr), .second, .val (.int md), .val (.int (md &&& (3 : Int32))), .val (.long bb), .second, .val (.ref b151), .val (.int vz), .unset] [(.int (0 : Int32))])) t → Steps p.tables e below (s₁.setTop (entryFrame m #[(.long aa), (.long dr), (.int md)] maxLocals)) t := fun t k => pre163 t (by
          show Steps p.tables e below (T155.setTop (mkF m 93 #[.val (.long aa), .second, .val (.long dr), .second, .val (.int md), .val (.int (md &&& (3 : Int32))), .val (.long bb), .second, .val (.ref b151), .val (.int vz), .unset] [(.int (lcmpW bb aa))])) _
          refine XS.ifYes X155.here hx rfl (pc0 := 93) (pc' := 100) rfl (hb hby at_93) rfl ((if0 _ _).trans (flt (fun q => hc93 ((lw_lt _ _).mp q))).2.1) (by decide) (by decide) ?_
          show Steps p.tables e below (T155.setTop (mkF m 100 #[.val (.long aa), .second, .val (.long dr), .second, .val (.int md), .val (.int (md &&& (3 : Int32))), .val (.long bb), .second, .val (.ref b151), .val (.int vz), .unset] [])) _
          refine XS.iconst X155.here hx rfl (hb hby at_100) ?_
          exact k)
      exact ⟨_, (by simp [own_says, hc93]), pre165⟩
  obtain ⟨cq166, kq166, q166a, q166b, q166c⟩ := isOf hZ e155 E2
  obtain ⟨_, _, ⟨T166, L166, k166, n166⟩, -, X166, ⟨Lc166, hQ166, l166, y166, z166⟩, st166⟩ := X155.virtualBack hx (y := (⟨"com/example/accord_scheduler/accordscheduler/MomentTree", "before", "(II)Z"⟩ : MethodName)) (z := (⟨"com/example/accord_scheduler/accordscheduler/MomentTree", "before", "(II)Z"⟩ : MethodName)) hown (mvT hZ (hw _ (List.mem_of_getElem? (i := 91) rfl))) (mvT hZ (hw _ (List.mem_of_getElem? (i := 92) rfl))) (notFace_of_selects (args := #[]) (mvT hZ (hw _ (List.mem_of_getElem? (i := 93) rfl)))) (mvT hZ (hw _ (List.mem_of_getElem? (i := 93) rfl))) (mvT hZ (hw _ (List.mem_of_getElem? (i := 89) rfl))) (by decide) (backOf (W := 0) (rm12 l Z a0 hw [] b151 (0 : Int32) (1 : Int32) ad (own_upd (own_upd (fun _ => 0) 0 aa) 1 bb) h155 n0 Z155 F_due2 A_due2 (Or.inl rfl) (Or.inr rfl)) hZ (hw _ (List.mem_of_getElem? (i := 90) rfl)) (hw _ (List.mem_of_getElem? (i := 2) rfl)) (by decide) (by decide)) q166a q166c (g := (mkF m 107 #[.val (.long aa), .second, .val (.long dr), .second, .val (.int md), .val (.int (md &&& (3 : Int32))), .val (.long bb), .second, .val (.ref b151), .val (.int vz), .val (.int vo)] [(.int (1 : Int32)), (.int (0 : Int32)), (.ref b151)])) rfl (by rw [hml]; rfl) (Steps.refl _) (argsL := [(.int (0 : Int32)), (.int (1 : Int32))]) (rest := []) (lenOf own_pd2 rfl) rfl (by show 2 * 0 + _ ≤ _; exact Nat.le_of_eq rfl) (hb hby at_107) (fun _ _ => ⟨rfl, e155, (by decide : 8 + 0 ≤ _), (by decide : 26 + 0 ≤ _)⟩)
  dsimp only [Pt.U, Pt.locs, Pt.cells, Pt.slots] at X166 l166 y166 z166 st166 hQ166
  subst l166 y166 z166
  obtain ⟨z166, rfl, hz166, N166q, e166⟩ := hQ166
  have N166 := Fr.app N155 N166q
  have he1 : z166 = vz := own_says_eq hz166 hvz (own_b01 aa bb)
  obtain ⟨cq167, kq167, q167a, q167b, q167c⟩ := isOf hZ e166 E2
  obtain ⟨_, _, ⟨T167, L167, k167, n167⟩, -, X167, ⟨Lc167, hQ167, l167, y167, z167⟩, st167⟩ := X166.virtualBack hx (y := (⟨"com/example/accord_scheduler/accordscheduler/MomentTree", "before", "(II)Z"⟩ : MethodName)) (z := (⟨"com/example/accord_scheduler/accordscheduler/MomentTree", "before", "(II)Z"⟩ : MethodName)) hown (mvT hZ (hw _ (List.mem_of_getElem? (i := 91) rfl))) (mvT hZ (hw _ (List.mem_of_getElem? (i := 92) rfl))) (notFace_of_selects (args := #[]) (mvT hZ (hw _ (List.mem_of_getElem? (i := 93) rfl)))) (mvT hZ (hw _ (List.mem_of_getElem? (i := 93) rfl))) (mvT hZ (hw _ (List.mem_of_getElem? (i := 89) rfl))) (by decide) (backOf (W := 0) (rm12 l Z a0 hw [] b151 (1 : Int32) (0 : Int32) ad (own_upd (own_upd (fun _ => 0) 0 aa) 1 bb) h155 n0 Z155 F_due2 A_due2 (Or.inr rfl) (Or.inl rfl)) hZ (hw _ (List.mem_of_getElem? (i := 90) rfl)) (hw _ (List.mem_of_getElem? (i := 2) rfl)) (by decide) (by decide)) q167a q167c (g := (mkF m 119 #[.val (.long aa), .second, .val (.long dr), .second, .val (.int md), .val (.int (md &&& (3 : Int32))), .val (.long bb), .second, .val (.ref b151), .val (.int vz), .val (.int vo)] [(.int (0 : Int32)), (.int (1 : Int32)), (.ref b151)])) rfl (by rw [hml]; rfl) (Steps.refl _) (argsL := [(.int (1 : Int32)), (.int (0 : Int32))]) (rest := []) (lenOf own_pd2 rfl) rfl (by show 2 * 0 + _ ≤ _; exact Nat.le_of_eq rfl) (hb hby at_119) (fun _ _ => ⟨rfl, e166, (by decide : 8 + 0 ≤ _), (by decide : 26 + 0 ≤ _)⟩)
  dsimp only [Pt.U, Pt.locs, Pt.cells, Pt.slots] at X167 l167 y167 z167 st167 hQ167
  subst l167 y167 z167
  obtain ⟨z167, rfl, hz167, N167q, e167⟩ := hQ167
  have N167 := Fr.app N166 N167q
  have he2 : z167 = vo := own_says_eq hz167 hvo (own_b10 aa bb)
  obtain ⟨cq168, kq168, q168a, q168b, q168c⟩ := isOf hZ e167 E2
  obtain ⟨_, _, ⟨T168, L168, k168, n168⟩, -, X168, ⟨Lc168, hQ168, l168, y168, z168⟩, st168⟩ := X167.virtualBack hx (y := (⟨"com/example/accord_scheduler/accordscheduler/MomentTree", "before", "(II)Z"⟩ : MethodName)) (z := (⟨"com/example/accord_scheduler/accordscheduler/MomentTree", "before", "(II)Z"⟩ : MethodName)) hown (mvT hZ (hw _ (List.mem_of_getElem? (i := 91) rfl))) (mvT hZ (hw _ (List.mem_of_getElem? (i := 92) rfl))) (notFace_of_selects (args := #[]) (mvT hZ (hw _ (List.mem_of_getElem? (i := 93) rfl)))) (mvT hZ (hw _ (List.mem_of_getElem? (i := 93) rfl))) (mvT hZ (hw _ (List.mem_of_getElem? (i := 89) rfl))) (by decide) (backOf (W := 0) (rm12 l Z a0 hw [] b151 (0 : Int32) (0 : Int32) ad (own_upd (own_upd (fun _ => 0) 0 aa) 1 bb) h155 n0 Z155 F_due2 A_due2 (Or.inl rfl) (Or.inl rfl)) hZ (hw _ (List.mem_of_getElem? (i := 90) rfl)) (hw _ (List.mem_of_getElem? (i := 2) rfl)) (by decide) (by decide)) q168a q168c (g := (mkF m 131 #[.val (.long aa), .second, .val (.long dr), .second, .val (.int md), .val (.int (md &&& (3 : Int32))), .val (.long bb), .second, .val (.ref b151), .val (.int vz), .val (.int vo)] [(.int (0 : Int32)), (.int (0 : Int32)), (.ref b151)])) rfl (by rw [hml]; rfl) (Steps.refl _) (argsL := [(.int (0 : Int32)), (.int (0 : Int32))]) (rest := []) (lenOf own_pd2 rfl) rfl (by show 2 * 0 + _ ≤ _; exact Nat.le_of_eq rfl) (hb hby at_131) (fun _ _ => ⟨rfl, e167, (by decide : 8 + 0 ≤ _), (by decide : 26 + 0 ≤ _)⟩)
  dsimp only [Pt.U, Pt.locs, Pt.cells, Pt.slots] at X168 l168 y168 z168 st168 hQ168
  subst l168 y168 z168
  obtain ⟨z168, rfl, hz168, N168q, e168⟩ := hQ168
  have N168 := Fr.app N167 N168q
  have he3 : z168 = 0 := (own_says_ne hz168).mpr (own_b00 aa bb)
  obtain ⟨cq169, kq169, q169a, q169b, q169c⟩ := isOf hZ e168 E2
  obtain ⟨_, _, ⟨T169, L169, k169, n169⟩, -, X169, ⟨Lc169, hQ169, l169, y169, z169⟩, st169⟩ := X168.virtualBack hx (y := (⟨"com/example/accord_scheduler/accordscheduler/MomentTree", "before", "(II)Z"⟩ : MethodName)) (z := (⟨"com/example/accord_scheduler/accordscheduler/MomentTree", "before", "(II)Z"⟩ : MethodName)) hown (mvT hZ (hw _ (List.mem_of_getElem? (i := 91) rfl))) (mvT hZ (hw _ (List.mem_of_getElem? (i := 92) rfl))) (notFace_of_selects (args := #[]) (mvT hZ (hw _ (List.mem_of_getElem? (i := 93) rfl)))) (mvT hZ (hw _ (List.mem_of_getElem? (i := 93) rfl))) (mvT hZ (hw _ (List.mem_of_getElem? (i := 89) rfl))) (by decide) (backOf (W := 0) (rm12 l Z a0 hw [] b151 (1 : Int32) (1 : Int32) ad (own_upd (own_upd (fun _ => 0) 0 aa) 1 bb) h155 n0 Z155 F_due2 A_due2 (Or.inr rfl) (Or.inr rfl)) hZ (hw _ (List.mem_of_getElem? (i := 90) rfl)) (hw _ (List.mem_of_getElem? (i := 2) rfl)) (by decide) (by decide)) q169a q169c (g := (mkF m 141 #[.val (.long aa), .second, .val (.long dr), .second, .val (.int md), .val (.int (md &&& (3 : Int32))), .val (.long bb), .second, .val (.ref b151), .val (.int vz), .val (.int vo)] [(.int (1 : Int32)), (.int (1 : Int32)), (.ref b151)])) rfl (by rw [hml]; rfl) (Steps.refl _) (argsL := [(.int (1 : Int32)), (.int (1 : Int32))]) (rest := []) (lenOf own_pd2 rfl) rfl (by show 2 * 0 + _ ≤ _; exact Nat.le_of_eq rfl) (hb hby at_141) (fun _ _ => ⟨rfl, e168, (by decide : 8 + 0 ≤ _), (by decide : 26 + 0 ≤ _)⟩)
  dsimp only [Pt.U, Pt.locs, Pt.cells, Pt.slots] at X169 l169 y169 z169 st169 hQ169
  subst l169 y169 z169
  obtain ⟨z169, rfl, hz169, N169q, e169⟩ := hQ169
  have N169 := Fr.app N168 N169q
  have he4 : z169 = 0 := (own_says_ne hz169).mpr (own_b11 aa bb)
  have pre170 : ∀ t, Steps p.tables e below (T169.setTop (mkF m 152 #[.val (.long aa), .second, .val (.long dr), .second, .val (.int md), .val (.int (md &&& (3 : Int32))), .val (.long bb), .second, .val (.ref b151), .val (.int vz), .val (.int vo)] [(.int (1 : Int32))])) t → Steps p.tables e below (s₁.setTop (entryFrame m #[(.long aa), (.long dr), (.int md)] maxLocals)) t := fun t k => pre162 t (by
      show Steps p.tables e below (T155.setTop (mkF m 101 #[.val (.long aa), .second, .val (.long dr), .second, .val (.int md), .val (.int (md &&& (3 : Int32))), .val (.long bb), .second, .val (.ref b151), .val (.int vz), .unset] [(.int vo)])) _
      refine XS.istore X155.here hx rfl (hb hby at_101) rfl (l' := #[.val (.long aa), .second, .val (.long dr), .second, .val (.int md), .val (.int (md &&& (3 : Int32))), .val (.long bb), .second, .val (.ref b151), .val (.int vz), .val (.int vo)]) rfl ?_
      show Steps p.tables e below (T155.setTop (mkF m 103 #[.val (.long aa), .second, .val (.long dr), .second, .val (.int md), .val (.int (md &&& (3 : Int32))), .val (.long bb), .second, .val (.ref b151), .val (.int vz), .val (.int vo)] [])) _
      refine XS.aload X155.here hx rfl (hb hby at_103) rfl rfl ?_
      show Steps p.tables e below (T155.setTop (mkF m 105 #[.val (.long aa), .second, .val (.long dr), .second, .val (.int md), .val (.int (md &&& (3 : Int32))), .val (.long bb), .second, .val (.ref b151), .val (.int vz), .val (.int vo)] [(.ref b151)])) _
      refine XS.iconst X155.here hx rfl (hb hby at_105) ?_
      show Steps p.tables e below (T155.setTop (mkF m 106 #[.val (.long aa), .second, .val (.long dr), .second, .val (.int md), .val (.int (md &&& (3 : Int32))), .val (.long bb), .second, .val (.ref b151), .val (.int vz), .val (.int vo)] [(.int (0 : Int32)), (.ref b151)])) _
      refine XS.iconst X155.here hx rfl (hb hby at_106) ?_
      show Steps p.tables e below (T155.setTop (mkF m 107 #[.val (.long aa), .second, .val (.long dr), .second, .val (.int md), .val (.int (md &&& (3 : Int32))), .val (.long bb), .second, .val (.ref b151), .val (.int vz), .val (.int vo)] [(.int (1 : Int32)), (.int (0 : Int32)), (.ref b151)])) _
      refine st166.trans ?_
      show Steps p.tables e below (T166.setTop (mkF m 110 #[.val (.long aa), .second, .val (.long dr), .second, .val (.int md), .val (.int (md &&& (3 : Int32))), .val (.long bb), .second, .val (.ref b151), .val (.int vz), .val (.int vo)] [(.int z166)])) _
      refine XS.iload X166.here hx rfl (hb hby at_110) rfl ?_
      show Steps p.tables e below (T166.setTop (mkF m 112 #[.val (.long aa), .second, .val (.long dr), .second, .val (.int md), .val (.int (md &&& (3 : Int32))), .val (.long bb), .second, .val (.ref b151), .val (.int vz), .val (.int vo)] [(.int vz), (.int z166)])) _
      refine XS.icmpNo X166.here hx rfl (hb hby at_112) rfl (teq he1).2 ?_
      show Steps p.tables e below (T166.setTop (mkF m 115 #[.val (.long aa), .second, .val (.long dr), .second, .val (.int md), .val (.int (md &&& (3 : Int32))), .val (.long bb), .second, .val (.ref b151), .val (.int vz), .val (.int vo)] [])) _
      refine XS.aload X166.here hx rfl (hb hby at_115) rfl rfl ?_
      show Steps p.tables e below (T166.setTop (mkF m 117 #[.val (.long aa), .second, .val (.long dr), .second, .val (.int md), .val (.int (md &&& (3 : Int32))), .val (.long bb), .second, .val (.ref b151), .val (.int vz), .val (.int vo)] [(.ref b151)])) _
      refine XS.iconst X166.here hx rfl (hb hby at_117) ?_
      show Steps p.tables e below (T166.setTop (mkF m 118 #[.val (.long aa), .second, .val (.long dr), .second, .val (.int md), .val (.int (md &&& (3 : Int32))), .val (.long bb), .second, .val (.ref b151), .val (.int vz), .val (.int vo)] [(.int (1 : Int32)), (.ref b151)])) _
      refine XS.iconst X166.here hx rfl (hb hby at_118) ?_
      show Steps p.tables e below (T166.setTop (mkF m 119 #[.val (.long aa), .second, .val (.long dr), .second, .val (.int md), .val (.int (md &&& (3 : Int32))), .val (.long bb), .second, .val (.ref b151), .val (.int vz), .val (.int vo)] [(.int (0 : Int32)), (.int (1 : Int32)), (.ref b151)])) _
      refine st167.trans ?_
      show Steps p.tables e below (T167.setTop (mkF m 122 #[.val (.long aa), .second, .val (.long dr), .second, .val (.int md), .val (.int (md &&& (3 : Int32))), .val (.long bb), .second, .val (.ref b151), .val (.int vz), .val (.int vo)] [(.int z167)])) _
      refine XS.iload X167.here hx rfl (hb hby at_122) rfl ?_
      show Steps p.tables e below (T167.setTop (mkF m 124 #[.val (.long aa), .second, .val (.long dr), .second, .val (.int md), .val (.int (md &&& (3 : Int32))), .val (.long bb), .second, .val (.ref b151), .val (.int vz), .val (.int vo)] [(.int vo), (.int z167)])) _
      refine XS.icmpNo X167.here hx rfl (hb hby at_124) rfl (teq he2).2 ?_
      show Steps p.tables e below (T167.setTop (mkF m 127 #[.val (.long aa), .second, .val (.long dr), .second, .val (.int md), .val (.int (md &&& (3 : Int32))), .val (.long bb), .second, .val (.ref b151), .val (.int vz), .val (.int vo)] [])) _
      refine XS.aload X167.here hx rfl (hb hby at_127) rfl rfl ?_
      show Steps p.tables e below (T167.setTop (mkF m 129 #[.val (.long aa), .second, .val (.long dr), .second, .val (.int md), .val (.int (md &&& (3 : Int32))), .val (.long bb), .second, .val (.ref b151), .val (.int vz), .val (.int vo)] [(.ref b151)])) _
      refine XS.iconst X167.here hx rfl (hb hby at_129) ?_
      show Steps p.tables e below (T167.setTop (mkF m 130 #[.val (.long aa), .second, .val (.long dr), .second, .val (.int md), .val (.int (md &&& (3 : Int32))), .val (.long bb), .second, .val (.ref b151), .val (.int vz), .val (.int vo)] [(.int (0 : Int32)), (.ref b151)])) _
      refine XS.iconst X167.here hx rfl (hb hby at_130) ?_
      show Steps p.tables e below (T167.setTop (mkF m 131 #[.val (.long aa), .second, .val (.long dr), .second, .val (.int md), .val (.int (md &&& (3 : Int32))), .val (.long bb), .second, .val (.ref b151), .val (.int vz), .val (.int vo)] [(.int (0 : Int32)), (.int (0 : Int32)), (.ref b151)])) _
      refine st168.trans ?_
      show Steps p.tables e below (T168.setTop (mkF m 134 #[.val (.long aa), .second, .val (.long dr), .second, .val (.int md), .val (.int (md &&& (3 : Int32))), .val (.long bb), .second, .val (.ref b151), .val (.int vz), .val (.int vo)] [(.int z168)])) _
      refine XS.ifNo X168.here hx rfl (hb hby at_134) rfl ((if0 _ _).trans (teq he3).2) ?_
      show Steps p.tables e below (T168.setTop (mkF m 137 #[.val (.long aa), .second, .val (.long dr), .second, .val (.int md), .val (.int (md &&& (3 : Int32))), .val (.long bb), .second, .val (.ref b151), .val (.int vz), .val (.int vo)] [])) _
      refine XS.aload X168.here hx rfl (hb hby at_137) rfl rfl ?_
      show Steps p.tables e below (T168.setTop (mkF m 139 #[.val (.long aa), .second, .val (.long dr), .second, .val (.int md), .val (.int (md &&& (3 : Int32))), .val (.long bb), .second, .val (.ref b151), .val (.int vz), .val (.int vo)] [(.ref b151)])) _
      refine XS.iconst X168.here hx rfl (hb hby at_139) ?_
      show Steps p.tables e below (T168.setTop (mkF m 140 #[.val (.long aa), .second, .val (.long dr), .second, .val (.int md), .val (.int (md &&& (3 : Int32))), .val (.long bb), .second, .val (.ref b151), .val (.int vz), .val (.int vo)] [(.int (1 : Int32)), (.ref b151)])) _
      refine XS.iconst X168.here hx rfl (hb hby at_140) ?_
      show Steps p.tables e below (T168.setTop (mkF m 141 #[.val (.long aa), .second, .val (.long dr), .second, .val (.int md), .val (.int (md &&& (3 : Int32))), .val (.long bb), .second, .val (.ref b151), .val (.int vz), .val (.int vo)] [(.int (1 : Int32)), (.int (1 : Int32)), (.ref b151)])) _
      refine st169.trans ?_
      show Steps p.tables e below (T169.setTop (mkF m 144 #[.val (.long aa), .second, .val (.long dr), .second, .val (.int md), .val (.int (md &&& (3 : Int32))), .val (.long bb), .second, .val (.ref b151), .val (.int vz), .val (.int vo)] [(.int z169)])) _
      refine XS.ifNo X169.here hx rfl (hb hby at_144) rfl ((if0 _ _).trans (teq he4).2) ?_
      show Steps p.tables e below (T169.setTop (mkF m 147 #[.val (.long aa), .second, .val (.long dr), .second, .val (.int md), .val (.int (md &&& (3 : Int32))), .val (.long bb), .second, .val (.ref b151), .val (.int vz), .val (.int vo)] [])) _
      refine XS.iconst X169.here hx rfl (hb hby at_147) ?_
      show Steps p.tables e below (T169.setTop (mkF m 148 #[.val (.long aa), .second, .val (.long dr), .second, .val (.int md), .val (.int (md &&& (3 : Int32))), .val (.long bb), .second, .val (.ref b151), .val (.int vz), .val (.int vo)] [(.int (1 : Int32))])) _
      refine XS.goto X169.here hx rfl (pc0 := 148) (pc' := 152) rfl (hb hby at_148) (by decide) (by decide) ?_
      exact k)
  obtain ⟨fs, hr, hrun, hended, hW, hsame⟩ := X169.leave (v := some (.int (1 : Int32))) (fun h => by rw [Bd.returns] at h; cases h)
  refine ⟨_, _, pre170 _ ?_, hrun, hended, _, _, rfl, ?_, ⟨_, rfl⟩, hW, hsame.mono (by decide) (by decide)⟩
  · show Steps p.tables e below (T169.setTop (mkF m 152 #[.val (.long aa), .second, .val (.long dr), .second, .val (.int md), .val (.int (md &&& (3 : Int32))), .val (.long bb), .second, .val (.ref b151), .val (.int vz), .val (.int vo)] [(.int (1 : Int32))])) _
    exact retN X169 hx (t := .boolean) Bd.returns (by simp) (hb hby at_152) hr
  · show Q0 Z aa dr md h0 n0 _ T169.heap _
    rw [e169]
    exact ⟨rfl, N169⟩
set_option maxRecDepth 65536 in
set_option maxHeartbeats 40000000 in
theorem comes_1 {Post : Tables → Env → Array Value → State → Outcome → State → Prop} (hpost : ∀ tb e args s v u, (limb_1_1.after args s (.returned v) u = true ∧ limb_1_2.after args s (.returned v) u = true ∧ True) → FrameEnd s (.returned v) u (Jvm.fieldLocs frame_1_writes args s ++ Jvm.arrayLocs frame_1_arrays args s ++ Jvm.staticLocs frame_1_statics s) 24 128 → Post tb e args s (.returned v) u) :
    ArmFor flags0 classFile x code maxLocals ret World_1 tables_1 room_1 Calls_1 rest_1 Pre_1 Post := by
  intro l hfl _ _ p e ha hc hk s m args below hf hA hF happ hP
  obtain ⟨hcalls, hrest, hpre⟩ := hP
  obtain ⟨-, -, -, hnamed, -, -, -, hat⟩ := (Spec.applies_iff hf).mp happ
  obtain ⟨hg, hn⟩ := and_e (Cond.before_iff.mp (show (Jvm.Cond.and given_1 narrow_1).before args s = true from hpre))
  obtain ⟨h1, g0⟩ := and_e hg
  obtain ⟨w0, w1, w2, rfl⟩ : ∃ w0 w1 w2 : Value, args = #[w0, w1, w2] := by
    have hs : args.size = 3 := by simpa [Cond.value, given_1] using h1
    obtain ⟨L⟩ := args
    match L, hs with
    | [w0, w1, w2], _ => exact ⟨w0, w1, w2, rfl⟩
  have hw := fun d (hd : d ∈ tables_1) => atoms_spec (ws := Jvm.Cond.code x code maxLocals ret :: tables_1) hat d (List.mem_cons_of_mem _ hd)
  obtain ⟨f0, g1⟩ := and_e g0
  obtain ⟨i0, q0⟩ := isL_v f0
  obtain rfl : w0 = (.long i0) := Option.some.inj q0
  obtain ⟨f1, g2⟩ := and_e g1
  obtain ⟨i1, q1⟩ := isL_v f1
  obtain rfl : w1 = (.long i1) := Option.some.inj q1
  have f2 := g2
  obtain ⟨i2, q2⟩ := is_v f2
  obtain rfl : w2 = (.int i2) := Option.some.inj q2
  obtain ⟨n, o, h1, h2, h3, _, L, rfl, ⟨rfl, N⟩, hq⟩ := rm0 l s _ hw tables_1 i0 i1 i2 s.heap s.heap.size (Nat.le_refl _)  p e ha hc hk s m _ below hf ((Spec.applies_iff_loose hf).mp happ).1 ⟨rfl, State.Warmed39.refl s, rfl⟩ trivial
  refine ⟨n, _, h1, h2, h3, hpost _ _ _ _ _ _ ⟨Cond.after_iff.mpr rfl, Cond.after_iff.mpr (eq_i res_at (Term.int_eval (1)) rfl), trivial⟩ ⟨hq.1, hq.2.1, (hq.2.2.sift fun y hy => Or.inr (N y hy)).mono (by decide) (by decide)⟩⟩
theorem main_1_1 : Claimed_1_1 := comes_1 fun _ _ _ _ _ _ h hF => ⟨h.1, hF⟩
theorem main_1_2 : Claimed_1_2 := comes_1 fun _ _ _ _ _ _ h hF => ⟨h.2.1, hF⟩
end Jvm.Pilot.@@N@@
namespace Jvm.Pilot.@@N@@
open Jvm Jvm.ClassFile Sem Op Lib Jvm.Free Jvm.Stand Jvm.Pilot.@@N@@.Jvm.D
/-! MADE BY PROGRAM (witnessworld.py) out of the Statement's table words and the real class files: 12 classes; the members and pool entries that the words name. The judged class is class 1, her method 1. -/
namespace start1
open Jvm.ClassFile
def u (s : String) : CpInfo := .utf8 (stringToUtf16 s)
/-- a pool by its gaps: so many unusable entries, then the entry; so many at the end -/
def gap : Nat → List CpInfo → List CpInfo
  | 0, r => r
  | n + 1, r => .unusable :: gap n r
def poolList (es : List (Nat × CpInfo)) (last : Nat) : List CpInfo := es.foldr (fun e r => gap e.1 (e.2 :: r)) (gap last [])
def pool (es : List (Nat × CpInfo)) (last : Nat) : Array CpInfo := ⟨poolList es last⟩
def fileOf (pool : Array CpInfo) (this : Nat) (attrs : Array Attribute := #[]) (ms : Array MethodInfo := #[]) (fl : Nat := 33) (sup : Nat := 0) (ifs : Array Nat := #[]) (fds : Array FieldInfo := #[]) : ClassFile where
  minorVersion := 0
  majorVersion := 65
  constantPool := pool
  accessFlags := fl
  thisClass := this
  superClass := sup
  interfaces := ifs
  fields := fds
  methods := ms
  attributes := attrs
def plain (name : String) (sup : Option ClassId) : Class where
  name := name
  kind := .ordinary
  loader := none
  accessFlags := 33
  super := sup
  interfaces := #[]
  cf := none
  fields := #[]
  methods := #[]
  instanceTypes := #[]
  staticTypes := #[]
  resolved := #[]
  callSites := []
  init := .initialized
  statics := none
  mirror := none

def pool0 : Array CpInfo := pool [(5, u "<init>"), (0, u "()V"), (1, .class_ 10), (1, u "java/lang/Object")] 113

def k0c0 : Code := { maxStack := 0, maxLocals := 1, code := object_method_1_code, exceptionTable := #[], attributes := #[] }
def k0m0 : Method := { name := "<init>", desc := "()V", sig := { parameters := [], returnType := none }, accessFlags := 1, code := some k0c0 }
/-- java/lang/Object -/
def k0 : Class := { plain "java/lang/Object" none with
  accessFlags := 33
  interfaces := #[]
  cf := some (fileOf pool0 8 #[] #[{ accessFlags := 1, nameIndex := 5, descriptorIndex := 6, attributes := #[] }] 33 0 #[] #[])
  fields := #[]
  methods := #[k0m0]
  instanceTypes := #[]
  staticTypes := #[]
  resolved := Array.replicate 124 none
  statics := none }

def pool1 : Array CpInfo := pool [(2, .class_ 4), (1, u "java/lang/Object"), (0, u "<init>"), (0, u "()V"), (0, .class_ 8), (0, u "com/example/accord_scheduler/accordscheduler/MomentTree"), (0, .methodref 7 10), (0, .nameAndType 5 11), (0, u "([J)V"), (0, .methodref 7 13), (0, .nameAndType 14 15), (0, u "put"), (0, u "(IJ)V"), (0, .methodref 7 17), (0, .nameAndType 18 19), (0, u "before"), (0, u "(II)Z"), (0, .class_ 21), (0, u "com/example/accord_scheduler/accordscheduler/MomentTreeBeforePinLaw"), (2, u "law"), (0, u "(JJI)Z")] 3

def k1m0 : Method := { name := "<init>", desc := "()V", sig := { parameters := [], returnType := none }, accessFlags := 1, code := none }
def k1c1 : Code := { maxStack := 4, maxLocals := 11, code := code, exceptionTable := #[], attributes := #[] }
def k1m1 : Method := { name := "law", desc := "(JJI)Z", sig := { parameters := [.long, .long, .int], returnType := some .boolean }, accessFlags := 9, code := some k1c1 }
/-- com/example/accord_scheduler/accordscheduler/MomentTreeBeforePinLaw -/
def k1 : Class := { plain "com/example/accord_scheduler/accordscheduler/MomentTreeBeforePinLaw" (some 0) with
  accessFlags := 49
  interfaces := #[]
  cf := some (fileOf pool1 20 #[] #[{ accessFlags := 1, nameIndex := 5, descriptorIndex := 6, attributes := #[] }, { accessFlags := 9, nameIndex := 24, descriptorIndex := 25, attributes := #[] }] 49 2 #[] #[])
  fields := #[]
  methods := #[k1m0, k1m1]
  instanceTypes := #[]
  staticTypes := #[]
  resolved := Array.replicate 29 none
  statics := none }

def pool2 : Array CpInfo := pool [(1, .methodref 2 3), (0, .class_ 4), (0, .nameAndType 5 6), (0, u "java/lang/Object"), (0, u "<init>"), (0, u "()V"), (0, .class_ 8), (0, u "com/example/accord_scheduler/accordscheduler/Treap"), (0, .fieldref 7 10), (0, .nameAndType 11 12), (0, u "root"), (0, u "I"), (0, .fieldref 7 14), (0, .nameAndType 15 12), (0, u "vacant"), (0, .fieldref 7 17), (0, .nameAndType 18 19), (0, u "priority"), (0, u "[J"), (0, .fieldref 7 21), (0, .nameAndType 22 23), (0, u "left"), (0, u "[I"), (0, .fieldref 7 25), (0, .nameAndType 26 23), (0, u "right"), (11, u "used"), (5, u "(II)I"), (3, u "(I)V"), (0, .methodref 7 50), (0, .nameAndType 51 52), (0, u "split"), (0, u "(II)V"), (0, .fieldref 7 54), (0, .nameAndType 55 12), (0, u "splitBefore"), (0, .fieldref 7 57), (0, .nameAndType 58 12), (0, u "splitAfter"), (0, .methodref 7 60), (0, .nameAndType 61 62), (0, u "update"), (0, u "(I)I"), (0, .methodref 7 64), (0, .nameAndType 65 66), (0, u "before"), (0, u "(II)Z"), (0, .methodref 7 68), (0, .nameAndType 69 44), (0, u "insert"), (6, .long 11400714819323198485), (1, .long 13787848793156543929), (1, .long 10723151780598845931), (1, u "NONE"), (2, u "FIRST_CAPACITY"), (11, u "mix"), (0, u "(J)J")] 2

def k2c0 : Code := { maxStack := 2, maxLocals := 2, code := prog_94_method_1_code, exceptionTable := #[], attributes := #[] }
def k2m0 : Method := { name := "<init>", desc := "(I)V", sig := { parameters := [.int], returnType := none }, accessFlags := 0, code := some k2c0 }
def k2m1 : Method := { name := "before", desc := "(II)Z", sig := { parameters := [.int, .int], returnType := some .boolean }, accessFlags := 1024, code := none }
def k2m2 : Method := { name := "update", desc := "(I)I", sig := { parameters := [.int], returnType := some .int }, accessFlags := 1024, code := none }
def k2c3 : Code := { maxStack := 5, maxLocals := 3, code := prog_94_method_8_code, exceptionTable := #[], attributes := #[] }
def k2m3 : Method := { name := "insert", desc := "(II)I", sig := { parameters := [.int, .int], returnType := some .int }, accessFlags := 16, code := some k2c3 }
def k2c4 : Code := { maxStack := 3, maxLocals := 3, code := prog_94_method_12_code, exceptionTable := #[], attributes := #[] }
def k2m4 : Method := { name := "split", desc := "(II)V", sig := { parameters := [.int, .int], returnType := none }, accessFlags := 2, code := some k2c4 }
def k2c5 : Code := { maxStack := 5, maxLocals := 4, code := prog_94_method_13_code, exceptionTable := #[], attributes := #[] }
def k2m5 : Method := { name := "mix", desc := "(J)J", sig := { parameters := [.long], returnType := some .long }, accessFlags := 8, code := some k2c5 }
/-- com/example/accord_scheduler/accordscheduler/Treap -/
def k2 : Class := { plain "com/example/accord_scheduler/accordscheduler/Treap" (some 0) with
  accessFlags := 1056
  interfaces := #[]
  cf := some (fileOf pool2 7 #[] #[{ accessFlags := 0, nameIndex := 5, descriptorIndex := 48, attributes := #[] }, { accessFlags := 1024, nameIndex := 65, descriptorIndex := 66, attributes := #[] }, { accessFlags := 1024, nameIndex := 61, descriptorIndex := 62, attributes := #[] }, { accessFlags := 16, nameIndex := 69, descriptorIndex := 44, attributes := #[] }, { accessFlags := 2, nameIndex := 51, descriptorIndex := 52, attributes := #[] }, { accessFlags := 8, nameIndex := 97, descriptorIndex := 98, attributes := #[] }] 1056 2 #[] #[{ accessFlags := 24, nameIndex := 82, descriptorIndex := 12, attributes := #[] }, { accessFlags := 26, nameIndex := 85, descriptorIndex := 12, attributes := #[] }, { accessFlags := 0, nameIndex := 18, descriptorIndex := 19, attributes := #[] }, { accessFlags := 0, nameIndex := 22, descriptorIndex := 23, attributes := #[] }, { accessFlags := 0, nameIndex := 26, descriptorIndex := 23, attributes := #[] }, { accessFlags := 0, nameIndex := 11, descriptorIndex := 12, attributes := #[] }, { accessFlags := 2, nameIndex := 38, descriptorIndex := 12, attributes := #[] }, { accessFlags := 2, nameIndex := 15, descriptorIndex := 12, attributes := #[] }, { accessFlags := 2, nameIndex := 55, descriptorIndex := 12, attributes := #[] }, { accessFlags := 2, nameIndex := 58, descriptorIndex := 12, attributes := #[] }])
  fields := #[{ name := "NONE", type := .int, accessFlags := 24, slot := 0, constantValue := 0 }, { name := "FIRST_CAPACITY", type := .int, accessFlags := 26, slot := 1, constantValue := 0 }, { name := "priority", type := (.array .long), accessFlags := 0, slot := 0, constantValue := 0 }, { name := "left", type := (.array .int), accessFlags := 0, slot := 1, constantValue := 0 }, { name := "right", type := (.array .int), accessFlags := 0, slot := 2, constantValue := 0 }, { name := "root", type := .int, accessFlags := 0, slot := 3, constantValue := 0 }, { name := "used", type := .int, accessFlags := 2, slot := 4, constantValue := 0 }, { name := "vacant", type := .int, accessFlags := 2, slot := 5, constantValue := 0 }, { name := "splitBefore", type := .int, accessFlags := 2, slot := 6, constantValue := 0 }, { name := "splitAfter", type := .int, accessFlags := 2, slot := 7, constantValue := 0 }]
  methods := #[k2m0, k2m1, k2m2, k2m3, k2m4, k2m5]
  instanceTypes := #[(.array .long), (.array .int), (.array .int), .int, .int, .int, .int, .int]
  staticTypes := #[.int, .int]
  resolved := Array.replicate 101 none
  statics := none }

def pool3 : Array CpInfo := pool [(1, .methodref 2 3), (0, .class_ 4), (0, .nameAndType 5 6), (0, u "com/example/accord_scheduler/accordscheduler/Treap"), (0, u "<init>"), (0, u "(I)V"), (0, .fieldref 8 9), (0, .class_ 10), (0, .nameAndType 11 12), (0, u "com/example/accord_scheduler/accordscheduler/MomentTree"), (0, u "due"), (0, u "[J"), (0, .fieldref 8 14), (0, .nameAndType 15 12), (0, u "length"), (0, .fieldref 8 17), (0, .nameAndType 18 19), (0, u "count"), (0, u "[I"), (0, .fieldref 8 21), (0, .nameAndType 22 12), (0, u "total"), (0, .fieldref 8 24), (0, .nameAndType 25 12), (0, u "priority"), (0, .methodref 8 27), (0, .nameAndType 28 29), (0, u "mix"), (0, u "(J)J"), (0, .fieldref 8 31), (0, .nameAndType 32 33), (0, u "root"), (0, u "I"), (4, .methodref 8 39), (0, .nameAndType 40 6), (0, u "remove"), (0, .methodref 8 42), (0, .nameAndType 43 44), (0, u "insert"), (0, u "(II)I"), (2, .fieldref 8 48), (0, .nameAndType 49 19), (0, u "left"), (0, .methodref 8 51), (0, .nameAndType 52 53), (0, u "size"), (0, u "(I)I"), (0, .fieldref 8 55), (0, .nameAndType 56 19), (0, u "right"), (0, .methodref 8 58), (0, .nameAndType 59 60), (0, u "lengths"), (0, u "(I)J"), (0, u "([J)V"), (9, u "put"), (0, u "(IJ)V"), (5, u "before"), (0, u "(II)Z"), (0, u "update")] 2

def k3c0 : Code := { maxStack := 4, maxLocals := 3, code := prog_44_method_1_code, exceptionTable := #[], attributes := #[] }
def k3m0 : Method := { name := "<init>", desc := "([J)V", sig := { parameters := [(.array .long)], returnType := none }, accessFlags := 0, code := some k3c0 }
def k3c1 : Code := { maxStack := 4, maxLocals := 4, code := prog_44_method_5_code, exceptionTable := #[], attributes := #[] }
def k3m1 : Method := { name := "put", desc := "(IJ)V", sig := { parameters := [.int, .long], returnType := none }, accessFlags := 0, code := some k3c1 }
def k3c2 : Code := { maxStack := 4, maxLocals := 2, code := prog_44_method_6_code, exceptionTable := #[], attributes := #[] }
def k3m2 : Method := { name := "remove", desc := "(I)V", sig := { parameters := [.int], returnType := none }, accessFlags := 0, code := some k3c2 }
def k3c3 : Code := { maxStack := 4, maxLocals := 3, code := prog_44_method_11_code, exceptionTable := #[], attributes := #[] }
def k3m3 : Method := { name := "before", desc := "(II)Z", sig := { parameters := [.int, .int], returnType := some .boolean }, accessFlags := 0, code := some k3c3 }
def k3c4 : Code := { maxStack := 7, maxLocals := 2, code := prog_44_method_12_code, exceptionTable := #[], attributes := #[] }
def k3m4 : Method := { name := "update", desc := "(I)I", sig := { parameters := [.int], returnType := some .int }, accessFlags := 0, code := some k3c4 }
def k3c5 : Code := { maxStack := 2, maxLocals := 2, code := prog_44_method_14_code, exceptionTable := #[], attributes := #[] }
def k3m5 : Method := { name := "size", desc := "(I)I", sig := { parameters := [.int], returnType := some .int }, accessFlags := 2, code := some k3c5 }
def k3c6 : Code := { maxStack := 2, maxLocals := 2, code := prog_44_method_15_code, exceptionTable := #[], attributes := #[] }
def k3m6 : Method := { name := "lengths", desc := "(I)J", sig := { parameters := [.int], returnType := some .long }, accessFlags := 2, code := some k3c6 }
/-- com/example/accord_scheduler/accordscheduler/MomentTree -/
def k3 : Class := { plain "com/example/accord_scheduler/accordscheduler/MomentTree" (some 2) with
  accessFlags := 48
  interfaces := #[]
  cf := some (fileOf pool3 8 #[] #[{ accessFlags := 0, nameIndex := 5, descriptorIndex := 61, attributes := #[] }, { accessFlags := 0, nameIndex := 71, descriptorIndex := 72, attributes := #[] }, { accessFlags := 0, nameIndex := 40, descriptorIndex := 6, attributes := #[] }, { accessFlags := 0, nameIndex := 78, descriptorIndex := 79, attributes := #[] }, { accessFlags := 0, nameIndex := 80, descriptorIndex := 53, attributes := #[] }, { accessFlags := 2, nameIndex := 52, descriptorIndex := 53, attributes := #[] }, { accessFlags := 2, nameIndex := 59, descriptorIndex := 60, attributes := #[] }] 48 2 #[] #[{ accessFlags := 18, nameIndex := 11, descriptorIndex := 12, attributes := #[] }, { accessFlags := 18, nameIndex := 15, descriptorIndex := 12, attributes := #[] }, { accessFlags := 18, nameIndex := 18, descriptorIndex := 19, attributes := #[] }, { accessFlags := 18, nameIndex := 22, descriptorIndex := 12, attributes := #[] }])
  fields := #[{ name := "due", type := (.array .long), accessFlags := 18, slot := 8, constantValue := 0 }, { name := "length", type := (.array .long), accessFlags := 18, slot := 9, constantValue := 0 }, { name := "count", type := (.array .int), accessFlags := 18, slot := 10, constantValue := 0 }, { name := "total", type := (.array .long), accessFlags := 18, slot := 11, constantValue := 0 }]
  methods := #[k3m0, k3m1, k3m2, k3m3, k3m4, k3m5, k3m6]
  instanceTypes := #[(.array .long), (.array .int), (.array .int), .int, .int, .int, .int, .int, (.array .long), (.array .long), (.array .int), (.array .long)]
  staticTypes := #[]
  resolved := Array.replicate 83 none
  statics := none }

def pool4 : Array CpInfo := pool [(1, u "java/lang/Cloneable"), (0, .class_ 1), (0, u "java/lang/Object"), (0, .class_ 3)] 3

/-- java/lang/Cloneable -/
def k4 : Class := { plain "java/lang/Cloneable" (some 0) with
  accessFlags := 1537
  interfaces := #[]
  cf := some (fileOf pool4 2 #[] #[] 1537 4 #[] #[])
  fields := #[]
  methods := #[]
  instanceTypes := #[]
  staticTypes := #[]
  resolved := Array.replicate 8 none
  statics := none }

def pool5 : Array CpInfo := pool [(1, u "java/io/Serializable"), (0, .class_ 1), (0, u "java/lang/Object"), (0, .class_ 3)] 3

/-- java/io/Serializable -/
def k5 : Class := { plain "java/io/Serializable" (some 0) with
  accessFlags := 1537
  interfaces := #[]
  cf := some (fileOf pool5 2 #[] #[] 1537 4 #[] #[])
  fields := #[]
  methods := #[]
  instanceTypes := #[]
  staticTypes := #[]
  resolved := Array.replicate 8 none
  statics := none }

/-- the primitive byte -/
def k6 : Class := { plain "byte" none with kind := .primitive 'B', accessFlags := 0x411 }
/-- [B -/
def k7 : Class := { plain "[B" (some 0) with kind := .array 6 .byte, interfaces := #[4, 5], accessFlags := 1041 }

/-- the primitive int -/
def k8 : Class := { plain "int" none with kind := .primitive 'I', accessFlags := 0x411 }
/-- [I -/
def k9 : Class := { plain "[I" (some 0) with kind := .array 8 .int, interfaces := #[4, 5], accessFlags := 1041 }

/-- the primitive long -/
def k10 : Class := { plain "long" none with kind := .primitive 'J', accessFlags := 0x411 }
/-- [J -/
def k11 : Class := { plain "[J" (some 0) with kind := .array 10 .long, interfaces := #[4, 5], accessFlags := 1041 }

def heap : Heap := #[]
def classes : Array Class := #[k0, k1, k2, k3, k4, k5, k6, k7, k8, k9, k10, k11]
def interned : List (Array UInt16 × Addr) := []
def slotsUsed : Nat := 0
def theMethod : MethodId := ⟨1, 1⟩
def args0 : Array Value := #[.long 5, .long 7, .int 2]
def aboutOver (below : List Frame) : State where
  vm := { classes := classes, interned := interned.toArray }
  heap := heap
  slotsUsed := slotsUsed
  threads := #[{ frames := .invoking theMethod args0 :: below }]
def below0 : List Frame := [.native { method := ⟨0, 0⟩, args := #[] }]
def about1 : State := aboutOver below0
def p0 : Program := .bare "" "" ""
def e0 : Env := launch0.env 0 0 0
theorem w_frames : about1.frames = Frame.invoking theMethod args0 :: below0 := rfl
set_option maxRecDepth 65536 in
theorem w_args : argsFit about1.vm theMethod args0 = true := by decide +kernel
set_option maxRecDepth 65536 in
theorem w_heap : heapFits about1 = true := by decide +kernel
set_option maxRecDepth 65536 in
theorem w_runnable : about1.curStatus? = some .runnable := by decide +kernel
set_option maxRecDepth 65536 in
theorem w_alone : about1.alone = true := by decide +kernel
set_option maxRecDepth 65536 in
theorem w_named : about1.methodNamed? x = some theMethod := by decide +kernel
set_option maxRecDepth 65536 in
theorem w_hears : about1.hears theMethod below0 = true := by decide +kernel
set_option maxRecDepth 65536 in
theorem w_ripe : about1.ripe theMethod args0 below0 = true := by decide +kernel
theorem w_running : about1.status = .running := rfl
set_option maxRecDepth 65536 in
theorem w_room : about1.hasRoom e0.platform room_1 = true :=
  launch0.hasRoom_least _ room_1 (by decide +kernel) (by decide +kernel) (by decide +kernel) (by decide +kernel) (by decide +kernel) (by decide +kernel)
theorem allAtoms_all (ts : List Jvm.Cond) (a : Array Jvm.Value) (st : Jvm.State) : (allAtoms ts).before a st = ts.all (fun c => c.before a st) := by
  induction ts with
  | nil => rfl
  | cons c t ih =>
    show (Jvm.Cond.and c (allAtoms t)).before a st = _
    rw [Jvm.Cond.before_and, ih, List.all_cons]
def words1 : List Jvm.Cond := Jvm.Cond.code x code maxLocals ret :: tables_1
/-- a 'code' word, met by the world's own term for the bytes: nothing is compared byte by byte -/
theorem code_word {y : MethodName} {bytes : ByteArray} {mx : Nat} {rt : Option FieldType} {a : Array Value} {s : State} {m : MethodId} {meth : Method} {c : Code} (h1 : s.methodNamed? y = some m) (h2 : s.vm.method? m = some meth) (h3 : meth.code = some c) (h4 : c.code = bytes)
    (h5 : (c.maxLocals == mx && c.exceptionTable.isEmpty && decide (c.maxStack ≤ mostOperands) && decide (meth.sig.returnType = rt) && !meth.locks && decide (parseMethodDescriptor y.desc = some meth.sig)) = true) : (Jvm.Cond.code y bytes mx rt).before a s = true := by
  simp only [Bool.and_eq_true, beq_iff_eq, Bool.not_eq_true', decide_eq_true_eq] at h5
  obtain ⟨⟨⟨⟨⟨g1, g2⟩, g3⟩, g4⟩, g5⟩, g6⟩ := h5
  simp [Cond.before, Cond.holds, Cond.value, h1, h2, h3, h4, g1, g2, g3, g4, g5, g6]
def isCode : Jvm.Cond → Bool
  | .code _ _ _ _ => true
  | _ => false
theorem all_split {L : List Jvm.Cond} {P : Jvm.Cond → Bool} (h1 : L.all (fun c => isCode c || P c) = true) (h2 : ∀ c ∈ L.filter isCode, P c = true) : L.all P = true := by
  refine List.all_eq_true.mpr fun c hc => ?_
  have h := List.all_eq_true.mp h1 c hc
  rcases Bool.eq_false_or_eq_true (isCode c) with hi | hi
  · exact h2 c (List.mem_filter.mpr ⟨hc, hi⟩)
  · simpa [hi] using h
set_option maxRecDepth 65536 in
theorem w_c0 : (Jvm.Cond.code x code maxLocals ret).before args0 about1 = true := code_word (m := ⟨1, 1⟩) (meth := k1m1) (c := k1c1) (by decide +kernel) rfl rfl rfl (by decide +kernel)
set_option maxRecDepth 65536 in
theorem w_c1 : (Jvm.Cond.code ({ cls := "com/example/accord_scheduler/accordscheduler/MomentTree", name := "<init>", desc := "([J)V" } : Jvm.MethodName) prog_44_method_1_code (3 : Nat) (Option.none : Option Jvm.ClassFile.FieldType)).before args0 about1 = true := code_word (m := ⟨3, 0⟩) (meth := k3m0) (c := k3c0) (by decide +kernel) rfl rfl rfl (by decide +kernel)
set_option maxRecDepth 65536 in
theorem w_c2 : (Jvm.Cond.code ({ cls := "com/example/accord_scheduler/accordscheduler/Treap", name := "<init>", desc := "(I)V" } : Jvm.MethodName) prog_94_method_1_code (2 : Nat) (Option.none : Option Jvm.ClassFile.FieldType)).before args0 about1 = true := code_word (m := ⟨2, 0⟩) (meth := k2m0) (c := k2c0) (by decide +kernel) rfl rfl rfl (by decide +kernel)
set_option maxRecDepth 65536 in
theorem w_c3 : (Jvm.Cond.code ({ cls := "java/lang/Object", name := "<init>", desc := "()V" } : Jvm.MethodName) object_method_1_code (1 : Nat) (Option.none : Option Jvm.ClassFile.FieldType)).before args0 about1 = true := code_word (m := ⟨0, 0⟩) (meth := k0m0) (c := k0c0) (by decide +kernel) rfl rfl rfl (by decide +kernel)
set_option maxRecDepth 65536 in
theorem w_c4 : (Jvm.Cond.code ({ cls := "com/example/accord_scheduler/accordscheduler/Treap", name := "mix", desc := "(J)J" } : Jvm.MethodName) prog_94_method_13_code (4 : Nat) (Option.some Jvm.ClassFile.FieldType.long)).before args0 about1 = true := code_word (m := ⟨2, 5⟩) (meth := k2m5) (c := k2c5) (by decide +kernel) rfl rfl rfl (by decide +kernel)
set_option maxRecDepth 65536 in
theorem w_c5 : (Jvm.Cond.code ({ cls := "com/example/accord_scheduler/accordscheduler/MomentTree", name := "put", desc := "(IJ)V" } : Jvm.MethodName) prog_44_method_5_code (4 : Nat) (Option.none : Option Jvm.ClassFile.FieldType)).before args0 about1 = true := code_word (m := ⟨3, 1⟩) (meth := k3m1) (c := k3c1) (by decide +kernel) rfl rfl rfl (by decide +kernel)
set_option maxRecDepth 65536 in
theorem w_c6 : (Jvm.Cond.code ({ cls := "com/example/accord_scheduler/accordscheduler/MomentTree", name := "remove", desc := "(I)V" } : Jvm.MethodName) prog_44_method_6_code (2 : Nat) (Option.none : Option Jvm.ClassFile.FieldType)).before args0 about1 = true := code_word (m := ⟨3, 2⟩) (meth := k3m2) (c := k3c2) (by decide +kernel) rfl rfl rfl (by decide +kernel)
set_option maxRecDepth 65536 in
theorem w_c7 : (Jvm.Cond.code ({ cls := "com/example/accord_scheduler/accordscheduler/Treap", name := "insert", desc := "(II)I" } : Jvm.MethodName) prog_94_method_8_code (3 : Nat) (Option.some Jvm.ClassFile.FieldType.int)).before args0 about1 = true := code_word (m := ⟨2, 3⟩) (meth := k2m3) (c := k2c3) (by decide +kernel) rfl rfl rfl (by decide +kernel)
set_option maxRecDepth 65536 in
theorem w_c8 : (Jvm.Cond.code ({ cls := "com/example/accord_scheduler/accordscheduler/Treap", name := "split", desc := "(II)V" } : Jvm.MethodName) prog_94_method_12_code (3 : Nat) (Option.none : Option Jvm.ClassFile.FieldType)).before args0 about1 = true := code_word (m := ⟨2, 4⟩) (meth := k2m4) (c := k2c4) (by decide +kernel) rfl rfl rfl (by decide +kernel)
set_option maxRecDepth 65536 in
theorem w_c9 : (Jvm.Cond.code ({ cls := "com/example/accord_scheduler/accordscheduler/MomentTree", name := "update", desc := "(I)I" } : Jvm.MethodName) prog_44_method_12_code (2 : Nat) (Option.some Jvm.ClassFile.FieldType.int)).before args0 about1 = true := code_word (m := ⟨3, 4⟩) (meth := k3m4) (c := k3c4) (by decide +kernel) rfl rfl rfl (by decide +kernel)
set_option maxRecDepth 65536 in
theorem w_c10 : (Jvm.Cond.code ({ cls := "com/example/accord_scheduler/accordscheduler/MomentTree", name := "size", desc := "(I)I" } : Jvm.MethodName) prog_44_method_14_code (2 : Nat) (Option.some Jvm.ClassFile.FieldType.int)).before args0 about1 = true := code_word (m := ⟨3, 5⟩) (meth := k3m5) (c := k3c5) (by decide +kernel) rfl rfl rfl (by decide +kernel)
set_option maxRecDepth 65536 in
theorem w_c11 : (Jvm.Cond.code ({ cls := "com/example/accord_scheduler/accordscheduler/MomentTree", name := "lengths", desc := "(I)J" } : Jvm.MethodName) prog_44_method_15_code (2 : Nat) (Option.some Jvm.ClassFile.FieldType.long)).before args0 about1 = true := code_word (m := ⟨3, 6⟩) (meth := k3m6) (c := k3c6) (by decide +kernel) rfl rfl rfl (by decide +kernel)
set_option maxRecDepth 65536 in
theorem w_c12 : (Jvm.Cond.code ({ cls := "com/example/accord_scheduler/accordscheduler/MomentTree", name := "before", desc := "(II)Z" } : Jvm.MethodName) prog_44_method_11_code (3 : Nat) (Option.some Jvm.ClassFile.FieldType.boolean)).before args0 about1 = true := code_word (m := ⟨3, 3⟩) (meth := k3m3) (c := k3c3) (by decide +kernel) rfl rfl rfl (by decide +kernel)
def codes1 : List Jvm.Cond := [Jvm.Cond.code x code maxLocals ret, Jvm.Cond.code ({ cls := "com/example/accord_scheduler/accordscheduler/MomentTree", name := "<init>", desc := "([J)V" } : Jvm.MethodName) prog_44_method_1_code (3 : Nat) (Option.none : Option Jvm.ClassFile.FieldType), Jvm.Cond.code ({ cls := "com/example/accord_scheduler/accordscheduler/Treap", name := "<init>", desc := "(I)V" } : Jvm.MethodName) prog_94_method_1_code (2 : Nat) (Option.none : Option Jvm.ClassFile.FieldType), Jvm.Cond.code ({ cls := "java/lang/Object", name := "<init>", desc := "()V" } : Jvm.MethodName) object_method_1_code (1 : Nat) (Option.none : Option Jvm.ClassFile.FieldType), Jvm.Cond.code ({ cls := "com/example/accord_scheduler/accordscheduler/Treap", name := "mix", desc := "(J)J" } : Jvm.MethodName) prog_94_method_13_code (4 : Nat) (Option.some Jvm.ClassFile.FieldType.long), Jvm.Cond.code ({ cls := "com/example/accord_scheduler/accordscheduler/MomentTree", name := "put", desc := "(IJ)V" } : Jvm.MethodName) prog_44_method_5_code (4 : Nat) (Option.none : Option Jvm.ClassFile.FieldType), Jvm.Cond.code ({ cls := "com/example/accord_scheduler/accordscheduler/MomentTree", name := "remove", desc := "(I)V" } : Jvm.MethodName) prog_44_method_6_code (2 : Nat) (Option.none : Option Jvm.ClassFile.FieldType), Jvm.Cond.code ({ cls := "com/example/accord_scheduler/accordscheduler/Treap", name := "insert", desc := "(II)I" } : Jvm.MethodName) prog_94_method_8_code (3 : Nat) (Option.some Jvm.ClassFile.FieldType.int), Jvm.Cond.code ({ cls := "com/example/accord_scheduler/accordscheduler/Treap", name := "split", desc := "(II)V" } : Jvm.MethodName) prog_94_method_12_code (3 : Nat) (Option.none : Option Jvm.ClassFile.FieldType), Jvm.Cond.code ({ cls := "com/example/accord_scheduler/accordscheduler/MomentTree", name := "update", desc := "(I)I" } : Jvm.MethodName) prog_44_method_12_code (2 : Nat) (Option.some Jvm.ClassFile.FieldType.int), Jvm.Cond.code ({ cls := "com/example/accord_scheduler/accordscheduler/MomentTree", name := "size", desc := "(I)I" } : Jvm.MethodName) prog_44_method_14_code (2 : Nat) (Option.some Jvm.ClassFile.FieldType.int), Jvm.Cond.code ({ cls := "com/example/accord_scheduler/accordscheduler/MomentTree", name := "lengths", desc := "(I)J" } : Jvm.MethodName) prog_44_method_15_code (2 : Nat) (Option.some Jvm.ClassFile.FieldType.long), Jvm.Cond.code ({ cls := "com/example/accord_scheduler/accordscheduler/MomentTree", name := "before", desc := "(II)Z" } : Jvm.MethodName) prog_44_method_11_code (3 : Nat) (Option.some Jvm.ClassFile.FieldType.boolean)]
set_option maxRecDepth 65536 in
theorem codes_eq : words1.filter isCode = codes1 := rfl
theorem w_codes : ∀ c ∈ words1.filter isCode, c.before args0 about1 = true := by
  rw [codes_eq]
  intro c hc
  simp only [codes1, List.mem_cons, List.not_mem_nil, or_false] at hc
  rcases hc with rfl | rfl | rfl | rfl | rfl | rfl | rfl | rfl | rfl | rfl | rfl | rfl | rfl
  · exact w_c0
  · exact w_c1
  · exact w_c2
  · exact w_c3
  · exact w_c4
  · exact w_c5
  · exact w_c6
  · exact w_c7
  · exact w_c8
  · exact w_c9
  · exact w_c10
  · exact w_c11
  · exact w_c12
set_option maxRecDepth 65536 in
theorem w_t1 : (words1.take 24).all (fun c => isCode c || c.before args0 about1) = true := by decide +kernel
set_option maxRecDepth 65536 in
theorem w_t2 : ((words1.drop 24).take 24).all (fun c => isCode c || c.before args0 about1) = true := by decide +kernel
set_option maxRecDepth 65536 in
theorem w_t3 : (((words1.drop 24).drop 24).take 24).all (fun c => isCode c || c.before args0 about1) = true := by decide +kernel
set_option maxRecDepth 65536 in
theorem w_t4 : ((((words1.drop 24).drop 24).drop 24).take 24).all (fun c => isCode c || c.before args0 about1) = true := by decide +kernel
set_option maxRecDepth 65536 in
theorem w_t5 : ((((words1.drop 24).drop 24).drop 24).drop 24).all (fun c => isCode c || c.before args0 about1) = true := by decide +kernel
theorem w_tables : (allAtoms (Jvm.Cond.code x code maxLocals ret :: tables_1)).before args0 about1 = true := by
  rw [allAtoms_all]
  show words1.all (fun c => c.before args0 about1) = true
  refine all_split ?_ w_codes
  rw [← List.take_append_drop 24 words1, List.all_append, w_t1, ← List.take_append_drop 24 (words1.drop 24), List.all_append, w_t2, ← List.take_append_drop 24 ((words1.drop 24).drop 24), List.all_append, w_t3, ← List.take_append_drop 24 (((words1.drop 24).drop 24).drop 24), List.all_append, w_t4, w_t5]
  rfl
set_option maxRecDepth 65536 in
theorem w_case : (Jvm.Cond.and given_1 narrow_1).before args0 about1 = true := by decide +kernel
theorem w_applies : (headSpec (Jvm.Cond.code x code maxLocals ret :: tables_1) room_1).applies x e0.platform about1 = true :=
  (Spec.applies_iff w_frames).mpr ⟨w_running, w_runnable, w_alone, w_named, w_hears, w_ripe, w_room, w_tables⟩
theorem atStart : AtStart classFile x code maxLocals ret World_1 tables_1 room_1 Calls_1 rest_1 Pre_1 launch0 p0 e0 about1 theMethod args0 below0 :=
  ⟨lists_1, trivial, launch0.admits_env _ _ _, launch0.least_env, fairChoices_fair.cas, fairChoices_fair.clock, w_frames, w_args, w_heap, w_applies, trivial, trivial, w_case⟩
end start1
theorem witness_1 : WitnessClaimed_1 := ⟨start1.p0, start1.e0, start1.about1, start1.theMethod, start1.args0, start1.below0, start1.atStart⟩
end Jvm.Pilot.@@N@@
