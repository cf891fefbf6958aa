import PyProof.Rows.All
import Wide.All
import OpenK.AllK
import Wide.FinOn
import Lean
import PySem.Challenge.RW_rt0015_01

open PySem PySem.W PyProof.Rows PySem.Calls PySem.Spec
set_option Elab.async false
set_option linter.all false
set_option autoImplicit false
noncomputable section

section
namespace Mine
/-! ## patterns as numbers to the base 3: plain facts -/
noncomputable def tr (m j : Nat) : Nat := m / 3 ^ j % 3
noncomputable def fl (t u : Nat) : Nat := if t = 2 then u else t
noncomputable def fillN (m n : Nat) : Nat := fl (tr m 0) (tr n 0) + 3 * fl (tr m 1) (tr n 1) + 9 * fl (tr m 2) (tr n 2)
noncomputable def bt (k j : Nat) : Nat := k / 2 ^ (2 - j) % 2
noncomputable def gv (m k : Nat) : Nat := 4 * fl (tr m 0) (bt k 0) + 2 * fl (tr m 1) (bt k 1) + fl (tr m 2) (bt k 2)
noncomputable def mt (m k : Nat) : Bool := (List.range 3).all fun j => tr m j == 2 || tr m j == bt k j
noncomputable def cl (m n : Nat) : Bool := (List.range 3).any fun j => tr m j != 2 && tr n j != 2 && tr m j != tr n j
noncomputable def spN (m : Nat) : List Nat := (List.range 8).filter (mt m)
noncomputable def gtN (m : Nat) : List Nat := (List.range 8).map (gv m)

theorem tr_lt (m j : Nat) : tr m j < 3 := Nat.mod_lt _ (by decide)
theorem bt_lt (k j : Nat) : bt k j < 2 := Nat.mod_lt _ (by decide)
theorem fl_lt {t u : Nat} (h : t < 3) (h' : u < 3) : fl t u < 3 := by unfold fl; split <;> assumption
theorem fl_lt2 {t u : Nat} (h : t < 3) (h' : u < 2) : fl t u < 2 := by unfold fl; split <;> omega
theorem fl_assoc (a b c : Nat) : fl (fl a b) c = fl a (fl b c) := by
  unfold fl
  by_cases h : a = 2 <;> simp [h]
theorem tr_sum {a b c : Nat} (ha : a < 3) (hb : b < 3) (hc : c < 3) : tr (a + 3 * b + 9 * c) 0 = a ∧ tr (a + 3 * b + 9 * c) 1 = b ∧ tr (a + 3 * b + 9 * c) 2 = c := by
  simp only [tr, Nat.pow_zero, Nat.pow_one, show 3 ^ 2 = 9 by rfl]
  omega
theorem bt_sum {a b c : Nat} (ha : a < 2) (hb : b < 2) (hc : c < 2) : bt (4 * a + 2 * b + c) 0 = a ∧ bt (4 * a + 2 * b + c) 1 = b ∧ bt (4 * a + 2 * b + c) 2 = c := by
  simp only [bt, show 2 ^ (2 - 0) = 4 by rfl, show 2 ^ (2 - 1) = 2 by rfl, show 2 ^ (2 - 2) = 1 by rfl]
  omega
theorem ext27 {m n : Nat} (hm : m < 27) (hn : n < 27) (h0 : tr m 0 = tr n 0) (h1 : tr m 1 = tr n 1) (h2 : tr m 2 = tr n 2) : m = n := by
  simp only [tr, Nat.pow_zero, Nat.pow_one, show 3 ^ 2 = 9 by rfl] at h0 h1 h2
  omega
theorem tr_fill (m n : Nat) : tr (fillN m n) 0 = fl (tr m 0) (tr n 0) ∧ tr (fillN m n) 1 = fl (tr m 1) (tr n 1) ∧ tr (fillN m n) 2 = fl (tr m 2) (tr n 2) :=
  tr_sum (fl_lt (tr_lt ..) (tr_lt ..)) (fl_lt (tr_lt ..) (tr_lt ..)) (fl_lt (tr_lt ..) (tr_lt ..))
theorem fill_lt (m n : Nat) : fillN m n < 27 := by
  have h0 := fl_lt (tr_lt m 0) (tr_lt n 0); have h1 := fl_lt (tr_lt m 1) (tr_lt n 1); have h2 := fl_lt (tr_lt m 2) (tr_lt n 2)
  unfold fillN; omega
theorem fill_assoc (a b c : Nat) : fillN (fillN a b) c = fillN a (fillN b c) := by
  obtain ⟨h1, h2, h3⟩ := tr_fill a b
  obtain ⟨k1, k2, k3⟩ := tr_fill b c
  unfold fillN at *
  rw [h1, h2, h3, k1, k2, k3, fl_assoc, fl_assoc, fl_assoc]
theorem tr_26 {m : Nat} (hm : m < 27) : m < 26 ↔ ¬ (tr m 0 = 2 ∧ tr m 1 = 2 ∧ tr m 2 = 2) := by
  simp only [tr, Nat.pow_zero, Nat.pow_one, show 3 ^ 2 = 9 by rfl]
  omega
theorem fill_lt26 {m : Nat} (n : Nat) (hm : m < 26) : fillN m n < 26 := by
  rw [tr_26 (fill_lt m n)]
  obtain ⟨h1, h2, h3⟩ := tr_fill m n
  have h := (tr_26 (by omega)).mp hm
  rw [h1, h2, h3]
  unfold fl
  rintro ⟨a, b, c⟩
  refine h ⟨?_, ?_, ?_⟩
  · split at a <;> assumption
  · split at b <;> assumption
  · split at c <;> assumption
theorem fill_26 {n : Nat} (hn : n < 27) : fillN n 26 = n := by
  obtain ⟨h1, h2, h3⟩ := tr_fill n 26
  refine ext27 (fill_lt ..) hn ?_ ?_ ?_
  · rw [h1]; unfold fl; split <;> simp_all [tr]
  · rw [h2]; unfold fl; split <;> simp_all [tr]
  · rw [h3]; unfold fl; split <;> simp_all [tr]
theorem bt_gv (m k : Nat) : bt (gv m k) 0 = fl (tr m 0) (bt k 0) ∧ bt (gv m k) 1 = fl (tr m 1) (bt k 1) ∧ bt (gv m k) 2 = fl (tr m 2) (bt k 2) :=
  bt_sum (fl_lt2 (tr_lt ..) (bt_lt ..)) (fl_lt2 (tr_lt ..) (bt_lt ..)) (fl_lt2 (tr_lt ..) (bt_lt ..))
theorem gv_lt (m k : Nat) : gv m k < 8 := by
  have h0 := fl_lt2 (tr_lt m 0) (bt_lt k 0); have h1 := fl_lt2 (tr_lt m 1) (bt_lt k 1); have h2 := fl_lt2 (tr_lt m 2) (bt_lt k 2)
  unfold gv; omega
theorem gv_gv (m n k : Nat) : gv m (gv n k) = gv (fillN m n) k := by
  obtain ⟨h1, h2, h3⟩ := tr_fill m n
  obtain ⟨k1, k2, k3⟩ := bt_gv n k
  unfold gv at *
  rw [k1, k2, k3, h1, h2, h3, fl_assoc, fl_assoc, fl_assoc]
theorem gtN_gtN (m n : Nat) : (gtN n).map (fun k => gv m k) = gtN (fillN m n) := by
  unfold gtN
  rw [List.map_map]
  exact List.map_congr_left fun k _ => gv_gv m n k
theorem gtN_at {m k : Nat} (h : k < 8) : (gtN m)[k]? = some (gv m k) := by
  unfold gtN
  rw [List.getElem?_map, List.getElem?_range h]; rfl
theorem gtN_26 : gtN 26 = List.range 8 := by decide

/-! ### orders -/
noncomputable def f3 (a b c : Nat) : Nat := fillN (fillN a b) c
noncomputable def fr (a b c : Nat) : Bool := !cl a b && !cl a c && !cl b c
theorem tr_f3 (a b c : Nat) : tr (f3 a b c) 0 = fl (fl (tr a 0) (tr b 0)) (tr c 0) ∧ tr (f3 a b c) 1 = fl (fl (tr a 1) (tr b 1)) (tr c 1) ∧ tr (f3 a b c) 2 = fl (fl (tr a 2) (tr b 2)) (tr c 2) := by
  obtain ⟨h1, h2, h3⟩ := tr_fill (fillN a b) c
  obtain ⟨k1, k2, k3⟩ := tr_fill a b
  unfold f3
  rw [h1, h2, h3, k1, k2, k3]; exact ⟨rfl, rfl, rfl⟩
/-- at one place -/
noncomputable def c1 (x y : Nat) : Bool := x != 2 && y != 2 && x != y
noncomputable def g1 (x y z : Nat) : Nat := fl (fl x y) z
theorem pos_all : ∀ x < 3, ∀ y < 3, ∀ z < 3, ((c1 x y || c1 x z || c1 y z) = false ↔ (g1 x z y = g1 x y z ∧ g1 y x z = g1 x y z ∧ g1 y z x = g1 x y z ∧ g1 z x y = g1 x y z ∧ g1 z y x = g1 x y z)) := by decide
theorem pos_bit : ∀ x < 3, ∀ y < 3, ∀ z < 3, ∀ b < 2, ((x == 2 || x == b) && ((y == 2 || y == b) && (z == 2 || z == b))) = (!(c1 x y || c1 x z || c1 y z) && (g1 x y z == 2 || g1 x y z == b)) := by decide
theorem cl_eq (m n : Nat) : cl m n = (c1 (tr m 0) (tr n 0) || (c1 (tr m 1) (tr n 1) || (c1 (tr m 2) (tr n 2) || false))) := rfl
theorem mt_eq (m k : Nat) : mt m k = ((tr m 0 == 2 || tr m 0 == bt k 0) && ((tr m 1 == 2 || tr m 1 == bt k 1) && ((tr m 2 == 2 || tr m 2 == bt k 2) && true))) := rfl
theorem fr_iff (a b c : Nat) : fr a b c = true ↔ (f3 a c b = f3 a b c ∧ f3 b a c = f3 a b c ∧ f3 b c a = f3 a b c ∧ f3 c a b = f3 a b c ∧ f3 c b a = f3 a b c) := by
  have e : ∀ x y z x' y' z' : Nat, f3 x y z = f3 x' y' z' ↔ (g1 (tr x 0) (tr y 0) (tr z 0) = g1 (tr x' 0) (tr y' 0) (tr z' 0) ∧ g1 (tr x 1) (tr y 1) (tr z 1) = g1 (tr x' 1) (tr y' 1) (tr z' 1) ∧ g1 (tr x 2) (tr y 2) (tr z 2) = g1 (tr x' 2) (tr y' 2) (tr z' 2)) := by
    intro x y z x' y' z'
    obtain ⟨h1, h2, h3⟩ := tr_f3 x y z
    obtain ⟨k1, k2, k3⟩ := tr_f3 x' y' z'
    constructor
    · intro e; rw [e] at h1 h2 h3
      exact ⟨h1.symm.trans k1, h2.symm.trans k2, h3.symm.trans k3⟩
    · rintro ⟨e1, e2, e3⟩
      exact ext27 (fill_lt ..) (fill_lt ..) (h1.trans (e1.trans k1.symm)) (h2.trans (e2.trans k2.symm)) (h3.trans (e3.trans k3.symm))
  have p0 := pos_all (tr a 0) (tr_lt ..) (tr b 0) (tr_lt ..) (tr c 0) (tr_lt ..)
  have p1 := pos_all (tr a 1) (tr_lt ..) (tr b 1) (tr_lt ..) (tr c 1) (tr_lt ..)
  have p2 := pos_all (tr a 2) (tr_lt ..) (tr b 2) (tr_lt ..) (tr c 2) (tr_lt ..)
  have hf : fr a b c = true ↔ ((c1 (tr a 0) (tr b 0) || c1 (tr a 0) (tr c 0) || c1 (tr b 0) (tr c 0)) = false ∧ (c1 (tr a 1) (tr b 1) || c1 (tr a 1) (tr c 1) || c1 (tr b 1) (tr c 1)) = false ∧ (c1 (tr a 2) (tr b 2) || c1 (tr a 2) (tr c 2) || c1 (tr b 2) (tr c 2)) = false) := by
    unfold fr
    rw [cl_eq, cl_eq, cl_eq]
    generalize c1 (tr a 0) (tr b 0) = x1
    generalize c1 (tr a 1) (tr b 1) = x2
    generalize c1 (tr a 2) (tr b 2) = x3
    generalize c1 (tr a 0) (tr c 0) = y1
    generalize c1 (tr a 1) (tr c 1) = y2
    generalize c1 (tr a 2) (tr c 2) = y3
    generalize c1 (tr b 0) (tr c 0) = z1
    generalize c1 (tr b 1) (tr c 1) = z2
    generalize c1 (tr b 2) (tr c 2) = z3
    revert x1 x2 x3 y1 y2 y3 z1 z2 z3
    decide
  rw [hf, p0, p1, p2, e, e, e, e, e]
  constructor
  · rintro ⟨⟨a1, a2, a3, a4, a5⟩, ⟨b1, b2, b3, b4, b5⟩, ⟨c1, c2, c3, c4, c5⟩⟩
    exact ⟨⟨a1, b1, c1⟩, ⟨a2, b2, c2⟩, ⟨a3, b3, c3⟩, ⟨a4, b4, c4⟩, ⟨a5, b5, c5⟩⟩
  · rintro ⟨⟨a1, b1, c1⟩, ⟨a2, b2, c2⟩, ⟨a3, b3, c3⟩, ⟨a4, b4, c4⟩, ⟨a5, b5, c5⟩⟩
    exact ⟨⟨a1, a2, a3, a4, a5⟩, ⟨b1, b2, b3, b4, b5⟩, ⟨c1, c2, c3, c4, c5⟩⟩
theorem mt_all (a b c k : Nat) : (mt a k && (mt b k && mt c k)) = (fr a b c && mt (f3 a b c) k) := by
  have p0 := pos_bit (tr a 0) (tr_lt ..) (tr b 0) (tr_lt ..) (tr c 0) (tr_lt ..) (bt k 0) (bt_lt ..)
  have p1 := pos_bit (tr a 1) (tr_lt ..) (tr b 1) (tr_lt ..) (tr c 1) (tr_lt ..) (bt k 1) (bt_lt ..)
  have p2 := pos_bit (tr a 2) (tr_lt ..) (tr b 2) (tr_lt ..) (tr c 2) (tr_lt ..) (bt k 2) (bt_lt ..)
  obtain ⟨h1, h2, h3⟩ := tr_f3 a b c
  rw [mt_eq, mt_eq, mt_eq, mt_eq, h1, h2, h3]
  unfold fr
  rw [cl_eq, cl_eq, cl_eq]
  unfold g1 at p0 p1 p2
  revert p0 p1 p2
  generalize (tr a 0 == 2 || tr a 0 == bt k 0) = u1
  generalize (tr a 1 == 2 || tr a 1 == bt k 1) = u2
  generalize (tr a 2 == 2 || tr a 2 == bt k 2) = u3
  generalize (tr b 0 == 2 || tr b 0 == bt k 0) = v1
  generalize (tr b 1 == 2 || tr b 1 == bt k 1) = v2
  generalize (tr b 2 == 2 || tr b 2 == bt k 2) = v3
  generalize (tr c 0 == 2 || tr c 0 == bt k 0) = w1
  generalize (tr c 1 == 2 || tr c 1 == bt k 1) = w2
  generalize (tr c 2 == 2 || tr c 2 == bt k 2) = w3
  generalize (fl (fl (tr a 0) (tr b 0)) (tr c 0) == 2 || fl (fl (tr a 0) (tr b 0)) (tr c 0) == bt k 0) = t1
  generalize (fl (fl (tr a 1) (tr b 1)) (tr c 1) == 2 || fl (fl (tr a 1) (tr b 1)) (tr c 1) == bt k 1) = t2
  generalize (fl (fl (tr a 2) (tr b 2)) (tr c 2) == 2 || fl (fl (tr a 2) (tr b 2)) (tr c 2) == bt k 2) = t3
  generalize c1 (tr a 0) (tr b 0) = x1
  generalize c1 (tr a 1) (tr b 1) = x2
  generalize c1 (tr a 2) (tr b 2) = x3
  generalize c1 (tr a 0) (tr c 0) = y1
  generalize c1 (tr a 1) (tr c 1) = y2
  generalize c1 (tr a 2) (tr c 2) = y3
  generalize c1 (tr b 0) (tr c 0) = z1
  generalize c1 (tr b 1) (tr c 1) = z2
  generalize c1 (tr b 2) (tr c 2) = z3
  intro p0 p1 p2
  have e : (u1 && (u2 && (u3 && true)) && (v1 && (v2 && (v3 && true)) && (w1 && (w2 && (w3 && true))))) = ((u1 && (v1 && w1)) && ((u2 && (v2 && w2)) && (u3 && (v3 && w3)))) := by
    clear p0 p1 p2
    revert u1 u2 u3 v1 v2 v3 w1 w2 w3
    decide +kernel
  rw [e, p0, p1, p2]
  clear e p0 p1 p2
  revert x1 x2 x3 y1 y2 y3 z1 z2 z3 t1 t2 t3
  decide +kernel
theorem shared_eq (a b c : Nat) : (spN a).filter (fun k => mt b k && mt c k) = if fr a b c then spN (f3 a b c) else [] := by
  unfold spN
  rw [List.filter_filter]
  have : (fun k => (mt b k && mt c k) && mt a k) = fun k => fr a b c && mt (f3 a b c) k := funext fun k => by rw [← mt_all, Bool.and_comm]
  rw [this]
  cases fr a b c <;> simp
theorem spN_ne : ∀ m < 27, spN m ≠ [] := by decide

/-! ### doubles -/
noncomputable def adN (acc : List Nat) (n : Nat) : List Nat := if n ∈ acc then acc else acc ++ [n]
theorem find_dd {q : Nat → Bool} : ∀ (l acc : List Nat), (l.foldl adN acc).find? q = (acc ++ l).find? q
  | [], acc => by simp
  | x :: l, acc => by
    rw [List.foldl_cons, find_dd l]
    unfold adN
    split
    · rename_i h
      rw [List.find?_append, List.find?_append, List.find?_cons]
      cases hq : acc.find? q with
      | some y => rfl
      | none =>
        have : q x = false := by
          have := List.find?_eq_none.mp hq x h
          simpa using this
        rw [this]
    · simp
noncomputable def pr (p : Nat → Nat) (l : List Nat) : Nat := l.foldr (fun k e => fillN (p k) e) 26
theorem pr_lt (p : Nat → Nat) : ∀ l, pr p l < 27
  | [] => by show 26 < 27; decide
  | _ :: _ => fill_lt ..
noncomputable def fst2 (p : Nat → Nat) (j : Nat) (l : List Nat) : Nat := ((l.find? fun k => tr (p k) j != 2).map fun k => tr (p k) j).getD 2
theorem fst2_cons (p : Nat → Nat) (j k : Nat) (l : List Nat) : fst2 p j (k :: l) = fl (tr (p k) j) (fst2 p j l) := by
  unfold fst2 fl
  rw [List.find?_cons]
  by_cases h : tr (p k) j = 2
  · simp [h]
  · have : (tr (p k) j != 2) = true := by simp [h]
    rw [this]; simp [h]
theorem tr_pr (p : Nat → Nat) : ∀ l, tr (pr p l) 0 = fst2 p 0 l ∧ tr (pr p l) 1 = fst2 p 1 l ∧ tr (pr p l) 2 = fst2 p 2 l
  | [] => by
    have e : ∀ j, fst2 p j [] = 2 := fun _ => rfl
    rw [e, e, e]
    show tr 26 0 = 2 ∧ tr 26 1 = 2 ∧ tr 26 2 = 2
    decide
  | k :: l => by
    obtain ⟨i1, i2, i3⟩ := tr_pr p l
    obtain ⟨h1, h2, h3⟩ := tr_fill (p k) (pr p l)
    rw [fst2_cons, fst2_cons, fst2_cons, ← i1, ← i2, ← i3]
    exact ⟨h1, h2, h3⟩
theorem pr_dd (p : Nat → Nat) (l : List Nat) : pr p (l.foldl adN []) = pr p l := by
  obtain ⟨i1, i2, i3⟩ := tr_pr p l
  obtain ⟨k1, k2, k3⟩ := tr_pr p (l.foldl adN [])
  have e : ∀ j, fst2 p j (l.foldl adN []) = fst2 p j l := fun j => by unfold fst2; rw [find_dd]; rfl
  refine ext27 (pr_lt ..) (pr_lt ..) ?_ ?_ ?_
  · rw [i1, k1, e]
  · rw [i2, k2, e]
  · rw [i3, k3, e]
end Mine
end

section
namespace Mine

/-! ## Pure values, what stands for them on a heap -/

inductive PV where
  | none | bool (b : Bool) | int (i : Int) | str (s : List Nat)
  | list (xs : List PV) | tup (xs : List PV) | keys (xs : List Int) | obj

noncomputable abbrev St8 (s : List Nat) : Str := ⟨s.toArray⟩

noncomputable def IsObj (h : Heap) (a : Addr) : Prop := ∃ o, h.get? a = some o ∧ o.cls = .type "object" ∧ o.data = .plain
noncomputable def IsKeys (h : Heap) (a : Addr) (xs : List Int) : Prop := (∃ o, h.get? a = some o ∧ ∃ es ep, o.data = .dict es ep) ∧ (a == sysModules) = false ∧ ∀ (prog : Program) (w : World), ∃ kvs ep, Heap.DictAt (intKind prog w) h a kvs ep ∧ kvs.map (·.1) = xs

noncomputable def Lst (h : Heap) (a : Addr) (items : Array Value) : Prop := h.IsList a items ∧ ∃ o, h.get? a = some o ∧ o.dict = none

mutual
inductive Rep (F : List Addr) (h : Heap) : Value → PV → Prop
  | none : Rep F h .none .none
  | bool (b : Bool) : Rep F h (.bool b) (.bool b)
  | int (i : Int) (t : Tok) : Rep F h (.int i t) (.int i)
  | str (s : List Nat) (t : Tok) : Rep F h (.str (St8 s) t) (.str s)
  | list {a : Addr} {vs : List Value} {xs : List PV} : Lst h a vs.toArray → a ∉ F → Reps F h vs xs → Rep F h (.ref a) (.list xs)
  | tup {a : Addr} {vs : List Value} {xs : List PV} : h.IsTuple a vs.toArray → a ∉ F → Reps F h vs xs → Rep F h (.ref a) (.tup xs)
  | keys {a : Addr} {xs : List Int} : IsKeys h a xs → a ∉ F → Rep F h (.ref a) (.keys xs)
  | obj {a : Addr} : IsObj h a → a ∉ F → Rep F h (.ref a) .obj
inductive Reps (F : List Addr) (h : Heap) : List Value → List PV → Prop
  | nil : Reps F h [] []
  | cons {v : Value} {p : PV} {vs : List Value} {xs : List PV} : Rep F h v p → Reps F h vs xs → Reps F h (v :: vs) (p :: xs)
end

theorem IsKeys.at {h h' : Heap} {a : Addr} {xs : List Int} (x : IsKeys h a xs) (e : ∀ o, h.get? a = some o → h'.get? a = some o) : IsKeys h' a xs :=
  ⟨let ⟨o, ho, r⟩ := x.1; ⟨o, e o ho, r⟩, x.2.1, fun prog w => let ⟨kvs, ep, ⟨o, es, ho, r⟩, q⟩ := x.2.2 prog w; ⟨kvs, ep, ⟨o, es, e o ho, r⟩, q⟩⟩
theorem IsTuple.at {h h' : Heap} {a : Addr} {xs} (x : h.IsTuple a xs) (e : ∀ o, h.get? a = some o → h'.get? a = some o) : h'.IsTuple a xs :=
  let ⟨o, ho, r⟩ := x; ⟨o, e o ho, r⟩
theorem IsObj.at {h h' : Heap} {a : Addr} (x : IsObj h a) (e : ∀ o, h.get? a = some o → h'.get? a = some o) : IsObj h' a :=
  let ⟨o, ho, r⟩ := x; ⟨o, e o ho, r⟩
theorem IsObj.lt {h : Heap} {a : Addr} (x : IsObj h a) : a < h.objs.size := let ⟨_, ho, _⟩ := x; Heap.lt_size ho
theorem IsTuple.lt {h : Heap} {a : Addr} {xs} (x : h.IsTuple a xs) : a < h.objs.size := let ⟨_, ho, _⟩ := x; Heap.lt_size ho
theorem Lst.at {h h' : Heap} {a : Addr} {xs} (x : Lst h a xs) (e : ∀ o, h.get? a = some o → h'.get? a = some o) : Lst h' a xs :=
  ⟨let ⟨o, ho, r⟩ := x.1; ⟨o, e o ho, r⟩, let ⟨o, ho, r⟩ := x.2; ⟨o, e o ho, r⟩⟩
theorem Lst.lt {h : Heap} {a : Addr} {xs} (x : Lst h a xs) : a < h.objs.size := let ⟨_, ho, _⟩ := x.1; Heap.lt_size ho
theorem Lst.noDict {s : Shared} {l : Addr} {xs} (x : Lst s.heap l xs) : ∀ a, Value.ref l = .ref a → ∃ ob, s.heap.get? a = some ob ∧ ob.dict = none := fun a e => by cases e; exact x.2
theorem Lst.of {h : Heap} {a : Addr} {xs : Array Value} {n : Nat} {sl} (e : h.get? a = some { cls := .type "list", dict := none, data := .seq xs n, slots := sl }) : Lst h a xs := ⟨⟨_, e, rfl, _, rfl⟩, ⟨_, e, rfl⟩⟩
theorem IsKeys.lt {h : Heap} {a : Addr} {xs} (x : IsKeys h a xs) : a < h.objs.size := let ⟨_, ho, _⟩ := x.1; Heap.lt_size ho

section
variable {F F' : List Addr} {h h' : Heap}

theorem Lst.atN {h h' : Heap} {a : Addr} {xs} (x : Lst h a xs) (e : ∀ o, (∀ vs, o.data ≠ .fields vs) → h.get? a = some o → h'.get? a = some o) : Lst h' a xs := by
  obtain ⟨⟨o, ho, hc, n, hd⟩, o', ho', hn⟩ := x
  rw [ho] at ho'; cases ho'
  have := e o (fun vs q => by rw [hd] at q; cases q) ho
  exact ⟨⟨o, this, hc, n, hd⟩, o, this, hn⟩
theorem IsTuple.atN {h h' : Heap} {a : Addr} {xs} (x : h.IsTuple a xs) (e : ∀ o, (∀ vs, o.data ≠ .fields vs) → h.get? a = some o → h'.get? a = some o) : h'.IsTuple a xs :=
  let ⟨o, ho, hc, n, hd⟩ := x; ⟨o, e o (fun vs q => by rw [hd] at q; cases q) ho, hc, n, hd⟩
theorem IsKeys.atN {h h' : Heap} {a : Addr} {xs} (x : IsKeys h a xs) (e : ∀ o, (∀ vs, o.data ≠ .fields vs) → h.get? a = some o → h'.get? a = some o) : IsKeys h' a xs := by
  refine x.at fun o ho => e o (fun vs q => ?_) ho
  obtain ⟨o', ho', ⟨es, ep, hd⟩⟩ := x.1
  rw [ho] at ho'; cases ho'
  rw [hd] at q; cases q
theorem IsObj.atN {h h' : Heap} {a : Addr} (x : IsObj h a) (e : ∀ o, (∀ vs, o.data ≠ .fields vs) → h.get? a = some o → h'.get? a = some o) : IsObj h' a :=
  let ⟨o, ho, hc, hd⟩ := x; ⟨o, e o (fun vs q => by rw [hd] at q; cases q) ho, hc, hd⟩

/-- what a value stands on stays, so it stands for the same -/
theorem rep_mono (hk : ∀ b o, b ∉ F → (∀ vs, o.data ≠ .fields vs) → h.get? b = some o → h'.get? b = some o) :
    (∀ {v p}, Rep F h v p → Rep F h' v p) ∧ (∀ {vs xs}, Reps F h vs xs → Reps F h' vs xs) := by
  constructor
  · intro v p r
    induction r using Rep.rec (motive_2 := fun vs xs _ => Reps F h' vs xs) with
    | none => exact .none
    | bool b => exact .bool b
    | int i t => exact .int i t
    | str s t => exact .str s t
    | list hl hn _ ih => exact .list (hl.atN fun o d e => hk _ o hn d e) hn ih
    | tup hl hn _ ih => exact .tup (IsTuple.atN hl fun o d e => hk _ o hn d e) hn ih
    | keys hl hn => exact .keys (IsKeys.atN hl fun o d e => hk _ o hn d e) hn
    | obj hl hn => exact .obj (IsObj.atN hl fun o d e => hk _ o hn d e) hn
    | nil => exact .nil
    | cons _ _ ih1 ih2 => exact .cons ih1 ih2
  · intro v p r
    induction r using Reps.rec (motive_1 := fun v p _ => Rep F h' v p) with
    | none => exact .none
    | bool b => exact .bool b
    | int i t => exact .int i t
    | str s t => exact .str s t
    | list hl hn _ ih => exact .list (hl.atN fun o d e => hk _ o hn d e) hn ih
    | tup hl hn _ ih => exact .tup (IsTuple.atN hl fun o d e => hk _ o hn d e) hn ih
    | keys hl hn => exact .keys (IsKeys.atN hl fun o d e => hk _ o hn d e) hn
    | obj hl hn => exact .obj (IsObj.atN hl fun o d e => hk _ o hn d e) hn
    | nil => exact .nil
    | cons _ _ ih1 ih2 => exact .cons ih1 ih2
/-- the touchable addresses may be others, as long as none of the value's is among them -/
theorem rep_sub (hk : ∀ b, b ∉ F → b < h.objs.size → b ∉ F') :
    (∀ {v p}, Rep F h v p → Rep F' h v p) ∧ (∀ {vs xs}, Reps F h vs xs → Reps F' h vs xs) := by
  constructor
  · intro v p r
    induction r using Rep.rec (motive_2 := fun vs xs _ => Reps F' h vs xs) with
    | none => exact .none
    | bool b => exact .bool b
    | int i t => exact .int i t
    | str s t => exact .str s t
    | list hl hn _ ih => exact .list hl (hk _ hn (Lst.lt hl)) ih
    | tup hl hn _ ih => exact .tup hl (hk _ hn (IsTuple.lt hl)) ih
    | keys hl hn => exact .keys hl (hk _ hn hl.lt)
    | obj hl hn => exact .obj hl (hk _ hn hl.lt)
    | nil => exact .nil
    | cons _ _ ih1 ih2 => exact .cons ih1 ih2
  · intro v p r
    induction r using Reps.rec (motive_1 := fun v p _ => Rep F' h v p) with
    | none => exact .none
    | bool b => exact .bool b
    | int i t => exact .int i t
    | str s t => exact .str s t
    | list hl hn _ ih => exact .list hl (hk _ hn (Lst.lt hl)) ih
    | tup hl hn _ ih => exact .tup hl (hk _ hn (IsTuple.lt hl)) ih
    | keys hl hn => exact .keys hl (hk _ hn hl.lt)
    | obj hl hn => exact .obj hl (hk _ hn hl.lt)
    | nil => exact .nil
    | cons _ _ ih1 ih2 => exact .cons ih1 ih2

theorem Rep.mono {v p} (r : Rep F h v p) (hk : ∀ b o, b ∉ F → h.get? b = some o → h'.get? b = some o) : Rep F h' v p := (rep_mono fun b o hb _ e => hk b o hb e).1 r
theorem Reps.mono {v p} (r : Reps F h v p) (hk : ∀ b o, b ∉ F → h.get? b = some o → h'.get? b = some o) : Reps F h' v p := (rep_mono fun b o hb _ e => hk b o hb e).2 r
theorem Rep.sub {v p} (r : Rep F h v p) (hk : ∀ b, b ∉ F → b < h.objs.size → b ∉ F') : Rep F' h v p := (rep_sub hk).1 r
theorem Reps.sub {v p} (r : Reps F h v p) (hk : ∀ b, b ∉ F → b < h.objs.size → b ∉ F') : Reps F' h v p := (rep_sub hk).2 r
theorem Reps.length {vs xs} (r : Reps F h vs xs) : vs.length = xs.length := by
  induction r using Reps.rec (motive_1 := fun _ _ _ => True) <;> simp_all
theorem Reps.get {vs : List Value} {xs : List PV} (r : Reps F h vs xs) : ∀ {i : Nat} {p : PV}, xs[i]? = some p → ∃ v, vs[i]? = some v ∧ Rep F h v p := by
  induction r using Reps.rec (motive_1 := fun _ _ _ => True) with
  | nil => intro i p e; simp at e
  | cons hv _ _ ih =>
    intro i p e
    cases i with
    | zero => simp at e; subst e; exact ⟨_, rfl, hv⟩
    | succ i => simp at e; obtain ⟨v, h1, h2⟩ := ih e; exact ⟨v, by simpa using h1, h2⟩
  | _ => trivial
theorem Reps.get' {vs : List Value} {xs : List PV} (r : Reps F h vs xs) : ∀ {i : Nat} {v : Value}, vs[i]? = some v → ∃ p, xs[i]? = some p ∧ Rep F h v p := by
  induction r using Reps.rec (motive_1 := fun _ _ _ => True) with
  | nil => intro i p e; simp at e
  | cons hv _ _ ih =>
    intro i p e
    cases i with
    | zero => simp at e; subst e; exact ⟨_, rfl, hv⟩
    | succ i => simp at e; obtain ⟨v, h1, h2⟩ := ih e; exact ⟨v, by simpa using h1, h2⟩
  | _ => trivial
theorem Reps.append {vs ws : List Value} {xs ys : List PV} (r : Reps F h vs xs) (q : Reps F h ws ys) : Reps F h (vs ++ ws) (xs ++ ys) := by
  induction r using Reps.rec (motive_1 := fun _ _ _ => True) with
  | nil => exact q
  | cons hv _ _ ih => exact .cons hv ih
  | _ => trivial
theorem Reps.snoc {vs : List Value} {xs : List PV} {v p} (r : Reps F h vs xs) (q : Rep F h v p) : Reps F h (vs ++ [v]) (xs ++ [p]) := r.append (.cons q .nil)
theorem Reps.drop {vs : List Value} {xs : List PV} (r : Reps F h vs xs) : ∀ n, Reps F h (vs.drop n) (xs.drop n) := by
  induction r using Reps.rec (motive_1 := fun _ _ _ => True) with
  | nil => intro n; simp; exact .nil
  | cons hv hr _ ih =>
    intro n
    cases n with
    | zero => exact .cons hv hr
    | succ n => simpa using ih n
  | _ => trivial
theorem Reps.take {vs : List Value} {xs : List PV} (r : Reps F h vs xs) : ∀ n, Reps F h (vs.take n) (xs.take n) := by
  induction r using Reps.rec (motive_1 := fun _ _ _ => True) with
  | nil => intro n; simp; exact .nil
  | cons hv hr _ ih =>
    intro n
    cases n with
    | zero => exact .nil
    | succ n => simpa using Reps.cons hv (ih n)
  | _ => trivial
end

/-! ## A frame: where a name's value lies -/

inductive Slot where
  | unb | val (p : PV) | own (xs : List PV) | app (i : Nat)

noncomputable def Ld (env : Env) (h : Heap) (x : Str) (v : Value) : Prop :=
  (env.kindOf x = some .local ∧ ∃ m, h.Ns env.locals m ∧ m x = some v) ∨
  ((env.kindOf x = some .cell ∨ env.kindOf x = some .free) ∧ ∃ c, env.cells.lookup x = some c ∧ h.IsCell c (some v))

/-- same up to the slots of frames -/
noncomputable def UpS (h h' : Heap) : Prop := ∀ b o, h.get? b = some o → ∃ sl, h'.get? b = some { o with slots := sl }
theorem UpS.refl (h : Heap) : UpS h h := fun _ o e => ⟨o.slots, e⟩
theorem UpS.trans {h₁ h₂ h₃ : Heap} (x : UpS h₁ h₂) (y : UpS h₂ h₃) : UpS h₁ h₃ := fun b o e => let ⟨_, e₁⟩ := x b o e; let ⟨sl, e₂⟩ := y b _ e₁; ⟨sl, e₂⟩
theorem UpS.of_keeps {h h' : Heap} (k : ∀ b o, h.get? b = some o → h'.get? b = some o) : UpS h h' := fun b o e => ⟨o.slots, k b o e⟩
theorem UpS.ns {h h' : Heap} {a m} (x : UpS h h') (hn : h.Ns a m) : h'.Ns a m := by
  obtain ⟨o, es, ep, ho, hd, r⟩ := hn
  obtain ⟨sl, hs⟩ := x a o ho
  exact ⟨_, es, ep, hs, hd, r⟩
theorem UpS.cell {h h' : Heap} {c v} (x : UpS h h') (hn : h.IsCell c v) : h'.IsCell c v := by
  obtain ⟨o, ho, hd⟩ := hn
  obtain ⟨sl, hs⟩ := x c o ho
  exact ⟨_, hs, hd⟩
theorem UpS.list {h h' : Heap} {a xs} (x : UpS h h') (hn : Lst h a xs) : Lst h' a xs := by
  obtain ⟨⟨o, ho, r⟩, o', ho', r'⟩ := hn
  rw [ho] at ho'; cases ho'
  obtain ⟨sl, hs⟩ := x a o ho
  exact ⟨⟨_, hs, r⟩, _, hs, r'⟩
theorem UpS.ld {h h' : Heap} {env x v} (u : UpS h h') (l : Ld env h x v) : Ld env h' x v := by
  rcases l with ⟨hk, m, hn, hm⟩ | ⟨hk, c, hc, hv⟩
  · exact .inl ⟨hk, m, u.ns hn, hm⟩
  · exact .inr ⟨hk, c, hc, u.cell hv⟩
theorem UpS.funFrames {h h' base : Heap} {l : List Env} (u : UpS h h') (f : h.FunFrames base l) : h'.FunFrames base l :=
  f.of_keeps fun b o e _ => let ⟨sl, e'⟩ := u b o e; ⟨_, e', rfl⟩

/-- what is fixed of a frame: the names with a place, the names of the module, is it within a handler -/
structure Sc where
  vars : List Str
  globs : List Str
  cells : List Str := []
  sto : List Str := []
  lv : Nat := 0
  hot : Bool := false
  rz : Bool := false
  app : Bool := false

/-- where the walk stands -/
structure Cfg where
  g : Heap
  mg : Str → Option Value
  mb : Str → Option Value
  base : Heap
  A : Around
  fenv : Env
  outer : List Env
  env : Env
  F : List Addr

noncomputable abbrev Cfg.fr (c : Cfg) : List Addr := (c.fenv :: c.outer).filterMap (·.frame)
noncomputable abbrev Cfg.ofr (c : Cfg) : List Addr := c.outer.filterMap (·.frame)

noncomputable def defsOf (p : Program) : List DefRec := p.main.body.filterMap fun
  | .FunctionDef name params body _ _ _ scope _ _ pos => some ⟨name, params, body, scope, pos⟩
  | _ => none
noncomputable def allDefs : List DefRec := defsOf PySem.Challenge.pw_rt0015_01
noncomputable def bNames : List Str := ["abs", "sum", "range", "len", "min", "list", "isinstance", "str", "object", "dict", "IndexError", "ValueError", "TypeError"]
/-- the module's name d.name holds d's function -/
noncomputable def FnAt (g : Heap) (mg : Str → Option Value) (d : DefRec) : Prop :=
  ∃ a o dV kV doc pm an cdv ct, mg d.name = some (.ref a) ∧ g.get? a = some o ∧ o.data = .func (fnOf d.name d.name d.params d.body d.scope dV kV doc pm an cdv ct) ∧ g.CodeRec cdv d.name ∧ dV = .none ∧
    (d.params.kwonlyargs = [] ∧ kV = .none ∨ ∃ k, kV = .ref k ∧ ∃ mk, g.Ns k mk ∧ mk "unhashable_fallback" = some (.bool false))

structure Glo (g : Heap) (mg mb : Str → Option Value) : Prop where
  ng : g.Ns mainGlobals mg
  nb : g.Ns builtinsNs mb
  nolimit : g.NoLimit
  nodigits : ∃ mc, g.Ns cStatics mc ∧ mc "sys.int_max_str_digits" = none
  blt : ∀ x : Str, x ≠ "__name__" → mb x = bootBuiltins x
  free : ∀ x ∈ bNames, mg x = none
  defs : ∀ d ∈ allDefs, FnAt g mg d
  spec : ∃ d : Addr, mg "_special_chars_map" = some (.ref d) ∧ (d == sysModules) = false ∧ ∀ (prog : Program) (w : World), ∃ f, Heap.MapOf (intKind prog w) g d f ∧ f 97 = none ∧ f 98 = none

/-- the value v of heap h stands for what the slot says -/
noncomputable def SlotOk (env : Env) (F : List Addr) (h : Heap) (x : Str) : Slot → Prop
  | .val p => ∃ v, Ld env h x v ∧ Rep F h v p
  | .own xs => ∃ a vs, Ld env h x (.ref a) ∧ Lst h a vs.toArray ∧ Reps F h vs xs
  | _ => True

structure St (c : Cfg) (sc : Sc) (ρ : List Slot) (h : Heap) : Prop where
  kind : c.env.scope.kind = .function
  glob : ∀ x ∈ sc.globs, c.env.kindOf x = some .globalImplicit
  glo : c.env.globals = mainGlobals
  blt : c.env.builtins = builtinsNs
  hand : sc.hot = false → c.A.handled = none
  hotk : sc.hot = true → sc.rz = true → ∃ a oe vs, c.A.handled = some (.ref a) ∧ c.base.get? a = some oe ∧ oe.data = .fields vs ∧ vs[2]? = some .none
  room : c.A.depth + sc.lv < 990
  units : c.A.units + 10 * sc.lv < 9000
  frames : c.A.frames = some (c.fenv :: c.outer)
  ff : h.FunFrames c.base (c.fenv :: c.outer)
  frF : ∀ a ∈ c.fr, a ∈ c.F
  liveF : ∀ a ∈ c.F, ∃ o, h.get? a = some o
  celb : ∀ y a, c.env.cells.lookup y = some a → c.base.get? a = none
  G : Glo c.g c.mg c.mb
  gb : c.g.StaysIn c.base
  stays : c.base.StaysIn h
  cel : ∀ y a, c.env.cells.lookup y = some a → a ∈ c.F ∧ a ∉ c.fr ∧ ∃ v, h.IsCell a v
  capart : ∀ x y a, c.env.cells.lookup x = some a → c.env.cells.lookup y = some a → x = y
  cells : ∀ x ∈ sc.cells, (c.env.kindOf x = some .cell ∨ c.env.kindOf x = some .free) ∧ ∃ a, c.env.cells.lookup x = some a
  stok : ∀ x ∈ sc.sto, c.env.kindOf x = some .local ∨ (c.env.kindOf x = some .cell ∧ x ∈ sc.cells)
  vars : ∀ i x, sc.vars[i]? = some x → SlotOk c.env c.F h x (ρ.getD i .unb)

/-- an expression's way: the heap grows; at most the frames' slots turn -/
noncomputable def Kp (c : Cfg) (s s' : Shared) : Prop :=
  ∃ h' tk, s' = { s with heap := h', toks := tk } ∧ (∀ b o, b ∉ c.fr → s.heap.get? b = some o → h'.get? b = some o) ∧ UpS s.heap h'

theorem Kp.refl (c : Cfg) (s : Shared) : Kp c s s := ⟨s.heap, s.toks, rfl, fun _ _ _ e => e, .refl _⟩
theorem Kp.trans {c : Cfg} {s₁ s₂ s₃ : Shared} (x : Kp c s₁ s₂) (y : Kp c s₂ s₃) : Kp c s₁ s₃ := by
  obtain ⟨h₂, t₂, rfl, k₂, u₂⟩ := x
  obtain ⟨h₃, t₃, rfl, k₃, u₃⟩ := y
  exact ⟨h₃, t₃, rfl, fun b o hb e => k₃ b o hb (k₂ b o hb e), u₂.trans u₃⟩
theorem Kp.tok (c : Cfg) (s : Shared) (t : Nat) : Kp c s { s with toks := t } := ⟨s.heap, t, rfl, fun _ _ _ e => e, .refl _⟩
theorem Kp.keeps {c : Cfg} {s : Shared} {h' : Heap} {tk : Nat} (k : ∀ b o, s.heap.get? b = some o → h'.get? b = some o) : Kp c s { s with heap := h', toks := tk } :=
  ⟨h', tk, rfl, fun b o _ e => k b o e, .of_keeps k⟩
theorem Kp.up {c : Cfg} {s s' : Shared} (x : Kp c s s') : UpS s.heap s'.heap := by obtain ⟨_, _, rfl, _, u⟩ := x; exact u
theorem Kp.keep {c : Cfg} {s s' : Shared} (x : Kp c s s') {b : Addr} {o : Obj} (hb : b ∉ c.fr) (e : s.heap.get? b = some o) : s'.heap.get? b = some o := by
  obtain ⟨_, _, rfl, k, _⟩ := x; exact k b o hb e

section
variable {c : Cfg} {sc : Sc} {ρ : List Slot} {h h' : Heap} {s s' : Shared}

theorem St.frameFresh (S : St c sc ρ h) {b : Addr} {o : Obj} (e : c.base.get? b = some o) : b ∉ c.fr := fun hm => by
  have := (S.ff.mem hm).1; rw [this] at e; cases e
theorem Rep.kp {v p} (S : ∀ a ∈ c.fr, a ∈ c.F) (r : Rep c.F s.heap v p) (k : Kp c s s') : Rep c.F s'.heap v p := r.mono fun _ _ hb e => k.keep (fun hm => hb (S _ hm)) e
theorem Reps.kp {v p} (S : ∀ a ∈ c.fr, a ∈ c.F) (r : Reps c.F s.heap v p) (k : Kp c s s') : Reps c.F s'.heap v p := r.mono fun _ _ hb e => k.keep (fun hm => hb (S _ hm)) e
theorem St.kp (S : St c sc ρ s.heap) (k : Kp c s s') : St c sc ρ s'.heap where
  kind := S.kind
  glob := S.glob
  glo := S.glo
  blt := S.blt
  hand := S.hand
  hotk := S.hotk
  room := S.room
  units := S.units
  frames := S.frames
  ff := k.up.funFrames S.ff
  frF := S.frF
  liveF := fun a ha => let ⟨o, ho⟩ := S.liveF a ha; let ⟨_, e⟩ := k.up a o ho; ⟨_, e⟩
  celb := S.celb
  G := S.G
  gb := S.gb
  stays := fun b o e => k.keep (S.frameFresh e) (S.stays b o e)
  cel := fun y a e => let ⟨h1, h2, v, h3⟩ := S.cel y a e; ⟨h1, h2, v, k.up.cell h3⟩
  capart := S.capart
  cells := S.cells
  stok := S.stok
  vars := fun i x hx => by
    have := S.vars i x hx
    generalize ρ.getD i .unb = sl at this ⊢
    cases sl with
    | unb => trivial
    | app _ => trivial
    | val p => obtain ⟨v, hl, hr⟩ := this; exact ⟨v, k.up.ld hl, hr.kp S.frF k⟩
    | own xs => obtain ⟨a, vs, hl, hi, hr⟩ := this; exact ⟨a, vs, k.up.ld hl, k.up.list hi, hr.kp S.frF k⟩
theorem St.newF (S : St c sc ρ h) {a : Addr} (ha : h.objs.size ≤ a) : a ∉ c.F := fun hm => let ⟨_, ho⟩ := S.liveF a hm; absurd (Heap.lt_size ho) (Nat.not_lt.mpr ha)
theorem St.gs (S : St c sc ρ h) : c.g.StaysIn h := fun b o e => S.stays b o (S.gb b o e)
end

/-! ## The judgements -/

/-- e comes to a value that stands for f's; the heap grows -/
noncomputable def EvR (prog : Program) (w : World) (sc : Sc) (e : Expr) (f : List Slot → Option PV) : Prop :=
  ∀ (c : Cfg) (ρ : List Slot) (p : PV) (s : Shared) (E : Value → Shared → Prop), St c sc ρ s.heap → f ρ = some p →
    wpAny (model prog w) c.A (eval e c.env) (fun v s' => Rep c.F s'.heap v p ∧ Kp c s s') E s

noncomputable def RepB (F : List Addr) (h : Heap) (v : Value) (p : PV) : Prop := Rep F h v p ∨ ∃ a vs xs, v = .ref a ∧ p = .list xs ∧ Lst h a vs.toArray ∧ Reps F h vs xs

/-- the same, but the value may be a list that the frame still builds -/
noncomputable def EvB (prog : Program) (w : World) (sc : Sc) (e : Expr) (f : List Slot → Option PV) : Prop :=
  ∀ (c : Cfg) (ρ : List Slot) (p : PV) (s : Shared) (E : Value → Shared → Prop), St c sc ρ s.heap → f ρ = some p →
    wpAny (model prog w) c.A (eval e c.env) (fun v s' => RepB c.F s'.heap v p ∧ Kp c s s') E s

/-- a test -/
noncomputable def TsR (prog : Program) (w : World) (sc : Sc) (e : Expr) (f : List Slot → Option Bool) : Prop :=
  ∀ (c : Cfg) (ρ : List Slot) (b : Bool) (s : Shared) (E : Value → Shared → Prop), St c sc ρ s.heap → f ρ = some b →
    wpAny (model prog w) c.A (isTrue e c.env (eval e c.env)) (fun v s' => v = b ∧ Kp c s s') E s

section
variable {prog : Program} {w : World} {sc : Sc}

theorem EvR.b {e f} (h : EvR prog w sc e f) : EvB prog w sc e f := fun c ρ p s E S e' => wpAny_mono (h c ρ p s E S e') (fun _ _ q => ⟨.inl q.1, q.2⟩) fun _ _ x => x

noncomputable def getV (i : Nat) (ρ : List Slot) : Option PV := match ρ.getD i .unb with | .val p => some p | _ => none
noncomputable def getB (i : Nat) (ρ : List Slot) : Option PV := match ρ.getD i .unb with | .val p => some p | .own xs => some (.list xs) | _ => none

theorem ld_eval {M : Model} {A : Around} {E : Value → Shared → Prop} {s : Shared} {env : Env} {x : Str} {pos : Pos} {v : Value} {Q : Value → Shared → Prop} (hk : env.scope.kind = .function)
    (l : Ld env s.heap x v) (h : Q v s) (hd : (x == ("__debug__" : Str)) = false) (hn : (x == ("__classdict__" : Str)) = false) : wpAny M A (eval (.Name x pos) env) Q E s := by
  refine wpAny_Name ?_ hd
  rcases l with ⟨hl, m, hm, hv⟩ | ⟨hl | hl, c, hc, hv⟩
  · exact wpAny_loadName_local hk hl hm hv h
  · exact wpAny_loadName_cell hk hl hc hv h
  · exact wpAny_loadName_free hk hl hc hv h hn

/-- a name that stands for a value -/
theorem EvR.name {x : Str} {pos : Pos} {i : Nat} (hi : sc.vars[i]? = some x) (hd : (x == ("__debug__" : Str)) = false) (hn : (x == ("__classdict__" : Str)) = false) :
    EvR prog w sc (.Name x pos) (getV i) := by
  intro c ρ p s E S e
  have hv := S.vars i x hi
  unfold getV at e
  split at e
  · rename_i q hq
    cases e
    rw [hq] at hv
    obtain ⟨v, hl, hr⟩ := hv
    exact ld_eval S.kind hl ⟨hr, .refl ..⟩ hd hn
  · cases e
theorem EvB.name {x : Str} {pos : Pos} {i : Nat} (hi : sc.vars[i]? = some x) (hd : (x == ("__debug__" : Str)) = false) (hn : (x == ("__classdict__" : Str)) = false) :
    EvB prog w sc (.Name x pos) (getB i) := by
  intro c ρ p s E S e
  have hv := S.vars i x hi
  unfold getB at e
  split at e
  · rename_i q hq
    cases e
    rw [hq] at hv
    obtain ⟨v, hl, hr⟩ := hv
    exact ld_eval S.kind hl ⟨.inl hr, .refl ..⟩ hd hn
  · rename_i q hq
    cases e
    rw [hq] at hv
    obtain ⟨a, vs, hl, hi, hr⟩ := hv
    exact ld_eval S.kind hl ⟨.inr ⟨a, vs, q, rfl, rfl, hi, hr⟩, .refl ..⟩ hd hn
  · cases e

/-- a builtin's name -/
theorem name_blt {c : Cfg} {ρ : List Slot} {s : Shared} {E : Value → Shared → Prop} {x : Str} {pos : Pos} {v : Value} {Q : Value → Shared → Prop} (S : St c sc ρ s.heap) (hg : x ∈ sc.globs) (hb : x ∈ bNames)
    (hv : bootBuiltins x = some v) (hn : x ≠ "__name__") (hd : (x == ("__debug__" : Str)) = false) (h : Q v s) : wpAny (model prog w) c.A (eval (.Name x pos) c.env) Q E s := by
  refine Name_function_global S.kind (S.glob x hg) (loadGlobal_builtin (mg := c.mg) (mb := c.mb) ?_ (S.G.free x hb) ?_ ((S.G.blt x hn).trans hv) h) hd
  · rw [S.glo]; exact S.G.ng.keeps S.gs
  · rw [S.blt]; exact S.G.nb.keeps S.gs
theorem name_def {c : Cfg} {ρ : List Slot} {s : Shared} {E : Value → Shared → Prop} {x : Str} {pos : Pos} {v : Value} {Q : Value → Shared → Prop} (S : St c sc ρ s.heap) (hg : x ∈ sc.globs)
    (hv : c.mg x = some v) (hd : (x == ("__debug__" : Str)) = false) (h : Q v s) : wpAny (model prog w) c.A (eval (.Name x pos) c.env) Q E s := by
  refine Name_function_global S.kind (S.glob x hg) (loadGlobal_global (mg := c.mg) ?_ hv h) hd
  rw [S.glo]; exact S.G.ng.keeps S.gs

theorem EvR.int {i : Int} {k : Nat} {pos : Pos} : EvR prog w sc (.Constant (.int i) k pos) (fun _ => some (.int i)) := by
  intro c ρ p s E S e
  cases e
  exact wpAny_Constant_int ⟨.int .., .tok ..⟩
theorem EvR.bool {i : Bool} {k : Nat} {pos : Pos} : EvR prog w sc (.Constant (.bool i) k pos) (fun _ => some (.bool i)) := by
  intro c ρ p s E S e
  cases e
  exact wpAny_Constant_bool ⟨.bool .., .refl ..⟩
theorem EvR.str {x : Str} {k : Nat} {pos : Pos} : EvR prog w sc (.Constant (.str x) k pos) (fun _ => some (.str x.cps.toList)) := by
  intro c ρ p s E S e
  cases e
  exact wpAny_Constant_str ⟨.str x.cps.toList s.toks, .tok ..⟩
end
end Mine
end

section
namespace Mine

section
variable {prog : Program} {w : World} {sc : Sc}

/-! ## operators -/
noncomputable def BinOk (prog : Program) (w : World) (op : Operator) (g : PV → PV → Option PV) : Prop :=
  ∀ (c : Cfg) (s : Shared) (E : Value → Shared → Prop) (v₁ v₂ : Value) (p₁ p₂ p : PV), (∀ a ∈ c.fr, a ∈ c.F) → Rep c.F s.heap v₁ p₁ → Rep c.F s.heap v₂ p₂ → g p₁ p₂ = some p →
    wpAny (model prog w) c.A (binaryOp op v₁ v₂) (fun v s' => Rep c.F s'.heap v p ∧ Kp c s s') E s

theorem EvR.bin {op : Operator} {e₁ e₂ : Expr} {pos : Pos} {f₁ f₂ : List Slot → Option PV} {g : PV → PV → Option PV} (hb : BinOk prog w op g) (h₁ : EvR prog w sc e₁ f₁) (h₂ : EvR prog w sc e₂ f₂) :
    EvR prog w sc (.BinOp e₁ op e₂ pos) (fun ρ => (f₁ ρ).bind fun a => (f₂ ρ).bind fun b => g a b) := by
  intro c ρ p s E S e
  obtain ⟨a, ha, e⟩ := Option.bind_eq_some_iff.mp e
  obtain ⟨b, hb', e⟩ := Option.bind_eq_some_iff.mp e
  refine wpAny_BinOp (wpAny_mono (h₁ c ρ a s E S ha) (fun v₁ s₁ q₁ => ?_) fun _ _ x => x)
  refine wpAny_mono (h₂ c ρ b s₁ E (S.kp q₁.2) hb') (fun v₂ s₂ q₂ => ?_) fun _ _ x => x
  exact wpAny_mono (hb c s₂ E v₁ v₂ a b p S.frF (q₁.1.kp S.frF q₂.2) q₂.1 e) (fun v s₃ q₃ => ⟨q₃.1, (q₁.2.trans q₂.2).trans q₃.2⟩) fun _ _ x => x

noncomputable def addP : PV → PV → Option PV
  | .int a, .int b => some (.int (a + b))
  | .str a, .str b => if a.length + b.length ≤ 1000000 then some (.str (a ++ b)) else none
  | _, _ => none
noncomputable def mulP : PV → PV → Option PV
  | .int a, .int b => if a.natAbs < 4294967296 then some (.int (a * b)) else none
  | _, _ => none
noncomputable def fdivP : PV → PV → Option PV
  | .int a, .int b => if 0 < b ∧ b < 4294967296 then some (.int (a / b)) else none
  | _, _ => none
noncomputable def fmodP : PV → PV → Option PV
  | .int a, .int b => if 0 < b then some (.int (a % b)) else none
  | _, _ => none
noncomputable def powP : PV → PV → Option PV
  | .int a, .int n => if a.natAbs < 1024 ∧ 0 ≤ n ∧ n ≤ 100 then some (.int (a ^ n.toNat)) else none
  | _, _ => none

theorem St8_append (a b : List Nat) : (St8 a ++ St8 b : Str) = St8 (a ++ b) := by
  show Str.mk (a.toArray ++ b.toArray) = Str.mk (a ++ b).toArray
  simp
theorem Rep.inv_int {F : List Addr} {h : Heap} {v : Value} {i : Int} (r : Rep F h v (.int i)) : ∃ t, v = .int i t := by cases r; exact ⟨_, rfl⟩
theorem Rep.inv_str {F : List Addr} {h : Heap} {v : Value} {x : List Nat} (r : Rep F h v (.str x)) : ∃ t, v = .str (St8 x) t := by cases r; exact ⟨_, rfl⟩
theorem Rep.inv_bool {F : List Addr} {h : Heap} {v : Value} {x : Bool} (r : Rep F h v (.bool x)) : v = .bool x := by cases r; rfl
theorem RepB.inv_int {F : List Addr} {h : Heap} {v : Value} {i : Int} (r : RepB F h v (.int i)) : ∃ t, v = .int i t := by
  rcases r with r | ⟨_, _, _, _, q, _⟩
  · exact r.inv_int
  · cases q
theorem RepB.inv_str {F : List Addr} {h : Heap} {v : Value} {x : List Nat} (r : RepB F h v (.str x)) : ∃ t, v = .str (St8 x) t := by
  rcases r with r | ⟨_, _, _, _, q, _⟩
  · exact r.inv_str
  · cases q
theorem RepB.inv_bool {F : List Addr} {h : Heap} {v : Value} {x : Bool} (r : RepB F h v (.bool x)) : v = .bool x := by
  rcases r with r | ⟨_, _, _, _, q, _⟩
  · exact r.inv_bool
  · cases q
theorem RepB.inv_obj {F : List Addr} {h : Heap} {v : Value} (r : RepB F h v .obj) : ∃ a, v = .ref a := by
  rcases r with r | ⟨_, _, _, _, q, _⟩
  · cases r; exact ⟨_, rfl⟩
  · cases q
theorem bin_add : BinOk prog w .Add addP := by
  intro c s E v₁ v₂ p₁ p₂ p _ r₁ r₂ e
  unfold addP at e
  split at e
  · obtain ⟨t, rfl⟩ := r₁.inv_int
    obtain ⟨u, rfl⟩ := r₂.inv_int
    cases e
    exact add_int ⟨.int .., .tok ..⟩
  · rename_i a b
    obtain ⟨t, rfl⟩ := r₁.inv_str
    obtain ⟨u, rfl⟩ := r₂.inv_str
    split at e
    · cases e
      refine add_str (fun t' tk => ⟨?_, .tok ..⟩) ?_
      · rw [St8_append]; exact .str ..
      · rename_i hl
        show (a.toArray.size + b.toArray.size) ≤ 2 ^ 24
        simp only [List.size_toArray]; omega
    · cases e
  · cases e
theorem bin_mul : BinOk prog w .Mult mulP := by
  intro c s E v₁ v₂ p₁ p₂ p _ r₁ r₂ e
  unfold mulP at e
  split at e
  rotate_left
  · cases e
  rename_i a b
  obtain ⟨t, rfl⟩ := r₁.inv_int
  obtain ⟨u, rfl⟩ := r₂.inv_int
  split at e
  · cases e
    rename_i hl
    refine mul_int ⟨.int .., .tok ..⟩ (IntMulOk.of_left ?_)
    unfold Builtin.Int.intBits
    split
    · omega
    · have : a.natAbs.log2 < 32 := (Nat.log2_lt (by simp_all)).mpr (by omega)
      omega
  · cases e
theorem bin_fdiv : BinOk prog w .FloorDiv fdivP := by
  intro c s E v₁ v₂ p₁ p₂ p _ r₁ r₂ e
  unfold fdivP at e
  split at e
  rotate_left
  · cases e
  rename_i a b
  obtain ⟨t, rfl⟩ := r₁.inv_int
  obtain ⟨u, rfl⟩ := r₂.inv_int
  split at e
  · cases e
    rename_i hl
    refine floordiv_int (by omega) ⟨?_, .tok ..⟩ (.inl ?_)
    · rw [Int.fdiv_eq_ediv_of_nonneg _ (by omega)]; exact .int ..
    · unfold Builtin.divisionGoesByPylong
      have hb : (b == 0) = false := by simp; omega
      have : b.natAbs.log2 < 32 := (Nat.log2_lt (by omega)).mpr (by omega)
      simp only [hb, Bool.false_eq_true, if_false, Bool.and_eq_false_iff, decide_eq_false_iff_not]
      left
      omega
  · cases e
theorem bin_fmod : BinOk prog w .Mod fmodP := by
  intro c s E v₁ v₂ p₁ p₂ p _ r₁ r₂ e
  unfold fmodP at e
  split at e
  rotate_left
  · cases e
  rename_i a b
  obtain ⟨t, rfl⟩ := r₁.inv_int
  obtain ⟨u, rfl⟩ := r₂.inv_int
  split at e
  · cases e
    rename_i hl
    refine mod_int' (by omega) ⟨?_, .tok ..⟩
    rw [Int.fmod_eq_emod_of_nonneg _ (by omega)]; exact .int ..
  · cases e
theorem bin_pow : BinOk prog w .Pow powP := by
  intro c s E v₁ v₂ p₁ p₂ p _ r₁ r₂ e
  unfold powP at e
  split at e
  rotate_left
  · cases e
  rename_i a n
  obtain ⟨t, rfl⟩ := r₁.inv_int
  obtain ⟨u, rfl⟩ := r₂.inv_int
  split at e
  · cases e
    rename_i hl
    refine pow_int (by omega) ?_ ⟨.int .., .tok ..⟩
    have hbits : (Builtin.Int.intBits a : Int) ≤ 11 := by
      unfold Builtin.Int.intBits
      split
      · omega
      · have : a.natAbs.log2 < 10 := (Nat.log2_lt (by simp_all)).mpr (by omega)
        omega
    have : (Builtin.Int.intBits a : Int) * n ≤ 11 * 100 := Int.mul_le_mul hbits hl.2.2 hl.2.1 (by omega)
    omega
  · cases e

/-- a written negative number -/
theorem EvR.neg {e : Expr} {pos : Pos} {f : List Slot → Option PV} (h : EvR prog w sc e f) :
    EvR prog w sc (.UnaryOp .USub e pos) (fun ρ => (f ρ).bind fun | .int a => some (.int (-a)) | _ => none) := by
  intro c ρ p s E S e
  obtain ⟨a, ha, e⟩ := Option.bind_eq_some_iff.mp e
  refine wpAny_UnaryOp (wpAny_mono (h c ρ a s E S ha) (fun v₁ s₁ q₁ => ?_) fun _ _ x => x)
  obtain ⟨r, k⟩ := q₁
  cases r <;> (try cases e)
  exact neg_int ⟨.int .., k.trans (.tok ..)⟩

/-! ## comparisons -/
noncomputable def CmpOk (prog : Program) (w : World) (op : CmpOp) (g : PV → PV → Option Bool) : Prop :=
  ∀ (c : Cfg) (s : Shared) (E : Value → Shared → Prop) (v₁ v₂ : Value) (p₁ p₂ : PV) (b : Bool), c.A.units + 100 < cLine → RepB c.F s.heap v₁ p₁ → RepB c.F s.heap v₂ p₂ → g p₁ p₂ = some b →
    wpAny (model prog w) c.A (compareOp op v₁ v₂) (fun v s' => v = .bool b ∧ s' = s) E s

theorem RepB.kp {c : Cfg} {s s' : Shared} {v p} (S : ∀ a ∈ c.fr, a ∈ c.F) (r : RepB c.F s.heap v p) (k : Kp c s s') : RepB c.F s'.heap v p := by
  rcases r with r | ⟨a, vs, xs, rfl, rfl, hl, hr⟩
  · exact .inl (r.kp S k)
  · exact .inr ⟨a, vs, xs, rfl, rfl, k.up.list hl, hr.kp S k⟩

theorem units_of {c : Cfg} {ρ : List Slot} {h : Heap} (S : St c sc ρ h) : c.A.units + 100 < cLine := by have := S.units; unfold cLine; omega

theorem EvR.cmp {op : CmpOp} {e₁ e₂ : Expr} {pos : Pos} {f₁ f₂ : List Slot → Option PV} {g : PV → PV → Option Bool} (hb : CmpOk prog w op g) (h₁ : EvB prog w sc e₁ f₁) (h₂ : EvB prog w sc e₂ f₂)
    (hm : behindInMarks op e₂ = false := by with_unfolding_all rfl) :
    EvR prog w sc (.Compare e₁ [op] [e₂] pos) (fun ρ => (f₁ ρ).bind fun a => (f₂ ρ).bind fun b => (g a b).map .bool) := by
  intro c ρ p s E S e
  obtain ⟨a, ha, e⟩ := Option.bind_eq_some_iff.mp e
  obtain ⟨b, hb', e⟩ := Option.bind_eq_some_iff.mp e
  obtain ⟨t, ht, rfl⟩ := Option.map_eq_some_iff.mp e
  refine wpAny_Compare1 (wpAny_mono (h₁ c ρ a s E S ha) (fun v₁ s₁ q₁ => ?_) fun _ _ x => x) hm
  refine wpAny_mono (h₂ c ρ b s₁ E (S.kp q₁.2) hb') (fun v₂ s₂ q₂ => ?_) fun _ _ x => x
  refine wpAny_mono (hb c s₂ E v₁ v₂ a b t (units_of S) (q₁.1.kp S.frF q₂.2) q₂.1 ht) (fun v s₃ q₃ => ?_) fun _ _ x => x
  obtain ⟨rfl, rfl⟩ := q₃
  exact ⟨.bool _, q₁.2.trans q₂.2⟩
theorem TsR.cmp {op : CmpOp} {e₁ e₂ : Expr} {pos : Pos} {f₁ f₂ : List Slot → Option PV} {g : PV → PV → Option Bool} (hb : CmpOk prog w op g) (h₁ : EvB prog w sc e₁ f₁) (h₂ : EvB prog w sc e₂ f₂)
    (hm : behindInMarks op e₂ = false := by with_unfolding_all rfl) :
    TsR prog w sc (.Compare e₁ [op] [e₂] pos) (fun ρ => (f₁ ρ).bind fun a => (f₂ ρ).bind fun b => g a b) := by
  intro c ρ t s E S e
  obtain ⟨a, ha, e⟩ := Option.bind_eq_some_iff.mp e
  obtain ⟨b, hb', e⟩ := Option.bind_eq_some_iff.mp e
  refine wpAny_isTrue_Compare1 (wpAny_mono (h₁ c ρ a s E S ha) (fun v₁ s₁ q₁ => ?_) fun _ _ x => x) hm
  refine wpAny_mono (h₂ c ρ b s₁ E (S.kp q₁.2) hb') (fun v₂ s₂ q₂ => ?_) fun _ _ x => x
  refine wpAny_mono (hb c s₂ E v₁ v₂ a b t (units_of S) (q₁.1.kp S.frF q₂.2) q₂.1 e) (fun v s₃ q₃ => ?_) fun _ _ x => x
  obtain ⟨rfl, rfl⟩ := q₃
  exact wpAny_truthy_bool ⟨rfl, q₁.2.trans q₂.2⟩

mutual
noncomputable def toD : PV → PyData
  | .none => .none | .bool b => .bool b | .int i => .int i | .str s => .str (St8 s)
  | .list xs => .list (toDs xs) | .tup xs => .tuple (toDs xs) | .keys _ => .none | .obj => .none
noncomputable def toDs : List PV → List PyData
  | [] => [] | x :: r => toD x :: toDs r
end
mutual
noncomputable def isD : PV → Bool
  | .list xs => isDs xs | .tup xs => isDs xs | .keys _ => false | .obj => false | _ => true
noncomputable def isDs : List PV → Bool
  | [] => true | x :: r => isD x && isDs r
end
theorem reads_of {F : List Addr} {h : Heap} : (∀ {v p}, Rep F h v p → isD p = true → ∃ as, Reads h v (toD p) as) ∧ (∀ {vs xs}, Reps F h vs xs → isDs xs = true → ∃ as, ReadsAll h vs (toDs xs) as) := by
  constructor
  · intro v p r
    induction r using Rep.rec (motive_2 := fun vs xs _ => isDs xs = true → ∃ as, ReadsAll h vs (toDs xs) as) with
    | none => exact fun _ => ⟨_, .none⟩
    | bool b => exact fun _ => ⟨_, .bool b⟩
    | int i t => exact fun _ => ⟨_, .int i t⟩
    | str s t => exact fun _ => ⟨_, .str _ t⟩
    | list hl hn _ ih => intro q; obtain ⟨as, ra⟩ := ih (by simpa [isD] using q); obtain ⟨o, ho, hc, n, hd⟩ := hl.1; exact ⟨_, by simpa only [toD] using Reads.list ho hc hd ra⟩
    | tup hl hn _ ih => intro q; obtain ⟨as, ra⟩ := ih (by simpa [isD] using q); obtain ⟨o, ho, hc, n, hd⟩ := hl; exact ⟨_, by simpa only [toD] using Reads.tuple ho hc hd ra⟩
    | keys hl hn => intro q; simp [isD] at q
    | obj hl hn => intro q; simp [isD] at q
    | nil => rename_i q; exact ⟨_, .nil⟩
    | cons _ _ ih1 ih2 => rename_i q; simp only [isDs, Bool.and_eq_true] at q; obtain ⟨as, h1⟩ := ih1 q.1; obtain ⟨bs, h2⟩ := ih2 q.2; exact ⟨_, by simpa only [toDs] using ReadsAll.cons h1 h2⟩
  · intro v p r
    induction r using Reps.rec (motive_1 := fun v p _ => isD p = true → ∃ as, Reads h v (toD p) as) with
    | none => rename_i q; exact ⟨_, .none⟩
    | bool b => rename_i q; exact ⟨_, .bool b⟩
    | int i t => rename_i q; exact ⟨_, .int i t⟩
    | str s t => rename_i q; exact ⟨_, .str _ t⟩
    | list hl hn _ ih => rename_i q; obtain ⟨as, ra⟩ := ih (by simpa [isD] using q); obtain ⟨o, ho, hc, n, hd⟩ := hl.1; exact ⟨_, by simpa only [toD] using Reads.list ho hc hd ra⟩
    | tup hl hn _ ih => rename_i q; obtain ⟨as, ra⟩ := ih (by simpa [isD] using q); obtain ⟨o, ho, hc, n, hd⟩ := hl; exact ⟨_, by simpa only [toD] using Reads.tuple ho hc hd ra⟩
    | keys hl hn => rename_i q; simp [isD] at q
    | obj hl hn => rename_i q; simp [isD] at q
    | nil => exact fun _ => ⟨_, .nil⟩
    | cons _ _ ih1 ih2 => intro q; simp only [isDs, Bool.and_eq_true] at q; obtain ⟨as, h1⟩ := ih1 q.1; obtain ⟨bs, h2⟩ := ih2 q.2; exact ⟨_, by simpa only [toDs] using ReadsAll.cons h1 h2⟩
theorem RepB.reads {F : List Addr} {h : Heap} {v p} (r : RepB F h v p) (q : isD p = true) : ∃ as, Reads h v (toD p) as := by
  rcases r with r | ⟨a, vs, xs, rfl, rfl, hl, hr⟩
  · exact reads_of.1 r q
  · obtain ⟨as, ra⟩ := reads_of.2 hr (by simpa [isD] using q)
    obtain ⟨o, ho, hc, n, hd⟩ := hl.1; exact ⟨_, by simpa only [toD] using Reads.list ho hc hd ra⟩

noncomputable def okD (p : PV) : Bool := isD p && PySem.SeqAt.shaped (toD p)
noncomputable def eqP (a b : PV) : Option Bool := if okD a && okD b then some (PyData.eqv (toD a) (toD b)) else none
noncomputable def neP (a b : PV) : Option Bool := if okD a && okD b then some (!PyData.eqv (toD a) (toD b)) else none
theorem cmp_eq : CmpOk prog w .Eq eqP := by
  intro c s E v₁ v₂ p₁ p₂ b hu r₁ r₂ e
  unfold eqP at e
  split at e
  · rename_i q
    simp only [Bool.and_eq_true, okD] at q
    obtain ⟨_, ra⟩ := r₁.reads q.1.1
    obtain ⟨_, rb⟩ := r₂.reads q.2.1
    exact eq_dataH ra rb q.1.2 q.2.2 (by omega) ⟨by cases e; rfl, rfl⟩
  · cases e
theorem cmp_ne : CmpOk prog w .NotEq neP := by
  intro c s E v₁ v₂ p₁ p₂ b hu r₁ r₂ e
  unfold neP at e
  split at e
  · rename_i q
    simp only [Bool.and_eq_true, okD] at q
    obtain ⟨_, ra⟩ := r₁.reads q.1.1
    obtain ⟨_, rb⟩ := r₂.reads q.2.1
    exact ne_dataH ra rb q.1.2 q.2.2 (by omega) ⟨by cases e; rfl, rfl⟩
  · cases e
noncomputable def ltP : PV → PV → Option Bool
  | .int a, .int b => some (decide (a < b))
  | _, _ => none
noncomputable def gtP : PV → PV → Option Bool
  | .int a, .int b => some (decide (b < a))
  | _, _ => none
theorem cmp_lt : CmpOk prog w .Lt ltP := by
  intro c s E v₁ v₂ p₁ p₂ b hu r₁ r₂ e
  unfold ltP at e
  split at e
  · obtain ⟨t, rfl⟩ := r₁.inv_int
    obtain ⟨u, rfl⟩ := r₂.inv_int
    cases e
    exact lt_int ⟨rfl, rfl⟩
  · cases e
theorem cmp_gt : CmpOk prog w .Gt gtP := by
  intro c s E v₁ v₂ p₁ p₂ b hu r₁ r₂ e
  unfold gtP at e
  split at e
  · obtain ⟨t, rfl⟩ := r₁.inv_int
    obtain ⟨u, rfl⟩ := r₂.inv_int
    cases e
    exact gt_int ⟨rfl, rfl⟩
  · cases e

noncomputable def inP (a b : PV) : Option Bool := match b with
  | .list xs => if okD a && okD (.list xs) && (toDs xs).all (fun y => PySem.SeqAt.noMix y (toD a)) then some ((toDs xs).any fun y => PyData.eqv y (toD a)) else none
  | _ => none
noncomputable def ninP (a b : PV) : Option Bool := (inP a b).map (!·)
theorem cmp_in : CmpOk prog w .In inP := by
  intro c s E v₁ v₂ p₁ p₂ b hu r₁ r₂ e
  cases p₂ with
  | list xs =>
    simp only [inP] at e
    split at e
    · rename_i q
      simp only [Bool.and_eq_true, okD] at q
      obtain ⟨_, ra⟩ := r₁.reads q.1.1.1
      obtain ⟨_, rb⟩ := r₂.reads q.1.2.1
      have hm := List.all_eq_true.mp q.2
      cases e
      refine in_list_dataH (by simpa only [toD] using rb) ra (by simpa only [toD] using q.1.2.2) q.1.1.2 (by omega) hm ?_
      exact ⟨by rw [any_eqv_countIn _ _ hm], rfl⟩
    · cases e
  | _ => cases e
theorem cmp_nin : CmpOk prog w .NotIn ninP := by
  intro c s E v₁ v₂ p₁ p₂ b hu r₁ r₂ e
  cases p₂ with
  | list xs =>
    simp only [ninP, inP] at e
    split at e
    · rename_i q
      simp only [Bool.and_eq_true, okD] at q
      obtain ⟨_, ra⟩ := r₁.reads q.1.1.1
      obtain ⟨_, rb⟩ := r₂.reads q.1.2.1
      have hm := List.all_eq_true.mp q.2
      cases e
      refine notIn_list_dataH (by simpa only [toD] using rb) ra (by simpa only [toD] using q.1.2.2) q.1.1.2 (by omega) hm ?_
      exact ⟨by rw [any_eqv_countIn _ _ hm], rfl⟩
    · cases e
  | _ => cases e
end
end Mine
end

section
namespace Mine

section
variable {prog : Program} {w : World} {sc : Sc}

noncomputable def isntP : PV → PV → Option Bool
  | .bool a, .bool b => some (!(a == b))
  | .str _, .obj => some true
  | _, _ => none
theorem cmp_isnt : CmpOk prog w .IsNot isntP := by
  intro c s E v₁ v₂ p₁ p₂ b hu r₁ r₂ e
  unfold isntP at e
  split at e
  · rename_i a b
    have h1 := r₁.inv_bool
    have h2 := r₂.inv_bool
    subst h1; subst h2
    cases e
    refine wpAny_isNot_plain rfl ⟨?_, rfl⟩
    cases a <;> cases b <;> decide
  · obtain ⟨t, rfl⟩ := r₁.inv_str
    obtain ⟨a, rfl⟩ := r₂.inv_obj
    cases e
    exact wpAny_isNot_other rfl (by simp) ⟨rfl, rfl⟩
  · cases e

/-! ## tests -/
noncomputable def truthP : PV → Option Bool
  | .bool b => some b
  | .list xs => if xs.length ≤ 1000000 then some (!xs.isEmpty) else none
  | _ => none
theorem truthy_of (prog : Program) (w : World) (c : Cfg) (s : Shared) (E : Value → Shared → Prop) (v : Value) (p : PV) (b : Bool) (r : RepB c.F s.heap v p) (e : truthP p = some b) :
    wpAny (model prog w) c.A (truthy v) (fun t s' => t = b ∧ Kp c s s') E s := by
  have key : ∀ {a : Addr} {vs : List Value} {xs : List PV}, Lst s.heap a vs.toArray → Reps c.F s.heap vs xs → truthP (.list xs) = some b → wpAny (model prog w) c.A (truthy (.ref a)) (fun t s' => t = b ∧ Kp c s s') E s := by
    intro a vs xs hl hr e
    simp only [truthP] at e
    split at e
    · cases e
      have hlen := hr.length
      refine wpAny_truthy_list hl.1 (by simp only [List.size_toArray]; omega) ⟨?_, .tok ..⟩
      cases vs <;> cases xs <;> simp_all
    · cases e
  rcases r with r | ⟨a, vs, xs, rfl, rfl, hl, hr⟩
  · cases r with
    | bool b => cases e; exact wpAny_truthy_bool ⟨rfl, .refl ..⟩
    | list hl hn hr => exact key hl hr e
    | _ => cases e
  · exact key hl hr e
theorem TsR.value {e : Expr} {f : List Slot → Option PV} (h : EvB prog w sc e f) (he : ∀ env whole, isTrue e env whole = (do let v ← whole; standAt e.pos; holding [v] (truthy v)) := by intro _ _; rfl) :
    TsR prog w sc e (fun ρ => (f ρ).bind truthP) := by
  intro c ρ t s E S e'
  obtain ⟨a, ha, e'⟩ := Option.bind_eq_some_iff.mp e'
  refine wpAny_isTrue_value (wpAny_mono (h c ρ a s E S ha) (fun v₁ s₁ q₁ => ?_) fun _ _ x => x) (he _ _)
  exact wpAny_mono (truthy_of prog w c s₁ E v₁ a t q₁.1 e') (fun _ _ q => ⟨q.1, q₁.2.trans q.2⟩) fun _ _ x => x
theorem TsR.not {e : Expr} {pos : Pos} {f : List Slot → Option Bool} (h : TsR prog w sc e f) : TsR prog w sc (.UnaryOp .Not e pos) (fun ρ => (f ρ).map (!·)) := by
  intro c ρ t s E S e'
  obtain ⟨b, hb, rfl⟩ := Option.map_eq_some_iff.mp e'
  exact wpAny_isTrue_Not (wpAny_mono (h c ρ b s E S hb) (fun _ _ q => ⟨by rw [q.1], q.2⟩) fun _ _ x => x)
theorem TsR.and2 {e₁ e₂ : Expr} {pos : Pos} {f₁ f₂ : List Slot → Option Bool} (h₁ : TsR prog w sc e₁ f₁) (h₂ : TsR prog w sc e₂ f₂) :
    TsR prog w sc (.BoolOp .And [e₁, e₂] pos) (fun ρ => (f₁ ρ).bind fun a => if a then f₂ ρ else some false) := by
  intro c ρ t s E S e'
  obtain ⟨a, ha, e'⟩ := Option.bind_eq_some_iff.mp e'
  refine wpAny_isTrue_BoolOp (wpAny_allTrue_And_cons (wpAny_mono (h₁ c ρ a s E S ha) (fun v s₁ q₁ => ?_) fun _ _ x => x))
  obtain ⟨rfl, k⟩ := q₁
  cases v with
  | false => cases e'; exact ⟨rfl, k⟩
  | true =>
    refine wpAny_allTrue_And_cons (wpAny_mono (h₂ c ρ t s₁ E (S.kp k) e') (fun v s₂ q₂ => ?_) fun _ _ x => x)
    obtain ⟨rfl, k₂⟩ := q₂
    cases v with
    | false => exact ⟨rfl, k.trans k₂⟩
    | true => exact wpAny_allTrue_And_nil ⟨rfl, k.trans k₂⟩
theorem TsR.or2 {e₁ e₂ : Expr} {pos : Pos} {f₁ f₂ : List Slot → Option Bool} (h₁ : TsR prog w sc e₁ f₁) (h₂ : TsR prog w sc e₂ f₂) :
    TsR prog w sc (.BoolOp .Or [e₁, e₂] pos) (fun ρ => (f₁ ρ).bind fun a => if a then some true else f₂ ρ) := by
  intro c ρ t s E S e'
  obtain ⟨a, ha, e'⟩ := Option.bind_eq_some_iff.mp e'
  refine wpAny_isTrue_BoolOp (wpAny_allTrue_Or_cons (wpAny_mono (h₁ c ρ a s E S ha) (fun v s₁ q₁ => ?_) fun _ _ x => x))
  obtain ⟨rfl, k⟩ := q₁
  cases v with
  | true => cases e'; exact ⟨rfl, k⟩
  | false =>
    refine wpAny_allTrue_Or_cons (wpAny_mono (h₂ c ρ t s₁ E (S.kp k) e') (fun v s₂ q₂ => ?_) fun _ _ x => x)
    obtain ⟨rfl, k₂⟩ := q₂
    cases v with
    | true => exact ⟨rfl, k.trans k₂⟩
    | false => exact wpAny_allTrue_Or_nil ⟨rfl, k.trans k₂⟩

theorem EvR.not {e : Expr} {pos : Pos} {f : List Slot → Option PV} (h : EvB prog w sc e f) : EvR prog w sc (.UnaryOp .Not e pos) (fun ρ => ((f ρ).bind truthP).map fun b => .bool (!b)) := by
  intro c ρ p s E S e'
  obtain ⟨b, hb, rfl⟩ := Option.map_eq_some_iff.mp e'
  obtain ⟨a, ha, hb⟩ := Option.bind_eq_some_iff.mp hb
  refine wpAny_UnaryOp (wpAny_mono (h c ρ a s E S ha) (fun v₁ s₁ q₁ => not_value (wpAny_mono (truthy_of prog w c s₁ E v₁ a b q₁.1 hb) (fun t s₂ q => ?_) fun _ _ x => x)) fun _ _ x => x)
  obtain ⟨rfl, k⟩ := q
  exact ⟨.bool _, q₁.2.trans k⟩
theorem EvR.ifexp {t e₁ e₂ : Expr} {pos : Pos} {ft : List Slot → Option Bool} {f₁ f₂ : List Slot → Option PV} (ht : TsR prog w sc t ft) (h₁ : EvR prog w sc e₁ f₁) (h₂ : EvR prog w sc e₂ f₂) :
    EvR prog w sc (.IfExp t e₁ e₂ pos) (fun ρ => (ft ρ).bind fun b => if b then f₁ ρ else f₂ ρ) := by
  intro c ρ p s E S e'
  obtain ⟨b, hb, e'⟩ := Option.bind_eq_some_iff.mp e'
  refine wpAny_IfExp (wpAny_mono (ht c ρ b s E S hb) (fun v s₁ q => ?_) fun _ _ x => x)
  obtain ⟨rfl, k⟩ := q
  cases v with
  | true => exact wpAny_mono (h₁ c ρ p s₁ E (S.kp k) e') (fun _ _ q => ⟨q.1, k.trans q.2⟩) fun _ _ x => x
  | false => exact wpAny_mono (h₂ c ρ p s₁ E (S.kp k) e') (fun _ _ q => ⟨q.1, k.trans q.2⟩) fun _ _ x => x

/-! ## displays -/
noncomputable def EvRs (prog : Program) (w : World) (sc : Sc) (es : List Expr) (f : List Slot → Option (List PV)) : Prop :=
  ∀ (c : Cfg) (ρ : List Slot) (ps : List PV) (pos : Pos) (s : Shared) (E : Value → Shared → Prop), St c sc ρ s.heap → f ρ = some ps →
    wpAny (model prog w) c.A (spliced (backTo pos (starEach es c.env))) (fun vs s' => Reps c.F s'.heap vs ps ∧ Kp c s s') E s
theorem EvRs.nil : EvRs prog w sc [] (fun _ => some []) := by
  intro c ρ ps pos s E S e
  cases e
  exact wpAny_items_nil ⟨.nil, .refl ..⟩
theorem EvRs.cons {e : Expr} {es : List Expr} {f : List Slot → Option PV} {g : List Slot → Option (List PV)} (h : EvR prog w sc e f) (hs : EvRs prog w sc es g)
    (he : ∀ env, starEach (e :: es) env = (false, eval e env) :: starEach es env := by intro _; rfl) :
    EvRs prog w sc (e :: es) (fun ρ => (f ρ).bind fun a => (g ρ).map fun r => a :: r) := by
  intro c ρ ps pos s E S e'
  obtain ⟨a, ha, e'⟩ := Option.bind_eq_some_iff.mp e'
  obtain ⟨r, hr, rfl⟩ := Option.map_eq_some_iff.mp e'
  refine wpAny_items_cons (wpAny_mono (h c ρ a s E S ha) (fun v s₁ q₁ => ?_) fun _ _ x => x) (he _)
  exact wpAny_mono (hs c ρ r pos s₁ E (S.kp q₁.2) hr) (fun vs s₂ q₂ => ⟨.cons (q₁.1.kp S.frF q₂.2) q₂.1, q₁.2.trans q₂.2⟩) fun _ _ x => x

theorem push_kp {c : Cfg} {s : Shared} {o : Obj} : Kp c s { s with heap := s.heap.push o } := ⟨_, s.toks, rfl, fun _ _ _ e => Heap.get?_push_of_some _ e, .of_keeps fun _ _ e => Heap.get?_push_of_some _ e⟩

theorem EvR.list {es : List Expr} {pos : Pos} {g : List Slot → Option (List PV)} (h : EvRs prog w sc es g) :
    EvR prog w sc (.List es pos) (fun ρ => (g ρ).bind fun xs => if xs.length ≤ 1000000 then some (.list xs) else none) := by
  intro c ρ p s E S e'
  obtain ⟨xs, hx, e'⟩ := Option.bind_eq_some_iff.mp e'
  split at e'
  · cases e'
    rename_i hle
    refine wpAny_List (wpAny_mono (h c ρ xs pos s E S hx) (fun vs s₁ q => ⟨?_, ?_, q.2.trans push_kp⟩) fun _ _ x => x)
    · rw [q.1.length]; show _ ≤ 2 ^ 24; omega
    · exact .list (.of (Heap.get?_push_size _ rfl)) ((S.kp q.2).newF (Nat.le_refl _)) (q.1.kp S.frF push_kp)
  · cases e'
theorem EvR.tuple {es : List Expr} {k : Nat} {pos : Pos} {g : List Slot → Option (List PV)} (h : EvRs prog w sc es g) :
    EvR prog w sc (.Tuple es k pos) (fun ρ => (g ρ).bind fun xs => if xs.length ≤ 1000000 then some (.tup xs) else none) := by
  intro c ρ p s E S e'
  obtain ⟨xs, hx, e'⟩ := Option.bind_eq_some_iff.mp e'
  split at e'
  · cases e'
    rename_i hle
    refine wpAny_Tuple (wpAny_mono (h c ρ xs pos s E S hx) (fun vs s₁ q => ⟨?_, ?_, q.2.trans push_kp⟩) fun _ _ x => x)
    · rw [q.1.length]; show _ ≤ 2 ^ 24; omega
    · exact .tup ⟨_, Heap.get?_push_size _ rfl, rfl, _, rfl⟩ ((S.kp q.2).newF (Nat.le_refl _)) (q.1.kp S.frF push_kp)
  · cases e'

/-! ## items and slices -/
theorem subscripted_plain (slice : Expr) (o i : Value) : ∃ ops, subscripted slice false o i = operate ops (getItem o i) := by
  unfold subscripted
  split
  · exact ⟨_, rfl⟩
  · rename_i h; cases h
  · exact ⟨_, rfl⟩

noncomputable def itemP : PV → PV → Option PV
  | .list xs, .int k => if k.natAbs < 1000000 then (seqIndex? k xs.length).bind (xs[·]?) else none
  | .tup xs, .int k => if k.natAbs < 1000000 then (seqIndex? k xs.length).bind (xs[·]?) else none
  | .str s, .int k => if k.natAbs < 1000000 then ((seqIndex? k s.length).bind (s[·]?)).map fun a => .str [a] else none
  | _, _ => none

theorem seqIndex_cases {k : Int} {n j : Nat} (h : seqIndex? k n = some j) : (0 ≤ k ∧ k < n ∧ j = k.toNat) ∨ (k < 0 ∧ -(n : Int) ≤ k ∧ j = (k + n).toNat) := by
  unfold seqIndex? at h
  by_cases h0 : k < 0
  · simp only [h0, if_true] at h
    split at h
    · rename_i q; simp only [Bool.and_eq_true, decide_eq_true_eq] at q; cases h; right; omega
    · cases h
  · simp only [h0, if_false] at h
    split at h
    · rename_i q; simp only [Bool.and_eq_true, decide_eq_true_eq] at q; cases h; left; omega
    · cases h

theorem list_item {A : Around} {s : Shared} {E : Value → Shared → Prop} {F : List Addr} {a : Addr} {vs : List Value} {xs : List PV} {k : Int} {t : Tok} {p : PV} (hl : Lst s.heap a vs.toArray) (hr : Reps F s.heap vs xs)
    (hk : k.natAbs < 1000000) (e : (seqIndex? k xs.length).bind (xs[·]?) = some p) :
    wpAny (model prog w) A (getItem (.ref a) (.int k t)) (fun v s' => Rep F s'.heap v p ∧ s' = s) E s := by
  obtain ⟨j, hj, hx⟩ := Option.bind_eq_some_iff.mp e
  obtain ⟨v, hv, rv⟩ := hr.get hx
  have hlen := hr.length
  rcases seqIndex_cases hj with ⟨h0, h1, rfl⟩ | ⟨h0, h1, rfl⟩
  · exact wpAny_getItem_list hl.1 h0 (by omega) (by simpa using hv) ⟨rv, rfl⟩
  · exact wpAny_getItem_list_neg hl.1 h0 (by simp only [List.size_toArray]; omega) (by omega) (by simpa [hlen] using hv) ⟨rv, rfl⟩

theorem itemP_int {a b q : PV} (e : itemP a b = some q) : ∃ k, b = .int k := by
  unfold itemP at e
  split at e
  · exact ⟨_, rfl⟩
  · exact ⟨_, rfl⟩
  · exact ⟨_, rfl⟩
  · cases e
theorem EvR.sub {e₁ e₂ : Expr} {pos : Pos} {f₁ f₂ : List Slot → Option PV} (h₁ : EvB prog w sc e₁ f₁) (h₂ : EvR prog w sc e₂ f₂) :
    EvR prog w sc (.Subscript e₁ e₂ pos) (fun ρ => (f₁ ρ).bind fun a => (f₂ ρ).bind fun b => itemP a b) := by
  intro c ρ p s E S e
  obtain ⟨a, ha, e⟩ := Option.bind_eq_some_iff.mp e
  obtain ⟨b, hb, e⟩ := Option.bind_eq_some_iff.mp e
  refine Subscript_ (wpAny_mono (h₁ c ρ a s E S ha) (fun v₁ s₁ q₁ => ?_) fun _ _ x => x)
  refine wpAny_mono (h₂ c ρ b s₁ E (S.kp q₁.2) hb) (fun v₂ s₂ q₂ => ?_) fun _ _ x => x
  have r₁ := RepB.kp S.frF q₁.1 q₂.2
  obtain ⟨r₂, k₂⟩ := q₂
  have kk := q₁.2.trans k₂
  obtain ⟨k, rfl⟩ := itemP_int e
  obtain ⟨u, rfl⟩ := r₂.inv_int
  have key : ∀ {l : Addr} {vs : List Value} {xs : List PV}, Lst s₂.heap l vs.toArray → Reps c.F s₂.heap vs xs → itemP (.list xs) (.int k) = some p →
      wpAny (model prog w) c.A (subscriptTail e₁ e₂ (.ref l) (.int k u)) (fun v s' => Rep c.F s'.heap v p ∧ Kp c s s') E s₂ := by
    intro l vs xs hl hr e
    simp only [itemP] at e
    split at e
    · rename_i hk
      obtain ⟨ops, ho⟩ := subscripted_plain e₂ (.ref l) (.int k u)
      exact tail_any hl.1.typeIs slot_list_getitem.lookup (wpAny_mono (list_item hl hr hk e) (fun _ _ q => ⟨q.1, q.2 ▸ kk⟩) fun _ _ x => x) ho
    · cases e
  rcases r₁ with r₁ | ⟨l, vs, xs, rfl, rfl, hl, hr⟩
  · cases r₁ with
    | str s₀ t =>
      simp only [itemP] at e
      split at e
      · rename_i hk
        obtain ⟨x, hx, rfl⟩ := Option.map_eq_some_iff.mp e
        obtain ⟨ops, ho⟩ := subscripted_plain e₂ (.str (St8 s₀) t) (.int k u)
        refine tail_any (typeIs_str _ _ _) F.slot_str_getitem.lookup (P.getItem_str ?_ (c := x) ?_ ⟨.str [x] _, kk.trans (.tok ..)⟩) ho
        · simp only [Bool.or_eq_false_iff, decide_eq_false_iff_not]; omega
        · show (seqIndex? k s₀.toArray.size).bind (s₀.toArray[·]?) = some x
          simpa using hx
      · cases e
    | list hl hn hr => exact key hl hr e
    | @tup l vs xs hl hn hr =>
      simp only [itemP] at e
      split at e
      · rename_i hk
        obtain ⟨ops, ho⟩ := subscripted_plain e₂ (.ref l) (.int k u)
        obtain ⟨j, hj, hx⟩ := Option.bind_eq_some_iff.mp e
        obtain ⟨v, hv, rv⟩ := hr.get hx
        have hlen := hr.length
        exact tail_any hl.typeIs F.slot_tuple_getitem.lookup (getItem_tuple hl (by omega) (by omega) (j := j) (by simpa [hlen] using hj) (by simpa using hv) ⟨rv, kk⟩) ho
      · cases e
    | _ => cases e
  · exact key hl hr e
end
end Mine
end

section
namespace Mine

section
variable {prog : Program} {w : World} {sc : Sc}

/-! ## slices -/
noncomputable def PtR (prog : Program) (w : World) (sc : Sc) (e : Option Expr) (f : List Slot → Option (Option Int)) : Prop :=
  ∀ (c : Cfg) (ρ : List Slot) (k : Option Int) (s : Shared) (E : Value → Shared → Prop), St c sc ρ s.heap → f ρ = some k →
    wpAny (model prog w) c.A (evalPart e c.env) (fun v s' => (∃ l : Option (Int × Tok), v = partValue l ∧ l.map (·.1) = k) ∧ Kp c s s') E s
theorem PtR.none : PtR prog w sc none (fun _ => some none) := by
  intro c ρ k s E S e
  cases e
  exact wpAny_pure ⟨⟨.none, rfl, rfl⟩, .refl ..⟩
theorem PtR.some {e : Expr} {f : List Slot → Option PV} (h : EvR prog w sc e f) : PtR prog w sc (some e) (fun ρ => (f ρ).bind fun | .int k => some (some k) | _ => Option.none) := by
  intro c ρ k s E S e'
  obtain ⟨a, ha, e'⟩ := Option.bind_eq_some_iff.mp e'
  refine wpAny_mono (h c ρ a s E S ha) (fun v s₁ q => ?_) fun _ _ x => x
  obtain ⟨r, kk⟩ := q
  cases r with
  | int i t => cases e'; exact ⟨⟨.some (i, t), rfl, rfl⟩, kk⟩
  | _ => cases e'
theorem isPart_of {l : Option (Int × Tok)} : IsPart (partValue l) (l.map (·.1)) := by
  cases l with
  | none => exact .none
  | some p => exact .int ..

noncomputable def pickL {α : Type} (xs : List α) (lo hi st : Option Int) : List α :=
  (sliceRange (sliceBounds lo hi st xs.length).1 (sliceBounds lo hi st xs.length).2.1 (sliceBounds lo hi st xs.length).2.2).filterMap (xs[·]?)
noncomputable def pickS (s : List Nat) (lo hi : Option Int) : List Nat :=
  let p := Builtin.Str.strSliceIndices lo hi 1 s.length
  if (p.length == s.length) = true then s else p.filterMap (s[·]?)

theorem Reps.pick {F : List Addr} {h : Heap} {vs : List Value} {xs : List PV} (r : Reps F h vs xs) : ∀ is : List Nat, Reps F h (is.filterMap (vs[·]?)) (is.filterMap (xs[·]?))
  | [] => .nil
  | i :: is => by
    cases hx : xs[i]? with
    | none =>
      have hv : vs[i]? = none := by have := r.length; rw [List.getElem?_eq_none_iff] at hx ⊢; omega
      simp only [List.filterMap_cons, hx, hv]
      exact r.pick is
    | some p =>
      obtain ⟨v, hv, rv⟩ := r.get hx
      simp only [List.filterMap_cons, hx, hv]
      exact .cons rv (r.pick is)

noncomputable def sliceP : PV → Option Int → Option Int → Option Int → Option PV
  | .list xs, lo, hi, st => if st ≠ some 0 ∧ xs.length ≤ 1000000 then some (.list (pickL xs lo hi st)) else none
  | .str s, lo, hi, none => if s.length ≤ 1000000 then some (.str (pickS s lo hi)) else none
  | _, _, _, _ => none

theorem EvR.slice {e : Expr} {lo hi st : Option Expr} {p pos : Pos} {f : List Slot → Option PV} {fl fh fs : List Slot → Option (Option Int)} (h : EvB prog w sc e f) (hl : PtR prog w sc lo fl) (hh : PtR prog w sc hi fh) (hs : PtR prog w sc st fs) :
    EvR prog w sc (.Subscript e (.Slice lo hi st p) pos) (fun ρ => (f ρ).bind fun a => (fl ρ).bind fun l => (fh ρ).bind fun u => (fs ρ).bind fun t => sliceP a l u t) := by
  intro c ρ q s E S e'
  obtain ⟨a, ha, e'⟩ := Option.bind_eq_some_iff.mp e'
  obtain ⟨l, hla, e'⟩ := Option.bind_eq_some_iff.mp e'
  obtain ⟨u, hua, e'⟩ := Option.bind_eq_some_iff.mp e'
  obtain ⟨t, hta, e'⟩ := Option.bind_eq_some_iff.mp e'
  refine Subscript_ (wpAny_mono (h c ρ a s E S ha) (fun v₁ s₁ q₁ => ?_) fun _ _ x => x)
  refine wpAny_Slice ?_
  have S₁ := S.kp q₁.2
  refine wpAny_mono (hl c ρ l s₁ E S₁ hla) (fun vl s₂ q₂ => ?_) fun _ _ x => x
  have S₂ := S₁.kp q₂.2
  refine wpAny_mono (hh c ρ u s₂ E S₂ hua) (fun vu s₃ q₃ => ?_) fun _ _ x => x
  have S₃ := S₂.kp q₃.2
  refine wpAny_mono (hs c ρ t s₃ E S₃ hta) (fun vt s₄ q₄ => ?_) fun _ _ x => x
  have S₄ := S₃.kp q₄.2
  have r := RepB.kp S.frF q₁.1 (((q₂.2.trans q₃.2).trans q₄.2).trans (push_kp (c := c) (s := s₄) (o := { cls := .type "slice", data := .fields #[vl, vu, vt] })))
  have kk := (((q₁.2.trans q₂.2).trans q₃.2).trans q₄.2).trans (push_kp (c := c) (s := s₄) (o := { cls := .type "slice", data := .fields #[vl, vu, vt] }))
  have S₅ := S.kp kk
  obtain ⟨⟨l', rfl, rfl⟩, _⟩ := q₂
  obtain ⟨⟨u', rfl, rfl⟩, _⟩ := q₃
  obtain ⟨⟨t', rfl, rfl⟩, _⟩ := q₄
  generalize hs5 : ({ s₄ with heap := s₄.heap.push { cls := .type "slice", data := .fields #[partValue l', partValue u', partValue t'] } } : Shared) = s₅ at r kk S₅
  have hsl : s₅.heap.IsSliceOf s₄.heap.objs.size (partValue l') (partValue u') (partValue t') := by rw [← hs5]; exact .new ..
  obtain ⟨ops, ho⟩ := subscripted_plain (.Slice lo hi st p) v₁ (.ref s₄.heap.objs.size)
  have key : ∀ {b : Addr} {vs : List Value} {xs : List PV}, v₁ = .ref b → Lst s₅.heap b vs.toArray → Reps c.F s₅.heap vs xs → sliceP (.list xs) (l'.map (·.1)) (u'.map (·.1)) (t'.map (·.1)) = some q →
      wpAny (model prog w) c.A (subscriptTail e (.Slice lo hi st p) v₁ (.ref s₄.heap.objs.size)) (fun v s' => Rep c.F s'.heap v q ∧ Kp c s s') E s₅ := by
    intro b vs xs hv hb hr e'
    subst hv
    simp only [sliceP] at e'
    split at e'
    · rename_i hc
      cases e'
      have hlen := hr.length
      refine tail_any hb.1.typeIs slot_list_getitem.lookup (wpAny_getItem_list_slice hb.1 hsl isPart_of isPart_of isPart_of hc.1 ⟨?_, kk.trans push_kp⟩ ?_) ho
      · refine .list (vs := pickL vs (l'.map (·.1)) (u'.map (·.1)) (t'.map (·.1))) (.of (n := 0) (sl := #[]) ?_) (S₅.newF (Nat.le_refl _)) ?_
        · rw [Heap.get?_push_size _ rfl]
          simp [slicePick, pickL]
        · have := hr.pick (sliceRange (sliceBounds (l'.map (·.1)) (u'.map (·.1)) (t'.map (·.1)) xs.length).1 (sliceBounds (l'.map (·.1)) (u'.map (·.1)) (t'.map (·.1)) xs.length).2.1 (sliceBounds (l'.map (·.1)) (u'.map (·.1)) (t'.map (·.1)) xs.length).2.2)
          unfold pickL
          rw [hlen]
          exact this.kp S.frF push_kp
      · show _ ≤ 2 ^ 24
        simp only [List.size_toArray]; omega
    · cases e'
  rcases r with r | ⟨b, vs, xs, hv, rfl, hb, hr⟩
  · cases r with
    | list hb hn hr => exact key rfl hb hr e'
    | str s₀ tt =>
      cases t' with
      | some tv => cases e'
      | none =>
        simp only [Option.map_none, sliceP] at e'
        split at e'
        · rename_i hc
          cases e'
          obtain ⟨o, ho', hc', hd'⟩ := hsl
          have hsl' : s₅.heap.IsSlice s₄.heap.objs.size l' u' none := ⟨o, ho', hc', hd'⟩
          refine tail_any (typeIs_str _ _ _) F.slot_str_getitem.lookup (wpAny_getItem_str_slice hsl' rfl ?_) ho
          have hsz : (St8 s₀).length = s₀.length := by show s₀.toArray.size = _; simp
          unfold sliceMade slicePicked pickS
          simp only [Option.map_none, Option.getD_none, beq_self_eq_true, Bool.true_and, hsz]
          split
          · exact ⟨.str .., kk⟩
          · refine ⟨?_, ?_, kk.trans (.tok ..)⟩
            · show (List.toArray _).size ≤ 2 ^ 24
              simp only [List.size_toArray]
              refine Nat.le_trans (List.length_filterMap_le _ _) ?_
              have := indices_len_le (l'.map (·.1)) (u'.map (·.1)) s₀.length
              omega
            · have e : (fun x => (St8 s₀).cps[x]?) = fun x : Nat => s₀[x]? := by funext x; simp
              rw [e]; exact .str ..
        · cases e'
    | _ => cases t' <;> cases e'
  · exact key hv hb hr e'

/-! ## a filled text -/
theorem EvR.fstr {x y : Str} {k₁ k₂ : Nat} {p₁ p₂ p₃ pos : Pos} {e : Expr} {f : List Slot → Option PV} (h : EvR prog w sc e f) :
    EvR prog w sc (.JoinedStr [.Constant (.str x) k₁ p₁, .FormattedValue e (-1) none p₂, .Constant (.str y) k₂ p₃] pos)
      (fun ρ => (f ρ).bind fun | .str a => if x.cps.toList.length + a.length + y.cps.toList.length ≤ 1000000 then some (.str (x.cps.toList ++ a ++ y.cps.toList)) else none | _ => none) := by
  intro c ρ p s E S e'
  obtain ⟨a, ha, e'⟩ := Option.bind_eq_some_iff.mp e'
  refine wpAny_JoinedStr ?_
  have hx : x = St8 x.cps.toList := rfl
  have hy : y = St8 y.cps.toList := rfl
  generalize x.cps.toList = x' at e' hx
  generalize y.cps.toList = y' at e' hy
  subst hx hy
  show wpAny _ _ (eval (.Constant (.str (St8 x')) k₁ p₁) c.env) _ E s
  cases a with
  | str a =>
    simp only at e'
    split at e'
    · rename_i hle
      cases e'
      have l8 : ∀ l : List Nat, (St8 l).length = l.length := fun l => by show l.toArray.size = _; simp
      have e0 : (Str.empty ++ St8 x' : Str) = St8 x' := by rw [show Str.empty = St8 [] from rfl, St8_append]; rfl
      refine wpAny_Constant_str ⟨St8 x', s.toks, rfl, ?_, ?_⟩
      · rw [e0, l8]; show _ ≤ 2 ^ 24; omega
      rw [e0]
      have S₁ : St c sc ρ ({ s with toks := s.toks + 1 } : Shared).heap := S
      refine wpAny_FormattedValue_plain (wpAny_mono (h c ρ (.str a) _ E S₁ ha) (fun v s₁ q => ?_) fun _ _ z => z)
      obtain ⟨r, kk⟩ := q
      cases r with
      | str _ t =>
        have fin : ∀ t' s₂, Kp c s₁ s₂ → ∃ z t'', Value.str (St8 a) t' = Value.str z t'' ∧ (St8 x' ++ z : Str).length ≤ sizeLine ∧
            Joins (model prog w) c.A E [eval (.Constant (.str (St8 y')) k₂ p₃) c.env] (St8 x' ++ z) (fun out s₁ => out.length ≤ sizeLine ∧ (Rep c.F s₁.heap (.str out s₁.toks) (.str (x' ++ a ++ y')) ∧ Kp c s { s₁ with toks := s₁.toks + 1 })) s₂ := by
          intro t' s₂ k₂
          refine ⟨St8 a, t', rfl, by rw [St8_append, l8]; show _ ≤ 2 ^ 24; simp only [List.length_append]; omega, ?_⟩
          refine wpAny_Constant_str ⟨St8 y', s₂.toks, rfl, ?_, ?_, ?_, ?_⟩
          · rw [St8_append, St8_append, l8]; show _ ≤ 2 ^ 24; simp only [List.length_append]; omega
          · rw [St8_append, St8_append, l8]; show _ ≤ 2 ^ 24; simp only [List.length_append]; omega
          · rw [St8_append, St8_append]; exact .str ..
          · exact ((((Kp.tok c s (s.toks + 1)).trans kk).trans k₂).trans (.tok ..)).trans (.tok ..)
        exact wpAny_formatField_str (fin _ _ (.refl ..)) (fin _ _ (.tok ..)) (by rw [l8]; show _ ≤ 2 ^ 24; omega)
    · cases e'
  | _ => cases e'

/-! ## calls of what is built in -/
/-- a value that, called with one argument, gives what g says -/
noncomputable def Blt1 (prog : Program) (w : World) (sc : Sc) (v : Value) (g : PV → Option PV) : Prop :=
  ∀ (c : Cfg) (ρ : List Slot) (s : Shared) (E : Value → Shared → Prop) (v₁ : Value) (p₁ p : PV), St c sc ρ s.heap → RepB c.F s.heap v₁ p₁ → g p₁ = some p →
    wpAny (model prog w) c.A (call v [v₁]) (fun v s' => Rep c.F s'.heap v p ∧ Kp c s s') E s

theorem args1 {c : Cfg} {pos : Pos} {e : Expr} {s : Shared} {E : Value → Shared → Prop} {Q : List Value → Shared → Prop} (h : wpAny (model prog w) c.A (eval e c.env) (fun v s' => Q [v] s') E s)
    (he : ∀ env, starEach [e] env = [(false, eval e env)]) : wpAny (model prog w) c.A (spliced (backTo pos (starEach [e] c.env))) Q E s := by
  rw [he]
  exact Calls.spliced_cons (wpAny_mono h (fun _ _ q => Calls.spliced_nil q) fun _ _ x => x)

theorem EvR.blt1 {x : Str} {id : String} {np pos : Pos} {e : Expr} {f : List Slot → Option PV} {g : PV → Option PV} (hB : Blt1 prog w sc (.builtin id) g) (h : EvB prog w sc e f)
    (hv : bootBuiltins x = some (.builtin id)) (hg : x ∈ sc.globs) (hb : x ∈ bNames) (hn : x ≠ "__name__") (hd : (x == ("__debug__" : Str)) = false)
    (he : ∀ env, starEach [e] env = [(false, eval e env)] := by intro _; rfl) :
    EvR prog w sc (.Call (.Name x np) [e] [] pos) (fun ρ => (f ρ).bind g) := by
  intro c ρ p s E S e'
  obtain ⟨a, ha, e'⟩ := Option.bind_eq_some_iff.mp e'
  refine wpAny_Call_ofName (name_blt S hg hb hv hn hd ?_)
  show wpAny _ _ (callWith pos (.builtin id) [] (backTo pos (starEach [e] c.env)) []) _ E s
  rw [he]
  show wpAny _ _ (callWith pos (.builtin id) [] [(false, eval e c.env)] []) _ E s
  refine callWith_builtin1 (wpAny_mono (h c ρ a s E S ha) (fun v s₁ q => ?_) fun _ _ x => x)
  exact wpAny_mono (hB c ρ s₁ E v a p (S.kp q.2) q.1 e') (fun _ _ q' => ⟨q'.1, q.2.trans q'.2⟩) fun _ _ x => x
theorem EvR.typ1 {x : Str} {id : String} {np pos : Pos} {e : Expr} {f : List Slot → Option PV} {g : PV → Option PV} (hB : Blt1 prog w sc (.type id) g) (h : EvB prog w sc e f)
    (hv : bootBuiltins x = some (.type id)) (hg : x ∈ sc.globs) (hb : x ∈ bNames) (hn : x ≠ "__name__") (hd : (x == ("__debug__" : Str)) = false)
    (he : ∀ env, starEach [e] env = [(false, eval e env)] := by intro _; rfl) :
    EvR prog w sc (.Call (.Name x np) [e] [] pos) (fun ρ => (f ρ).bind g) := by
  intro c ρ p s E S e'
  obtain ⟨a, ha, e'⟩ := Option.bind_eq_some_iff.mp e'
  refine wpAny_Call_ofName (name_blt S hg hb hv hn hd ?_)
  show wpAny _ _ (callWith pos (.type id) [] (backTo pos (starEach [e] c.env)) []) _ E s
  rw [he]
  show wpAny _ _ (callWith pos (.type id) [] [(false, eval e c.env)] []) _ E s
  refine PySem.callWith_type1 (wpAny_mono (h c ρ a s E S ha) (fun v s₁ q => ?_) fun _ _ x => x)
  exact wpAny_mono (hB c ρ s₁ E v a p (S.kp q.2) q.1 e') (fun _ _ q' => ⟨q'.1, q.2.trans q'.2⟩) fun _ _ x => x

noncomputable def intsOf : List PV → Option (List Int)
  | [] => some []
  | .int i :: r => (intsOf r).map (i :: ·)
  | _ => none
theorem Reps.ints {F : List Addr} {h : Heap} {vs : List Value} {xs : List PV} (r : Reps F h vs xs) : ∀ {ns : List Int}, intsOf xs = some ns → IntsAre vs ns := by
  induction r using Reps.rec (motive_1 := fun _ _ _ => True) with
  | nil => intro ns e; cases e; exact .nil
  | cons hv _ _ ih =>
    intro ns e
    cases hv with
    | int i t => simp only [intsOf] at e; obtain ⟨r, hr, rfl⟩ := Option.map_eq_some_iff.mp e; exact .cons i t (ih hr)
    | _ => cases e
  | _ => trivial

noncomputable def lenP : PV → Option PV
  | .list xs => if xs.length ≤ 1000000 then some (.int xs.length) else none
  | .tup xs => if xs.length ≤ 1000000 then some (.int xs.length) else none
  | .str s => if s.length ≤ 1000000 then some (.int s.length) else none
  | _ => none
theorem blt_len : Blt1 prog w sc (.builtin "len") lenP := by
  intro c ρ s E v₁ p₁ p S r e
  have key : ∀ {a : Addr} {vs : List Value} {xs : List PV}, Lst s.heap a vs.toArray → Reps c.F s.heap vs xs → lenP (.list xs) = some p → wpAny (model prog w) c.A (call (.builtin "len") [.ref a]) (fun v s' => Rep c.F s'.heap v p ∧ Kp c s s') E s := by
    intro a vs xs hl hr e
    simp only [lenP] at e
    split at e
    · cases e
      have hlen := hr.length
      refine len_list hl.1 (by simp only [List.size_toArray]; omega) ?_
      refine ⟨?_, .tok ..⟩
      simp only [List.size_toArray, hlen]
      exact .int ..
    · cases e
  rcases r with r | ⟨a, vs, xs, rfl, rfl, hl, hr⟩
  · cases r with
    | list hl hn hr => exact key hl hr e
    | tup ht hn hr =>
      simp only [lenP] at e
      split at e
      · cases e
        have hlen := hr.length
        obtain ⟨o, ho, hc, n, hd⟩ := ht
        refine PyProof.Rows.len_tuple ⟨o, ho, hc, n, hd⟩ (by simp only [List.size_toArray]; omega) ?_
        refine ⟨?_, .tok ..⟩
        simp only [List.size_toArray, hlen]
        exact .int ..
      · cases e
    | str x t =>
      simp only [lenP] at e
      split at e
      · cases e
        have l8 : (St8 x).length = x.length := by show x.toArray.size = _; simp
        refine P.len_str (by rw [l8]; omega) ⟨?_, .tok ..⟩
        rw [l8]; exact .int ..
      · cases e
    | _ => cases e
  · exact key hl hr e

noncomputable def absP : PV → Option PV
  | .int a => some (.int (if a < 0 then -a else a))
  | _ => none
theorem blt_abs : Blt1 prog w sc (.builtin "abs") absP := by
  intro c ρ s E v₁ p₁ p S r e
  rcases r with r | ⟨a, vs, xs, rfl, rfl, hl, hr⟩
  · cases r with
    | int a t => cases e; exact call_abs_int fun u tk => ⟨.int .., .tok ..⟩
    | _ => cases e
  · cases e
noncomputable def sumP : PV → Option PV
  | .list xs => (intsOf xs).map fun ns => .int ns.sum
  | _ => none
theorem blt_sum (hh : sc.hot = false) : Blt1 prog w sc (.builtin "sum") sumP := by
  intro c ρ s E v₁ p₁ p S r e
  have key : ∀ {a : Addr} {vs : List Value} {xs : List PV}, Lst s.heap a vs.toArray → Reps c.F s.heap vs xs → sumP (.list xs) = some p → wpAny (model prog w) c.A (call (.builtin "sum") [.ref a]) (fun v s' => Rep c.F s'.heap v p ∧ Kp c s s') E s := by
    intro a vs xs hl hr e
    obtain ⟨ns, hns, rfl⟩ := Option.map_eq_some_iff.mp e
    have hi := hr.ints hns
    obtain ⟨ys, hy⟩ := hi.allInts.items
    have hl' := hl.1
    have hn := hi.numsOf
    rw [hy] at hl'
    rw [show vs = vs.toArray.toList from rfl, hy, nums_intItems] at hn
    refine sum_intListG (S.hand hh) hl' fun h' tk t' hk => ⟨?_, .keeps hk⟩
    rw [preSum_eq, List.take_of_length_le (by simp), hn]
    exact .int ..
  rcases r with r | ⟨a, vs, xs, rfl, rfl, hl, hr⟩
  · cases r with
    | list hl hn hr => exact key hl hr e
    | _ => cases e
  · exact key hl hr e
noncomputable def minL : List Int → Option Int
  | [] => none
  | a :: r => match minL r with | none => some a | some b => some (if b < a then b else a)
theorem minL_spec : ∀ {ns : List Int} {m : Int}, minL ns = some m → m ∈ ns ∧ ∀ a ∈ ns, m ≤ a
  | [], _, h => by cases h
  | a :: r, m, h => by
    simp only [minL] at h
    cases hr : minL r with
    | none =>
      rw [hr] at h; cases h
      cases r with
      | nil => exact ⟨by simp, by simp⟩
      | cons b r => simp only [minL] at hr; cases hq : minL r <;> rw [hq] at hr <;> cases hr
    | some b =>
      rw [hr] at h
      obtain ⟨h1, h2⟩ := minL_spec hr
      cases h
      split
      · exact ⟨.tail _ h1, fun x hx => (List.mem_cons.mp hx).elim (fun e => by omega) (h2 x)⟩
      · exact ⟨.head _, fun x hx => (List.mem_cons.mp hx).elim (fun e => by omega) (fun q => by have := h2 x q; omega)⟩
noncomputable def minP : PV → Option PV
  | .list xs => (intsOf xs).bind fun ns => (minL ns).map .int
  | _ => none
theorem blt_min (hh : sc.hot = false) : Blt1 prog w sc (.builtin "min") minP := by
  intro c ρ s E v₁ p₁ p S r e
  have key : ∀ {a : Addr} {vs : List Value} {xs : List PV}, Lst s.heap a vs.toArray → Reps c.F s.heap vs xs → minP (.list xs) = some p → wpAny (model prog w) c.A (call (.builtin "min") [.ref a]) (fun v s' => Rep c.F s'.heap v p ∧ Kp c s s') E s := by
    intro a vs xs hl hr e
    obtain ⟨ns, hns, e⟩ := Option.bind_eq_some_iff.mp e
    obtain ⟨m, hm, rfl⟩ := Option.map_eq_some_iff.mp e
    obtain ⟨hm1, hm2⟩ := minL_spec hm
    have hi := hr.ints hns
    obtain ⟨ys, hy⟩ := hi.allInts.items
    have hl' := hl.1
    have hn := hi.numsOf
    rw [hy] at hl'
    rw [show vs = vs.toArray.toList from rfl, hy, nums_intItems] at hn
    have hsz : 0 < ys.size := by
      have : 0 < ns.length := List.length_pos_of_mem hm1
      rw [← hn] at this; simpa using this
    refine min_intList (S.hand hh) hl' hsz fun v h' tk hv hk => ⟨?_, .keeps hk⟩
    obtain ⟨t, rfl⟩ := intItems_at hv
    obtain ⟨h1, h2⟩ := argBest_lt (numAt ys) (ys.size - 1)
    have e1 : numAt ys (argBest (fun i j => decide (numAt ys i < numAt ys j)) (ys.size - 1)) ∈ ns := by
      rw [numAt_eq, hn]; exact getD_mem (by rw [← hn, List.length_map, Array.length_toList]; omega)
    have e2 : numAt ys (argBest (fun i j => decide (numAt ys i < numAt ys j)) (ys.size - 1)) ≤ m := by
      obtain ⟨j, hj, e⟩ := mem_getD hm1
      rw [← hn, List.length_map, Array.length_toList] at hj
      have := h2 j (by omega)
      rw [numAt_eq ys j, hn] at this
      omega
    have e3 := hm2 _ e1
    rw [show numAt ys (argBest (fun i j => decide (numAt ys i < numAt ys j)) (ys.size - 1)) = m by omega]
    exact .int ..
  rcases r with r | ⟨a, vs, xs, rfl, rfl, hl, hr⟩
  · cases r with
    | list hl hn hr => exact key hl hr e
    | _ => cases e
  · exact key hl hr e
noncomputable def listP : PV → Option PV
  | .list xs => if xs.length ≤ 1000000 then some (.list xs) else none
  | _ => none
theorem typ_list : Blt1 prog w sc (.type "list") listP := by
  intro c ρ s E v₁ p₁ p S r e
  have key : ∀ {a : Addr} {vs : List Value} {xs : List PV}, Lst s.heap a vs.toArray → Reps c.F s.heap vs xs → listP (.list xs) = some p → wpAny (model prog w) c.A (call (.type "list") [.ref a]) (fun v s' => Rep c.F s'.heap v p ∧ Kp c s s') E s := by
    intro a vs xs hl hr e
    simp only [listP] at e
    split at e
    · cases e
      have hlen := hr.length
      obtain ⟨o, ho, hc, n, hd⟩ := hl.1
      refine call_list_seq a (.inl rfl) ho hc hd (fun h' c' hk hD => ?_) (by show _ ≤ 2 ^ 24; simp only [List.size_toArray]; omega)
      have kk : Kp c s { s with heap := h' } := .keeps hk
      exact ⟨.list (.of hD) (S.newF (Nat.le_refl _)) (hr.kp S.frF kk), kk⟩
    · cases e
  rcases r with r | ⟨a, vs, xs, rfl, rfl, hl, hr⟩
  · cases r with
    | list hl hn hr => exact key hl hr e
    | _ => cases e
  · exact key hl hr e
end
end Mine
end

section
namespace Mine

/-! ## the frame that stores -/
noncomputable def IsMeth (h : Heap) (q a : Addr) : Prop := ∃ o vs, h.get? q = some o ∧ o.cls = .type "builtin_function_or_method" ∧ o.data = .fields vs ∧ vs[0]? = some (.builtin "list.append") ∧ vs[1]? = some (.ref a)
theorem IsMeth.at {h h' : Heap} {q a : Addr} (x : IsMeth h q a) (e : ∀ o, h.get? q = some o → h'.get? q = some o) : IsMeth h' q a := let ⟨o, vs, ho, r⟩ := x; ⟨o, vs, e o ho, r⟩
theorem IsMeth.up {h h' : Heap} {q a : Addr} (u : UpS h h') (x : IsMeth h q a) : IsMeth h' q a := let ⟨o, vs, ho, r⟩ := x; let ⟨_, e⟩ := u q o ho; ⟨_, vs, e, r⟩

/-- the names that hold a list's bound append -/
noncomputable def Apps (c : Cfg) (sc : Sc) (ρ : List Slot) (h : Heap) : Prop :=
  ∀ i x j, sc.vars[i]? = some x → ρ.getD i .unb = .app j → sc.app = true ∧ i ≠ j ∧ ∃ q a y, Ld c.env h x (.ref q) ∧ sc.vars[j]? = some y ∧ IsMeth h q a ∧ q ∉ c.F ∧ ∀ xs, ρ.getD j .unb = .own xs → Ld c.env h y (.ref a)

/-- a list with nothing beside its items -/
noncomputable def PL (h : Heap) (a : Addr) : Prop := ∃ (vs : Array Value) (n : Nat), h.get? a = some { cls := .type "list", dict := none, data := .seq vs n, slots := #[] }
noncomputable def PB (base h : Heap) (a : Addr) : Prop := PL h a ∧ base.get? a = none
theorem PL.at {h h' : Heap} {a : Addr} (x : PL h a) (e : ∀ o, h.get? a = some o → h'.get? a = some o) : PL h' a := let ⟨vs, n, r⟩ := x; ⟨vs, n, e _ r⟩

theorem PB.at {base h h' : Heap} {a : Addr} (x : PB base h a) (e : ∀ o, h.get? a = some o → h'.get? a = some o) : PB base h' a := ⟨x.1.at e, x.2⟩

structure FSt (c : Cfg) (sc : Sc) (ρ : List Slot) (h : Heap) : Prop where
  st : St c sc ρ h
  ns : ∃ m, h.Ns c.env.locals m
  LF : c.env.locals ∈ c.F
  LC : ∀ y a, c.env.cells.lookup y = some a → a ≠ c.env.locals
  nd : sc.vars.Nodup
  own : ∀ i x xs a, sc.vars[i]? = some x → ρ.getD i .unb = .own xs → Ld c.env h x (.ref a) → a ∈ c.F ∧ a ≠ c.env.locals ∧ (∀ y b, c.env.cells.lookup y = some b → a ≠ b) ∧ a ∉ c.fr
  oapart : ∀ i j x y xs ys a, sc.vars[i]? = some x → sc.vars[j]? = some y → ρ.getD i .unb = .own xs → ρ.getD j .unb = .own ys → Ld c.env h x (.ref a) → Ld c.env h y (.ref a) → i = j
  apps : Apps c sc ρ h
  oex : ∀ i x xs a, sc.vars[i]? = some x → ρ.getD i .unb = .own xs → Ld c.env h x (.ref a) → PB c.base h a
  Lb : c.base.get? c.env.locals = none

theorem Ns.unique {h : Heap} {a : Addr} {m m' : Str → Option Value} (x : h.Ns a m) (y : h.Ns a m') : m = m' := by
  obtain ⟨o, es, ep, ho, hd, _, hf⟩ := x
  obtain ⟨o', es', ep', ho', hd', _, hf'⟩ := y
  rw [ho] at ho'; cases ho'
  rw [hd] at hd'; cases hd'
  funext n; rw [← hf, ← hf']
theorem IsCell.unique {h : Heap} {a : Addr} {v v'} (x : h.IsCell a v) (y : h.IsCell a v') : v = v' := by
  obtain ⟨o, ho, hd⟩ := x
  obtain ⟨o', ho', hd'⟩ := y
  rw [ho] at ho'; cases ho'
  rw [hd] at hd'; cases hd'; rfl
theorem Ld.unique {env h x v v'} (a : Ld env h x v) (b : Ld env h x v') : v = v' := by
  rcases a with ⟨k, m, hm, e⟩ | ⟨k, c, hc, e⟩ <;> rcases b with ⟨k', m', hm', e'⟩ | ⟨k', c', hc', e'⟩
  · rw [Ns.unique hm hm'] at e; rw [e] at e'; exact Option.some.inj e'
  · rcases k' with k' | k' <;> rw [k] at k' <;> cases k'
  · rcases k with k | k <;> rw [k] at k' <;> cases k'
  · rw [hc] at hc'; cases hc'
    exact Option.some.inj (IsCell.unique e e')

theorem getD_set_ne {α : Type} {l : List α} {i j : Nat} {a d : α} (h : i ≠ j) : (l.set i a).getD j d = l.getD j d := by
  simp only [List.getD_eq_getElem?_getD, List.getElem?_set_ne h]
theorem getD_set_self {α : Type} {l : List α} {i : Nat} {a d : α} : (l.set i a).getD i d = if i < l.length then a else d := by
  simp only [List.getD_eq_getElem?_getD, List.getElem?_set_self']
  by_cases h : i < l.length
  · simp [h]
  · simp [h]

/-- what a store may turn: the addresses X; of the frames the slots -/
noncomputable def KpX (c : Cfg) (X : List Addr) (s s' : Shared) : Prop :=
  ∃ h' tk, s' = { s with heap := h', toks := tk } ∧ (∀ b o, b ∉ c.fr → b ∉ X → s.heap.get? b = some o → h'.get? b = some o) ∧ (∀ b o, b ∉ X → s.heap.get? b = some o → ∃ sl, h'.get? b = some { o with slots := sl })
theorem KpX.refl (c : Cfg) (X) (s : Shared) : KpX c X s s := ⟨s.heap, s.toks, rfl, fun _ _ _ _ e => e, fun _ o _ e => ⟨o.slots, e⟩⟩
theorem KpX.trans {c : Cfg} {X} {s₁ s₂ s₃ : Shared} (x : KpX c X s₁ s₂) (y : KpX c X s₂ s₃) : KpX c X s₁ s₃ := by
  obtain ⟨h₂, t₂, rfl, k₂, u₂⟩ := x
  obtain ⟨h₃, t₃, rfl, k₃, u₃⟩ := y
  exact ⟨h₃, t₃, rfl, fun b o hb hx e => k₃ b o hb hx (k₂ b o hb hx e), fun b o hx e => let ⟨_, e₁⟩ := u₂ b o hx e; let ⟨sl, e₂⟩ := u₃ b _ hx e₁; ⟨sl, e₂⟩⟩
theorem KpX.of {c : Cfg} {X} {s s' : Shared} (k : Kp c s s') : KpX c X s s' := by
  obtain ⟨h', tk, rfl, k₁, u⟩ := k
  exact ⟨h', tk, rfl, fun b o hb _ e => k₁ b o hb e, fun b o _ e => u b o e⟩
theorem KpX.sub {c : Cfg} {X Y : List Addr} {s s' : Shared} (k : KpX c X s s') (hXY : ∀ b o, b ∈ X → s.heap.get? b = some o → b ∈ Y) : KpX c Y s s' := by
  obtain ⟨h', tk, rfl, k₁, u⟩ := k
  exact ⟨h', tk, rfl, fun b o hb hy e => k₁ b o hb (fun hx => hy (hXY b o hx e)) e, fun b o hy e => u b o (fun hx => hy (hXY b o hx e)) e⟩
theorem KpX.kp {c : Cfg} {X : List Addr} {s s' : Shared} (k : KpX c X s s') (hX : ∀ b ∈ X, s.heap.get? b = none) : Kp c s s' := by
  obtain ⟨h', tk, rfl, k₁, u⟩ := k
  have ne : ∀ b o, s.heap.get? b = some o → b ∉ X := fun b o e hx => by rw [hX b hx] at e; cases e
  exact ⟨h', tk, rfl, fun b o hb e => k₁ b o hb (ne b o e) e, fun b o e => u b o (ne b o e) e⟩
theorem KpX.sameBut {c : Cfg} {a : Addr} {s : Shared} {h' : Heap} {tk : Nat} (hs : Heap.SameBut a s.heap h') : KpX c [a] s { s with heap := h', toks := tk } :=
  ⟨h', tk, rfl, fun b o _ hx e => (hs.2 b (by simpa using hx)).trans e, fun b o hx e => ⟨o.slots, (hs.2 b (by simpa using hx)).trans e⟩⟩

section
variable {prog : Program} {w : World} {c : Cfg} {sc : Sc} {ρ : List Slot} {s : Shared} {h' : Heap}

theorem names_ne {vars : List Str} (nd : vars.Nodup) {i j : Nat} {x y : Str} (hi : vars[i]? = some x) (hj : vars[j]? = some y) (h : j ≠ i) : y ≠ x := fun e => by
  subst e
  obtain ⟨h1, e1⟩ := List.getElem?_eq_some_iff.mp hi
  obtain ⟨h2, e2⟩ := List.getElem?_eq_some_iff.mp hj
  rcases Nat.lt_trichotomy i j with q | q | q
  · exact List.pairwise_iff_getElem.mp nd i j h1 h2 q (e1.trans e2.symm)
  · exact h q.symm
  · exact List.pairwise_iff_getElem.mp nd j i h2 h1 q (e2.trans e1.symm)

/-- one place of the frame turned: the rest of the state stands -/
theorem FSt.turn {a : Addr} {i : Nat} {x : Str} {v : Value} {sl : Slot} (S : FSt c sc ρ s.heap) (hs : Heap.SameBut a s.heap h') (haF : a ∈ c.F) (hab : c.base.get? a = none) (hi : sc.vars[i]? = some x)
    (hlive : ∃ o, h'.get? a = some o)
    (other : ∀ y u, y ≠ x → (Ld c.env s.heap y u ↔ Ld c.env h' y u))
    (hns : ∃ m', h'.Ns c.env.locals m')
    (hcell : ∀ y b, c.env.cells.lookup y = some b → ∃ u, h'.IsCell b u)
    (hff : h'.FunFrames c.base (c.fenv :: c.outer))
    (hown : ∀ j y ys b, sc.vars[j]? = some y → j ≠ i → ρ.getD j .unb = .own ys → Ld c.env s.heap y (.ref b) → b ≠ a)
    (hld : Ld c.env h' x v) (hsl : sl = .unb ∨ (∃ p, sl = .val p ∧ Rep c.F h' v p) ∨ ∃ xs b vs, sl = .own xs ∧ v = .ref b ∧ (Lst h' b vs.toArray ∧ PB c.base h' b) ∧ Reps c.F h' vs xs ∧ b ∈ c.F ∧ b ≠ c.env.locals ∧ (∀ y d, c.env.cells.lookup y = some d → b ≠ d) ∧ b ∉ c.fr ∧
      ∀ j y ys, sc.vars[j]? = some y → j ≠ i → ρ.getD j .unb = .own ys → ¬ Ld c.env s.heap y (.ref b))
    (happ : ∀ xs, sl = .own xs → (∀ k, ρ.getD k .unb ≠ .app i) ∨ (∃ ys, ρ.getD i .unb = .own ys ∧ Ld c.env s.heap x v)) :
    FSt c sc (ρ.set i sl) h' := by
  have keep : ∀ b o, b ∉ c.F → s.heap.get? b = some o → h'.get? b = some o := fun b o hb e => (hs.2 b fun q => hb (q ▸ haF)).trans e
  have namesNe : ∀ j y, sc.vars[j]? = some y → j ≠ i → y ≠ x := fun j y hj hne => names_ne S.nd hi hj hne
  have ownI : ∀ xs u, (ρ.set i sl).getD i .unb = .own xs → Ld c.env h' x (.ref u) → sl = .own xs ∧ v = .ref u := by
    intro xs u e l
    rw [getD_set_self] at e
    split at e
    · exact ⟨e, hld.unique l⟩
    · cases e
  have ownFact : ∀ j y ys b, sc.vars[j]? = some y → (ρ.set i sl).getD j .unb = .own ys → Ld c.env h' y (.ref b) →
      b ∈ c.F ∧ b ≠ c.env.locals ∧ (∀ y d, c.env.cells.lookup y = some d → b ≠ d) ∧ b ∉ c.fr := by
    intro j y ys b hj e l
    by_cases hji : j = i
    · subst hji
      rw [hi] at hj; cases hj
      obtain ⟨rfl, rfl⟩ := ownI _ _ e l
      rcases hsl with h | ⟨p, h, _⟩ | ⟨xs, b', vs, h, h2, _, _, h3⟩
      · cases h
      · cases h
      · cases h2; exact ⟨h3.1, h3.2.1, h3.2.2.1, h3.2.2.2.1⟩
    · rw [getD_set_ne (Ne.symm hji)] at e
      exact S.own j y ys b hj e ((other y _ (namesNe j y hj hji)).mpr l)
  refine ⟨⟨S.st.kind, S.st.glob, S.st.glo, S.st.blt, S.st.hand, S.st.hotk, S.st.room, S.st.units, S.st.frames, hff, S.st.frF, ?_, S.st.celb, S.st.G, S.st.gb, ?_, ?_, S.st.capart, S.st.cells, S.st.stok, ?_⟩, hns, S.LF, S.LC, S.nd, ownFact, ?_, ?_, ?_, S.Lb⟩
  · intro b hb
    by_cases e : b = a
    · exact e ▸ hlive
    · obtain ⟨o, ho⟩ := S.st.liveF b hb; exact ⟨o, (hs.2 b e).trans ho⟩
  · intro b o e
    exact (hs.2 b fun q => by rw [q, hab] at e; cases e).trans (S.st.stays b o e)
  · intro y b hb
    obtain ⟨h1, h2, _⟩ := S.st.cel y b hb
    exact ⟨h1, h2, hcell y b hb⟩
  · intro j y hj
    by_cases hji : j = i
    · subst hji
      rw [hi] at hj; cases hj
      rw [getD_set_self]
      split
      · rcases hsl with rfl | ⟨p, rfl, hr⟩ | ⟨xs, b, vs, rfl, rfl, hl, hr, _⟩
        · trivial
        · exact ⟨v, hld, hr⟩
        · exact ⟨b, vs, hld, hl.1, hr⟩
      · trivial
    · rw [getD_set_ne (Ne.symm hji)]
      have q := S.st.vars j y hj
      generalize hg : ρ.getD j .unb = sl' at q ⊢
      cases sl' with
      | unb => trivial
      | app _ => trivial
      | val p => obtain ⟨u, hl, hr⟩ := q; exact ⟨u, (other y _ (namesNe j y hj hji)).mp hl, hr.mono keep⟩
      | own xs =>
        obtain ⟨b, vs, hl, hli, hr⟩ := q
        have hba := hown j y xs b hj hji hg hl
        exact ⟨b, vs, (other y _ (namesNe j y hj hji)).mp hl, hli.at fun o e => (hs.2 b hba).trans e, hr.mono keep⟩
  · intro j k y z ys zs b hj hk ej ek lj lk
    by_cases hji : j = i
    · by_cases hki : k = i
      · rw [hji, hki]
      · exfalso
        subst hji
        rw [hi] at hj; cases hj
        obtain ⟨rfl, rfl⟩ := ownI _ _ ej lj
        rw [getD_set_ne (Ne.symm hki)] at ek
        rcases hsl with h | ⟨p, h, _⟩ | ⟨xs, b', vs, h, h2, _, _, h3⟩
        · cases h
        · cases h
        · cases h2
          exact h3.2.2.2.2 k z zs hk hki ek ((other z _ (namesNe k z hk hki)).mpr lk)
    · by_cases hki : k = i
      · exfalso
        subst hki
        rw [hi] at hk; cases hk
        obtain ⟨rfl, rfl⟩ := ownI _ _ ek lk
        rw [getD_set_ne (Ne.symm hji)] at ej
        rcases hsl with h | ⟨p, h, _⟩ | ⟨xs, b', vs, h, h2, _, _, h3⟩
        · cases h
        · cases h
        · cases h2
          exact h3.2.2.2.2 j y ys hj hji ej ((other y _ (namesNe j y hj hji)).mpr lj)
      · rw [getD_set_ne (Ne.symm hji)] at ej
        rw [getD_set_ne (Ne.symm hki)] at ek
        exact S.oapart j k y z ys zs b hj hk ej ek ((other y _ (namesNe j y hj hji)).mpr lj) ((other z _ (namesNe k z hk hki)).mpr lk)
  · intro k z j hk e
    by_cases hki : k = i
    · exfalso
      subst hki
      rw [getD_set_self] at e
      split at e
      · rcases hsl with h | ⟨p, h, _⟩ | ⟨xs, b', vs, h, _⟩ <;> (rw [h] at e; cases e)
      · cases e
    · rw [getD_set_ne (Ne.symm hki)] at e
      obtain ⟨h1, h2, q, b, y, h3, h4, h5, h6, h7⟩ := S.apps k z j hk e
      refine ⟨h1, h2, q, b, y, (other z _ (namesNe k z hk hki)).mp h3, h4, h5.at fun o e => keep q o h6 e, h6, fun xs e' => ?_⟩
      by_cases hji : j = i
      · subst hji
        rw [hi] at h4; cases h4
        obtain ⟨u, hu⟩ : ∃ u, v = .ref u := by
          rw [getD_set_self] at e'
          split at e'
          · rcases hsl with h | ⟨p, h, _⟩ | ⟨xs, b', vs, h, h2', _⟩
            · rw [h] at e'; cases e'
            · rw [h] at e'; cases e'
            · exact ⟨b', h2'⟩
          · cases e'
        subst hu
        have hs' : sl = .own xs := by
          rw [getD_set_self] at e'
          split at e'
          · exact e'
          · cases e'
        rcases happ xs hs' with h | ⟨ys, h, hl⟩
        · exact absurd e (h k)
        · have := (h7 ys h).unique hl
          cases this
          exact hld
      · rw [getD_set_ne (Ne.symm hji)] at e'
        exact (other y _ (namesNe j y h4 hji)).mp (h7 xs e')
  · intro j y ys b hj e l
    by_cases hji : j = i
    · subst hji
      rw [hi] at hj; cases hj
      obtain ⟨rfl, rfl⟩ := ownI _ _ e l
      rcases hsl with h | ⟨p, h, _⟩ | ⟨xs, b', vs, h, h2, h3, _⟩
      · cases h
      · cases h
      · cases h2; exact h3.2
    · rw [getD_set_ne (Ne.symm hji)] at e
      have l' := (other y _ (namesNe j y hj hji)).mpr l
      exact (S.oex j y ys b hj e l').at fun o q => (hs.2 b (hown j y ys b hj hji e l')).trans q

theorem funFrames_turn {a : Addr} {l : List Env} {base h : Heap} (hs : Heap.SameBut a h h') (ff : h.FunFrames base l) (ha : a ∈ l.filterMap (·.frame) → ∃ m, h'.Ns a m) : h'.FunFrames base l := by
  induction l with
  | nil => trivial
  | cons env r ih =>
    obtain ⟨hk, ⟨L, o, hf, hn, ho, hd⟩, hr⟩ := ff
    refine ⟨hk, ?_, ih hr fun hm => ha (by rw [List.filterMap_cons, hf]; exact .tail _ hm)⟩
    by_cases e : L = a
    · subst e
      obtain ⟨m, o', es, ep, ho', hd', _⟩ := ha (by rw [List.filterMap_cons, hf]; exact .head _)
      exact ⟨L, o', hf, hn, ho', fun vs q => by rw [hd'] at q; cases q⟩
    · exact ⟨L, o, hf, hn, (hs.2 L e).trans ho, hd⟩

/-- what a value to be stored stands for -/
noncomputable def SlotFit (c : Cfg) (sc : Sc) (ρ : List Slot) (i : Nat) (h : Heap) (v : Value) (sl : Slot) : Prop :=
  sl = .unb ∨ (∃ p, sl = .val p ∧ Rep c.F h v p) ∨ ∃ xs b vs, sl = .own xs ∧ v = .ref b ∧ (Lst h b vs.toArray ∧ PB c.base h b) ∧ Reps c.F h vs xs ∧ b ∈ c.F ∧ b ≠ c.env.locals ∧ (∀ y d, c.env.cells.lookup y = some d → b ≠ d) ∧ b ∉ c.fr ∧
      (∀ j y ys, sc.vars[j]? = some y → j ≠ i → ρ.getD j .unb = .own ys → ¬ Ld c.env h y (.ref b)) ∧ ∀ k, ρ.getD k .unb ≠ .app i

/-- a name is stored to: a local or a cell -/
theorem FSt.store {i : Nat} {x : Str} {v : Value} {sl : Slot} {E : Value → Shared → Prop} {Q : Unit → Shared → Prop} (S : FSt c sc ρ s.heap) (hi : sc.vars[i]? = some x)
    (hx : x ∈ sc.sto) (hf : SlotFit c sc ρ i s.heap v sl)
    (h : ∀ a h' tk, FSt c sc (ρ.set i sl) h' → (a = c.env.locals ∨ c.env.cells.lookup x = some a) → Heap.SameBut a s.heap h' → (∀ y u, y ≠ x → (Ld c.env s.heap y u ↔ Ld c.env h' y u)) → Ld c.env h' x v → Q () { s with heap := h', toks := tk }) :
    wpAny (model prog w) c.A (storeName c.env x v) Q E s := by
  obtain ⟨m, hm⟩ := S.ns
  have fit : ∀ {a : Addr} {h' : Heap}, a ∈ c.F → (a = c.env.locals ∨ ∃ y, c.env.cells.lookup y = some a) → Heap.SameBut a s.heap h' → sl = .unb ∨ (∃ p, sl = .val p ∧ Rep c.F h' v p) ∨ ∃ xs b vs, sl = .own xs ∧ v = .ref b ∧ (Lst h' b vs.toArray ∧ PB c.base h' b) ∧ Reps c.F h' vs xs ∧ b ∈ c.F ∧ b ≠ c.env.locals ∧ (∀ y d, c.env.cells.lookup y = some d → b ≠ d) ∧ b ∉ c.fr ∧
      ∀ j y ys, sc.vars[j]? = some y → j ≠ i → ρ.getD j .unb = .own ys → ¬ Ld c.env s.heap y (.ref b) := by
    intro a h' haF hw hs
    have keep : ∀ b o, b ∉ c.F → s.heap.get? b = some o → h'.get? b = some o := fun b o hb e => (hs.2 b fun q => hb (q ▸ haF)).trans e
    rcases hf with h | ⟨p, h, r⟩ | ⟨xs, b, vs, h, h2, hl, hr, h3, h4, h5, h6, h7, _⟩
    · exact .inl h
    · exact .inr (.inl ⟨p, h, r.mono keep⟩)
    · refine .inr (.inr ⟨xs, b, vs, h, h2, ⟨hl.1.at fun o e => (hs.2 b ?_).trans e, hl.2.at fun o e => (hs.2 b ?_).trans e⟩, hr.mono keep, h3, h4, h5, h6, h7⟩) <;>
      (rcases hw with rfl | ⟨y, hy⟩
       · exact h4
       · exact h5 y a hy)
  have happ : ∀ xs, sl = .own xs → (∀ k, ρ.getD k .unb ≠ .app i) ∨ (∃ ys, ρ.getD i .unb = .own ys ∧ Ld c.env s.heap x v) := by
    intro xs e
    rcases hf with h | ⟨p, h, r⟩ | ⟨xs', b, vs, h, h2, hl, hr, h3, h4, h5, h6, h7, h8⟩
    · rw [h] at e; cases e
    · rw [h] at e; cases e
    · exact .inl h8
  rcases S.st.stok x hx with hk | ⟨hk, hxc⟩
  · refine wpAny_storeName_local hk hm (fun h' hn' hs => ?_) (by rw [S.st.kind]; rfl)
    have other : ∀ y u, y ≠ x → (Ld c.env s.heap y u ↔ Ld c.env h' y u) := fun y u hy => by
      constructor
      · rintro (⟨k, m₁, h1, e⟩ | ⟨k, b, hb, e⟩)
        · rw [Ns.unique h1 hm] at e
          exact .inl ⟨k, _, hn', by simpa [hy] using e⟩
        · exact .inr ⟨k, b, hb, e.sameBut hs (S.LC y b hb)⟩
      · rintro (⟨k, m₁, h1, e⟩ | ⟨k, b, hb, o, ho, hd⟩)
        · rw [Ns.unique h1 hn'] at e
          exact .inl ⟨k, m, hm, by simpa [hy] using e⟩
        · exact .inr ⟨k, b, hb, o, by rw [← hs.2 b (S.LC y b hb)]; exact ho, hd⟩
    refine h _ h' _ ?_ (.inl rfl) hs other (.inl ⟨hk, _, hn', by simp⟩)
    refine S.turn (v := v) hs S.LF S.Lb hi (let ⟨o, _, _, ho, _⟩ := hn'; ⟨o, ho⟩) other ⟨_, hn'⟩ (fun y b hb => ?_) (funFrames_turn hs S.st.ff fun _ => ⟨_, hn'⟩) (fun j y ys b hj _ e l => ?_) (.inl ⟨hk, _, hn', by simp⟩) (fit S.LF (.inl rfl) hs) happ
    · obtain ⟨_, _, u, hu⟩ := S.st.cel y b hb
      exact ⟨u, hu.sameBut hs (S.LC y b hb)⟩
    · exact (S.own j y ys b hj e l).2.1
  · obtain ⟨_, d, hd⟩ := S.st.cells x hxc
    obtain ⟨hdF, hdfr, u₀, hu₀⟩ := S.st.cel x d hd
    refine wpAny_storeName_cell S.st.kind hk hd hu₀ fun h' hc' hs => ?_
    have hm' := hm.sameBut hs (Ne.symm (S.LC x d hd))
    have ne : ∀ y b, c.env.cells.lookup y = some b → y ≠ x → b ≠ d := fun y b hb hyx e => hyx (S.st.capart y x d (e ▸ hb) hd)
    have other : ∀ y u, y ≠ x → (Ld c.env s.heap y u ↔ Ld c.env h' y u) := fun y u hy => by
      constructor
      · rintro (⟨k, m₁, h1, e⟩ | ⟨k, b, hb, e⟩)
        · rw [Ns.unique h1 hm] at e
          exact .inl ⟨k, m, hm', e⟩
        · exact .inr ⟨k, b, hb, e.sameBut hs (ne y b hb hy)⟩
      · rintro (⟨k, m₁, h1, e⟩ | ⟨k, b, hb, o, ho, hd⟩)
        · rw [Ns.unique h1 hm'] at e
          exact .inl ⟨k, m, hm, e⟩
        · exact .inr ⟨k, b, hb, o, by rw [← hs.2 b (ne y b hb hy)]; exact ho, hd⟩
    refine h d h' s.toks ?_ (.inr hd) hs other (.inr ⟨.inl hk, d, hd, hc'⟩)
    refine S.turn (v := v) hs hdF (S.st.celb x d hd) hi (let ⟨o, ho, _⟩ := hc'; ⟨o, ho⟩) other ⟨_, hm'⟩ (fun y b hb => ?_) (funFrames_turn hs S.st.ff fun hm => absurd hm hdfr) (fun j y ys b hj _ e l => ?_) (.inr ⟨.inl hk, d, hd, hc'⟩) (fit hdF (.inr ⟨x, hd⟩) hs) happ
    · by_cases hyx : y = x
      · subst hyx; rw [hd] at hb; cases hb; exact ⟨_, hc'⟩
      · obtain ⟨_, _, u, hu⟩ := S.st.cel y b hb
        exact ⟨u, hu.sameBut hs (ne y b hb hyx)⟩
    · exact (S.own j y ys b hj e l).2.2.1 x d hd
/-- the frame over an expression's way -/
theorem FSt.kp {s' : Shared} (S : FSt c sc ρ s.heap) (k : Kp c s s') : FSt c sc ρ s'.heap := by
  have back : ∀ y u, (∃ v, Ld c.env s.heap y v) → Ld c.env s'.heap y u → Ld c.env s.heap y u := by
    rintro y u ⟨v, hv⟩ hu
    have := (k.up.ld hv).unique hu
    subst this; exact hv
  have ownLd : ∀ i x xs, sc.vars[i]? = some x → ρ.getD i .unb = .own xs → ∃ v, Ld c.env s.heap x v := by
    intro i x xs hi e
    have := S.st.vars i x hi
    rw [e] at this
    obtain ⟨a, _, hl, _⟩ := this
    exact ⟨_, hl⟩
  refine ⟨S.st.kp k, let ⟨m, hm⟩ := S.ns; ⟨m, k.up.ns hm⟩, S.LF, S.LC, S.nd, fun i x xs a hi e l => ?_, fun i j x y xs ys a hi hj ei ej li lj => ?_, fun i x j hi e => ?_, fun i x xs a hi e l => ?_, S.Lb⟩
  · exact S.own i x xs a hi e (back _ _ (ownLd i x xs hi e) l)
  · exact S.oapart i j x y xs ys a hi hj ei ej (back _ _ (ownLd i x xs hi ei) li) (back _ _ (ownLd j y ys hj ej) lj)
  · obtain ⟨h1, h2, q, b, y, h3, h4, h5, h6, h7⟩ := S.apps i x j hi e
    exact ⟨h1, h2, q, b, y, k.up.ld h3, h4, h5.up k.up, h6, fun xs e' => k.up.ld (h7 xs e')⟩
  · have l' := back _ _ (ownLd i x xs hi e) l
    exact (S.oex i x xs a hi e l').at fun o q => k.keep (S.own i x xs a hi e l').2.2.2 q
end
end Mine
end

section
namespace Mine

section
variable {prog : Program} {w : World} {sc : Sc}

/-! ## what is walked over -/
noncomputable def NoPairs (h : Heap) (I : Addr) : Prop := ∃ o vs n, h.get? I = some o ∧ o.cls = .type n ∧ o.data = .fields vs ∧ ["enumerate", "zip", "dict_itemiterator", "dict_reverseitemiterator", "odict_iterator", "itertools.zip_longest", "itertools.pairwise"].contains n = false
noncomputable def IterR (prog : Program) (w : World) (sc : Sc) (e : Expr) (f : List Slot → Option (List PV)) : Prop :=
  ∀ (c : Cfg) (ρ : List Slot) (ps : List PV) (s : Shared) (E : Value → Shared → Prop), St c sc ρ s.heap → f ρ = some ps →
    wpAny (model prog w) c.A (eval e c.env) (fun x s₁ => wpAny (model prog w) c.A (pyIter x) (fun it s₂ => Kp c s s₂ ∧ ∃ I fp wr P W, it = .ref I ∧ Walks prog w c.A I fp wr ps.length P W ∧ W 0 s₂.heap ∧
      (∀ b ∈ fp, b ∉ c.F ∧ b < s₂.heap.objs.size) ∧ (∀ b ∈ wr, s.heap.get? b = none) ∧ (∀ i h, W i h → ∀ b ∈ wr, ∃ o vs, h.get? b = some o ∧ o.data = .fields vs) ∧ (∀ i v, P i v → ∃ p, ps[i]? = some p ∧ Rep c.F s₂.heap v p) ∧ (∀ i h, W i h → NoPairs h I) ∧ ∀ b ∈ fp, ∃ o, s₂.heap.get? b = some o) E s₁) E s

noncomputable def itemsOf : PV → Option (List PV)
  | .list xs => some xs
  | .tup xs => some xs
  | .str s => some (s.map fun a => .str [a])
  | _ => none

theorem newAt {c : Cfg} {s s₁ : Shared} (k : Kp c s s₁) {a : Addr} (ha : s₁.heap.objs.size ≤ a) : s.heap.get? a = none := by
  cases e : s.heap.get? a with
  | none => rfl
  | some o => obtain ⟨sl, e'⟩ := k.up a o e; exact absurd (Heap.lt_size e') (Nat.not_lt.mpr ha)

theorem IterR.val {e : Expr} {f : List Slot → Option PV} (h : EvR prog w sc e f) (hh : sc.hot = false) : IterR prog w sc e (fun ρ => (f ρ).bind itemsOf) := by
  intro c ρ ps s E S e'
  obtain ⟨a, ha, e'⟩ := Option.bind_eq_some_iff.mp e'
  refine wpAny_mono (h c ρ a s E S ha) (fun v s₁ q => ?_) fun _ _ x => x
  obtain ⟨r, k⟩ := q
  have S₁ := S.kp k
  have hA := S.hand hh
  cases r with
  | @list l vs xs hl hn hr =>
    cases e'
    have hW := Walks.list (prog := prog) (w := w) hA s₁.heap.objs.size l (Nat.ne_of_lt hl.lt) vs.toArray
    rw [show vs.toArray.size = ps.length by simp [hr.length]] at hW
    refine wpAny_pyIter_list hl.1 ⟨k.trans push_kp, s₁.heap.objs.size, _, _, _, _, rfl, hW, ⟨⟨_, Heap.get?_push_size _ rfl, rfl, rfl⟩, hl.1.push _⟩, ?_, ?_, ?_, ?_, ?_, ?_⟩
    · intro b hb
      rcases List.mem_cons.mp hb with rfl | hb
      · exact ⟨S₁.newF (Nat.le_refl _), by simp⟩
      · rw [List.mem_singleton.mp hb]; exact ⟨hn, Nat.lt_of_lt_of_le hl.lt (by rw [Heap.size_push]; exact Nat.le_succ _)⟩
    · intro b hb; rw [List.mem_singleton.mp hb]; exact newAt k (Nat.le_refl _)
    · rintro i h ⟨⟨o, ho, _, hd⟩, _⟩ b hb; rw [List.mem_singleton.mp hb]; exact ⟨o, _, ho, hd⟩
    · intro i v hv
      obtain ⟨p, hp, rp⟩ := hr.get' (by simpa using hv)
      exact ⟨p, hp, rp.kp S.frF push_kp⟩
    · rintro i h ⟨⟨o, ho, hc, hd⟩, _⟩; exact ⟨o, _, _, ho, hc, hd, by decide⟩
    · intro b hb
      rcases List.mem_cons.mp hb with rfl | hb
      · exact ⟨_, Heap.get?_push_size _ rfl⟩
      · rw [List.mem_singleton.mp hb]; exact let ⟨o, ho, _⟩ := hl.1; ⟨o, Heap.get?_push_of_some _ ho⟩
  | @tup l vs xs hl hn hr =>
    cases e'
    have hW := Walks.tuple (prog := prog) (w := w) hA s₁.heap.objs.size l (Nat.ne_of_lt (IsTuple.lt hl)) vs.toArray
    rw [show vs.toArray.size = ps.length by simp [hr.length]] at hW
    refine wpAny_pyIter_tuple hl ⟨k.trans push_kp, s₁.heap.objs.size, _, _, _, _, rfl, hW, ⟨⟨_, Heap.get?_push_size _ rfl, rfl, rfl⟩, hl.push _⟩, ?_, ?_, ?_, ?_, ?_, ?_⟩
    · intro b hb
      rcases List.mem_cons.mp hb with rfl | hb
      · exact ⟨S₁.newF (Nat.le_refl _), by simp⟩
      · rw [List.mem_singleton.mp hb]; exact ⟨hn, Nat.lt_of_lt_of_le (IsTuple.lt hl) (by rw [Heap.size_push]; exact Nat.le_succ _)⟩
    · intro b hb; rw [List.mem_singleton.mp hb]; exact newAt k (Nat.le_refl _)
    · rintro i h ⟨⟨o, ho, _, hd⟩, _⟩ b hb; rw [List.mem_singleton.mp hb]; exact ⟨o, _, ho, hd⟩
    · intro i v hv
      obtain ⟨p, hp, rp⟩ := hr.get' (by simpa using hv)
      exact ⟨p, hp, rp.kp S.frF push_kp⟩
    · rintro i h ⟨⟨o, ho, hc, hd⟩, _⟩; exact ⟨o, _, _, ho, hc, hd, by decide⟩
    · intro b hb
      rcases List.mem_cons.mp hb with rfl | hb
      · exact ⟨_, Heap.get?_push_size _ rfl⟩
      · rw [List.mem_singleton.mp hb]; exact let ⟨o, ho, _⟩ := hl; ⟨o, Heap.get?_push_of_some _ ho⟩
  | str x t =>
    cases e'
    cases hasc : (St8 x).cps.all (· < 128) with
    | true =>
      have hW := Walks.strAscii (prog := prog) (w := w) hA s₁.heap.objs.size (St8 x) t
      rw [show (St8 x).cps.size = (x.map fun a => PV.str [a]).length by simp] at hW
      refine wpAny_pyIter_ascii hasc ⟨k.trans push_kp, s₁.heap.objs.size, _, _, _, _, rfl, hW, ⟨_, Heap.get?_push_size _ rfl, rfl, rfl⟩, ?_, ?_, ?_, ?_, ?_, ?_⟩
      · intro b hb; rw [List.mem_singleton.mp hb]; exact ⟨S₁.newF (Nat.le_refl _), by simp⟩
      · intro b hb; rw [List.mem_singleton.mp hb]; exact newAt k (Nat.le_refl _)
      · rintro i h ⟨o, ho, _, hd⟩ b hb; rw [List.mem_singleton.mp hb]; exact ⟨o, _, ho, hd⟩
      · rintro i v ⟨d, u, hd, rfl⟩
        have : x[i]? = some d := by simpa using hd
        exact ⟨.str [d], by simp [this], .str [d] u⟩
      · rintro i h ⟨o, ho, hc, hd⟩; exact ⟨o, _, _, ho, hc, hd, by decide⟩
      · intro b hb; rw [List.mem_singleton.mp hb]; exact ⟨_, Heap.get?_push_size _ rfl⟩
    | false =>
      have hW := Walks.strWide (prog := prog) (w := w) hA s₁.heap.objs.size (St8 x) t
      rw [show (St8 x).cps.size = (x.map fun a => PV.str [a]).length by simp] at hW
      refine wpAny_pyIter_wide hasc ⟨k.trans push_kp, s₁.heap.objs.size, _, _, _, _, rfl, hW, ⟨_, Heap.get?_push_size _ rfl, rfl, rfl⟩, ?_, ?_, ?_, ?_, ?_, ?_⟩
      · intro b hb; rw [List.mem_singleton.mp hb]; exact ⟨S₁.newF (Nat.le_refl _), by simp⟩
      · intro b hb; rw [List.mem_singleton.mp hb]; exact newAt k (Nat.le_refl _)
      · rintro i h ⟨o, ho, _, hd⟩ b hb; rw [List.mem_singleton.mp hb]; exact ⟨o, _, ho, hd⟩
      · rintro i v ⟨d, u, hd, rfl⟩
        have : x[i]? = some d := by simpa using hd
        exact ⟨.str [d], by simp [this], .str [d] u⟩
      · rintro i h ⟨o, ho, hc, hd⟩; exact ⟨o, _, _, ho, hc, hd, by decide⟩
      · intro b hb; rw [List.mem_singleton.mp hb]; exact ⟨_, Heap.get?_push_size _ rfl⟩
  | _ => cases e'

noncomputable def rangeP (a n : Int) (d : Int) : List PV := (List.range n.toNat).map fun i : Nat => .int (a + i * d)

theorem range_iter {c : Cfg} {ρ : List Slot} {s s₁ : Shared} {E : Value → Shared → Prop} {r : Addr} (S : St c sc ρ s.heap) (hh : sc.hot = false) {a b d : Int} {t u v : Tok} (k : Kp c s s₁) (hr : IsRange s₁.heap r a b d t u v)
    (hsm : Builtin.Range.small a b d = true) (h0 : 0 ≤ Builtin.Range.rangeSize a b d) :
    wpAny (model prog w) c.A (pyIter (.ref r)) (fun it s₂ => Kp c s s₂ ∧ ∃ I fp wr P W, it = .ref I ∧ Walks prog w c.A I fp wr (rangeP a (Builtin.Range.rangeSize a b d) d).length P W ∧ W 0 s₂.heap ∧
      (∀ b ∈ fp, b ∉ c.F ∧ b < s₂.heap.objs.size) ∧ (∀ b ∈ wr, s.heap.get? b = none) ∧ (∀ i h, W i h → ∀ b ∈ wr, ∃ o vs, h.get? b = some o ∧ o.data = .fields vs) ∧ (∀ i v, P i v → ∃ p, (rangeP a (Builtin.Range.rangeSize a b d) d)[i]? = some p ∧ Rep c.F s₂.heap v p) ∧ (∀ i h, W i h → NoPairs h I) ∧ ∀ b ∈ fp, ∃ o, s₂.heap.get? b = some o) E s₁ := by
  have hW := Walks.range (prog := prog) (w := w) (S.hand hh) s₁.heap.objs.size a d (Builtin.Range.rangeSize a b d).toNat
  have hl : (rangeP a (Builtin.Range.rangeSize a b d) d).length = (Builtin.Range.rangeSize a b d).toNat := by simp [rangeP]
  refine wpAny_pyIter_range hr hsm ⟨k.trans push_kp, s₁.heap.objs.size, [s₁.heap.objs.size], [s₁.heap.objs.size], fun i v => i < (Builtin.Range.rangeSize a b d).toNat ∧ ∃ t, v = .int (a + i * d) t, fun i h => IsRangeIter h s₁.heap.objs.size (a + (i : Nat) * d) (((Builtin.Range.rangeSize a b d).toNat : Int) - (i : Nat)) d, rfl, ?_, ?_, ?_, ?_, ?_, ?_, ?_, ?_⟩
  · rw [hl]
    exact ⟨hW.sub, hW.frame, fun i s Q E hi st hQ => hW.item i s Q E hi st fun v h' tk hp => hQ v h' tk ⟨hi, hp⟩, hW.done, hW.self⟩
  · have e1 : (a + ((0 : Nat) : Int) * d) = a := by simp
    have e2 : (((Builtin.Range.rangeSize a b d).toNat : Int) - ((0 : Nat) : Int)) = Builtin.Range.rangeSize a b d := by omega
    show IsRangeIter _ _ (a + ((0 : Nat) : Int) * d) (((Builtin.Range.rangeSize a b d).toNat : Int) - ((0 : Nat) : Int)) d
    rw [e1, e2]
    exact Heap.get?_push_size _ rfl
  · intro x hx; rw [List.mem_singleton.mp hx]; exact ⟨(S.kp k).newF (Nat.le_refl _), by simp⟩
  · intro x hx; rw [List.mem_singleton.mp hx]; exact newAt k (Nat.le_refl _)
  · intro i h ho x hx; rw [List.mem_singleton.mp hx]; exact ⟨_, _, ho, rfl⟩
  · rintro i v ⟨hi, t, rfl⟩
    exact ⟨.int (a + i * d), by simp [rangeP, hi], .int ..⟩
  · intro i h ho; exact ⟨_, _, _, ho, rfl, rfl, by decide⟩
  · intro b hb; rw [List.mem_singleton.mp hb]; exact ⟨_, Heap.get?_push_size _ rfl⟩

theorem IterR.range1 {x : Str} {np pos : Pos} {e : Expr} {f : List Slot → Option PV} (h : EvR prog w sc e f) (hh : sc.hot = false) (hx : x = "range") (hg : x ∈ sc.globs)
    (he : ∀ env, starEach [e] env = [(false, eval e env)] := by intro _; rfl) :
    IterR prog w sc (.Call (.Name x np) [e] [] pos) (fun ρ => (f ρ).bind fun | .int n => if n.natAbs < 1000000 then some (rangeP 0 n 1) else none | _ => none) := by
  subst hx
  intro c ρ ps s E S e'
  obtain ⟨a, ha, e'⟩ := Option.bind_eq_some_iff.mp e'
  refine wpAny_Call_ofName (name_blt (v := .type "range") S hg (by decide) (by decide +kernel) (by decide) (by decide) ?_)
  show wpAny _ _ (callWith pos (.type "range") [] (backTo pos (starEach [e] c.env)) []) _ E s
  rw [he]
  show wpAny _ _ (callWith pos (.type "range") [] [(false, eval e c.env)] []) _ E s
  refine PySem.callWith_type1 (wpAny_mono (h c ρ a s E S ha) (fun v s₁ q => ?_) fun _ _ x => x)
  obtain ⟨r, k⟩ := q
  cases r with
  | int n t =>
    simp only at e'
    split at e'
    · rename_i hn
      cases e'
      refine call_range_1 ?_
      have k₂ : Kp c s { s₁ with heap := s₁.heap.push { cls := .type "range", data := .fields #[.int 0 s₁.toks, .int n t, .int 1 (s₁.toks + 1)] }, toks := s₁.toks + 1 + 1 } := k.trans (push_kp.trans (.tok ..))
      have e1 : rangeP 0 n 1 = rangeP 0 (Builtin.Range.rangeSize 0 n 1) 1 := by
        rw [rangeSize_one]; split
        · simp
        · unfold rangeP; rw [show n.toNat = 0 by omega]; rfl
      rw [e1]
      exact range_iter S hh k₂ (IsRange.new ..) (small_one (by decide) (by decide) (by omega) (by omega)) (by rw [rangeSize_one]; split <;> omega)
    · cases e'
  | _ => cases e'

theorem IterR.range3 {x : Str} {np pos : Pos} {e₁ e₂ e₃ : Expr} {f₁ f₂ f₃ : List Slot → Option PV} (h₁ : EvR prog w sc e₁ f₁) (h₂ : EvR prog w sc e₂ f₂) (h₃ : EvR prog w sc e₃ f₃) (hh : sc.hot = false) (hx : x = "range") (hg : x ∈ sc.globs)
    (he : ∀ env, starEach [e₁, e₂, e₃] env = [(false, eval e₁ env), (false, eval e₂ env), (false, eval e₃ env)] := by intro _; rfl) :
    IterR prog w sc (.Call (.Name x np) [e₁, e₂, e₃] [] pos) (fun ρ => (f₁ ρ).bind fun a => (f₂ ρ).bind fun b => (f₃ ρ).bind fun d => match a, b, d with
      | .int a, .int b, .int d => if a.natAbs < 1000000 ∧ b.natAbs < 1000000 ∧ d = -1 then some (rangeP a (if b < a then a - b else 0) (-1)) else none | _, _, _ => none) := by
  subst hx
  intro c ρ ps s E S e'
  obtain ⟨a, ha, e'⟩ := Option.bind_eq_some_iff.mp e'
  obtain ⟨b, hb, e'⟩ := Option.bind_eq_some_iff.mp e'
  obtain ⟨d, hd, e'⟩ := Option.bind_eq_some_iff.mp e'
  refine wpAny_Call_ofName (name_blt (v := .type "range") S hg (by decide) (by decide +kernel) (by decide) (by decide) ?_)
  show wpAny _ _ (callWith pos (.type "range") [] (backTo pos (starEach [e₁, e₂, e₃] c.env)) []) _ E s
  rw [he]
  show wpAny _ _ (callWith pos (.type "range") [] [(false, eval e₁ c.env), (false, eval e₂ c.env), (false, eval e₃ c.env)] []) _ E s
  refine PySem.callWith_type rfl (Calls.evalArgs_plain (Calls.spliced_cons (wpAny_mono (h₁ c ρ a s E S ha) (fun v₁ s₁ q₁ => ?_) fun _ _ x => x)))
  refine Calls.spliced_cons (wpAny_mono (h₂ c ρ b s₁ E (S.kp q₁.2) hb) (fun v₂ s₂ q₂ => ?_) fun _ _ x => x)
  refine Calls.spliced_cons (wpAny_mono (h₃ c ρ d s₂ E ((S.kp q₁.2).kp q₂.2) hd) (fun v₃ s₃ q₃ => Calls.spliced_nil ?_) fun _ _ x => x)
  obtain ⟨r₁, k₁⟩ := q₁
  obtain ⟨r₂, k₂⟩ := q₂
  obtain ⟨r₃, k₃⟩ := q₃
  have k := (k₁.trans k₂).trans k₃
  have key : ∃ i j k, a = .int i ∧ b = .int j ∧ d = .int k := by
    split at e'
    · exact ⟨_, _, _, rfl, rfl, rfl⟩
    · cases e'
  obtain ⟨a, b, d, rfl, rfl, rfl⟩ := key
  obtain ⟨t, rfl⟩ := r₁.inv_int
  obtain ⟨u, rfl⟩ := r₂.inv_int
  obtain ⟨v, rfl⟩ := r₃.inv_int
  simp only at e'
  split at e'
  · rename_i hn
    obtain ⟨ha', hb', rfl⟩ := hn
    cases e'
    have hsz : Builtin.Range.rangeSize a b (-1) = if b < a then a - b else 0 := by
      unfold Builtin.Range.rangeSize
      simp only [show ¬ ((-1 : Int) > 0) by decide, if_false, Int.neg_neg, Int.ediv_one]
      split <;> omega
    refine call_range_3 (by decide) ?_ (.inl (PyProof.noPylong_small (by omega)))
    rw [← hsz]
    refine range_iter S hh (k.trans push_kp) (IsRange.new ..) ?_ (by rw [hsz]; split <;> omega)
    unfold Builtin.Range.small
    rw [hsz]
    simp only [Builtin.Range.rangeFitsLong, Bool.and_eq_true, Bool.or_eq_true, decide_eq_true_eq, beq_iff_eq, show ¬ ((-1 : Int) > 0) by decide, if_false]
    split <;> omega
  · cases e'
end
end Mine
end

section
namespace Mine

/-! ## the frame of a comprehension -/
noncomputable def clos (cells : List (Str × Addr)) : List (Str × NameKind) → List (Str × Addr) → List (Str × Addr)
  | [], acc => acc
  | (n, k) :: r, acc => if (k == .free) = true then clos cells r ((n, (cells.lookup n).getD 0) :: acc) else clos cells r acc

theorem closureFor_clos {scope : Scope} {env : Env} (h : ∀ x ∈ scope.names, x.2 = .free → (env.cells.lookup x.1).isSome = true) : closureFor scope env = pure (clos env.cells scope.names []) := by
  have key : ∀ (names : List (Str × NameKind)) (acc : List (Str × Addr)), (∀ x ∈ names, x.2 = .free → (env.cells.lookup x.1).isSome = true) →
      (forIn names acc fun (x : Str × NameKind) cs => if (x.2 == .free) = true then (do let a ← cellOf env x.1; pure (ForInStep.yield ((x.1, a) :: cs))) else pure (ForInStep.yield cs) : Sem (List (Str × Addr))) = pure (clos env.cells names acc) := by
    intro names
    induction names with
    | nil => intro acc _; rfl
    | cons x r ih =>
      intro acc hx
      obtain ⟨n, k⟩ := x
      rw [List.forIn_cons]
      unfold clos
      by_cases hk : (k == NameKind.free) = true
      · have hs := hx (n, k) (.head _) (by simpa using hk)
        obtain ⟨a, ha⟩ := Option.isSome_iff_exists.mp hs
        simp only [hk, if_true]
        unfold cellOf
        simp only [ha]
        show (pure (ForInStep.yield ((n, a) :: acc)) >>= _) = _
        rw [pure_bind]
        simp only [Option.getD_some]
        exact ih _ fun y hy => hx y (.tail _ hy)
      · simp only [if_neg hk]
        rw [pure_bind]
        exact ih _ fun y hy => hx y (.tail _ hy)
  unfold closureFor
  have := key scope.names [] h
  simpa using this

theorem clos_lookup (cells : List (Str × Addr)) : ∀ (names : List (Str × NameKind)) (acc : List (Str × Addr)) (y : Str) (a : Nat), (clos cells names acc).lookup y = some a →
    ((y, NameKind.free) ∈ names ∧ a = (cells.lookup y).getD 0) ∨ acc.lookup y = some a
  | [], _, _, _, h => .inr h
  | (n, k) :: r, acc, y, a, h => by
    unfold clos at h
    split at h
    · rename_i hk
      have hk' : k = .free := by simpa using hk
      rcases clos_lookup cells r _ y a h with ⟨h1, h2⟩ | h1
      · exact .inl ⟨.tail _ h1, h2⟩
      · rw [List.lookup_cons] at h1
        cases hy : y == n with
        | true => rw [hy] at h1; cases h1; have := beq_iff_eq.mp hy; subst this; subst hk'; exact .inl ⟨.head _, rfl⟩
        | false => rw [hy] at h1; exact .inr h1
    · rcases clos_lookup cells r _ y a h with ⟨h1, h2⟩ | h1
      · exact .inl ⟨.tail _ h1, h2⟩
      · exact .inr h1
theorem clos_has (cells : List (Str × Addr)) (y : Str) : ∀ (names : List (Str × NameKind)) (acc : List (Str × Addr)), (y, NameKind.free) ∈ names ∨ acc.lookup y = some ((cells.lookup y).getD 0) → (clos cells names acc).lookup y = some ((cells.lookup y).getD 0)
  | [], _, h => h.elim (fun h => by cases h) id
  | (n, k) :: r, acc, h => by
    unfold clos
    split
    · rename_i hk
      refine clos_has cells y r _ ?_
      by_cases hy : y = n
      · subst hy; exact .inr (by simp)
      · rcases h with h | h
        · rcases List.mem_cons.mp h with e | h
          · exact absurd (congrArg Prod.fst e) hy
          · exact .inl h
        · have : (y == n) = false := beq_eq_false_iff_ne.mpr hy
          exact .inr (by rw [List.lookup_cons, this]; exact h)
    · rename_i hk
      refine clos_has cells y r _ ?_
      rcases h with h | h
      · rcases List.mem_cons.mp h with e | h
        · cases e; exact absurd rfl hk
        · exact .inl h
      · exact .inr h

theorem cellsFrom_lookup : ∀ (names : List (Str × NameKind)) (n : Nat) (acc : List (Str × Addr)) (y : Str) (a : Nat), (cellsFrom n names acc).lookup y = some a →
    (n ≤ a ∧ a < n + names.length ∧ (y, NameKind.cell) ∈ names) ∨ acc.lookup y = some a
  | [], _, _, _, _, h => .inr h
  | (m, k) :: r, n, acc, y, a, h => by
    unfold cellsFrom at h
    split at h
    · rename_i hk
      have hk' : k = .cell := by simpa using hk
      rcases cellsFrom_lookup r _ _ y a h with ⟨h1, h2, h3⟩ | h1
      · exact .inl ⟨by omega, by simp only [List.length_cons]; omega, .tail _ h3⟩
      · rw [List.lookup_cons] at h1
        cases hy : y == m with
        | true => rw [hy] at h1; cases h1; have := beq_iff_eq.mp hy; subst this; subst hk'; exact .inl ⟨Nat.le_refl _, by simp, .head _⟩
        | false => rw [hy] at h1; exact .inr h1
    · rcases cellsFrom_lookup r _ _ y a h with ⟨h1, h2, h3⟩ | h1
      · exact .inl ⟨h1, by simp only [List.length_cons]; omega, .tail _ h3⟩
      · exact .inr h1
theorem cellsFrom_inj : ∀ (names : List (Str × NameKind)) (n : Nat) (acc : List (Str × Addr)), (∀ (y : Str) (a : Nat), acc.lookup y = some a → a < n) → (∀ (x y : Str) (a : Nat), acc.lookup x = some a → acc.lookup y = some a → x = y) →
    ∀ (x y : Str) (a : Nat), (cellsFrom n names acc).lookup x = some a → (cellsFrom n names acc).lookup y = some a → x = y
  | [], _, _, _, hi => hi
  | (m, k) :: r, n, acc, hlt, hi => by
    unfold cellsFrom
    split
    · refine cellsFrom_inj r (n + 1) ((m, n) :: acc) (fun y a h => ?_) fun x y a hx hy => ?_
      · rw [List.lookup_cons] at h
        cases hy : y == m with
        | true => rw [hy] at h; cases h; omega
        | false => rw [hy] at h; have := hlt y a h; omega
      · rw [List.lookup_cons] at hx hy
        cases hxm : x == m with
        | true =>
          rw [hxm] at hx; cases hx
          cases hym : y == m with
          | true => rw [beq_iff_eq.mp hxm, beq_iff_eq.mp hym]
          | false => rw [hym] at hy; have := hlt y _ hy; omega
        | false =>
          rw [hxm] at hx
          cases hym : y == m with
          | true => rw [hym] at hy; cases hy; have := hlt x _ hx; omega
          | false => rw [hym] at hy; exact hi x y a hx hy
    · exact cellsFrom_inj r n acc hlt hi
theorem cellsFrom_has {y : Str} : ∀ (names : List (Str × NameKind)) (n : Nat) (acc : List (Str × Addr)), (y, NameKind.cell) ∈ names ∨ (∃ a, acc.lookup y = some a) → ∃ a, (cellsFrom n names acc).lookup y = some a
  | [], _, _, h => h.elim (fun h => by cases h) id
  | (m, k) :: r, n, acc, h => by
    unfold cellsFrom
    split
    · refine cellsFrom_has r _ _ ?_
      by_cases hy : y = m
      · subst hy; exact .inr ⟨n, by simp⟩
      · rcases h with h | ⟨a, h⟩
        · rcases List.mem_cons.mp h with e | h
          · exact absurd (congrArg Prod.fst e) hy
          · exact .inl h
        · have : (y == m) = false := beq_eq_false_iff_ne.mpr hy
          exact .inr ⟨a, by rw [List.lookup_cons, this]; exact h⟩
    · rename_i hk
      refine cellsFrom_has r _ _ ?_
      rcases h with h | h
      · rcases List.mem_cons.mp h with e | h
        · cases e; exact absurd rfl hk
        · exact .inl h
      · exact .inr h
/-- a name that the scope does not bind as a cell keeps its place -/
theorem cellsFrom_old {y : Str} : ∀ (names : List (Str × NameKind)) (n : Nat) (acc : List (Str × Addr)), (y, NameKind.cell) ∉ names → (cellsFrom n names acc).lookup y = acc.lookup y
  | [], _, _, _ => rfl
  | (m, k) :: r, n, acc, h => by
    unfold cellsFrom
    split
    · rename_i hk
      have hk' : k = .cell := by simpa using hk
      subst hk'
      rw [cellsFrom_old r _ _ fun q => h (.tail _ q)]
      have : (y == m) = false := beq_eq_false_iff_ne.mpr fun e => h (by subst e; exact .head _)
      rw [List.lookup_cons, this]
    · exact cellsFrom_old r _ _ fun q => h (.tail _ q)
theorem pushCells_all : ∀ (names : List (Str × NameKind)) (h : Heap), h.objs.size ≤ (pushCells h names).objs.size ∧ ∀ a : Nat, h.objs.size ≤ a → a < (pushCells h names).objs.size → (pushCells h names).IsCell a none
  | [], h => ⟨Nat.le_refl _, fun a h1 h2 => absurd h1 (Nat.not_le.mpr h2)⟩
  | (m, k) :: r, h => by
    unfold pushCells
    split
    · have ih := pushCells_all r (h.push { cls := .type "cell", data := .cell none })
      rw [Heap.size_push] at ih
      refine ⟨by omega, fun a h1 h2 => ?_⟩
      by_cases e : a = h.objs.size
      · subst e
        exact ⟨_, pushCells_keeps r _ _ _ (Heap.get?_push_size _ rfl), rfl⟩
      · exact ih.2 a (by omega) h2
    · exact pushCells_all r h
theorem cellsFrom_lt : ∀ (names : List (Str × NameKind)) (h : Heap) (acc : List (Str × Addr)) (y : Str) (a : Nat), (cellsFrom h.objs.size names acc).lookup y = some a → acc.lookup y = some a ∨ (h.objs.size ≤ a ∧ a < (pushCells h names).objs.size)
  | [], _, _, _, _, h => .inl h
  | (m, k) :: r, h, acc, y, a, e => by
    unfold cellsFrom at e
    unfold pushCells
    split at e
    · rename_i hk
      rw [if_pos hk]
      have ih := cellsFrom_lt r (h.push { cls := .type "cell", data := .cell none }) ((m, h.objs.size) :: acc) y a (by rw [Heap.size_push]; exact e)
      have hle := (pushCells_all r (h.push { cls := .type "cell", data := .cell none })).1
      rw [Heap.size_push] at ih hle
      rcases ih with ih | ih
      · rw [List.lookup_cons] at ih
        cases hy : y == m with
        | true => rw [hy] at ih; cases ih; exact .inr ⟨Nat.le_refl _, by omega⟩
        | false => rw [hy] at ih; exact .inl ih
      · exact .inr ⟨by omega, ih.2⟩
    · rename_i hk
      rw [if_neg hk]
      exact cellsFrom_lt r h acc y a e

theorem relabel_lookup {env : Env} (scope : Scope) (x : Str) : (relabel scope env).names.lookup x = match scope.names.lookup x with
    | some .free => if (env.scope.kind == .function && env.kindOf x == some .cell) = true then some .cell else some .free
    | o => o := by
  show (scope.names.map _).lookup x = _
  generalize scope.names = names
  induction names with
  | nil => rfl
  | cons y r ih =>
    obtain ⟨n, k⟩ := y
    simp only [List.map_cons, List.lookup_cons]
    by_cases hx : x = n
    · subst hx
      simp only [beq_self_eq_true]
      cases k <;> simp
      split <;> simp
    · have hb : (x == n) = false := beq_eq_false_iff_ne.mpr hx
      simp only [hb]
      rw [← ih]
      split <;> rw [List.lookup_cons, hb]
end Mine
end

section
namespace Mine

section
variable {prog : Program} {w : World} {sc : Sc}

/-- an iterator (a record that no value stands on) turned: the frame stands -/
theorem FSt.iter {c : Cfg} {ρ : List Slot} {s : Shared} {h' : Heap} {wr : List Addr} (S : FSt c sc ρ s.heap) (hk : ∀ b o, b ∉ wr → s.heap.get? b = some o → h'.get? b = some o)
    (hF : ∀ b ∈ wr, b ∉ c.F) (hb : ∀ b ∈ wr, c.base.get? b = none) (hf : ∀ b ∈ wr, ∃ o vs, s.heap.get? b = some o ∧ o.data = .fields vs) (happ : sc.app = false) : FSt c sc ρ h' := by
  have kF : ∀ b o, b ∈ c.F → s.heap.get? b = some o → h'.get? b = some o := fun b o hb e => hk b o (fun q => hF b q hb) e
  have kN : ∀ b o, b ∉ c.F → (∀ vs, o.data ≠ .fields vs) → s.heap.get? b = some o → h'.get? b = some o := fun b o _ hd e => hk b o (fun q => by
    obtain ⟨o', vs, e', d⟩ := hf b q; rw [e] at e'; cases e'; exact hd vs d) e
  obtain ⟨m, hm⟩ := S.ns
  have hm' : h'.Ns c.env.locals m := hm.at' fun o e => kF _ o S.LF e
  have cel' : ∀ y b u, c.env.cells.lookup y = some b → (s.heap.IsCell b u ↔ h'.IsCell b u) := by
    intro y b u hb
    obtain ⟨h1, _, u₀, o, ho, hd⟩ := S.st.cel y b hb
    have ho' := kF b o h1 ho
    constructor
    · rintro ⟨o', e, d⟩; rw [ho] at e; cases e; exact ⟨o, ho', d⟩
    · rintro ⟨o', e, d⟩; rw [ho'] at e; cases e; exact ⟨o, ho, d⟩
  have ld : ∀ x u, Ld c.env s.heap x u ↔ Ld c.env h' x u := by
    intro x u
    constructor
    · rintro (⟨k, m₁, h1, e⟩ | ⟨k, b, hb, e⟩)
      · rw [Ns.unique h1 hm] at e; exact .inl ⟨k, m, hm', e⟩
      · exact .inr ⟨k, b, hb, (cel' x b _ hb).mp e⟩
    · rintro (⟨k, m₁, h1, e⟩ | ⟨k, b, hb, e⟩)
      · rw [Ns.unique h1 hm'] at e; exact .inl ⟨k, m, hm, e⟩
      · exact .inr ⟨k, b, hb, (cel' x b _ hb).mpr e⟩
  refine ⟨⟨S.st.kind, S.st.glob, S.st.glo, S.st.blt, S.st.hand, S.st.hotk, S.st.room, S.st.units, S.st.frames, ?_, S.st.frF, ?_, S.st.celb, S.st.G, S.st.gb, ?_, ?_, S.st.capart, S.st.cells, S.st.stok, ?_⟩, ⟨m, hm'⟩, S.LF, S.LC, S.nd, ?_, ?_, ?_, ?_, S.Lb⟩
  · exact S.st.ff.of_keeps fun b o e hd => ⟨o, hk b o (fun q => by obtain ⟨o', vs, e', d⟩ := hf b q; rw [e] at e'; cases e'; exact hd vs d) e, rfl⟩
  · intro b hb'; obtain ⟨o, ho⟩ := S.st.liveF b hb'; exact ⟨o, kF b o hb' ho⟩
  · intro b o e; exact hk b o (fun q => by rw [hb b q] at e; cases e) (S.st.stays b o e)
  · intro y b e; obtain ⟨h1, h2, u, hu⟩ := S.st.cel y b e; exact ⟨h1, h2, u, (cel' y b u e).mp hu⟩
  · intro i x hx
    have q := S.st.vars i x hx
    generalize hg : ρ.getD i .unb = sl at q ⊢
    cases sl with
    | unb => trivial
    | app _ => trivial
    | val p => obtain ⟨v, hl, hr⟩ := q; exact ⟨v, (ld x v).mp hl, (rep_mono kN).1 hr⟩
    | own xs =>
      obtain ⟨a, vs, hl, hi, hr⟩ := q
      exact ⟨a, vs, (ld x _).mp hl, hi.at fun o e => kF a o (S.own i x xs a hx hg hl).1 e, (rep_mono kN).2 hr⟩
  · intro i x xs a hx e l; exact S.own i x xs a hx e ((ld x _).mpr l)
  · intro i j x y xs ys a hi hj ei ej li lj; exact S.oapart i j x y xs ys a hi hj ei ej ((ld x _).mpr li) ((ld y _).mpr lj)
  · intro i x j hi e; have := (S.apps i x j hi e).1; rw [happ] at this; cases this
  · intro i x xs a hx e l
    have l' := (ld x _).mpr l
    exact (S.oex i x xs a hx e l').at fun o q => kF a o (S.own i x xs a hx e l').1 q
theorem reps_iter {c : Cfg} {s : Shared} {h' : Heap} {wr : List Addr} (hk : ∀ b o, b ∉ wr → s.heap.get? b = some o → h'.get? b = some o)
    (hf : ∀ b ∈ wr, ∃ o vs, s.heap.get? b = some o ∧ o.data = .fields vs) : (∀ {v p}, Rep c.F s.heap v p → Rep c.F h' v p) ∧ (∀ {v p}, Reps c.F s.heap v p → Reps c.F h' v p) :=
  rep_mono fun b o _ hd e => hk b o (fun q => by obtain ⟨o', vs, e', d⟩ := hf b q; rw [e] at e'; cases e'; exact hd vs d) e

/-! ## the turns of a comprehension -/
noncomputable def emitB (elt : Expr) (acc : Value) (env : Env) : Sem Unit := do let _ ← call (.builtin "list.append") [acc, ← eval elt env]
noncomputable def nestB (e iter : Expr) (d : Nat) (acc : Value) (env : Env) : Sem Unit := do
  let x ← eval iter env
  standAt iter.pos
  let x ← foldedSetIterable iter env x
  let _ ← runOwn (.compStart e (d + 1) (← holding [x] (pyIter x)) acc env) env
noncomputable def testsB (ifs : List Expr) (m : Value → Env → Sem Unit) (acc : Value) (env : Env) : Sem Unit := do
  let mut ok := true
  for c in ifs do
    if ok then ok ← isTrue c env (eval c env)
  if ok then m acc env

theorem compTurn_emit {elt : Expr} {gens : List Comprehension} {scope : Scope} {pos : Pos} {d : Nat} {it acc : Value} {env : Env} {x : Str} {px : Pos} {iter : Expr} {ifs : List Expr}
    (h : gens[d]? = some ⟨.Name x px, iter, ifs, 0⟩) (h' : gens[d + 1]? = none) :
    compTurn (.ListComp elt gens scope pos) d it acc env = (do
      standAt iter.pos
      match ← pyNext it with
      | none => pure (.done .next)
      | some v => do
        assign (.Name x px) env v
        testsB ifs (emitB elt) acc env
        again (.compLoop (.ListComp elt gens scope pos) d it acc env)) := by
  unfold compTurn
  simp only [h, h', bne_self_eq_false, Bool.false_eq_true, if_false]
  refine congrArg _ (funext fun _ => congrArg _ (funext fun r => ?_))
  cases r with
  | none => rfl
  | some v =>
    show (pure () >>= fun _ => _) = _
    rw [pure_bind]
    refine congrArg _ (funext fun _ => ?_)
    unfold testsB
    simp only [bind_assoc]
    refine congrArg _ (funext fun b => ?_)
    cases b <;> simp [emitB]
theorem compTurn_nest {elt : Expr} {gens : List Comprehension} {scope : Scope} {pos : Pos} {d : Nat} {it acc : Value} {env : Env} {x y : Str} {px py : Pos} {iter iter' : Expr} {ifs ifs' : List Expr}
    (h : gens[d]? = some ⟨.Name x px, iter, ifs, 0⟩) (h' : gens[d + 1]? = some ⟨.Name y py, iter', ifs', 0⟩) :
    compTurn (.ListComp elt gens scope pos) d it acc env = (do
      standAt iter.pos
      match ← pyNext it with
      | none => pure (.done .next)
      | some v => do
        assign (.Name x px) env v
        testsB ifs (nestB (.ListComp elt gens scope pos) iter' d) acc env
        again (.compLoop (.ListComp elt gens scope pos) d it acc env)) := by
  unfold compTurn
  simp only [h, h', bne_self_eq_false, Bool.false_eq_true, if_false]
  refine congrArg _ (funext fun _ => congrArg _ (funext fun r => ?_))
  cases r with
  | none => rfl
  | some v =>
    show (pure () >>= fun _ => _) = _
    rw [pure_bind]
    refine congrArg _ (funext fun _ => ?_)
    unfold testsB
    simp only [bind_assoc]
    refine congrArg _ (funext fun b => ?_)
    cases b
    · simp
    · simp [nestB]

noncomputable def NoOwn (ρ : List Slot) : Prop := ∀ i xs, ρ.getD i .unb ≠ .own xs
theorem NoOwn.set {ρ : List Slot} (h : NoOwn ρ) (i : Nat) (p : PV) : NoOwn (ρ.set i (.val p)) := fun j xs e => by
  by_cases hj : j = i
  · subst hj; rw [getD_set_self] at e; split at e <;> cases e
  · rw [getD_set_ne (Ne.symm hj)] at e; exact h j xs e

/-- an object that is the frame's but no name's turned -/
theorem FSt.touch {c : Cfg} {ρ : List Slot} {s : Shared} {h' : Heap} {D : Addr} (S : FSt c sc ρ s.heap) (hs : Heap.SameBut D s.heap h') (hF : D ∈ c.F) (hL : D ≠ c.env.locals) (hC : ∀ y b, c.env.cells.lookup y = some b → b ≠ D)
    (hfr : D ∉ c.fr) (hDb : c.base.get? D = none) (hlive : ∃ o, h'.get? D = some o) (hown : ∀ i x xs a, sc.vars[i]? = some x → ρ.getD i .unb = .own xs → Ld c.env s.heap x (.ref a) → a ≠ D) : FSt c sc ρ h' := by
  have keep : ∀ b o, b ∉ c.F → s.heap.get? b = some o → h'.get? b = some o := fun b o hb e => (hs.2 b fun q => hb (q ▸ hF)).trans e
  obtain ⟨m, hm⟩ := S.ns
  have hm' : h'.Ns c.env.locals m := hm.sameBut hs (Ne.symm hL)
  have cel' : ∀ y b u, c.env.cells.lookup y = some b → (s.heap.IsCell b u ↔ h'.IsCell b u) := by
    intro y b u hb
    constructor
    · rintro ⟨o', e, d⟩; exact ⟨o', (hs.2 b (hC y b hb)).trans e, d⟩
    · rintro ⟨o', e, d⟩; exact ⟨o', by rw [← hs.2 b (hC y b hb)]; exact e, d⟩
  have ld : ∀ x u, Ld c.env s.heap x u ↔ Ld c.env h' x u := by
    intro x u
    constructor
    · rintro (⟨k, m₁, h1, e⟩ | ⟨k, b, hb, e⟩)
      · rw [Ns.unique h1 hm] at e; exact .inl ⟨k, m, hm', e⟩
      · exact .inr ⟨k, b, hb, (cel' x b _ hb).mp e⟩
    · rintro (⟨k, m₁, h1, e⟩ | ⟨k, b, hb, e⟩)
      · rw [Ns.unique h1 hm'] at e; exact .inl ⟨k, m, hm, e⟩
      · exact .inr ⟨k, b, hb, (cel' x b _ hb).mpr e⟩
  refine ⟨⟨S.st.kind, S.st.glob, S.st.glo, S.st.blt, S.st.hand, S.st.hotk, S.st.room, S.st.units, S.st.frames, ?_, S.st.frF, ?_, S.st.celb, S.st.G, S.st.gb, ?_, ?_, S.st.capart, S.st.cells, S.st.stok, ?_⟩, ⟨m, hm'⟩, S.LF, S.LC, S.nd, ?_, ?_, ?_, ?_, S.Lb⟩
  · exact funFrames_turn hs S.st.ff fun q => absurd q hfr
  · intro b hb'
    by_cases e : b = D
    · exact e ▸ hlive
    · obtain ⟨o, ho⟩ := S.st.liveF b hb'; exact ⟨o, (hs.2 b e).trans ho⟩
  · intro b o e; exact (hs.2 b fun q => by rw [q, hDb] at e; cases e).trans (S.st.stays b o e)
  · intro y b e; obtain ⟨h1, h2, u, hu⟩ := S.st.cel y b e; exact ⟨h1, h2, u, (cel' y b u e).mp hu⟩
  · intro i x hx
    have q := S.st.vars i x hx
    generalize hg : ρ.getD i .unb = sl at q ⊢
    cases sl with
    | unb => trivial
    | app _ => trivial
    | val p => obtain ⟨v, hl, hr⟩ := q; exact ⟨v, (ld x v).mp hl, hr.mono keep⟩
    | own xs =>
      obtain ⟨a, vs, hl, hi, hr⟩ := q
      exact ⟨a, vs, (ld x _).mp hl, hi.at fun o e => (hs.2 a (hown i x xs a hx hg hl)).trans e, hr.mono keep⟩
  · intro i x xs a hx e l; exact S.own i x xs a hx e ((ld x _).mpr l)
  · intro i j x y xs ys a hi hj ei ej li lj; exact S.oapart i j x y xs ys a hi hj ei ej ((ld x _).mpr li) ((ld y _).mpr lj)
  · intro i x j hi e
    obtain ⟨h1, h2, q, b, y, h3, h4, h5, h6, h7⟩ := S.apps i x j hi e
    exact ⟨h1, h2, q, b, y, (ld x _).mp h3, h4, h5.at fun o e => keep q o h6 e, h6, fun xs e' => (ld y _).mp (h7 xs e')⟩
  · intro i x xs a hx e l
    have l' := (ld x _).mpr l
    exact (S.oex i x xs a hx e l').at fun o q => (hs.2 a (hown i x xs a hx e l')).trans q

structure AccOk (c : Cfg) (sc : Sc) (T : List Addr) (D : Addr) : Prop where
  DT : D ∈ T
  DF : D ∈ c.F
  Dfr : D ∉ c.fr
  DL : D ≠ c.env.locals
  DC : ∀ y b, c.env.cells.lookup y = some b → b ≠ D
  LT : c.env.locals ∈ T
  sT : ∀ x ∈ sc.sto, ∀ a, c.env.cells.lookup x = some a → a ∈ T
  na : sc.app = false
  Db : c.base.get? D = none

/-- the piece of a turn behind the target -/
noncomputable def BdR (prog : Program) (w : World) (sc : Sc) (m : Value → Env → Sem Unit) (f : List Slot → Option (List PV × List Slot)) : Prop :=
  ∀ (c : Cfg) (T : List Addr) (ρ ρ₁ : List Slot) (zs : List PV) (D : Addr) (vs : List Value) (s : Shared) (E : Value → Shared → Prop),
    FSt c sc ρ s.heap → NoOwn ρ → AccOk c sc T D → s.heap.PlainList D vs.toArray → vs.length + zs.length ≤ 1000000 → f ρ = some (zs, ρ₁) →
    wpAny (model prog w) c.A (m (.ref D) c.env) (fun _ s' => ∃ ws, s'.heap.PlainList D (vs ++ ws).toArray ∧ Reps c.F s'.heap ws zs ∧ FSt c sc ρ₁ s'.heap ∧ NoOwn ρ₁ ∧ KpX c T s s') E s

theorem PlainList.at' {h h' : Heap} {a : Addr} {xs : Array Value} (x : h.PlainList a xs) (e : ∀ o, h.get? a = some o → h'.get? a = some o) : h'.PlainList a xs := let ⟨n, ho⟩ := x; ⟨n, e _ ho⟩

theorem BdR.emit {elt : Expr} {f : List Slot → Option PV} (h : EvR prog w sc elt f) : BdR prog w sc (emitB elt) (fun ρ => (f ρ).map fun p => ([p], ρ)) := by
  intro c T ρ ρ₁ zs D vs s E S hno hA hD hlen e
  obtain ⟨p, hp, e⟩ := Option.map_eq_some_iff.mp e
  cases e
  unfold emitB
  refine wpAny_bind (wpAny_mono (h c ρ p s E S.st hp) (fun v s₁ q => ?_) fun _ _ x => x)
  obtain ⟨r, k⟩ := q
  have S₁ := S.kp k
  have hD₁ : s₁.heap.PlainList D vs.toArray := PlainList.at' hD fun o e => k.keep hA.Dfr e
  refine wpAny_bind (wpAny_list_append_plain hD₁ (fun h' hD' hs => wpAny_pure ?_) ?_)
  · refine ⟨[v], by simpa using hD', .cons (r.mono fun b o hb e => (hs.2 b fun q => hb (q ▸ hA.DF)).trans e) .nil, ?_, hno, ?_⟩
    · exact S₁.touch hs hA.DF hA.DL hA.DC hA.Dfr hA.Db (let ⟨_, ho⟩ := hD'; ⟨_, ho⟩) fun i x xs a _ e _ => absurd e (hno i xs)
    · have := (KpX.of (X := T) k).trans ((KpX.sameBut (c := c) (tk := s₁.toks) hs).sub (Y := T) fun b o hb _ => by rw [List.mem_singleton.mp hb]; exact hA.DT)
      exact this
  · show _ ≤ 2 ^ 24
    simp only [List.size_toArray]; simp only [List.length_singleton] at hlen; omega

theorem BdR.tests0 {m : Value → Env → Sem Unit} {f : List Slot → Option (List PV × List Slot)} (h : BdR prog w sc m f) : BdR prog w sc (testsB [] m) f := by
  intro c T ρ ρ₁ zs D vs s E S hno hA hD hlen e
  unfold testsB
  exact wpAny_bind (wpAny_tests_nil (h c T ρ ρ₁ zs D vs s E S hno hA hD hlen e))
theorem BdR.tests1 {t : Expr} {m : Value → Env → Sem Unit} {ft : List Slot → Option Bool} {f : List Slot → Option (List PV × List Slot)} (ht : TsR prog w sc t ft) (h : BdR prog w sc m f) :
    BdR prog w sc (testsB [t] m) (fun ρ => (ft ρ).bind fun b => if b then f ρ else some ([], ρ)) := by
  intro c T ρ ρ₁ zs D vs s E S hno hA hD hlen e
  obtain ⟨b, hb, e⟩ := Option.bind_eq_some_iff.mp e
  unfold testsB
  refine wpAny_bind (wpAny_tests_one (wpAny_mono (ht c ρ b s E S.st hb) (fun v s₁ q => ?_) fun _ _ x => x))
  obtain ⟨rfl, k⟩ := q
  have hD₁ : s₁.heap.PlainList D vs.toArray := PlainList.at' hD fun o e => k.keep hA.Dfr e
  cases v with
  | true => exact wpAny_mono (h c T ρ ρ₁ zs D vs s₁ E (S.kp k) hno hA hD₁ hlen e) (fun _ s' ⟨ws, a, b, d, n, g⟩ => ⟨ws, a, b, d, n, (KpX.of k).trans g⟩) fun _ _ x => x
  | false => cases e; exact wpAny_pure ⟨[], by simpa using hD₁, .nil, S.kp k, hno, .of k⟩

noncomputable def foldC (i : Nat) (f : List Slot → Option (List PV × List Slot)) : List PV → List Slot → Option (List PV × List Slot)
  | [], ρ => some ([], ρ)
  | p :: ps, ρ => (f (ρ.set i (.val p))).bind fun r => (foldC i f ps r.2).map fun q => (r.1 ++ q.1, q.2)

/-- how a turn at the depth d goes -/
noncomputable def TurnIs (e : Expr) (d : Nat) (x : Str) (px : Pos) (ip : Pos) (m : Value → Env → Sem Unit) : Prop := ∀ (it acc : Value) (env : Env),
  compTurn e d it acc env = (do
      standAt ip
      match ← pyNext it with
      | none => pure (.done .next)
      | some v => do
        assign (.Name x px) env v
        m acc env
        again (.compLoop e d it acc env))

theorem comp_loop {elt : Expr} {gens : List Comprehension} {scope : Scope} {pos : Pos} {d i : Nat} {x : Str} {px ip : Pos} {m : Value → Env → Sem Unit} {f : List Slot → Option (List PV × List Slot)} (ht : TurnIs (.ListComp elt gens scope pos) d x px ip m) (hb : BdR prog w sc m f)
    (hi : sc.vars[i]? = some x) (hst : x ∈ sc.sto)
    {c : Cfg} {T wr fp : List Addr} {ρ ρ₁ : List Slot} {ps zs : List PV} {D I : Addr} {vs : List Value} {s : Shared} {P : Nat → Value → Prop} {W : Nat → Heap → Prop}
    (S : FSt c sc ρ s.heap) (hno : NoOwn ρ) (hA : AccOk c sc T D) (hD : s.heap.PlainList D vs.toArray) (hlen : vs.length + zs.length ≤ 1000000)
    (hW : Walks prog w c.A I fp wr ps.length P W) (hw : W 0 s.heap) (hfp : ∀ b ∈ fp, b ∉ c.F ∧ b < s.heap.objs.size) (hwb : ∀ b ∈ wr, c.base.get? b = none) (hwf : ∀ i h, W i h → ∀ b ∈ wr, ∃ o vs, h.get? b = some o ∧ o.data = .fields vs)
    (hP : ∀ i v, P i v → ∃ p, ps[i]? = some p ∧ Rep c.F s.heap v p) (hTF : ∀ a ∈ T, a ∈ c.F) (hf : foldC i f ps ρ = some (zs, ρ₁)) :
    codeAny (model prog w) c.A (.compLoop (.ListComp elt gens scope pos) d (.ref I) (.ref D) c.env) (fun r s' => r = .ok .next ∧ ∃ ws, s'.heap.PlainList D (vs ++ ws).toArray ∧ Reps c.F s'.heap ws zs ∧ FSt c sc ρ₁ s'.heap ∧ NoOwn ρ₁ ∧ KpX c (wr ++ T) s s') s := by
  have hwF : ∀ b ∈ wr, b ∉ c.F := fun b hb' => (hfp b (hW.sub b hb')).1
  have hwfr : ∀ b, b ∈ c.fr → b ∉ wr := fun b hb' q => hwF b q (S.st.frF b hb')
  refine codeAny_loop rfl (fun k s' => ∃ j ρj zj wj zr, k = ps.length - j ∧ j ≤ ps.length ∧ zs = zj ++ zr ∧ foldC i f (ps.drop j) ρj = some (zr, ρ₁) ∧ W j s'.heap ∧ s'.heap.PlainList D (vs ++ wj).toArray ∧ Reps c.F s'.heap wj zj ∧
    FSt c sc ρj s'.heap ∧ NoOwn ρj ∧ KpX c (wr ++ T) s s') ?_ ps.length ⟨0, ρ, [], [], zs, by simp, by simp, rfl, by simpa using hf, hw, by simpa using hD, .nil, S, hno, .refl ..⟩
  rintro k s' ⟨j, ρj, zj, wj, zr, rfl, hj, rfl, hf', hw', hD', hr', S', hno', hk'⟩
  have hlj := hr'.length
  show wpAny _ c.A ((compTurn (.ListComp elt gens scope pos) d (.ref I) (.ref D) c.env).onRaise (fun x => do noteFrame x c.env; theTreesLotGoes x)) _ _ s'
  refine wpAny_noted ?_
  rw [ht]
  refine wpAny_bind (wpAny_standAt (wpAny_bind ?_))
  have hwf' := hwf j _ hw'
  by_cases hlt : j < ps.length
  · refine hW.item j s' _ _ hlt hw' fun v h₁ tk₁ hPv hw₁ hk₁ => ?_
    obtain ⟨p, hp, rp⟩ := hP j v hPv
    rw [List.drop_eq_getElem_cons hlt] at hf'
    have hpj : ps[j] = p := by rw [List.getElem?_eq_getElem hlt] at hp; exact Option.some.inj hp
    rw [hpj] at hf'
    simp only [foldC] at hf'
    obtain ⟨⟨za, ρa⟩, hfa, hf'⟩ := Option.bind_eq_some_iff.mp hf'
    obtain ⟨⟨zb, ρb⟩, hfb, hf'⟩ := Option.map_eq_some_iff.mp hf'
    cases hf'
    have S₁ : FSt c sc ρj h₁ := S'.iter hk₁ hwF hwb hwf' hA.na
    have hDw : D ∉ wr := fun q => hwF D q hA.DF
    -- the item still stands for p
    have rp' : Rep c.F s'.heap v p := by
      obtain ⟨h'', tk'', rfl, k1, k2⟩ := hk'
      refine (rep_mono fun b o hb hd e => ?_).1 rp
      refine k1 b o (fun q => hb (S.st.frF b q)) (fun q => ?_) e
      rcases List.mem_append.mp q with q | q
      · obtain ⟨o', vs', e', d'⟩ := hwf 0 _ hw b q
        rw [e] at e'; cases e'; exact hd vs' d'
      · exact hb (hTF b q)
    have rp₁ : Rep c.F h₁ v p := (reps_iter hk₁ hwf').1 rp'
    refine wpAny_bind (wpAny_assign_Name (FSt.store (s := { s' with heap := h₁, toks := tk₁ }) S₁ hi hst (.inr (.inl ⟨p, rfl, rp₁⟩)) fun a h₂ tk₂ S₂ ha hs₂ _ _ => ?_))
    have haT : a ∈ T := by
      rcases ha with rfl | hy
      · exact hA.LT
      · exact hA.sT x hst a hy
    have haD : D ≠ a := by
      rcases ha with rfl | hy
      · exact hA.DL
      · exact fun q => hA.DC x a hy q.symm
    have hD₁ : h₁.PlainList D (vs ++ wj).toArray := PlainList.at' hD' fun o e => hk₁ D o hDw e
    have hD₂ : h₂.PlainList D (vs ++ wj).toArray := PlainList.at' hD₁ fun o e => (hs₂.2 D haD).trans e
    have hr₁ : Reps c.F h₁ wj zj := (reps_iter hk₁ hwf').2 hr'
    have haF : a ∈ c.F := hTF a haT
    have hr₂ : Reps c.F h₂ wj zj := hr₁.mono fun b o hb e => (hs₂.2 b fun q => hb (q ▸ haF)).trans e
    have hw₂ : W (j + 1) h₂ := hW.frame _ _ _ hw₁ fun b hb o e => (hs₂.2 b fun q => (hfp b hb).1 (q ▸ haF)).trans e
    have k₁ : KpX c (wr ++ T) s' { s' with heap := h₁, toks := tk₁ } := ⟨h₁, tk₁, rfl, fun b o _ hb e => hk₁ b o (fun q => hb (List.mem_append_left _ q)) e, fun b o hb e => ⟨o.slots, hk₁ b o (fun q => hb (List.mem_append_left _ q)) e⟩⟩
    have k₂ : KpX c (wr ++ T) { s' with heap := h₁, toks := tk₁ } { s' with heap := h₂, toks := tk₂ } :=
      (KpX.sameBut (c := c) (s := { s' with heap := h₁, toks := tk₁ }) (tk := tk₂) hs₂).sub fun b o hb _ => by rw [List.mem_singleton.mp hb]; exact List.mem_append_right _ haT
    refine wpAny_bind (wpAny_mono (hb c T (ρj.set i (.val p)) ρa za D (vs ++ wj) { s' with heap := h₂, toks := tk₂ } _ S₂ (hno'.set i p) hA hD₂ (by simp only [List.length_append] at hlen ⊢; omega) hfa) (fun _ s₃ h₃ => wpAny_pure ?_) fun _ _ x => x)
    obtain ⟨ws, hD₃, hr₃, S₃, hno₃, k₃⟩ := h₃
    refine ⟨rfl, ps.length - (j + 1), by omega, j + 1, ρa, zj ++ za, wj ++ ws, zb, rfl, hlt, by simp, hfb, ?_, by simpa using hD₃, ?_, S₃, hno₃, ?_⟩
    · obtain ⟨h'', tk'', rfl, k1, _⟩ := k₃
      refine hW.frame _ _ _ hw₂ fun b hb o e => k1 b o (fun q => (hfp b hb).1 (S.st.frF b q)) (fun q => (hfp b hb).1 (hTF b q)) e
    · refine Reps.append ?_ hr₃
      obtain ⟨h'', tk'', rfl, k1, _⟩ := k₃
      exact hr₂.mono fun b o hb e => k1 b o (fun q => hb (S.st.frF b q)) (fun q => hb (hTF b q)) e
    · exact ((hk'.trans k₁).trans k₂).trans (k₃.sub fun b o hb _ => List.mem_append_right _ hb)
  · have hje : j = ps.length := by omega
    subst hje
    rw [List.drop_length] at hf'
    cases hf'
    refine hW.done s' _ _ hw' fun h₁ tk₁ hk₁ => wpAny_pure ⟨rfl, wj, ?_, ?_, S'.iter hk₁ hwF hwb hwf' hA.na, hno', hk'.trans ?_⟩
    · exact PlainList.at' hD' fun o e => hk₁ D o (fun q => hwF D q hA.DF) e
    · simpa using (reps_iter hk₁ hwf').2 hr'
    · exact ⟨h₁, tk₁, rfl, fun b o _ hb e => hk₁ b o (fun q => hb (List.mem_append_left _ q)) e, fun b o hb e => ⟨o.slots, hk₁ b o (fun q => hb (List.mem_append_left _ q)) e⟩⟩
end
end Mine
end

section
namespace Mine

section
variable {prog : Program} {w : World} {sc : Sc}

theorem codeAny_compStart_at {A : Around} {R : Result → Shared → Prop} {s : Shared} {elt : Expr} {gens : List Comprehension} {scope : Scope} {pos : Pos} {d : Nat} {x : Str} {px : Pos} {iter : Expr} {ifs : List Expr} {it acc : Value} {env : Env}
    (hg : gens[d]? = some ⟨.Name x px, iter, ifs, 0⟩)
    (h0 : codeAny (model prog w) A (.compLoop (.ListComp elt gens scope pos) d it acc env) R s)
    (h : wpAny (model prog w) A (pyIter it) (fun it' s' => codeAny (model prog w) A (.compLoop (.ListComp elt gens scope pos) d it' acc env) R s') (notedBy (model prog w) A env fun x s' => R (.error x) s') s) :
    codeAny (model prog w) A (.compStart (.ListComp elt gens scope pos) d it acc env) R s := by
  refine codeAny_of_tree ?_
  show wpAny _ _ ((compStart (.ListComp elt gens scope pos) d it acc env).onRaise (fun x => do noteFrame x env; standAt theWindowsPlace)) _ _ s
  refine wpAny_notedAt ?_
  unfold compStart
  simp only [clausesOf, hg, Option.elim, bne_self_eq_false, Bool.false_eq_true, if_false]
  refine wpAny_bind (wpAny_askSetting (wpAny_ite ?_))
  split
  · first
      | exact wpAny_bind (wpAny_pure (wpAny_pure (And.intro rfl h0)))
      | exact wpAny_pure (And.intro rfl h0)
  · exact wpAny_bind (wpAny_rule (wpAny_bind (wpAny_standAt (wpAny_bind (wpAny_mono h (fun it' s' h' => wpAny_pure (And.intro rfl h')) fun _ _ x => x)))))

/-- a further clause -/
theorem BdR.nest {elt iter' : Expr} {gens : List Comprehension} {scope : Scope} {pos : Pos} {d i : Nat} {y : Str} {py : Pos} {ifs' : List Expr} {m : Value → Env → Sem Unit} {fi : List Slot → Option (List PV)} {f : List Slot → Option (List PV × List Slot)}
    (hg : gens[d + 1]? = some ⟨.Name y py, iter', ifs', 0⟩) (hit : IterR prog w sc iter' fi) (ht : TurnIs (.ListComp elt gens scope pos) (d + 1) y py iter'.pos m) (hb : BdR prog w sc m f)
    (hi : sc.vars[i]? = some y) (hst : y ∈ sc.sto) (hs : ∀ env x, foldedSetIterable iter' env x = pure x := by intro _ _; rfl) :
    BdR prog w sc (nestB (.ListComp elt gens scope pos) iter' d) (fun ρ => (fi ρ).bind fun ps => foldC i f ps ρ) := by
  intro c T ρ ρ₁ zs D vs s E S hno hA hD hlen e
  obtain ⟨ps, hps, e⟩ := Option.bind_eq_some_iff.mp e
  unfold nestB
  refine wpAny_bind (wpAny_mono (hit c ρ ps s E S.st hps) (fun xv s₁ h₁ => wpAny_bind (wpAny_standAt (wpAny_bind (wpAny_of_eq (hs _ _) (wpAny_bind (wpAny_holding (wpAny_mono h₁ (fun it s₂ h₂ => ?_) fun _ _ x => x))))))) fun _ _ x => x)
  obtain ⟨k, I, fp, wr, P, W, rfl, hW, hw, hfp, hwr, hwf, hP, _⟩ := h₂
  have S₂ := S.kp k
  have hD₂ : s₂.heap.PlainList D vs.toArray := PlainList.at' hD fun o e => k.keep hA.Dfr e
  have hbase : ∀ b ∈ wr, c.base.get? b = none := fun b hb => by
    cases q : c.base.get? b with
    | none => rfl
    | some o => have := S.st.stays b o q; rw [hwr b hb] at this; cases this
  refine wpAny_bind (wpAny_runOwn ?_)
  rw [Around.mark_none]
  have main := comp_loop (T := T.filter (fun a => decide (a ∈ c.F))) ht hb hi hst S₂ hno
    ⟨List.mem_filter.mpr ⟨hA.DT, by simpa using hA.DF⟩, hA.DF, hA.Dfr, hA.DL, hA.DC, List.mem_filter.mpr ⟨hA.LT, by simpa using S.LF⟩,
      fun x hx a ha => List.mem_filter.mpr ⟨hA.sT x hx a ha, by simpa using (S.st.cel x a ha).1⟩, hA.na, hA.Db⟩ hD₂ hlen hW hw hfp hbase hwf hP (fun a ha => by simpa using (List.mem_filter.mp ha).2) e
  have key : codeAny (model prog w) c.A (.compLoop (.ListComp elt gens scope pos) (d + 1) (.ref I) (.ref D) c.env) (fun r s' => match r with
      | .ok f => wpAny (model prog w) c.A (pure ()) (fun _ s' => ∃ ws, s'.heap.PlainList D (vs ++ ws).toArray ∧ Reps c.F s'.heap ws zs ∧ FSt c sc ρ₁ s'.heap ∧ NoOwn ρ₁ ∧ KpX c T s s') E s'
      | .error e => cameBackBy (model prog w) c.A c.env E e s') s₂ := by
    refine codeAny_mono main fun r s' hr => ?_
    obtain ⟨rfl, ws, a, b, S', n, kx⟩ := hr
    refine wpAny_pure ⟨ws, a, b, S', n, ((KpX.of (X := wr ++ T) k).trans (kx.sub fun b o hb _ => ?_)).sub fun b o hb e => ?_⟩
    · rcases List.mem_append.mp hb with h | h
      · exact List.mem_append_left _ h
      · exact List.mem_append_right _ (List.mem_filter.mp h).1
    · rcases List.mem_append.mp hb with h | h
      · rw [hwr b h] at e; cases e
      · exact h
  exact codeAny_compStart_at hg key (hW.self 0 _ _ _ hw key)

noncomputable def capS (ρ : List Slot) : Option Nat → Slot
  | none => .unb
  | some i => match ρ.getD i .unb with | .val p => .val p | _ => .unb

theorem capS_cases (ρ : List Slot) (o : Option Nat) : capS ρ o = .unb ∨ ∃ p i, capS ρ o = .val p ∧ o = some i ∧ ρ.getD i .unb = .val p := by
  cases o with
  | none => exact .inl rfl
  | some i =>
    unfold capS
    simp only
    cases h : ρ.getD i .unb with
    | val p => exact .inr ⟨p, i, rfl, rfl, h⟩
    | _ => exact .inl rfl

/-- the static side of a comprehension's frame -/
structure CompOk (scope : Scope) (sc sc' : Sc) (caps : List (Option Nat)) : Prop where
  kind : scope.kind = .function
  names : ∀ x ∈ scope.names, x.2 = .local → scope.names.lookup x.1 = some .local
  globs : ∀ x ∈ sc'.globs, scope.names.lookup x = some .globalImplicit
  cells : ∀ x ∈ sc'.cells, scope.names.lookup x = some .cell ∨ scope.names.lookup x = some .free
  free : ∀ x ∈ scope.names, x.2 = .free → x.1 ∈ sc.cells
  nd : sc'.vars.Nodup
  cap : ∀ (j i : Nat), caps[j]? = some (some i) → ∀ x, sc'.vars[j]? = some x → sc.vars[i]? = some x ∧ scope.names.lookup x = some .free ∧ (x, NameKind.cell) ∉ scope.names
  lv : sc'.lv = sc.lv
  hot : sc'.hot = sc.hot
  rz : sc'.rz = sc.rz
  app : sc'.app = false
  sto : ∀ x ∈ sc'.sto, scope.names.lookup x = some .local ∨ (scope.names.lookup x = some .cell ∧ x ∈ sc'.cells)
  stoc : ∀ x ∈ sc'.sto, ∀ k, (x, k) ∈ scope.names → k ≠ .free

noncomputable def cfgC (c : Cfg) (scope : Scope) (n₀ n₁ C : Nat) (cells : List (Str × Addr)) : Cfg :=
  { c with env := { scope := relabel scope c.env, locals := C, globals := c.env.globals, cells := cells, qual := c.env.qual, func := none, code := c.env.code, frame := c.env.frame, builtins := c.env.builtins }
           F := List.range' n₀ (n₁ - n₀) ++ c.F }
theorem mem_cfgC {c : Cfg} {scope : Scope} {n₀ n₁ C : Nat} {cells : List (Str × Addr)} {a : Nat} (h : n₀ ≤ n₁) : a ∈ (cfgC c scope n₀ n₁ C cells).F ↔ (n₀ ≤ a ∧ a < n₁) ∨ a ∈ c.F := by
  show a ∈ List.range' n₀ (n₁ - n₀) ++ c.F ↔ _
  rw [List.mem_append, List.mem_range'_1]
  constructor
  · rintro (h' | h')
    · exact .inl ⟨h'.1, by omega⟩
    · exact .inr h'
  · rintro (h' | h')
    · exact .inl ⟨h'.1, by omega⟩
    · exact .inr h'

theorem mem_of_lookup' {α : Type} {l : List (Str × α)} {n : Str} {c : α} (h : l.lookup n = some c) : (n, c) ∈ l := mem_of_lookup h

theorem comp_enter {c : Cfg} {scope : Scope} {sc' : Sc} {caps : List (Option Nat)} {ρ : List Slot} {s : Shared} (ok : CompOk scope sc sc' caps) (S : St c sc ρ s.heap) (o₁ o₂ : Obj) (ho₁ : o₁ = { cls := .type "list", data := .seq #[] }) (ho₂ : o₂ = { cls := .type "dict", data := .dict #[] }) :
    FSt (cfgC c scope s.heap.objs.size (pushCells ((s.heap.push o₁).push o₂) scope.names).objs.size (s.heap.objs.size + 1) (cellsFrom (s.heap.objs.size + 2) scope.names (clos c.env.cells scope.names []))) sc' (caps.map (capS ρ)) (pushCells ((s.heap.push o₁).push o₂) scope.names)
      ∧ (∀ b o, s.heap.get? b = some o → (pushCells ((s.heap.push o₁).push o₂) scope.names).get? b = some o)
      ∧ AccOk (cfgC c scope s.heap.objs.size (pushCells ((s.heap.push o₁).push o₂) scope.names).objs.size (s.heap.objs.size + 1) (cellsFrom (s.heap.objs.size + 2) scope.names (clos c.env.cells scope.names []))) sc' (List.range' s.heap.objs.size ((pushCells ((s.heap.push o₁).push o₂) scope.names).objs.size - s.heap.objs.size)) s.heap.objs.size
      ∧ (pushCells ((s.heap.push o₁).push o₂) scope.names).PlainList s.heap.objs.size #[] := by
  generalize hn : s.heap.objs.size = n₀ at *
  have hs1 : (s.heap.push o₁).objs.size = n₀ + 1 := by rw [Heap.size_push, hn]
  have hs2 : ((s.heap.push o₁).push o₂).objs.size = n₀ + 2 := by rw [Heap.size_push, hs1]
  have hpc := pushCells_all scope.names ((s.heap.push o₁).push o₂)
  have hlt := cellsFrom_lt scope.names ((s.heap.push o₁).push o₂) (clos c.env.cells scope.names [])
  rw [hs2] at hpc hlt
  have hkeep : ∀ b o, s.heap.get? b = some o → (pushCells ((s.heap.push o₁).push o₂) scope.names).get? b = some o := fun b o e => pushCells_keeps _ _ b o (Heap.get?_push_of_some _ (Heap.get?_push_of_some _ e))
  have hD : (pushCells ((s.heap.push o₁).push o₂) scope.names).get? n₀ = some o₁ := by
    refine pushCells_keeps _ _ _ _ (Heap.get?_push_of_some _ ?_)
    rw [← hn]; exact Heap.get?_push_size _ (by subst ho₁; rfl)
  have hC : (pushCells ((s.heap.push o₁).push o₂) scope.names).get? (n₀ + 1) = some o₂ := by
    refine pushCells_keeps _ _ _ _ ?_
    rw [← hs1]; exact Heap.get?_push_size _ (by subst ho₂; rfl)
  generalize pushCells ((s.heap.push o₁).push o₂) scope.names = H at *
  generalize hn₁ : H.objs.size = n₁ at *
  have h01 : n₀ ≤ n₁ := by omega
  generalize hcl : cellsFrom (n₀ + 2) scope.names (clos c.env.cells scope.names []) = cl at *
  -- the cells that came along
  have closOld : ∀ (y : Str) (a : Nat), (clos c.env.cells scope.names []).lookup y = some a → y ∈ sc.cells ∧ c.env.cells.lookup y = some a := by
    intro y a h
    rcases clos_lookup c.env.cells scope.names [] y a h with ⟨h1, h2⟩ | h1
    · have hy := ok.free _ h1 rfl
      obtain ⟨_, b, hb⟩ := S.cells y hy
      rw [hb] at h2; exact ⟨hy, by rw [h2]; exact hb⟩
    · cases h1
  have oldLt : ∀ (y : Str) (a : Nat), c.env.cells.lookup y = some a → a < n₀ := by
    intro y a h
    obtain ⟨_, _, v, hv⟩ := S.cel y a h
    rw [← hn]; exact hv.lt
  have clCases : ∀ (y : Str) (a : Nat), cl.lookup y = some a → (n₀ + 2 ≤ a ∧ a < n₁) ∨ (y ∈ sc.cells ∧ c.env.cells.lookup y = some a) := by
    intro y a h
    rcases hlt y a h with h1 | h1
    · exact .inr (closOld y a h1)
    · exact .inl h1
  have frlt : ∀ a : Nat, a ∈ c.fr → a < n₀ := by
    intro a ha
    obtain ⟨_, o, ho, _⟩ := S.ff.mem ha
    rw [← hn]; exact Heap.lt_size ho
  have clinj : ∀ (x y : Str) (a : Nat), cl.lookup x = some a → cl.lookup y = some a → x = y := by
    rw [← hcl]
    refine cellsFrom_inj _ _ _ (fun y a h => ?_) fun x y a hx hy => S.capart x y a (closOld x a hx).2 (closOld y a hy).2
    have := oldLt y a (closOld y a h).2; omega
  have up : UpS s.heap H := .of_keeps hkeep
  have celOk : ∀ (y : Str) (a : Nat), cl.lookup y = some a → a ∈ (cfgC c scope n₀ n₁ (n₀ + 1) cl).F ∧ a ∉ c.fr ∧ ∃ v, H.IsCell a v := by
    intro y a h
    rcases clCases y a h with ⟨h1, h2⟩ | ⟨_, h1⟩
    · exact ⟨(mem_cfgC h01).mpr (.inl ⟨by omega, h2⟩), fun q => by have := frlt a q; omega, _, hpc.2 a h1 h2⟩
    · obtain ⟨h2, h3, v, hv⟩ := S.cel y a h1
      exact ⟨(mem_cfgC h01).mpr (.inr h2), h3, v, up.cell hv⟩
  have kOf : ∀ x, Env.kindOf (cfgC c scope n₀ n₁ (n₀ + 1) cl).env x = (relabel scope c.env).names.lookup x := fun _ => rfl
  have newb : ∀ a : Nat, n₀ ≤ a → c.base.get? a = none := fun a ha => by
    cases q : c.base.get? a with
    | none => rfl
    | some o => have := Heap.lt_size (S.stays a o q); rw [hn] at this; exact absurd this (Nat.not_lt.mpr ha)
  have inj0 : n₀ ∉ c.F := S.newF (by rw [hn]; exact Nat.le_refl _)
  refine ⟨⟨⟨ok.kind, ?_, S.glo, S.blt, fun h => S.hand (ok.hot ▸ h), fun h h' => S.hotk (ok.hot ▸ h) (ok.rz ▸ h'), ok.lv ▸ S.room, ok.lv ▸ S.units, S.frames, up.funFrames S.ff, fun a ha => (mem_cfgC h01).mpr (.inr (S.frF a ha)), ?_, ?_, S.G, S.gb, fun b o e => hkeep b o (S.stays b o e), ?_, clinj, ?_, ?_, ?_⟩, ?_, ?_, ?_, ok.nd, ?_, ?_, ?_, ?_, newb _ (Nat.le_succ _)⟩, hkeep, ⟨?_, ?_, ?_, ?_, ?_, ?_, ?_, ok.app, newb _ (Nat.le_refl _)⟩, ?_⟩
  · intro x hx
    rw [kOf, relabel_lookup, ok.globs x hx]
  · intro a ha
    rcases (mem_cfgC h01).mp ha with ⟨h1, h2⟩ | h1
    · by_cases e : a = n₀
      · exact ⟨_, e ▸ hD⟩
      · by_cases e' : a = n₀ + 1
        · exact ⟨_, e' ▸ hC⟩
        · obtain ⟨o, ho, _⟩ := hpc.2 a (Nat.lt_of_le_of_ne (Nat.lt_of_le_of_ne h1 (Ne.symm e)) (Ne.symm e')) h2
          exact ⟨o, ho⟩
    · obtain ⟨o, ho⟩ := S.liveF a h1; exact ⟨o, hkeep a o ho⟩
  · intro y a h
    rcases clCases y a h with ⟨h1, h2⟩ | ⟨_, h1⟩
    · exact newb a (by omega)
    · exact S.celb y a h1
  · exact celOk
  · intro x hx
    have hk : Env.kindOf (cfgC c scope n₀ n₁ (n₀ + 1) cl).env x = some .cell ∨ Env.kindOf (cfgC c scope n₀ n₁ (n₀ + 1) cl).env x = some .free := by
      rw [kOf, relabel_lookup]
      rcases ok.cells x hx with h | h
      · rw [h]; exact .inl rfl
      · rw [h]; simp only; split
        · exact .inl rfl
        · exact .inr rfl
    refine ⟨hk, ?_⟩
    show ∃ a, cl.lookup x = some a
    rw [← hcl]
    refine cellsFrom_has _ _ _ ?_
    rcases ok.cells x hx with h | h
    · exact .inl (mem_of_lookup' h)
    · have hf := mem_of_lookup' h
      obtain ⟨_, b, hb⟩ := S.cells x (ok.free _ hf rfl)
      exact .inr ⟨_, clos_has c.env.cells x scope.names [] (.inl hf)⟩
  · intro x hx
    rw [kOf, relabel_lookup]
    rcases ok.sto x hx with h | ⟨h, hc⟩
    · rw [h]; exact .inl rfl
    · rw [h]; exact .inr ⟨rfl, hc⟩
  · intro j x hj
    rw [List.getD_eq_getElem?_getD, List.getElem?_map]
    cases hc : caps[j]? with
    | none => trivial
    | some oi =>
      cases oi with
      | none => trivial
      | some i =>
        obtain ⟨h1, h2, h3⟩ := ok.cap j i hc x hj
        show SlotOk _ _ _ x (capS ρ (some i))
        have q := S.vars i x h1
        rcases capS_cases ρ (some i) with h | ⟨p, i', h, hi', hg⟩
        · rw [h]; trivial
        · rw [h]
          cases hi'
          rw [hg] at q
          obtain ⟨v, hl, hr⟩ := q
          have hxc := ok.free _ (mem_of_lookup' h2) rfl
          obtain ⟨hk, b, hb⟩ := S.cells x hxc
          refine ⟨v, .inr ⟨?_, b, ?_, ?_⟩, (hr.sub fun b hb hlt => ?_).mono fun b o _ e => hkeep b o e⟩
          · rw [kOf, relabel_lookup, h2]; simp only; split
            · exact .inl rfl
            · exact .inr rfl
          · show cl.lookup x = some b
            rw [← hcl, cellsFrom_old _ _ _ h3, clos_has c.env.cells x scope.names [] (.inl (mem_of_lookup' h2)), hb]; rfl
          · rcases hl with ⟨k, _⟩ | ⟨_, b', hb', hv⟩
            · rcases hk with hk | hk <;> rw [hk] at k <;> cases k
            · rw [hb] at hb'; cases hb'; exact up.cell hv
          · intro q
            rcases (mem_cfgC h01).mp q with ⟨h4, _⟩ | h4
            · rw [hn] at hlt; exact absurd hlt (Nat.not_lt.mpr h4)
            · exact hb h4
  · exact ⟨fun _ => none, o₂, #[], 0, hC, by subst ho₂; rfl, (fun e he => by simp at he), fun _ => rfl⟩
  · exact (mem_cfgC h01).mpr (.inl ⟨Nat.le_succ _, Nat.lt_of_lt_of_le (Nat.lt_succ_self _) hpc.1⟩)
  · intro y a h
    rcases clCases y a h with ⟨h1, h2⟩ | ⟨_, h1⟩
    · exact fun e => by have e' : @Eq Nat a (n₀ + 1) := e; omega
    · have := oldLt y a h1; exact fun e => by have e' : @Eq Nat a (n₀ + 1) := e; omega
  · intro i x xs a hx e l
    exfalso
    rw [List.getD_eq_getElem?_getD, List.getElem?_map] at e
    cases hc : caps[i]? with
    | none => rw [hc] at e; cases e
    | some oi =>
      rw [hc] at e
      cases oi with
      | none => cases e
      | some k =>
        have e' : capS ρ (some k) = .own xs := e
        rcases capS_cases ρ (some k) with h | ⟨p, i', h, _⟩ <;> rw [h] at e' <;> cases e'
  · intro i j x y xs ys a hi hj e ej li lj
    exfalso
    rw [List.getD_eq_getElem?_getD, List.getElem?_map] at e
    cases hc : caps[i]? with
    | none => rw [hc] at e; cases e
    | some oi =>
      rw [hc] at e
      cases oi with
      | none => cases e
      | some k =>
        have e' : capS ρ (some k) = .own xs := e
        rcases capS_cases ρ (some k) with h | ⟨p, i', h, _⟩ <;> rw [h] at e' <;> cases e'
  · intro i x j hx e
    exfalso
    rw [List.getD_eq_getElem?_getD, List.getElem?_map] at e
    cases hc : caps[i]? with
    | none => rw [hc] at e; cases e
    | some oi =>
      rw [hc] at e
      have e' : capS ρ oi = .app j := e
      rcases capS_cases ρ oi with h | ⟨p, i', h, _⟩ <;> rw [h] at e' <;> cases e'
  · intro i x xs a hx e l
    exfalso
    rw [List.getD_eq_getElem?_getD, List.getElem?_map] at e
    cases hc : caps[i]? with
    | none => rw [hc] at e; cases e
    | some oi =>
      rw [hc] at e
      have e' : capS ρ oi = .own xs := e
      rcases capS_cases ρ oi with h | ⟨p, i', h, _⟩ <;> rw [h] at e' <;> cases e'
  · exact List.mem_range'_1.mpr ⟨Nat.le_refl _, by omega⟩
  · exact (mem_cfgC h01).mpr (.inl ⟨Nat.le_refl _, by omega⟩)
  · exact fun q => absurd (frlt _ q) (Nat.lt_irrefl _)
  · exact fun e => by have e' : @Eq Nat n₀ (n₀ + 1) := e; omega
  · intro y b h
    rcases clCases y b h with ⟨h1, h2⟩ | ⟨_, h1⟩
    · exact fun e => by have e' : @Eq Nat b n₀ := e; omega
    · have := oldLt y b h1; exact fun e => by have e' : @Eq Nat b n₀ := e; omega
  · exact List.mem_range'_1.mpr ⟨Nat.le_succ _, by show n₀ + 1 < _; omega⟩
  · intro x hx a ha
    rcases clCases x a ha with ⟨h1, h2⟩ | ⟨h0, h1⟩
    · exact List.mem_range'_1.mpr ⟨by omega, by omega⟩
    · exfalso
      -- a name that is stored to is no captured one
      have : (clos c.env.cells scope.names []).lookup x = some a ∨ (n₀ + 2 ≤ a ∧ a < n₁) := hlt x a ha
      rcases this with h | h
      · rcases clos_lookup c.env.cells scope.names [] x a h with ⟨h2, _⟩ | h2
        · exact ok.stoc x hx _ h2 rfl
        · cases h2
      · have := oldLt x a h1; omega
  · exact ⟨_, by rw [hD, ho₁]⟩
end
end Mine
end

section
namespace Mine

section
variable {prog : Program} {w : World} {sc : Sc}

theorem newEnv_comp {M : Model} {A : Around} {E : Value → Shared → Prop} {s : Shared} {scope : Scope} {env : Env} {cl : List (Str × Addr)} {Q : Env → Shared → Prop}
    (h : Q { scope := scope, locals := s.heap.objs.size, globals := env.globals, cells := cellsFrom (s.heap.objs.size + 1) scope.names cl, qual := env.qual, func := none, code := env.code, frame := env.frame, builtins := env.builtins }
      { s with heap := pushCells (s.heap.push { cls := .type "dict", data := .dict #[] }) scope.names }) :
    wpAny M A (newFunctionEnv scope env.globals cl [] env.qual none .none (some env)) Q E s := by
  simp only [newFunctionEnv, Option.isSome_some, if_true]
  refine wpAny_bind (wpAny_alloc ?_)
  refine wpAny_bind (wpAny_layCells _ (fun name kind cells => by cases hkc : kind == NameKind.cell <;> simp [hkc]) _ _ _ _ ?_)
  rw [show ({ s with heap := s.heap.push { cls := .type "dict", data := .dict #[] } } : Shared).heap.objs.size = s.heap.objs.size + 1 from Heap.size_push ..]
  simp only [List.forIn_nil]
  exact wpAny_bind (wpAny_pure (wpAny_pure h))

/-- a comprehension, from its source to its last turn -/
theorem comp_core {elt iter : Expr} {x : Str} {px : Pos} {ifs : List Expr} {rest : List Comprehension} {scope : Scope} {pos : Pos} {sc' : Sc} {caps : List (Option Nat)} {m : Value → Env → Sem Unit} {i : Nat}
    {fi : List Slot → Option (List PV)} {f : List Slot → Option (List PV × List Slot)} (ok : CompOk scope sc sc' caps) (hit : IterR prog w sc iter fi) (ht : TurnIs (.ListComp elt (⟨.Name x px, iter, ifs, 0⟩ :: rest) scope pos) 0 x px iter.pos m)
    (hb : BdR prog w sc' m f) (hi : sc'.vars[i]? = some x) (hst : x ∈ sc'.sto)
    {c : Cfg} {ρ : List Slot} {ps zs : List PV} {ρ₁ : List Slot} {s : Shared} {E : Value → Shared → Prop} (S : St c sc ρ s.heap) (hps : fi ρ = some ps) (hf : foldC i f ps (caps.map (capS ρ)) = some (zs, ρ₁)) (hlen : zs.length ≤ 1000000) :
    wpAny (model prog w) c.A (eval iter c.env) (fun xv s₁ => wpAny (model prog w) c.A (pyIter xv) (fun it s₂ => wpAny (model prog w) c.A (newList []) (fun acc s₃ =>
      wpAny (model prog w) c.A (newFunctionEnv scope c.env.globals (clos c.env.cells scope.names []) [] c.env.qual none .none (some c.env)) (fun cenv s₄ =>
        codeAny (model prog w) c.A (.compStart (.ListComp elt (⟨.Name x px, iter, ifs, 0⟩ :: rest) scope pos) 0 it acc { cenv with scope := relabel scope c.env })
          (fun r s' => r = .ok .next ∧ ∃ D ws, acc = .ref D ∧ s'.heap.PlainList D ws.toArray ∧ Reps (cenv.locals :: c.F) s'.heap ws zs ∧ Kp c s s' ∧ (∃ m, s'.heap.Ns cenv.locals m) ∧ s.heap.get? D = none ∧ s.heap.get? cenv.locals = none ∧ D ≠ cenv.locals ∧ D ∉ c.F ∧ cenv.locals ∉ c.F) s₄) E s₃) E s₂) E s₁) E s := by
  refine wpAny_mono (hit c ρ ps s E S hps) (fun xv s₁ h₁ => wpAny_mono h₁ (fun it s₂ h₂ => ?_) fun _ _ x => x) fun _ _ x => x
  obtain ⟨k, I, fp, wr, P, W, rfl, hW, hw, hfp, hwr, hwf, hP, _⟩ := h₂
  have S₂ := S.kp k
  refine wpAny_newObj_type (newEnv_comp ?_)
  obtain ⟨FS, hkeep, hA, hD⟩ := comp_enter ok S₂ { cls := .type "list", data := .seq #[] } { cls := .type "dict", data := .dict #[] } rfl rfl
  have hsz : (s₂.heap.push { cls := .type "list", data := .seq ([] : List Value).toArray }).objs.size = s₂.heap.objs.size + 1 := Heap.size_push ..
  dsimp only
  rw [hsz]
  generalize hH : pushCells ((s₂.heap.push { cls := .type "list", data := .seq #[] }).push { cls := .type "dict", data := .dict #[] }) scope.names = H at FS hkeep hA hD ⊢
  generalize hc' : cfgC c scope s₂.heap.objs.size H.objs.size (s₂.heap.objs.size + 1) (cellsFrom (s₂.heap.objs.size + 2) scope.names (clos c.env.cells scope.names [])) = c' at FS hA
  have hcA : c'.A = c.A := by rw [← hc']; rfl
  have hcfr : c'.fr = c.fr := by rw [← hc']; rfl
  have hcb : c'.base = c.base := by rw [← hc']; rfl
  have hle : s₂.heap.objs.size ≤ H.objs.size := by
    rw [← hH]
    have := (pushCells_all scope.names ((s₂.heap.push { cls := .type "list", data := .seq #[] }).push { cls := .type "dict", data := .dict #[] })).1
    rw [Heap.size_push, Heap.size_push] at this; omega
  have hF : ∀ a : Nat, a ∈ c'.F ↔ (s₂.heap.objs.size ≤ a ∧ a < H.objs.size) ∨ a ∈ c.F := by intro a; rw [← hc']; exact mem_cfgC hle
  have hL : c'.env.locals = s₂.heap.objs.size + 1 := by rw [← hc']; rfl
  have old : ∀ a : Nat, s₂.heap.objs.size ≤ a → s.heap.get? a = none := fun a ha => newAt k ha
  have hTnew : ∀ b : Nat, b ∈ wr ++ List.range' s₂.heap.objs.size (H.objs.size - s₂.heap.objs.size) → s.heap.get? b = none := by
    intro b hb
    rcases List.mem_append.mp hb with h | h
    · exact hwr b h
    · exact old b (List.mem_range'_1.mp h).1
  have hbase : ∀ b ∈ wr, c'.base.get? b = none := fun b hb => by
    rw [hcb]
    cases q : c.base.get? b with
    | none => rfl
    | some o => have := S.stays b o q; rw [hwr b hb] at this; cases this
  have loop := comp_loop (prog := prog) (w := w) (s := { s₂ with heap := H }) ht hb hi hst FS (fun j xs e => by
      rw [List.getD_eq_getElem?_getD, List.getElem?_map] at e
      cases hcj : caps[j]? with
      | none => rw [hcj] at e; cases e
      | some oi =>
        rw [hcj] at e
        have e' : capS ρ oi = .own xs := e
        rcases capS_cases ρ oi with h | ⟨p, i', h, _⟩ <;> rw [h] at e' <;> cases e') hA (vs := []) hD (by simpa using hlen) (by rw [hcA]; exact hW)
      (hW.frame _ _ _ hw fun b _ o e => hkeep b o e)
      (fun b hb => ⟨fun q => (hfp b hb).1 (((hF b).mp q).elim (fun h => absurd h.1 (Nat.not_le.mpr (hfp b hb).2)) id), Nat.lt_of_lt_of_le (hfp b hb).2 hle⟩) hbase hwf
      (fun j v hv => by
        obtain ⟨p, hp, r⟩ := hP j v hv
        refine ⟨p, hp, (r.sub fun b hb hlt q => ?_).mono fun b o _ e => hkeep b o e⟩
        rcases (hF b).mp q with h | h
        · exact absurd h.1 (Nat.not_le.mpr hlt)
        · exact hb h) (fun a ha => (hF a).mpr (.inl (by have := List.mem_range'_1.mp ha; omega))) hf
  rw [hcA] at loop
  have henv : c'.env = { scope := relabel scope c.env, locals := s₂.heap.objs.size + 1, globals := c.env.globals, cells := cellsFrom (s₂.heap.objs.size + 1 + 1) scope.names (clos c.env.cells scope.names []), qual := c.env.qual, func := none, code := c.env.code, frame := c.env.frame, builtins := c.env.builtins } := by rw [← hc']; rfl
  rw [henv] at loop
  have fin : codeAny (model prog w) c.A (.compLoop (.ListComp elt (⟨.Name x px, iter, ifs, 0⟩ :: rest) scope pos) 0 (.ref I) (.ref s₂.heap.objs.size) { scope := relabel scope c.env, locals := s₂.heap.objs.size + 1, globals := c.env.globals, cells := cellsFrom (s₂.heap.objs.size + 1 + 1) scope.names (clos c.env.cells scope.names []), qual := c.env.qual, func := none, code := c.env.code, frame := c.env.frame, builtins := c.env.builtins })
      (fun r s' => r = .ok .next ∧ ∃ D ws, Value.ref s₂.heap.objs.size = .ref D ∧ s'.heap.PlainList D ws.toArray ∧ Reps ((s₂.heap.objs.size + 1) :: c.F) s'.heap ws zs ∧ Kp c s s' ∧ (∃ m, s'.heap.Ns (s₂.heap.objs.size + 1) m) ∧ s.heap.get? D = none ∧ s.heap.get? (s₂.heap.objs.size + 1) = none ∧ D ≠ s₂.heap.objs.size + 1 ∧ D ∉ c.F ∧ (s₂.heap.objs.size + 1) ∉ c.F) { s₂ with heap := H } := by
    refine codeAny_mono loop fun r s' hr => ?_
    obtain ⟨rfl, ws, hD', hr', S', _, kx⟩ := hr
    refine ⟨rfl, s₂.heap.objs.size, ws, rfl, by simpa using hD', hr'.sub fun b hb _ q => hb ((List.mem_cons.mp q).elim (fun e => by rw [e, ← hL]; exact S'.LF) fun q => (hF b).mpr (.inr q)), ?_, ?_, old _ (Nat.le_refl _), old _ (Nat.le_succ _), Nat.ne_of_lt (Nat.lt_succ_self _), S₂.newF (Nat.le_refl _), S₂.newF (Nat.le_succ _)⟩
    · have k₂ : Kp c s₂ { s₂ with heap := H } := ⟨H, s₂.toks, rfl, fun b o _ e => hkeep b o e, .of_keeps hkeep⟩
      have kx' : KpX c (wr ++ List.range' s₂.heap.objs.size (H.objs.size - s₂.heap.objs.size)) { s₂ with heap := H } s' := by
        obtain ⟨h'', tk'', rfl, k1, k2⟩ := kx
        exact ⟨h'', tk'', rfl, fun b o hb hx e => k1 b o (by rw [hcfr]; exact hb) hx e, k2⟩
      exact ((KpX.of (k.trans k₂)).trans kx').kp hTnew
    · obtain ⟨m', hm'⟩ := S'.ns; rw [hL] at hm'; exact ⟨m', hm'⟩
  exact codeAny_compStart_at rfl fin (hW.self 0 _ _ _ (hW.frame _ _ _ hw fun b _ o e => hkeep b o e) fin)

theorem EvR.comp {elt iter : Expr} {x : Str} {px : Pos} {ifs : List Expr} {rest : List Comprehension} {scope : Scope} {pos : Pos} {sc' : Sc} {caps : List (Option Nat)} {m : Value → Env → Sem Unit} {i : Nat}
    {fi : List Slot → Option (List PV)} {f : List Slot → Option (List PV × List Slot)} (ok : CompOk scope sc sc' caps) (hit : IterR prog w sc iter fi) (ht : TurnIs (.ListComp elt (⟨.Name x px, iter, ifs, 0⟩ :: rest) scope pos) 0 x px iter.pos m)
    (hb : BdR prog w sc' m f) (hi : sc'.vars[i]? = some x) (hst : x ∈ sc'.sto) (hs : ∀ env x, foldedSetIterable iter env x = pure x := by intro _ _; rfl) :
    EvR prog w sc (.ListComp elt (⟨.Name x px, iter, ifs, 0⟩ :: rest) scope pos) (fun ρ => (fi ρ).bind fun ps => (foldC i f ps (caps.map (capS ρ))).bind fun r => if r.1.length ≤ 1000000 then some (.list r.1) else none) := by
  intro c ρ p s E S e
  obtain ⟨ps, hps, e⟩ := Option.bind_eq_some_iff.mp e
  obtain ⟨⟨zs, ρ₁⟩, hf, e⟩ := Option.bind_eq_some_iff.mp e
  simp only at e
  split at e
  · rename_i hlen
    cases e
    rw [eval_ListComp]
    refine wpAny_comprehension_free (use := none) rfl (hs _) (closureFor_clos fun y hy hk => ?_) ok.kind ok.names (wpAny_mono (comp_core ok hit ht hb hi hst S hps hf hlen) (fun _ _ h₁ => wpAny_mono h₁ (fun _ _ h₂ => wpAny_mono h₂ (fun _ _ h₃ => wpAny_mono h₃ (fun cenv _ h₄ => codeAny_mono h₄ fun r s' hr => ?_) fun _ _ x => x) fun _ _ x => x) fun _ _ x => x) fun _ _ x => x)
    · obtain ⟨_, a, ha⟩ := S.cells y.1 (ok.free y hy hk)
      rw [ha]; rfl
    · obtain ⟨rfl, D, ws, rfl, hD, hr', k, ⟨m', hm'⟩, hDn, hCn, hDC, hDF, hCF⟩ := hr
      refine ⟨m', hm', fun h' hs' => ?_⟩
      have hD' : ∃ n, h'.get? D = some { cls := .type "list", data := .seq ws.toArray n } := PlainList.at' hD fun o e => (hs'.2 D hDC).trans e
      obtain ⟨n', hD'⟩ := hD'
      refine ⟨.list (.of hD') hDF ((hr'.mono fun b o hb e => (hs'.2 b fun q => hb (q ▸ .head _)).trans e).sub fun b hb _ q => hb (.tail _ q)), ?_⟩
      obtain ⟨h'', tk'', rfl, k1, k2⟩ := k
      have ne : ∀ b o, s.heap.get? b = some o → b ≠ cenv.locals := fun b o e q => by rw [q, hCn] at e; cases e
      exact ⟨h', tk'', rfl, fun b o hb e => (hs'.2 b (ne b o e)).trans (k1 b o hb e), fun b o e => let ⟨sl, e'⟩ := k2 b o e; ⟨sl, (hs'.2 b (ne b o e)).trans e'⟩⟩
  · cases e
end
end Mine
end

section
namespace Mine

/-! ## statements -/
inductive Out where
  | next | brk | cont | ret (p : PV) | exc (n : String) (ctx : Bool)

/-- an exception object, new since s₀, of class X, that no frame has seen -/
noncomputable def ExcN (F : List Addr) (s₀ h : Heap) (hot : Bool) (a : Addr) (X : String) : Prop :=
  s₀.get? a = none ∧ a ∉ F ∧ ∃ oe vs, h.get? a = some oe ∧ oe.cls = .type X ∧ oe.data = .fields vs ∧ (hot = false → vs[2]? = some .none) ∧ vs[1]? = some .none
/-- the same, seen by a frame -/
noncomputable def ExcT (F : List Addr) (s₀ h : Heap) (fl : Value) (hot : Bool) (a : Addr) (X : String) : Prop :=
  s₀.get? a = none ∧ a ∉ F ∧ ∃ oe vs T oT ts, h.get? a = some oe ∧ oe.cls = .type X ∧ oe.data = .fields vs ∧ (hot = false → vs[2]? = some .none) ∧ vs[1]? = some (.ref T) ∧ s₀.get? T = none ∧ T ∉ F ∧ T ≠ a ∧ h.get? T = some oT ∧ oT.data = .fields ts ∧ ts[3]? = some fl
noncomputable def ExcAt (F : List Addr) (s₀ h : Heap) (L : Addr) (hot : Bool) (a : Addr) (X : String) : Prop := ExcN F s₀ h hot a X ∨ ExcT F s₀ h (rawInt L) hot a X

/-- a statement's way -/
structure KpF (c : Cfg) (s s' : Shared) : Prop where
  same : ∃ h' tk, s' = { s with heap := h', toks := tk }
  keep : ∀ b o, b ∉ c.F → s.heap.get? b = some o → s'.heap.get? b = some o
  slots : ∀ b o, b ∈ c.ofr → s.heap.get? b = some o → ∃ sl, s'.heap.get? b = some { o with slots := sl }
  live : ∀ b o, s.heap.get? b = some o → ∃ o', s'.heap.get? b = some o'

noncomputable abbrev Cfg.at (c : Cfg) (F' : List Addr) : Cfg := { c with F := F' }
structure Fn (c : Cfg) : Prop where
  e : c.env = c.fenv
  fr : c.env.frame = some c.env.locals
  lo : c.env.locals ∉ c.ofr
theorem Fn.at {c : Cfg} {F' : List Addr} (h : Fn c) : Fn (c.at F') := ⟨h.e, h.fr, h.lo⟩
noncomputable def Grown (c : Cfg) (s : Shared) (F' : List Addr) : Prop := (∀ a ∈ F', a ∈ c.F ∨ s.heap.get? a = none) ∧ ∀ a ∈ c.F, c.base.get? a ≠ none → a ∈ F'
theorem Grown.cons {c : Cfg} {s : Shared} {a : Addr} (h : s.heap.get? a = none) : Grown c s (a :: c.F) := ⟨fun b hb => (List.mem_cons.mp hb).elim (fun e => .inr (e ▸ h)) .inl, fun _ hb _ => .tail _ hb⟩

theorem KpF.refl (c : Cfg) (s : Shared) : KpF c s s := ⟨⟨s.heap, s.toks, rfl⟩, fun _ _ _ e => e, fun _ o _ e => ⟨o.slots, e⟩, fun _ o e => ⟨o, e⟩⟩
theorem KpF.trans {c : Cfg} {F' : List Addr} {s₁ s₂ s₃ : Shared} (x : KpF c s₁ s₂) (g : Grown c s₁ F') (y : KpF (c.at F') s₂ s₃) : KpF c s₁ s₃ := by
  obtain ⟨⟨h₂, t₂, rfl⟩, k₂, u₂, l₂⟩ := x
  obtain ⟨⟨h₃, t₃, rfl⟩, k₃, u₃, l₃⟩ := y
  refine ⟨⟨h₃, t₃, rfl⟩, fun b o hb e => k₃ b o (fun q => ?_) (k₂ b o hb e), fun b o hb e => ?_, fun b o e => let ⟨o', e'⟩ := l₂ b o e; l₃ b o' e'⟩
  · rcases g.1 b q with h | h
    · exact hb h
    · rw [h] at e; cases e
  · obtain ⟨_, e₁⟩ := u₂ b o hb e
    obtain ⟨sl, e₂⟩ := u₃ b _ hb e₁
    exact ⟨sl, e₂⟩
theorem KpF.of {c : Cfg} {s s' : Shared} (k : Kp c s s') (hF : ∀ a ∈ c.fr, a ∈ c.F) : KpF c s s' := by
  obtain ⟨h', tk, rfl, k₁, u⟩ := k
  exact ⟨⟨h', tk, rfl⟩, fun b o hb e => k₁ b o (fun q => hb (hF b q)) e, fun b o _ e => u b o e, fun b o e => let ⟨sl, e'⟩ := u b o e; ⟨_, e'⟩⟩
theorem KpF.at {c : Cfg} {F' : List Addr} {s s' : Shared} (k : KpF (c.at F') s s') (g : Grown c s F') : KpF c s s' :=
  ⟨k.same, fun b o hb e => k.keep b o (fun q => (g.1 b q).elim hb fun h => by rw [h] at e; cases e) e, k.slots, k.live⟩
theorem Grown.refl (c : Cfg) (s : Shared) : Grown c s c.F := ⟨fun _ h => .inl h, fun _ h _ => h⟩
theorem Grown.trans {c : Cfg} {F₁ F₂ : List Addr} {s s₁ : Shared} (g : Grown c s F₁) (k : KpF c s s₁) (g₂ : Grown (c.at F₁) s₁ F₂) : Grown c s F₂ := ⟨fun a ha => by
  rcases g₂.1 a ha with h | h
  · exact g.1 a h
  · cases q : s.heap.get? a with
    | none => exact .inr rfl
    | some o => (obtain ⟨o', e⟩ := k.live a o q; rw [e] at h; cases h), fun a ha hb => g₂.2 a (g.2 a ha hb) hb⟩
theorem none_of_live {c : Cfg} {s s₁ : Shared} (k : KpF c s s₁) {b : Addr} (hb : s₁.heap.get? b = none) : s.heap.get? b = none := by
  cases q : s.heap.get? b with
  | none => rfl
  | some o => obtain ⟨o', e⟩ := k.live b o q; rw [e] at hb; cases hb
theorem ExcN.back {F : List Addr} {s₀ s₁ h : Heap} {hot : Bool} {a : Addr} {X : String} (k : ∀ b, s₁.get? b = none → s₀.get? b = none) (x : ExcN F s₁ h hot a X) : ExcN F s₀ h hot a X := ⟨k _ x.1, x.2⟩
theorem ExcT.back {F : List Addr} {s₀ s₁ h : Heap} {fl : Value} {hot : Bool} {a : Addr} {X : String} (k : ∀ b, s₁.get? b = none → s₀.get? b = none) (x : ExcT F s₁ h fl hot a X) : ExcT F s₀ h fl hot a X :=
  let ⟨h1, h2, oe, vs, T, oT, ts, e1, e2, e3, e4, e5, e6, r⟩ := x; ⟨k _ h1, h2, oe, vs, T, oT, ts, e1, e2, e3, e4, e5, k _ e6, r⟩
theorem ExcAt.back {c : Cfg} {F : List Addr} {s s₁ : Shared} {h : Heap} {L : Addr} {hot : Bool} {a : Addr} {X : String} (k : KpF c s s₁) (x : ExcAt F s₁.heap h L hot a X) : ExcAt F s.heap h L hot a X :=
  x.elim (fun x => .inl (x.back fun _ => none_of_live k)) fun x => .inr (x.back fun _ => none_of_live k)

noncomputable def FlowIs (F : List Addr) (h : Heap) : Out → Flow → Prop
  | .next, .next => True
  | .brk, .brk => True
  | .cont, .cont => True
  | .ret p, .ret v => Rep F h v p
  | _, _ => False
noncomputable def PostN (c : Cfg) (sc : Sc) (s : Shared) (out : Out) (ρ' : List Slot) (fl : Flow) (s' : Shared) : Prop :=
  ∃ F', Grown c s F' ∧ FSt (c.at F') sc ρ' s'.heap ∧ KpF c s s' ∧ FlowIs F' s'.heap out fl
noncomputable def PostX (c : Cfg) (sc : Sc) (s : Shared) (out : Out) (ρ' : List Slot) (e : Value) (s' : Shared) : Prop :=
  ∃ F' a X ctx, e = .ref a ∧ out = .exc X ctx ∧ Grown c s F' ∧ FSt (c.at F') sc ρ' s'.heap ∧ KpF c s s' ∧ ExcAt F' s.heap s'.heap c.env.locals ctx a X

noncomputable def ExR (prog : Program) (w : World) (sc : Sc) (ss : List Stmt) (f : List Slot → Option (Out × List Slot)) : Prop :=
  ∀ (c : Cfg) (ρ ρ' : List Slot) (out : Out) (s : Shared), Fn c → FSt c sc ρ s.heap → f ρ = some (out, ρ') →
    wpAny (model prog w) c.A (execs ss c.env) (PostN c sc s out ρ') (PostX c sc s out ρ') s
noncomputable def ExS (prog : Program) (w : World) (sc : Sc) (st : Stmt) (f : List Slot → Option (Out × List Slot)) : Prop :=
  ∀ (c : Cfg) (ρ ρ' : List Slot) (out : Out) (s : Shared), Fn c → FSt c sc ρ s.heap → f ρ = some (out, ρ') →
    wpAny (model prog w) c.A (exec st c.env) (PostN c sc s out ρ') (PostX c sc s out ρ') s

section
variable {prog : Program} {w : World} {sc : Sc}

theorem ExR.dead {ss : List Stmt} : ExR prog w sc ss (fun _ => none) := fun _ _ _ _ _ _ _ e => by cases e
theorem ExS.dead {st : Stmt} : ExS prog w sc st (fun _ => none) := fun _ _ _ _ _ _ _ e => by cases e
theorem ExR.nil : ExR prog w sc [] (fun ρ => some (.next, ρ)) := by
  intro c ρ ρ' out s _ S e
  cases e
  exact wpAny_execs_nil ⟨c.F, .refl _ _, S, .refl _ _, trivial⟩

noncomputable def seqP (f g : List Slot → Option (Out × List Slot)) (ρ : List Slot) : Option (Out × List Slot) :=
  (f ρ).bind fun r => match r with | (.next, ρ₁) => g ρ₁ | r => some r

theorem PostN.step {c : Cfg} {F₁ : List Addr} {s s₁ : Shared} {out : Out} {ρ' : List Slot} {fl : Flow} {s' : Shared} (g : Grown c s F₁) (k : KpF c s s₁) (p : PostN (c.at F₁) sc s₁ out ρ' fl s') : PostN c sc s out ρ' fl s' := by
  obtain ⟨F₂, g₂, S₂, k₂, fi⟩ := p
  exact ⟨F₂, g.trans k g₂, S₂, k.trans g k₂, fi⟩
theorem PostX.step {c : Cfg} {F₁ : List Addr} {s s₁ : Shared} {out : Out} {ρ' : List Slot} {e : Value} {s' : Shared} (g : Grown c s F₁) (k : KpF c s s₁) (p : PostX (c.at F₁) sc s₁ out ρ' e s') : PostX c sc s out ρ' e s' := by
  obtain ⟨F₂, a, X, ctx, he, ho, g₂, S₂, k₂, x⟩ := p
  exact ⟨F₂, a, X, ctx, he, ho, g.trans k g₂, S₂, k.trans g k₂, x.back k⟩

theorem ExR.cons {st : Stmt} {rest : List Stmt} {f g : List Slot → Option (Out × List Slot)} (h : ExS prog w sc st f) (hr : ExR prog w sc rest g) : ExR prog w sc (st :: rest) (seqP f g) := by
  intro c ρ ρ' out s h1 S e
  obtain ⟨⟨o, ρ₁⟩, hf, e⟩ := Option.bind_eq_some_iff.mp e
  refine wpAny_execs_cons (wpAny_mono (h c ρ ρ₁ o s h1 S hf) (fun fl s₁ q => ?_) fun x s₁ q => ?_)
  · obtain ⟨F₁, g₁, S₁, k₁, fi⟩ := q
    cases o with
    | next =>
      cases fl with
      | next => exact wpAny_mono (hr (c.at F₁) ρ₁ ρ' out s₁ h1.at S₁ e) (fun _ _ p => p.step g₁ k₁) fun _ _ p => p.step g₁ k₁
      | _ => exact fi.elim
    | brk => cases e; cases fl <;> first | exact fi.elim | exact ⟨F₁, g₁, S₁, k₁, fi⟩
    | cont => cases e; cases fl <;> first | exact fi.elim | exact ⟨F₁, g₁, S₁, k₁, fi⟩
    | ret p => cases e; cases fl <;> first | exact fi.elim | exact ⟨F₁, g₁, S₁, k₁, fi⟩
    | exc n _ => cases fl <;> exact fi.elim
  · obtain ⟨F₁, a, X, ctx, rfl, rfl, g₁, S₁, k₁, x⟩ := q
    cases e
    exact ⟨F₁, a, X, ctx, rfl, rfl, g₁, S₁, k₁, x⟩

/-! ### names frozen: a list that is built no more -/
noncomputable def frz (i : Nat) (ρ : List Slot) : List Slot := match ρ.getD i .unb with | .own xs => ρ.set i (.val (.list xs)) | _ => ρ

theorem FSt.sub {c : Cfg} {ρ : List Slot} {h : Heap} {i : Nat} {x : Str} {xs : List PV} {a : Addr} (S : FSt c sc ρ h) (hi : sc.vars[i]? = some x) (ho : ρ.getD i .unb = .own xs) (hl : Ld c.env h x (.ref a)) :
    FSt (c.at (c.F.filter (fun b => b != a))) sc (ρ.set i (.val (.list xs))) h := by
  obtain ⟨haF, haL, haC, hafr⟩ := S.own i x xs a hi ho hl
  have mem : ∀ b, b ∈ c.F.filter (fun b => b != a) ↔ b ∈ c.F ∧ b ≠ a := fun b => by rw [List.mem_filter]; simp
  have hil : i < ρ.length := by
    by_cases q : i < ρ.length
    · exact q
    · rw [List.getD_eq_getElem?_getD, List.getElem?_eq_none (Nat.not_lt.mp q)] at ho; cases ho
  have noti : ∀ j ys, (ρ.set i (.val (.list xs))).getD j .unb = .own ys → j ≠ i ∧ ρ.getD j .unb = .own ys := by
    intro j ys e
    by_cases hj : j = i
    · subst hj; rw [getD_set_self, if_pos hil] at e; cases e
    · rw [getD_set_ne (Ne.symm hj)] at e; exact ⟨hj, e⟩
  have sub : ∀ {v p}, Rep c.F h v p → Rep (c.F.filter (fun b => b != a)) h v p := fun r => r.sub fun b hb _ q => hb ((mem b).mp q).1
  refine ⟨⟨S.st.kind, S.st.glob, S.st.glo, S.st.blt, S.st.hand, S.st.hotk, S.st.room, S.st.units, S.st.frames, S.st.ff, fun b hb => (mem b).mpr ⟨S.st.frF b hb, fun q => hafr (q ▸ hb)⟩, fun b hb => S.st.liveF b ((mem b).mp hb).1, S.st.celb, S.st.G, S.st.gb, S.st.stays,
    fun y b hb => ?_, S.st.capart, S.st.cells, S.st.stok, fun j y hj => ?_⟩, S.ns, (mem _).mpr ⟨S.LF, Ne.symm haL⟩, S.LC, S.nd, fun j y ys b hj e l => ?_, fun j k y z ys zs b hj hk ej ek lj lk => ?_, fun k z j hk e => ?_, fun j y ys b hj e l => let ⟨_, e'⟩ := noti j ys e; S.oex j y ys b hj e' l, S.Lb⟩
  · obtain ⟨h1, h2, h3⟩ := S.st.cel y b hb
    exact ⟨(mem b).mpr ⟨h1, fun q => haC y b hb q.symm⟩, h2, h3⟩
  · by_cases hji : j = i
    · subst hji
      rw [hi] at hj; cases hj
      rw [getD_set_self, if_pos hil]
      have q := S.st.vars j x hi
      rw [ho] at q
      obtain ⟨b, vs, hl', hli, hr⟩ := q
      cases hl'.unique hl
      exact ⟨_, hl, .list hli (fun q => ((mem _).mp q).2 rfl) (hr.sub fun b hb _ q => hb ((mem b).mp q).1)⟩
    · rw [getD_set_ne (Ne.symm hji)]
      have q := S.st.vars j y hj
      generalize ρ.getD j .unb = sl at q ⊢
      cases sl with
      | unb => trivial
      | app _ => trivial
      | val p => obtain ⟨v, hl, hr⟩ := q; exact ⟨v, hl, sub hr⟩
      | own ys => obtain ⟨b, vs, hl, hli, hr⟩ := q; exact ⟨b, vs, hl, hli, hr.sub fun b hb _ q => hb ((mem b).mp q).1⟩
  · obtain ⟨hji, e'⟩ := noti j ys e
    obtain ⟨h1, h2, h3, h4⟩ := S.own j y ys b hj e' l
    exact ⟨(mem b).mpr ⟨h1, fun q => hji (S.oapart j i y x ys xs a hj hi e' ho (q ▸ l) hl)⟩, h2, h3, h4⟩
  · obtain ⟨_, e1⟩ := noti j ys ej
    obtain ⟨_, e2⟩ := noti k zs ek
    exact S.oapart j k y z ys zs b hj hk e1 e2 lj lk
  · by_cases hki : k = i
    · subst hki; rw [getD_set_self, if_pos hil] at e; cases e
    · rw [getD_set_ne (Ne.symm hki)] at e
      obtain ⟨h1, h2, q, b, y, h3, h4, h5, h6, h7⟩ := S.apps k z j hk e
      exact ⟨h1, h2, q, b, y, h3, h4, h5, fun q' => h6 ((mem _).mp q').1, fun xs e' => h7 xs (noti j xs e').2⟩

theorem FSt.frz {c : Cfg} {ρ : List Slot} {s : Shared} {i : Nat} {x : Str} (S : FSt c sc ρ s.heap) (hi : sc.vars[i]? = some x) : ∃ F', Grown c s F' ∧ FSt (c.at F') sc (frz i ρ) s.heap := by
  unfold Mine.frz
  cases ho : ρ.getD i .unb with
  | own xs =>
    have q := S.st.vars i x hi
    rw [ho] at q
    obtain ⟨b, vs, hl', hli, hr⟩ := q
    refine ⟨_, ⟨fun a ha => .inl (List.mem_filter.mp ha).1, fun a ha hb' => List.mem_filter.mpr ⟨ha, ?_⟩⟩, S.sub hi ho hl'⟩
    simp only [bne_iff_ne]
    rintro rfl
    exact hb' (S.oex i x xs a hi ho hl').2
  | _ => exact ⟨c.F, .refl _ _, S⟩
theorem ExR.frz {ss : List Stmt} {f : List Slot → Option (Out × List Slot)} (i : Nat) {x : Str} (hi : sc.vars[i]? = some x) (h : ExR prog w sc ss f) : ExR prog w sc ss (fun ρ => f (Mine.frz i ρ)) := by
  intro c ρ ρ' out s h1 S e
  obtain ⟨F', g, S'⟩ := S.frz hi
  exact wpAny_mono (h (c.at F') _ ρ' out s h1.at S' e) (fun _ _ p => p.step g (.refl ..)) fun _ _ p => p.step g (.refl ..)
theorem ExS.frz {st : Stmt} {f : List Slot → Option (Out × List Slot)} (i : Nat) {x : Str} (hi : sc.vars[i]? = some x) (h : ExS prog w sc st f) : ExS prog w sc st (fun ρ => f (Mine.frz i ρ)) := by
  intro c ρ ρ' out s h1 S e
  obtain ⟨F', g, S'⟩ := S.frz hi
  exact wpAny_mono (h (c.at F') _ ρ' out s h1.at S' e) (fun _ _ p => p.step g (.refl ..)) fun _ _ p => p.step g (.refl ..)
end
end Mine
end

section
namespace Mine

section
variable {prog : Program} {w : World} {sc : Sc}

/-- a new address joins what may be touched -/
theorem FSt.grow {c : Cfg} {ρ : List Slot} {s s' : Shared} {a : Addr} (S : FSt c sc ρ s.heap) (k : Kp c s s') (hn : s.heap.get? a = none) (hl : ∃ o, s'.heap.get? a = some o) : FSt (c.at (a :: c.F)) sc ρ s'.heap := by
  have S' := S.kp k
  have keep : ∀ b o, b ∉ a :: c.F → s.heap.get? b = some o → s'.heap.get? b = some o := fun b o hb e => k.keep (fun q => hb (.tail _ (S.st.frF b q))) e
  have sub : ∀ b, b ∉ c.F → b < s.heap.objs.size → b ∉ a :: c.F ∨ s.heap.get? b = none := fun b hb _ => by
    by_cases e : b = a
    · exact .inr (e ▸ hn)
    · exact .inl fun q => (List.mem_cons.mp q).elim e hb
  have ne : ∀ b o, s.heap.get? b = some o → b ≠ a := fun b o e q => by rw [q, hn] at e; cases e
  have rep : ∀ {v p}, Rep c.F s.heap v p → Rep (a :: c.F) s'.heap v p := by
    intro v p r
    have : (∀ {v p}, Rep c.F s.heap v p → Rep (a :: c.F) s.heap v p) := by
      intro v p r
      induction r using Rep.rec (motive_2 := fun vs xs _ => Reps (a :: c.F) s.heap vs xs) with
      | none => exact .none
      | bool b => exact .bool b
      | int i t => exact .int i t
      | str s t => exact .str s t
      | list hl hn _ ih => exact .list hl (fun q => (List.mem_cons.mp q).elim (let ⟨_, h, _⟩ := hl.1; ne _ _ h) hn) ih
      | tup hl hn _ ih => exact .tup hl (fun q => (List.mem_cons.mp q).elim (let ⟨_, h, _⟩ := hl; ne _ _ h) hn) ih
      | keys hl hn => exact .keys hl (fun q => (List.mem_cons.mp q).elim (let ⟨_, h, _⟩ := hl.1; ne _ _ h) hn)
      | obj hl hn => exact .obj hl (fun q => (List.mem_cons.mp q).elim (let ⟨_, h, _⟩ := hl; ne _ _ h) hn)
      | nil => exact .nil
      | cons _ _ ih1 ih2 => exact .cons ih1 ih2
    exact (this r).mono keep
  have reps : ∀ {vs ps}, Reps c.F s.heap vs ps → Reps (a :: c.F) s'.heap vs ps := by
    intro vs ps r
    induction r using Reps.rec (motive_1 := fun _ _ _ => True) with
    | nil => exact .nil
    | cons hv _ _ ih => exact .cons (rep hv) ih
    | _ => trivial
  refine ⟨⟨S.st.kind, S.st.glob, S.st.glo, S.st.blt, S.st.hand, S.st.hotk, S.st.room, S.st.units, S.st.frames, S'.st.ff, fun b hb => .tail _ (S.st.frF b hb), fun b hb => ?_, S.st.celb, S.st.G, S.st.gb, S'.st.stays,
    fun y b hb => ?_, S.st.capart, S.st.cells, S.st.stok, fun j y hj => ?_⟩, S'.ns, .tail _ S.LF, S.LC, S.nd, fun j y ys b hj e l => ?_, S'.oapart, fun k' z j hk e => ?_, S'.oex, S.Lb⟩
  · rcases List.mem_cons.mp hb with rfl | h
    · exact hl
    · exact S'.st.liveF b h
  · obtain ⟨h1, h2, h3⟩ := S'.st.cel y b hb
    exact ⟨.tail _ h1, h2, h3⟩
  · have q := S.st.vars j y hj
    generalize ρ.getD j .unb = sl at q ⊢
    cases sl with
    | unb => trivial
    | app _ => trivial
    | val p => obtain ⟨v, hl, hr⟩ := q; exact ⟨v, k.up.ld hl, rep hr⟩
    | own ys => obtain ⟨b, vs, hl, hli, hr⟩ := q; exact ⟨b, vs, k.up.ld hl, k.up.list hli, reps hr⟩
  · obtain ⟨h1, h2, h3, h4⟩ := S'.own j y ys b hj e l
    exact ⟨.tail _ h1, h2, h3, h4⟩
  · obtain ⟨h1, h2, q, b, y, h3, h4, h5, h6, h7⟩ := S.apps k' z j hk e
    exact ⟨h1, h2, q, b, y, k.up.ld h3, h4, h5.up k.up, fun m => (List.mem_cons.mp m).elim (let ⟨_, _, h, _⟩ := h5; ne _ _ h) h6, fun xs e' => k.up.ld (h7 xs e')⟩

/-- an address leaves what may be touched, as it turns -/
theorem FSt.drop {c : Cfg} {ρ : List Slot} {s : Shared} {h' : Heap} {a : Addr} (S : FSt (c.at (a :: c.F)) sc ρ s.heap) (hs : Heap.SameBut a s.heap h') (hF : a ∉ c.F) (hL : a ≠ c.env.locals) (hC : ∀ y b, c.env.cells.lookup y = some b → b ≠ a)
    (hfr : a ∉ c.fr) (hab : c.base.get? a = none) (hown : ∀ i x xs b, sc.vars[i]? = some x → ρ.getD i .unb = .own xs → Ld c.env s.heap x (.ref b) → b ≠ a := by assumption) (hfrF : ∀ b ∈ c.fr, b ∈ c.F := by assumption) (hLF : c.env.locals ∈ c.F := by assumption)
    (hcF : ∀ y b, c.env.cells.lookup y = some b → b ∈ c.F := by assumption) : FSt c sc ρ h' := by
  have keep : ∀ b o, b ∉ a :: c.F → s.heap.get? b = some o → h'.get? b = some o := fun b o hb e => (hs.2 b fun q => hb (q ▸ .head _)).trans e
  have sub : ∀ b, b ∉ a :: c.F → b < h'.objs.size → b ∉ c.F := fun b hb _ q => hb (.tail _ q)
  obtain ⟨m, hm⟩ := S.ns
  have hm' : h'.Ns c.env.locals m := hm.sameBut hs (Ne.symm hL)
  have cel' : ∀ y b u, c.env.cells.lookup y = some b → (s.heap.IsCell b u ↔ h'.IsCell b u) := by
    intro y b u hb
    constructor
    · rintro ⟨o', e, d⟩; exact ⟨o', (hs.2 b (hC y b hb)).trans e, d⟩
    · rintro ⟨o', e, d⟩; exact ⟨o', by rw [← hs.2 b (hC y b hb)]; exact e, d⟩
  have ld : ∀ x u, Ld c.env s.heap x u ↔ Ld c.env h' x u := by
    intro x u
    constructor
    · rintro (⟨k, m₁, h1, e⟩ | ⟨k, b, hb, e⟩)
      · rw [Ns.unique h1 hm] at e; exact .inl ⟨k, m, hm', e⟩
      · exact .inr ⟨k, b, hb, (cel' x b _ hb).mp e⟩
    · rintro (⟨k, m₁, h1, e⟩ | ⟨k, b, hb, e⟩)
      · rw [Ns.unique h1 hm'] at e; exact .inl ⟨k, m, hm, e⟩
      · exact .inr ⟨k, b, hb, (cel' x b _ hb).mpr e⟩
  refine ⟨⟨S.st.kind, S.st.glob, S.st.glo, S.st.blt, S.st.hand, S.st.hotk, S.st.room, S.st.units, S.st.frames, ?_, hfrF, ?_, S.st.celb, S.st.G, S.st.gb, ?_, ?_, S.st.capart, S.st.cells, S.st.stok, ?_⟩, ⟨m, hm'⟩, hLF, S.LC, S.nd, ?_, ?_, ?_, ?_, S.Lb⟩
  · exact funFrames_turn hs S.st.ff fun q => absurd q hfr
  · intro b hb'
    obtain ⟨o, ho⟩ := S.st.liveF b (.tail _ hb'); exact ⟨o, (hs.2 b fun q => hF (q ▸ hb')).trans ho⟩
  · intro b o e; exact (hs.2 b fun q => by rw [q, hab] at e; cases e).trans (S.st.stays b o e)
  · intro y b e; obtain ⟨h1, h2, u, hu⟩ := S.st.cel y b e; exact ⟨hcF y b e, h2, u, (cel' y b u e).mp hu⟩
  · intro i x hx
    have q := S.st.vars i x hx
    generalize hg : ρ.getD i .unb = sl at q ⊢
    cases sl with
    | unb => trivial
    | app _ => trivial
    | val p => obtain ⟨v, hl, hr⟩ := q; exact ⟨v, (ld x v).mp hl, (hr.mono keep).sub sub⟩
    | own xs =>
      obtain ⟨a, vs, hl, hi, hr⟩ := q
      exact ⟨a, vs, (ld x _).mp hl, hi.at fun o e => (hs.2 a (hown i x xs a hx hg hl)).trans e, (hr.mono keep).sub sub⟩
  · intro i x xs b hx e l
    have l' := (ld x _).mpr l
    obtain ⟨h1, h2, h3, h4⟩ := S.own i x xs b hx e l'
    exact ⟨(List.mem_cons.mp h1).resolve_left (hown i x xs b hx e l'), h2, h3, h4⟩
  · intro i j x y xs ys a hi hj ei ej li lj; exact S.oapart i j x y xs ys a hi hj ei ej ((ld x _).mpr li) ((ld y _).mpr lj)
  · intro i x j hi e
    obtain ⟨h1, h2, q, b, y, h3, h4, h5, h6, h7⟩ := S.apps i x j hi e
    exact ⟨h1, h2, q, b, y, (ld x _).mp h3, h4, h5.at fun o e => keep q o h6 e, fun q' => h6 (.tail _ q'), fun xs e' => (ld y _).mp (h7 xs e')⟩
  · intro i x xs b hx e l
    have l' := (ld x _).mpr l
    exact (S.oex i x xs b hx e l').at fun o q => (hs.2 b (hown i x xs b hx e l')).trans q

/-! ## a list that is nobody's yet -/
noncomputable def Fresh (c : Cfg) (s : Shared) (v : Value) (xs : List PV) (s' : Shared) : Prop :=
  ∃ a vs, v = .ref a ∧ s.heap.get? a = none ∧ Lst s'.heap a vs.toArray ∧ PL s'.heap a ∧ Reps (a :: c.F) s'.heap vs xs ∧ Kp c s s'
noncomputable def EvF (prog : Program) (w : World) (sc : Sc) (e : Expr) (f : List Slot → Option (List PV)) : Prop :=
  ∀ (c : Cfg) (ρ : List Slot) (xs : List PV) (s : Shared) (E : Value → Shared → Prop), St c sc ρ s.heap → f ρ = some xs →
    wpAny (model prog w) c.A (eval e c.env) (fun v s' => Fresh c s v xs s') E s

theorem none_back {c : Cfg} {s s' : Shared} (k : Kp c s s') {a : Addr} (h : s'.heap.get? a = none) : s.heap.get? a = none := by
  cases q : s.heap.get? a with
  | none => rfl
  | some o => obtain ⟨_, e⟩ := k.up a o q; rw [e] at h; cases h
theorem Fresh.step {c : Cfg} {s s₁ s' : Shared} {v xs} (k : Kp c s s₁) (h : Fresh c s₁ v xs s') : Fresh c s v xs s' :=
  let ⟨a, vs, h1, h2, h3, h4, h5, h6⟩ := h; ⟨a, vs, h1, none_back k h2, h3, h4, h5, k.trans h6⟩
theorem Fresh.rep {c : Cfg} {ρ : List Slot} {s s' : Shared} {v xs} (S : St c sc ρ s.heap) (h : Fresh c s v xs s') : Rep c.F s'.heap v (.list xs) ∧ Kp c s s' := by
  obtain ⟨a, vs, rfl, h2, h3, h4, h5, h6⟩ := h
  exact ⟨.list h3 (fun q => by obtain ⟨o, ho⟩ := S.liveF a q; rw [h2] at ho; cases ho) (h5.sub fun b hb _ q => hb (.tail _ q)), h6⟩
theorem EvF.r {e : Expr} {f : List Slot → Option (List PV)} (h : EvF prog w sc e f) : EvR prog w sc e (fun ρ => (f ρ).map .list) := by
  intro c ρ p s E S e'
  obtain ⟨xs, hx, rfl⟩ := Option.map_eq_some_iff.mp e'
  exact wpAny_mono (h c ρ xs s E S hx) (fun _ _ q => q.rep S) fun _ _ x => x

theorem EvF.nil {pos : Pos} : EvF prog w sc (.List [] pos) (fun _ => some []) := by
  intro c ρ xs s E S e
  cases e
  refine wpAny_List (wpAny_items_nil ⟨by show _ ≤ 2 ^ 24; decide, ?_⟩)
  exact ⟨s.heap.objs.size, [], rfl, Heap.get?_none_of_le (Nat.le_refl _), .of (Heap.get?_push_size _ rfl), ⟨_, _, Heap.get?_push_size _ rfl⟩, .nil, push_kp⟩

theorem EvF.copy {x : Str} {np pos : Pos} {e : Expr} {f : List Slot → Option PV} (h : EvB prog w sc e f)
    (hx : x = "list") (hg : x ∈ sc.globs) (he : ∀ env, starEach [e] env = [(false, eval e env)] := by intro _; rfl) :
    EvF prog w sc (.Call (.Name x np) [e] [] pos) (fun ρ => (f ρ).bind fun | .list xs => if xs.length ≤ 1000000 then some xs else none | _ => none) := by
  subst hx
  intro c ρ xs s E S e'
  obtain ⟨a, ha, e'⟩ := Option.bind_eq_some_iff.mp e'
  refine wpAny_Call_ofName (name_blt (v := .type "list") S hg (by decide) (by rfl) (by decide) (by decide) ?_)
  show wpAny _ _ (callWith pos (.type "list") [] (backTo pos (starEach [e] c.env)) []) _ E s
  rw [he]
  show wpAny _ _ (callWith pos (.type "list") [] [(false, eval e c.env)] []) _ E s
  refine PySem.callWith_type1 (wpAny_mono (h c ρ a s E S ha) (fun v s₁ q => ?_) fun _ _ x => x)
  obtain ⟨r, k⟩ := q
  cases a with
  | list ys =>
    simp only at e'
    split at e'
    · cases e'
      rename_i hle
      have key : ∀ {b : Addr} {vs : List Value}, Lst s₁.heap b vs.toArray → Reps c.F s₁.heap vs xs → wpAny (model prog w) c.A (call (.type "list") [.ref b]) (fun v s' => Fresh c s v xs s') E s₁ := by
        intro b vs hl hr
        have hlen := hr.length
        obtain ⟨o, ho, hc, n, hd⟩ := hl.1
        refine call_list_seq b (.inl rfl) ho hc hd (fun h' c' hk hD => ?_) (by show _ ≤ 2 ^ 24; simp only [List.size_toArray]; omega)
        refine Fresh.step k ⟨s₁.heap.objs.size, vs, rfl, Heap.get?_none_of_le (Nat.le_refl _), .of hD, ⟨_, _, hD⟩, ?_, .keeps hk⟩
        refine (hr.sub fun b hb hlt q => ?_).mono fun b o _ e => hk b o e
        rcases List.mem_cons.mp q with e | q
        · exact Nat.lt_irrefl _ (e ▸ hlt)
        · exact hb q
      rcases r with r | ⟨b, vs, ys', rfl, hq, hl, hr⟩
      · cases r with
        | list hl hn hr => exact key hl hr
      · cases hq; exact key hl hr
    · cases e'
  | _ => cases e'

/-! ## stores -/
theorem KpF.sameBut {c : Cfg} {a : Addr} {s : Shared} {h' : Heap} {tk : Nat} (haF : a ∈ c.F) (ha : a ∉ c.ofr) (hl : ∃ o, h'.get? a = some o) (hs : Heap.SameBut a s.heap h') : KpF c s { s with heap := h', toks := tk } :=
  ⟨⟨h', tk, rfl⟩, fun b o hb e => (hs.2 b fun q => hb (q ▸ haF)).trans e, fun b o hb e => ⟨o.slots, (hs.2 b fun q => ha (q ▸ hb)).trans e⟩, fun b o e => by
    by_cases q : b = a
    · exact q ▸ hl
    · exact ⟨o, (hs.2 b q).trans e⟩⟩
theorem St.liveL {c : Cfg} {ρ : List Slot} {h : Heap} (S : FSt c sc ρ h) {x : Str} {a : Addr} (ha : a = c.env.locals ∨ c.env.cells.lookup x = some a) : a ∈ c.F ∧ ∃ o, h.get? a = some o := by
  rcases ha with rfl | ha
  · obtain ⟨m, o, _, _, ho, _⟩ := S.ns; exact ⟨S.LF, o, ho⟩
  · obtain ⟨h1, _, v, o, ho, _⟩ := S.st.cel x a ha; exact ⟨h1, o, ho⟩
theorem Fn.notofr {c : Cfg} {ρ : List Slot} {h : Heap} (hF : Fn c) (S : FSt c sc ρ h) {x : Str} {a : Addr} (ha : a = c.env.locals ∨ c.env.cells.lookup x = some a) : a ∉ c.ofr := by
  rcases ha with rfl | ha
  · exact hF.lo
  · obtain ⟨_, h2, _⟩ := S.st.cel x a ha
    intro q
    refine h2 ?_
    obtain ⟨e, he, hf⟩ := List.mem_filterMap.mp q
    exact List.mem_filterMap.mpr ⟨e, .tail _ he, hf⟩

noncomputable def noApp (i : Nat) (ρ : List Slot) : Bool := ρ.all fun | .app j => j != i | _ => true
theorem noApp_spec {i : Nat} {ρ : List Slot} (h : noApp i ρ = true) (k : Nat) : ρ.getD k .unb ≠ .app i := by
  intro e
  rw [List.getD_eq_getElem?_getD] at e
  cases q : ρ[k]? with
  | none => rw [q] at e; cases e
  | some sl =>
    rw [q] at e
    have e' : sl = .app i := e
    have := List.all_eq_true.mp h sl (List.mem_of_getElem? q)
    rw [e'] at this
    simp at this

theorem storeF {c : Cfg} {ρ : List Slot} {s : Shared} {i : Nat} {x : Str} {v : Value} {sl : Slot} {E : Value → Shared → Prop} {Q : Unit → Shared → Prop} (hF : Fn c) (S : FSt c sc ρ s.heap) (hi : sc.vars[i]? = some x)
    (hx : x ∈ sc.sto) (hf : SlotFit c sc ρ i s.heap v sl) (h : ∀ s', FSt c sc (ρ.set i sl) s'.heap → KpF c s s' → (∃ a, (a = c.env.locals ∨ c.env.cells.lookup x = some a) ∧ Heap.SameBut a s.heap s'.heap ∧ (∀ y u, y ≠ x → (Ld c.env s.heap y u ↔ Ld c.env s'.heap y u)) ∧ Ld c.env s'.heap x v) → Q () s') :
    wpAny (model prog w) c.A (storeName c.env x v) Q E s := by
  refine S.store hi hx hf fun a h' tk S' ha hs other ld => ?_
  obtain ⟨haF, _⟩ := St.liveL S ha
  exact h _ S' (.sameBut haF (hF.notofr S ha) (St.liveL S' ha).2 hs) ⟨a, ha, hs, other, ld⟩

theorem ExS.assign {x : Str} {e : Expr} {p pos : Pos} {f : List Slot → Option PV} {i : Nat} (h : EvR prog w sc e f) (hi : sc.vars[i]? = some x) (hx : x ∈ sc.sto)
    (hs : ∀ env, swapsWith e (some (.Name x p)) pos.line env = pure false := by intro _; rfl) :
    ExS prog w sc (.Assign [.Name x p] e pos) (fun ρ => (f ρ).map fun p => (.next, ρ.set i (.val p))) := by
  intro c ρ ρ' out s h1 S e'
  obtain ⟨q, hq, e'⟩ := Option.map_eq_some_iff.mp e'
  cases e'
  refine wpAny_Assign_Name (wpAny_mono (h c ρ q s _ S.st hq) (fun v s₁ r => ?_) fun _ _ x => x) (hs _)
  refine storeF h1 (S.kp r.2) hi hx (.inr (.inl ⟨q, rfl, r.1⟩)) fun s' S' k' _ => ⟨c.F, .refl _ _, S', (KpF.of r.2 S.st.frF).trans (F' := c.F) (.refl _ _) k', trivial⟩

/-- a fresh list kept to be built -/
theorem ExS.assignF {x : Str} {e : Expr} {p pos : Pos} {f : List Slot → Option (List PV)} {i : Nat} (h : EvF prog w sc e f) (hi : sc.vars[i]? = some x) (hx : x ∈ sc.sto)
    (hs : ∀ env, swapsWith e (some (.Name x p)) pos.line env = pure false := by intro _; rfl) :
    ExS prog w sc (.Assign [.Name x p] e pos) (fun ρ => (f ρ).bind fun xs => if noApp i ρ then some (.next, ρ.set i (.own xs)) else none) := by
  intro c ρ ρ' out s h1 S e'
  obtain ⟨xs, hq, e'⟩ := Option.bind_eq_some_iff.mp e'
  split at e'
  · rename_i hno
    cases e'
    refine wpAny_Assign_Name (wpAny_mono (h c ρ xs s _ S.st hq) (fun v s₁ r => ?_) fun _ _ x => x) (hs _)
    obtain ⟨a, vs, rfl, hn, hl, hpl, hr, k⟩ := r
    have hab : c.base.get? a = none := by
      cases q : c.base.get? a with
      | none => rfl
      | some o => have := S.st.stays a o q; rw [hn] at this; cases this
    have hla : ∃ o, s₁.heap.get? a = some o := let ⟨_, _, h⟩ := hpl; ⟨_, h⟩
    have S₁ := S.grow k hn hla
    have ne : ∀ b, (∃ o, s.heap.get? b = some o) → a ≠ b := fun b ⟨o, ho⟩ q => by rw [← q, hn] at ho; cases ho
    have hfr : ∀ b ∈ c.fr, ∃ o, s.heap.get? b = some o := fun b hb => let ⟨_, o, ho, _⟩ := S.st.ff.mem hb; ⟨o, ho⟩
    refine storeF (c := c.at (a :: c.F)) h1.at S₁ hi hx (.inr (.inr ⟨xs, a, vs, rfl, rfl, ⟨hl, hpl, hab⟩, hr, .head _, ne _ (St.liveL S (x := x) (.inl rfl)).2, fun y d hd => ne d (St.liveL S (.inr hd)).2, fun hb => ne a (hfr a hb) rfl, ?_, noApp_spec hno⟩)) fun s' S' k' _ =>
      ⟨a :: c.F, .cons hn, S', (KpF.of k S.st.frF).trans (F' := a :: c.F) (.cons hn) k', trivial⟩
    intro j y ys hj _ hg l
    have hv := S.st.vars j y hj
    rw [hg] at hv
    obtain ⟨b, ws, hl', ⟨⟨o, ho, _⟩, _⟩, _⟩ := hv
    have := (k.up.ld hl').unique l
    cases this
    exact ne a ⟨o, ho⟩ rfl
  · cases e'

/-- a comprehension kept under a name -/
theorem ExS.assignComp {elt iter : Expr} {y x : Str} {p px : Pos} {ifs : List Expr} {rest : List Comprehension} {scope : Scope} {pos spos : Pos} {sc' : Sc} {caps : List (Option Nat)} {m : Value → Env → Sem Unit} {i j : Nat}
    {fi : List Slot → Option (List PV)} {f : List Slot → Option (List PV × List Slot)} (ok : CompOk scope sc sc' caps) (hit : IterR prog w sc iter fi) (ht : TurnIs (.ListComp elt (⟨.Name x px, iter, ifs, 0⟩ :: rest) scope pos) 0 x px iter.pos m)
    (hb : BdR prog w sc' m f) (hi : sc'.vars[i]? = some x) (hst : x ∈ sc'.sto) (hj : sc.vars[j]? = some y) (hy : y ∈ sc.sto) (hl : y ∉ sc.cells) (hln : (p.line == pos.line) = true)
    (hns : (scope.names.any fun (n, k) => n == y && (k == .local || k == .cell)) = false) (hs : ∀ env x, foldedSetIterable iter env x = pure x := by intro _ _; rfl) :
    ExS prog w sc (.Assign [.Name y p] (.ListComp elt (⟨.Name x px, iter, ifs, 0⟩ :: rest) scope pos) spos)
      (fun ρ => (fi ρ).bind fun ps => (foldC i f ps (caps.map (capS ρ))).bind fun r => if r.1.length ≤ 1000000 then some (.next, ρ.set j (.val (.list r.1))) else none) := by
  intro c ρ ρ' out s h1 S e
  obtain ⟨ps, hps, e⟩ := Option.bind_eq_some_iff.mp e
  obtain ⟨⟨zs, ρ₁⟩, hf, e⟩ := Option.bind_eq_some_iff.mp e
  simp only at e
  split at e
  · rename_i hlen
    cases e
    have hk : c.env.kindOf y = some .local := (S.st.stok y hy).elim id fun h => absurd h.2 hl
    have hsw : swapsWith (.ListComp elt (⟨.Name x px, iter, ifs, 0⟩ :: rest) scope pos) (some (.Name y p)) spos.line c.env = pure true := by
      unfold swapsWith
      show (pure _ : Sem Bool) = _
      congr 1
      have hbk : (c.env.blockKind == ScopeKind.function) = true := by unfold Env.blockKind; rw [S.st.kind]; rfl
      rw [hk, hbk, hns]
      show (true && (some NameKind.local == some NameKind.local) && (p.line == pos.line) && !false) = true
      rw [hln]; rfl
    rw [exec_Assign_Name_used _ _ _ _ hsw]
    refine wpAny_bind (wpAny_standAt (wpAny_bind ?_))
    show wpAny _ c.A (do let _ ← comprehension (.ListComp elt (⟨.Name x px, iter, ifs, 0⟩ :: rest) scope pos) scope c.env _ (newList []) false (eval iter c.env) (some (PySem.assign (Expr.Name y p) c.env))) _ _ s
    refine wpAny_bind (wpAny_mono (wpAny_comprehension_free (use := some (PySem.assign (Expr.Name y p) c.env)) (Q := fun _ s' => PostN c sc s .next (ρ.set j (.val (.list zs))) .next s') rfl (hs _) (closureFor_clos fun y hy hk => ?_) ok.kind ok.names
      (wpAny_mono (comp_core ok hit ht hb hi hst S.st hps hf hlen) (fun _ _ h₁ => wpAny_mono h₁ (fun _ _ h₂ => wpAny_mono h₂ (fun _ _ h₃ => wpAny_mono h₃ (fun cenv _ h₄ => codeAny_mono h₄ fun r s' hr => ?_) fun _ _ x => x) fun _ _ x => x) fun _ _ x => x) fun _ _ x => x)) (fun _ _ hq => wpAny_pure (wpAny_pure hq)) fun _ _ x => x)
    · obtain ⟨_, a, ha⟩ := S.st.cells y.1 (ok.free y hy hk)
      rw [ha]; rfl
    · obtain ⟨rfl, D, ws, rfl, hD, hr', k, ⟨m', hm'⟩, hDn, hCn, hDC, hDF, hCF⟩ := hr
      have S₁ := S.grow k hCn (let ⟨o, _, _, ho, _⟩ := hm'; ⟨o, ho⟩)
      have ne : ∀ b, (∃ o, s.heap.get? b = some o) → cenv.locals ≠ b := fun b ⟨o, ho⟩ q => by rw [← q, hCn] at ho; cases ho
      have hG : Grown c s (cenv.locals :: c.F) := .cons hCn
      show wpAny _ _ (PySem.assign (Expr.Name y p) c.env (.ref D)) _ _ s'
      refine wpAny_assign_Name (storeF (c := c.at (cenv.locals :: c.F)) h1.at S₁ hj hy (.inr (.inl ⟨_, rfl, .list (.of hD.choose_spec) (fun q => (List.mem_cons.mp q).elim hDC hDF) hr'⟩)) fun s₂ S₂ k₂ same => ?_)
      obtain ⟨b, hb', hs', other, _⟩ := same
      have hL : cenv.locals ≠ c.env.locals := ne _ (St.liveL S (x := y) (.inl rfl)).2
      have hCel : ∀ z b, c.env.cells.lookup z = some b → b ≠ cenv.locals := fun z b hb => (ne b (St.liveL S (.inr hb)).2).symm
      have hxy : b ≠ cenv.locals := by
        rcases hb' with rfl | hb'
        · exact Ne.symm hL
        · exact hCel _ _ hb'
      obtain ⟨o₂, es₂, ep₂, ho₂, hr₂⟩ := hm'
      have hN : s₂.heap.Ns cenv.locals m' := ⟨o₂, es₂, ep₂, (hs'.2 _ (Ne.symm hxy)).trans ho₂, hr₂⟩
      refine ⟨m', hN, fun h₃ hs₃ => ?_⟩
      have k₂' := (KpF.of k S.st.frF).trans (F' := cenv.locals :: c.F) hG k₂
      have hbase : ∀ b, s.heap.get? b = none → c.base.get? b = none := fun b hb => by
        cases q : c.base.get? b with
        | none => rfl
        | some o => have := S.st.stays b o q; rw [hb] at this; cases this
      have hown : ∀ i' x' xs b', sc.vars[i']? = some x' → (ρ.set j (.val (.list zs))).getD i' .unb = .own xs → Ld c.env s₂.heap x' (.ref b') → b' ≠ cenv.locals := by
        intro i' x' xs b' hx' e' l
        by_cases hij : i' = j
        · subst hij; rw [getD_set_self] at e'; split at e' <;> cases e'
        · rw [getD_set_ne (Ne.symm hij)] at e'
          have l' := (other x' _ (names_ne S.nd hj hx' hij)).mpr l
          have hv := S.st.vars i' x' hx'
          rw [e'] at hv
          obtain ⟨d, ws, hl', ⟨⟨o, ho, _⟩, _⟩, _⟩ := hv
          have := (k.up.ld hl').unique l'
          cases this
          exact (ne _ ⟨o, ho⟩).symm
      refine ⟨c.F, .refl _ _, S₂.drop hs₃ hCF hL hCel (fun q => ne _ (let ⟨_, o, ho, _⟩ := S.st.ff.mem q; ⟨o, ho⟩) rfl) (hbase _ hCn) ?_ S.st.frF S.LF (fun z d hd => (S.st.cel z d hd).1), ?_, trivial⟩
      · exact hown
      obtain ⟨⟨h'', tk'', rfl⟩, kk, ks, kl⟩ := k₂'
      have back : ∀ b o, s.heap.get? b = some o → h₃.get? b = h''.get? b := fun b o e => hs₃.2 b fun q => ne b ⟨o, e⟩ q.symm
      exact ⟨⟨h₃, tk'', rfl⟩, fun b o hb e => (back b o e).trans (kk b o hb e), fun b o hb e => let ⟨sl, e'⟩ := ks b o hb e; ⟨sl, (back b o e).trans e'⟩, fun b o e => let ⟨o', e'⟩ := kl b o e; ⟨o', (back b o e).trans e'⟩⟩
  · cases e
end
end Mine
end

section
namespace Mine

section
variable {prog : Program} {w : World} {sc : Sc}

theorem ld_load {M : Model} {A : Around} {E : Value → Shared → Prop} {s : Shared} {env : Env} {x : Str} {v : Value} {Q : Value → Shared → Prop} (hk : env.scope.kind = .function)
    (l : Ld env s.heap x v) (h : Q v s) (hn : (x == ("__classdict__" : Str)) = false) : wpAny M A (loadName env x) Q E s := by
  rcases l with ⟨hl, m, hm, hv⟩ | ⟨hl | hl, c, hc, hv⟩
  · exact wpAny_loadName_local hk hl hm hv h
  · exact wpAny_loadName_cell hk hl hc hv h
  · exact wpAny_loadName_free hk hl hc hv h hn

/-! ### plain statements -/
theorem ExS.assign2 {x y : Str} {e : Expr} {p₁ p₂ pos : Pos} {f : List Slot → Option PV} {i j : Nat} (h : EvR prog w sc e f) (hi : sc.vars[i]? = some x) (hx : x ∈ sc.sto) (hj : sc.vars[j]? = some y) (hy : y ∈ sc.sto)
    (hs : ∀ env, swappedStores [.Name x p₁, .Name y p₂] e env = pure none := by intro _; rfl) :
    ExS prog w sc (.Assign [.Name x p₁, .Name y p₂] e pos) (fun ρ => (f ρ).map fun p => (.next, (ρ.set i (.val p)).set j (.val p))) := by
  intro c ρ ρ' out s h1 S e'
  obtain ⟨q, hq, e'⟩ := Option.map_eq_some_iff.mp e'
  cases e'
  refine wpAny_Assign_two (wpAny_mono (h c ρ q s _ S.st hq) (fun v s₁ r => ?_) fun _ _ x => x) rfl (hs _)
  refine wpAny_assign_Name (storeF h1 (S.kp r.2) hi hx (.inr (.inl ⟨q, rfl, r.1⟩)) fun s₂ S₂ k₂ _ => ?_)
  refine wpAny_assign_Name (storeF h1 S₂ hj hy (.inr (.inl ⟨q, rfl, r.1.mono k₂.keep⟩)) fun s₃ S₃ k₃ _ => ?_)
  exact ⟨c.F, .refl _ _, S₃, ((KpF.of r.2 S.st.frF).trans (F' := c.F) (.refl _ _) k₂).trans (F' := c.F) (.refl _ _) k₃, trivial⟩

theorem ExS.assignT2 {x y : Str} {e₁ e₂ : Expr} {k k' : Nat} {p₁ p₂ tp vp pos : Pos} {g : List Slot → Option (List PV)} {i j : Nat} (h : EvRs prog w sc [e₁, e₂] g) (hi : sc.vars[i]? = some x) (hx : x ∈ sc.sto) (hj : sc.vars[j]? = some y) (hy : y ∈ sc.sto)
    (hxl : x ∉ sc.cells) (hyl : y ∉ sc.cells) (hh : sc.hot = false)
    (hs : ∀ env : Env, env.blockKind = .function → env.kindOf x = some .local → env.kindOf y = some .local → swappedStores [.Tuple [.Name x p₁, .Name y p₂] k tp] (.Tuple [e₁, e₂] k' vp) env = pure (some [x, y])) :
    ExS prog w sc (.Assign [.Tuple [.Name x p₁, .Name y p₂] k tp] (.Tuple [e₁, e₂] k' vp) pos)
      (fun ρ => (g ρ).bind fun | [p, q] => some (.next, (ρ.set j (.val q)).set i (.val p)) | _ => none) := by
  intro c ρ ρ' out s h1 S e'
  obtain ⟨ps, hp, e'⟩ := Option.bind_eq_some_iff.mp e'
  split at e'
  · rename_i p q
    cases e'
    have hkx : c.env.kindOf x = some .local := (S.st.stok x hx).elim id fun h => absurd h.2 hxl
    have hky : c.env.kindOf y = some .local := (S.st.stok y hy).elim id fun h => absurd h.2 hyl
    have hbk : c.env.blockKind = .function := by unfold Env.blockKind; rw [S.st.kind]; rfl
    refine Assign_Tuple_swapped (names := [x, y]) ?_ rfl (hs _ hbk hkx hky)
    refine wpAny_mono (EvR.tuple h c ρ (.tup [p, q]) s _ S.st ?_) (fun v s₁ r => ?_) fun _ _ x => x
    · simp [hp]
    · obtain ⟨r, k₁⟩ := r
      cases r with
      | tup ht hn hr =>
        rename_i a vs
        cases hr with
        | cons r₁ hr =>
          cases hr with
          | cons r₂ hr =>
            cases hr
            rename_i v₁ v₂
            refine unpackItems_tuple (items := [v₁, v₂].toArray) (by rw [S.st.hand hh]) ht (fun h' he => ?_)
            have k₂ : Kp c s₁ { s₁ with heap := h' } := .keeps fun b o e => he b o (fun q => by rw [q] at e; rw [Heap.get?_none_of_le (Nat.le_refl _)] at e; cases e) e
            have S₂ := (S.kp k₁).kp k₂
            show wpAny _ _ (do holding [v₁] (bindName c.env y v₂); assignInOrder [fun v => bindName c.env x v] [v₁]) _ _ _
            refine wpAny_bind (wpAny_holding (wpAny_bindName (storeF h1 S₂ hj hy (.inr (.inl ⟨q, rfl, r₂.kp S.st.frF k₂⟩)) fun s₃ S₃ k₃ _ => ?_)))
            show wpAny _ _ (do holding [] (bindName c.env x v₁); assignInOrder [] []) _ _ _
            refine wpAny_bind (wpAny_holding (wpAny_bindName (storeF h1 S₃ hi hx (.inr (.inl ⟨p, rfl, (r₁.kp S.st.frF k₂).mono k₃.keep⟩)) fun s₄ S₄ k₄ _ => wpAny_pure ?_)))
            exact ⟨c.F, .refl _ _, S₄, ((KpF.of (k₁.trans k₂) S.st.frF).trans (F' := c.F) (.refl _ _) k₃).trans (F' := c.F) (.refl _ _) k₄, trivial⟩
  · cases e'

theorem ExS.aug {x : Str} {e : Expr} {p pos : Pos} {f : List Slot → Option PV} {i : Nat} (h : EvR prog w sc e f) (hi : sc.vars[i]? = some x) (hx : x ∈ sc.sto) (hn : (x == ("__classdict__" : Str)) = false) :
    ExS prog w sc (.AugAssign (.Name x p) .Add e pos) (fun ρ => (getV i ρ).bind fun | .int a => ((f ρ).bind fun | .int b => some (.next, ρ.set i (.val (.int (a + b)))) | _ => none) | _ => none) := by
  intro c ρ ρ' out s h1 S e'
  obtain ⟨a, ha, e'⟩ := Option.bind_eq_some_iff.mp e'
  split at e'
  · rename_i a
    obtain ⟨b, hb, e'⟩ := Option.bind_eq_some_iff.mp e'
    split at e'
    · rename_i b
      cases e'
      have hv := S.st.vars i x hi
      unfold getV at ha
      split at ha
      · rename_i q hq
        cases ha
        rw [hq] at hv
        obtain ⟨v, hl, hr⟩ := hv
        refine wpAny_AugAssign_Name (ld_load S.st.kind hl ?_ hn)
        refine wpAny_mono (h c ρ _ s _ S.st hb) (fun v₂ s₁ r => ?_) fun _ _ x => x
        obtain ⟨r, k⟩ := r
        cases hr with
        | int _ t =>
          cases r with
          | int _ t' =>
            refine wpAny_iadd_int ?_
            have k₂ : Kp c s { s₁ with toks := s₁.toks + 1 } := k.trans (.tok ..)
            refine storeF h1 (S.kp k₂) hi hx (.inr (.inl ⟨_, rfl, .int ..⟩)) fun s' S' k' _ => ⟨c.F, .refl _ _, S', (KpF.of k₂ S.st.frF).trans (F' := c.F) (.refl _ _) k', trivial⟩
      · cases ha
    · cases e'
  · cases e'

theorem ExS.iff {t : Expr} {ss ss' : List Stmt} {pos : Pos} {ft : List Slot → Option Bool} {f g : List Slot → Option (Out × List Slot)} (ht : TsR prog w sc t ft) (h : ExR prog w sc ss f) (h' : ExR prog w sc ss' g) :
    ExS prog w sc (.If t ss ss' pos) (fun ρ => (ft ρ).bind fun b => if b then f ρ else g ρ) := by
  intro c ρ ρ' out s h1 S e
  obtain ⟨b, hb, e⟩ := Option.bind_eq_some_iff.mp e
  refine wpAny_If (wpAny_mono (ht c ρ b s _ S.st hb) (fun v s₁ q => ?_) fun _ _ x => x)
  obtain ⟨rfl, k⟩ := q
  have S₁ := S.kp k
  have kf := KpF.of k S.st.frF
  cases v with
  | true => exact wpAny_mono (h c ρ ρ' out s₁ h1 S₁ e) (fun _ _ p => p.step (F₁ := c.F) (.refl _ _) kf) fun _ _ p => p.step (F₁ := c.F) (.refl _ _) kf
  | false => exact wpAny_mono (h' c ρ ρ' out s₁ h1 S₁ e) (fun _ _ p => p.step (F₁ := c.F) (.refl _ _) kf) fun _ _ p => p.step (F₁ := c.F) (.refl _ _) kf

theorem ExS.ret {e : Expr} {pos : Pos} {f : List Slot → Option PV} (h : EvR prog w sc e f) : ExS prog w sc (.Return (some e) pos) (fun ρ => (f ρ).map fun p => (.ret p, ρ)) := by
  intro c ρ ρ' out s h1 S e'
  obtain ⟨q, hq, e'⟩ := Option.map_eq_some_iff.mp e'
  cases e'
  exact wpAny_Return_some (wpAny_mono (h c ρ q s _ S.st hq) (fun v s₁ r => ⟨c.F, .refl _ _, S.kp r.2, KpF.of r.2 S.st.frF, r.1⟩) fun _ _ x => x)
theorem ExS.brk {pos : Pos} : ExS prog w sc (.Break pos) (fun ρ => some (.brk, ρ)) := by
  intro c ρ ρ' out s h1 S e'
  cases e'
  exact wpAny_Break ⟨c.F, .refl _ _, S, .refl _ _, trivial⟩
theorem ExS.assert {t : Expr} {m : Option Expr} {pos : Pos} {ft : List Slot → Option Bool} (ht : TsR prog w sc t ft) : ExS prog w sc (.Assert t m pos) (fun ρ => (ft ρ).bind fun b => if b then some (.next, ρ) else none) := by
  intro c ρ ρ' out s h1 S e
  obtain ⟨b, hb, e⟩ := Option.bind_eq_some_iff.mp e
  split at e
  · rename_i h; cases e; subst h
    exact wpAny_Assert_holds (wpAny_mono (ht c ρ true s _ S.st hb) (fun v s₁ q => ⟨q.1, c.F, .refl _ _, S.kp q.2, KpF.of q.2 S.st.frF, trivial⟩) fun _ _ x => x)
  · cases e

theorem notInteractive {c : Cfg} {ρ : List Slot} {h : Heap} (S : St c sc ρ h) : interactive c.env = false := by
  unfold interactive; rw [S.kind]; rfl
/-! ### own lists -/
theorem FSt.mut {c : Cfg} {ρ : List Slot} {s : Shared} {h' : Heap} {i : Nat} {x : Str} {a : Addr} {xs xs' : List PV} {vs' : List Value} (S : FSt c sc ρ s.heap) (hi : sc.vars[i]? = some x) (ho : ρ.getD i .unb = .own xs)
    (hl : Ld c.env s.heap x (.ref a)) (hs : Heap.SameBut a s.heap h') (hp : PL h' a) (hli : Lst h' a vs'.toArray) (hr : Reps c.F s.heap vs' xs') : FSt c sc (ρ.set i (.own xs')) h' := by
  obtain ⟨haF, haL, haC, hafr⟩ := S.own i x xs a hi ho hl
  obtain ⟨m, hm⟩ := S.ns
  have hm' : h'.Ns c.env.locals m := hm.sameBut hs (Ne.symm haL)
  have cel' : ∀ y b u, c.env.cells.lookup y = some b → (s.heap.IsCell b u ↔ h'.IsCell b u) := by
    intro y b u hb
    have ne : b ≠ a := fun q => haC y b hb q.symm
    constructor
    · rintro ⟨o', e, d⟩; exact ⟨o', (hs.2 b ne).trans e, d⟩
    · rintro ⟨o', e, d⟩; exact ⟨o', by rw [← hs.2 b ne]; exact e, d⟩
  have ld : ∀ x u, Ld c.env s.heap x u ↔ Ld c.env h' x u := by
    intro x u
    constructor
    · rintro (⟨k, m₁, h1, e⟩ | ⟨k, b, hb, e⟩)
      · rw [Ns.unique h1 hm] at e; exact .inl ⟨k, m, hm', e⟩
      · exact .inr ⟨k, b, hb, (cel' x b _ hb).mp e⟩
    · rintro (⟨k, m₁, h1, e⟩ | ⟨k, b, hb, e⟩)
      · rw [Ns.unique h1 hm'] at e; exact .inl ⟨k, m, hm, e⟩
      · exact .inr ⟨k, b, hb, (cel' x b _ hb).mpr e⟩
  have apart : ∀ j y ys, sc.vars[j]? = some y → j ≠ i → ρ.getD j .unb = .own ys → ¬ Ld c.env s.heap y (.ref a) := fun j y ys hj hji e l => hji (S.oapart j i y x ys xs a hj hi e ho l hl)
  refine S.turn (v := .ref a) hs haF (S.oex i x xs a hi ho hl).2 hi (let ⟨_, _, h⟩ := hp; ⟨_, h⟩) (fun y u _ => ld y u) ⟨m, hm'⟩ (fun y b hb => ?_) (funFrames_turn hs S.st.ff fun q => absurd q hafr) (fun j y ys b hj hji e l q => ?_) ((ld x _).mp hl)
    (.inr (.inr ⟨xs', a, vs', rfl, rfl, ⟨hli, hp, (S.oex i x xs a hi ho hl).2⟩, hr.mono fun b o hb e => (hs.2 b fun q => hb (q ▸ haF)).trans e, haF, haL, haC, hafr, apart⟩)) fun _ _ => .inr ⟨xs, ho, hl⟩
  · obtain ⟨_, _, u, hu⟩ := S.st.cel y b hb
    exact ⟨u, (cel' y b u hb).mp hu⟩
  · exact apart j y ys hj hji e (q ▸ l)

theorem KpF.own {c : Cfg} {ρ : List Slot} {s : Shared} {h' : Heap} {i : Nat} {x : Str} {a : Addr} {xs : List PV} (S : FSt c sc ρ s.heap) (hi : sc.vars[i]? = some x) (ho : ρ.getD i .unb = .own xs)
    (hl : Ld c.env s.heap x (.ref a)) (hs : Heap.SameBut a s.heap h') (hp : PL h' a) {tk : Nat} : KpF c s { s with heap := h', toks := tk } := by
  obtain ⟨haF, haL, haC, hafr⟩ := S.own i x xs a hi ho hl
  refine .sameBut haF (fun q => hafr ?_) (let ⟨_, _, h⟩ := hp; ⟨_, h⟩) hs
  obtain ⟨e, he, hf⟩ := List.mem_filterMap.mp q
  exact List.mem_filterMap.mpr ⟨e, .tail _ he, hf⟩

/-- what an own list's name holds -/
theorem FSt.ownAt {c : Cfg} {ρ : List Slot} {h : Heap} {i : Nat} {x : Str} {xs : List PV} (S : FSt c sc ρ h) (hi : sc.vars[i]? = some x) (ho : ρ.getD i .unb = .own xs) :
    ∃ a vs n, Ld c.env h x (.ref a) ∧ h.get? a = some { cls := .type "list", dict := none, data := .seq vs.toArray n, slots := #[] } ∧ Reps c.F h vs xs := by
  have hv := S.st.vars i x hi
  rw [ho] at hv
  obtain ⟨a, vs, hl, ⟨⟨o, ho', hc, n, hd⟩, _⟩, hr⟩ := hv
  obtain ⟨⟨vs', n', hp⟩, _⟩ := S.oex i x xs a hi ho hl
  rw [hp] at ho'; cases ho'
  cases hd
  exact ⟨a, vs, _, hl, hp, hr⟩

noncomputable def ownAt (i : Nat) (ρ : List Slot) : Option (List PV) := match ρ.getD i .unb with | .own xs => some xs | _ => none
theorem ownAt_eq {i : Nat} {ρ : List Slot} {xs : List PV} (h : ownAt i ρ = some xs) : ρ.getD i .unb = .own xs := by
  unfold ownAt at h
  split at h
  · rename_i q; cases h; exact q
  · cases h

/-- the receiver of a list's method -/
theorem meth_own {c : Cfg} {ρ : List Slot} {s : Shared} {E : Value → Shared → Prop} {Q : Value → Shared → Prop} {x name : Str} {id : String} {xp ap pos : Pos} {args : List Expr} {i : Nat} {xs : List PV} (S : FSt c sc ρ s.heap) (hi : sc.vars[i]? = some x) (ho : ρ.getD i .unb = .own xs)
    (hd : (x == ("__debug__" : Str)) = false) (hn : (x == ("__classdict__" : Str)) = false) (hline : (ap.endLine == pos.line) = true) (slot : PySem.Slot "list" name id) (hty : typeOf (.builtin id) = pure (.type "method_descriptor"))
    (hfew : ((backTo pos (starEach args c.env)).all (fun x => !x.1) && decide (args.length + 0 + 0 < 30)) = true)
    (h : ∀ a vs n, Ld c.env s.heap x (.ref a) → s.heap.get? a = some { cls := .type "list", dict := none, data := .seq vs.toArray n, slots := #[] } → Reps c.F s.heap vs xs →
      wpAny (model prog w) c.A (callWith pos (.builtin id) [.ref a] (backTo pos (starEach args c.env)) []) Q E s) :
    wpAny (model prog w) c.A (eval (.Call (.Attribute (.Name x xp) name ap) args [] pos) c.env) Q E s := by
  obtain ⟨a, vs, n, hl, hp, hr⟩ := S.ownAt hi ho
  refine wpAny_Call_method rfl (by rw [show (backToKw pos (keywordEach [] c.env)).all (fun x => x.1.isSome) = true from rfl, Bool.and_true]; exact hfew) hline F.plainAttrs_list slot hty (ld_eval S.st.kind hl ⟨⟨_, hp, rfl⟩, fun b e => ?_, h a vs n hl hp hr⟩ hd hn)
  cases e; exact ⟨_, hp, rfl⟩

theorem appendAt {c : Cfg} {ρ : List Slot} {s : Shared} {E : Value → Shared → Prop} {Q : Value → Shared → Prop} {x : Str} {i : Nat} {xs : List PV} {a : Addr} {vs : List Value} {n : Nat} {v : Value} {p : PV} (S : FSt c sc ρ s.heap) (hi : sc.vars[i]? = some x) (ho : ρ.getD i .unb = .own xs)
    (hl : Ld c.env s.heap x (.ref a)) (hp : s.heap.get? a = some { cls := .type "list", dict := none, data := .seq vs.toArray n, slots := #[] }) (hr : Reps c.F s.heap vs xs) (hv : Rep c.F s.heap v p) (hlen : xs.length ≤ 1000000)
    (h : ∀ s', FSt c sc (ρ.set i (.own (xs ++ [p]))) s'.heap → KpF c s s' → Q .none s') : wpAny (model prog w) c.A (call (.builtin "list.append") [.ref a, v]) Q E s := by
  refine wpAny_list_append_plain (items := vs.toArray) ⟨_, hp⟩ (fun h' hD hs => ?_) ?_
  · obtain ⟨n', hD⟩ := hD
    have e : vs.toArray.push v = (vs ++ [v]).toArray := by simp
    rw [e] at hD
    exact h _ (S.mut hi ho hl hs ⟨_, _, hD⟩ (.of hD) (hr.snoc hv)) (.own S hi ho hl hs ⟨_, _, hD⟩)
  · show _ ≤ 2 ^ 24
    have := hr.length; simp only [List.size_toArray]; omega

theorem ExS.append {x : Str} {xp ap pos spos : Pos} {e : Expr} {f : List Slot → Option PV} {i : Nat} (h : EvR prog w sc e f) (hi : sc.vars[i]? = some x) (hd : (x == ("__debug__" : Str)) = false) (hn : (x == ("__classdict__" : Str)) = false) (hline : (ap.endLine == pos.line) = true)
    (he : ∀ env, starEach [e] env = [(false, eval e env)] := by intro _; rfl) :
    ExS prog w sc (.Expr (.Call (.Attribute (.Name x xp) "append" ap) [e] [] pos) spos) (fun ρ => (ownAt i ρ).bind fun xs => (f ρ).bind fun p => if xs.length ≤ 1000000 then some (.next, ρ.set i (.own (xs ++ [p]))) else none) := by
  intro c ρ ρ' out s h1 S e'
  obtain ⟨xs, hx, e'⟩ := Option.bind_eq_some_iff.mp e'
  obtain ⟨p, hp, e'⟩ := Option.bind_eq_some_iff.mp e'
  split at e'
  · rename_i hlen
    cases e'
    have ho := ownAt_eq hx
    refine wpAny_Expr_any (meth_own S hi ho hd hn hline F.slot_list_append F.type_list_append (by rw [he]; rfl) fun a vs n hl hpl hr => ?_) (notInteractive S.st) rfl
    rw [he]
    show wpAny _ _ (callWith pos (.builtin "list.append") [.ref a] [(false, eval e c.env)] []) _ _ s
    refine Calls.callWith_builtin rfl (Calls.evalArgs_plain (Calls.spliced_cons (wpAny_mono (h c ρ p s _ S.st hp) (fun v s₁ q => Calls.spliced_nil ?_) fun _ _ x => x)))
    have k := q.2
    have hafr := (S.own i x xs a hi ho hl).2.2.2
    refine appendAt (S.kp k) hi ho (k.up.ld hl) (k.keep hafr hpl) (hr.kp S.st.frF k) q.1 hlen fun s' S' k' => ?_
    exact ⟨c.F, .refl _ _, S', (KpF.of k S.st.frF).trans (F' := c.F) (.refl _ _) k', trivial⟩
  · cases e'
end
end Mine
end

section
namespace Mine

section
variable {prog : Program} {w : World} {sc : Sc}

/-- records that no value stands on turned, and slots of frames: the frame stands -/
theorem FSt.recs {c : Cfg} {ρ : List Slot} {s s' : Shared} {wr : List Addr} (S : FSt c sc ρ s.heap) (k : KpX c wr s s')
    (hF : ∀ b ∈ wr, b ∉ c.F) (hb : ∀ b ∈ wr, c.base.get? b = none) (hf : ∀ b ∈ wr, ∀ o, s.heap.get? b = some o → ∃ vs, o.data = .fields vs) (happ : sc.app = false) : FSt c sc ρ s'.heap := by
  obtain ⟨h', tk, rfl, hk, hu⟩ := k
  show FSt c sc ρ h'
  have kU : ∀ b o, b ∈ c.F → s.heap.get? b = some o → ∃ sl, h'.get? b = some { o with slots := sl } := fun b o hb e => hu b o (fun q => hF b q hb) e
  have kS : ∀ b o, b ∈ c.F → b ∉ c.fr → s.heap.get? b = some o → h'.get? b = some o := fun b o hb hfr e => hk b o hfr (fun q => hF b q hb) e
  have kN : ∀ b o, b ∉ c.F → (∀ vs, o.data ≠ .fields vs) → s.heap.get? b = some o → h'.get? b = some o := fun b o hb hd e => hk b o (fun q => hb (S.st.frF b q)) (fun q => by
    obtain ⟨vs, d⟩ := hf b q o e; exact hd vs d) e
  obtain ⟨m, hm⟩ := S.ns
  have hm' : h'.Ns c.env.locals m := by
    obtain ⟨o, es, ep, ho, hd, r⟩ := hm
    obtain ⟨sl, e⟩ := kU _ o S.LF ho
    exact ⟨_, es, ep, e, hd, r⟩
  have cel' : ∀ y b u, c.env.cells.lookup y = some b → (s.heap.IsCell b u ↔ h'.IsCell b u) := by
    intro y b u hb
    obtain ⟨h1, h2, u₀, o, ho, hd⟩ := S.st.cel y b hb
    have ho' := kS b o h1 h2 ho
    constructor
    · rintro ⟨o', e, d⟩; rw [ho] at e; cases e; exact ⟨o, ho', d⟩
    · rintro ⟨o', e, d⟩; rw [ho'] at e; cases e; exact ⟨o, ho, d⟩
  have ld : ∀ x u, Ld c.env s.heap x u ↔ Ld c.env h' x u := by
    intro x u
    constructor
    · rintro (⟨k, m₁, h1, e⟩ | ⟨k, b, hb, e⟩)
      · rw [Ns.unique h1 hm] at e; exact .inl ⟨k, m, hm', e⟩
      · exact .inr ⟨k, b, hb, (cel' x b _ hb).mp e⟩
    · rintro (⟨k, m₁, h1, e⟩ | ⟨k, b, hb, e⟩)
      · rw [Ns.unique h1 hm'] at e; exact .inl ⟨k, m, hm, e⟩
      · exact .inr ⟨k, b, hb, (cel' x b _ hb).mpr e⟩
  refine ⟨⟨S.st.kind, S.st.glob, S.st.glo, S.st.blt, S.st.hand, S.st.hotk, S.st.room, S.st.units, S.st.frames, ?_, S.st.frF, ?_, S.st.celb, S.st.G, S.st.gb, ?_, ?_, S.st.capart, S.st.cells, S.st.stok, ?_⟩, ⟨m, hm'⟩, S.LF, S.LC, S.nd, ?_, ?_, ?_, ?_, S.Lb⟩
  · exact S.st.ff.of_keeps fun b o e hd => by
      obtain ⟨sl, e'⟩ := hu b o (fun q => by obtain ⟨vs, d⟩ := hf b q o e; exact hd vs d) e
      exact ⟨_, e', rfl⟩
  · intro b hb'; obtain ⟨o, ho⟩ := S.st.liveF b hb'; obtain ⟨sl, e⟩ := kU b o hb' ho; exact ⟨_, e⟩
  · intro b o e; exact hk b o (fun q => by have := (S.st.ff.mem q).1; rw [e] at this; cases this) (fun q => by rw [hb b q] at e; cases e) (S.st.stays b o e)
  · intro y b e; obtain ⟨h1, h2, u, hu⟩ := S.st.cel y b e; exact ⟨h1, h2, u, (cel' y b u e).mp hu⟩
  · intro i x hx
    have q := S.st.vars i x hx
    generalize hg : ρ.getD i .unb = sl at q ⊢
    cases sl with
    | unb => trivial
    | app _ => trivial
    | val p => obtain ⟨v, hl, hr⟩ := q; exact ⟨v, (ld x v).mp hl, (rep_mono kN).1 hr⟩
    | own xs =>
      obtain ⟨a, vs, hl, hi, hr⟩ := q
      have ho := S.own i x xs a hx hg hl
      exact ⟨a, vs, (ld x _).mp hl, hi.at fun o e => kS a o ho.1 ho.2.2.2 e, (rep_mono kN).2 hr⟩
  · intro i x xs a hx e l; exact S.own i x xs a hx e ((ld x _).mpr l)
  · intro i j x y xs ys a hi hj ei ej li lj; exact S.oapart i j x y xs ys a hi hj ei ej ((ld x _).mpr li) ((ld y _).mpr lj)
  · intro i x j hi e; have := (S.apps i x j hi e).1; rw [happ] at this; cases this
  · intro i x xs a hx e l
    have l' := (ld x _).mpr l
    have ho := S.own i x xs a hx e l'
    exact (S.oex i x xs a hx e l').at fun o q => kS a o ho.1 ho.2.2.2 q

theorem KpF.recs {c : Cfg} {s₀ s s' : Shared} {wr : List Addr} (k₀ : KpF c s₀ s) (k : KpX c wr s s') (hn : ∀ b ∈ wr, s₀.heap.get? b = none) (hfr : ∀ a ∈ c.fr, a ∈ c.F) : KpF c s₀ s' := by
  obtain ⟨⟨h₁, t₁, rfl⟩, k₁, u₁, l₁⟩ := k₀
  obtain ⟨h', tk, rfl, hk, hu⟩ := k
  have ne : ∀ b o, s₀.heap.get? b = some o → b ∉ wr := fun b o e q => by rw [hn b q] at e; cases e
  refine ⟨⟨h', tk, rfl⟩, fun b o hb e => hk b o (fun q => hb (hfr b q)) (ne b o e) (k₁ b o hb e), fun b o hb e => ?_, fun b o e => ?_⟩
  · obtain ⟨sl, e₁⟩ := u₁ b o hb e
    obtain ⟨sl', e₂⟩ := hu b _ (ne b o e) e₁
    exact ⟨sl', e₂⟩
  · obtain ⟨o', e₁⟩ := l₁ b o e
    obtain ⟨sl', e₂⟩ := hu b _ (ne b o e) e₁
    exact ⟨_, e₂⟩

/-- what is known of a raised exception -/
structure Raised (F₀ : List Addr) (c : Cfg) (sc : Sc) (ρ : List Slot) (s₀ s : Shared) : Prop where
  S : FSt c sc ρ s.heap
  k : KpF (c.at F₀) s₀ s
  fF : ∀ a ∈ c.fr, a ∈ F₀
  bs : c.base.StaysIn s₀.heap
  fn : Fn c
  na : sc.app = false

theorem Raised.fresh {F₀ : List Addr} {c : Cfg} {ρ : List Slot} {s₀ s : Shared} (R : Raised F₀ c sc ρ s₀ s) {a : Addr} (h : s₀.heap.get? a = none) : c.base.get? a = none := by
  cases q : c.base.get? a with
  | none => rfl
  | some o => have := R.bs a o q; rw [h] at this; cases this

theorem note_new {M : Model} {A : Around} {F₀ : List Addr} {c : Cfg} {ρ : List Slot} {s₀ s : Shared} {E : Value → Shared → Prop} {Q : Unit → Shared → Prop} {hot : Bool} {a : Addr} {X : String} (R : Raised F₀ c sc ρ s₀ s) (x : ExcN c.F s₀.heap s.heap hot a X)
    (h : ∀ s', Raised F₀ c sc ρ s₀ s' → ExcT c.F s₀.heap s'.heap (rawInt c.env.locals) hot a X → Q () s') (hA : A.frames = c.A.frames := by rfl) : wpAny M A (noteFrame (.ref a) c.env) Q E s := by
  obtain ⟨hn, haF, oe, vs, he, hc, hd, h2, h1⟩ := x
  have hl : s.heap.FunFrames c.base (c.env :: c.outer) := R.fn.e ▸ R.S.st.ff
  have hfr : A.frames = some (c.env :: c.outer) := by rw [hA, R.fn.e]; exact R.S.st.frames
  unfold noteFrame
  simp only [R.fn.fr]
  refine wpAny_bind (wpAny_field he hd h1 ?_)
  rw [if_neg (by decide)]
  refine wpAny_bind (wpAny_frameOf_fun hfr hl R.fn.fr fun h₁ hs₁ => ?_)
  refine wpAny_bind (wpAny_entryPlaceOf fun pl hpl => ?_)
  unfold EntryCells.newEntry newFields
  refine wpAny_bind (wpAny_newObj_type ?_ (hpl.sizeOk5 _ _ _ _ _))
  have hfrs : (c.env :: c.outer).filterMap (·.frame) = c.fr := by rw [R.fn.e]
  have hafr : a ∉ (c.env :: c.outer).filterMap (·.frame) := fun q => haF (R.S.st.frF a (hfrs ▸ q))
  have he₁ : h₁.get? a = some oe := (hs₁.2.1 a hafr).trans he
  generalize hT : ({ cls := .type "traceback", dict := none, data := .fields ([Value.none, .ref c.env.locals, .none, rawInt c.env.locals, .none] ++ (if pl.isEmpty then List.replicate 6 Value.none else pl)).toArray } : Obj) = oT
  have he₂ := Heap.get?_push_of_some (h := h₁) oT he₁
  have hTe : h₁.objs.size ≠ a := Nat.ne_of_gt (Heap.lt_size he₁)
  have hd₃ := Obj.data_mapFields hd (·.setIfInBounds 1 (Value.ref h₁.objs.size))
  have hT₃ : ((h₁.push oT).update a (Obj.mapFields (·.setIfInBounds 1 (Value.ref h₁.objs.size)))).get? h₁.objs.size = some oT :=
    (Heap.get?_update_other _ _ (Ne.symm hTe)).trans (Heap.get?_push_size h₁ (by subst hT; rfl))
  have he₃ := Heap.get?_update_self (Obj.mapFields (·.setIfInBounds 1 (Value.ref h₁.objs.size))) he₂ (Obj.isFreed_of_fields hd₃)
  have hTn : s.heap.get? h₁.objs.size = none := Heap.get?_none_of_le (by rw [hs₁.1]; exact Nat.le_refl _)
  have hTF : h₁.objs.size ∉ c.F := fun q => by obtain ⟨o, ho⟩ := R.S.st.liveF _ q; rw [hTn] at ho; cases ho
  have kx : KpX c [a] s { s with heap := (h₁.push oT).update a (Obj.mapFields (·.setIfInBounds 1 (Value.ref h₁.objs.size))) } := by
    have sub : ∀ b o, b ∉ [a] → h₁.get? b = some o → ((h₁.push oT).update a (Obj.mapFields (·.setIfInBounds 1 (Value.ref h₁.objs.size)))).get? b = some o := fun b o hb e =>
      (Heap.get?_update_other _ _ (fun q => hb (List.mem_singleton.mpr q.symm))).trans (Heap.get?_push_of_some _ e)
    exact ⟨_, s.toks, rfl, fun b o hb hx e => sub b o hx ((hs₁.2.1 b (by rw [hfrs]; exact hb)).trans e), fun b o hx e => let ⟨sl, e'⟩ := hs₁.2.2 b o e; ⟨sl, sub b _ hx e'⟩⟩
  have one : ∀ b ∈ [a], b = a := fun b hb => List.mem_singleton.mp hb
  refine wpAny_setField he₂ hd (Array.getElem?_eq_some_iff.mp h1).1 (h _ ⟨R.S.recs kx (fun b hb => one b hb ▸ haF) (fun b hb => one b hb ▸ R.fresh hn) (fun b hb o e => ⟨vs, by rw [one b hb, he] at e; cases e; exact hd⟩) R.na, R.k.recs (c := c.at F₀) kx (fun b hb => one b hb ▸ hn) R.fF, R.fF, R.bs, R.fn, R.na⟩ ?_)
  refine ⟨hn, haF, _, _, h₁.objs.size, oT, _, he₃, (Obj.cls_mapFields _ _).trans hc, hd₃, fun q => ?_, by simp [(Array.getElem?_eq_some_iff.mp h1).1], none_of_live R.k hTn, hTF, hTe, hT₃, by rw [← hT], by first | (simp; done) | (rcases hpl with rfl | ⟨_, _, _, _, _, _, _, rfl⟩ <;> simp)⟩
  rw [Array.getElem?_setIfInBounds_ne (by decide)]; exact h2 q

theorem note_again {M : Model} {A : Around} {c : Cfg} {s₀ s : Heap} {sh : Shared} {E : Value → Shared → Prop} {Q : Unit → Shared → Prop} {hot : Bool} {a : Addr} {X : String} (fn : Fn c) (x : ExcT c.F s₀ s (rawInt c.env.locals) hot a X) (hs : s = sh.heap) (h : Q () sh) :
    wpAny M A (noteFrame (.ref a) c.env) Q E sh := by
  subst hs
  obtain ⟨_, _, oe, vs, T, oT, ts, he, hc, hd, _, h1, _, _, _, hT, hdT, h3⟩ := x
  unfold noteFrame
  simp only [fn.fr]
  refine wpAny_bind (wpAny_field he hd h1 ?_)
  rw [if_pos (show (Value.ref T != Value.none) = true from by simp)]
  refine wpAny_bind (wpAny_field hT hdT h3 ?_)
  rw [if_pos (show (rawInt c.env.locals == rawInt c.env.locals) = true from by simp)]
  exact wpAny_pure h
theorem note {M : Model} {A : Around} {F₀ : List Addr} {c : Cfg} {ρ : List Slot} {s₀ s : Shared} {E : Value → Shared → Prop} {Q : Unit → Shared → Prop} {hot : Bool} {a : Addr} {X : String} (R : Raised F₀ c sc ρ s₀ s) (x : ExcAt c.F s₀.heap s.heap c.env.locals hot a X)
    (h : ∀ s', Raised F₀ c sc ρ s₀ s' → ExcT c.F s₀.heap s'.heap (rawInt c.env.locals) hot a X → Q () s') (hA : A.frames = c.A.frames := by rfl) : wpAny M A (noteFrame (.ref a) c.env) Q E s := by
  rcases x with x | x
  · exact note_new R x h hA
  · exact note_again R.fn x rfl (h s R x)

theorem setFlightX {M : Model} {A : Around} {F₀ : List Addr} {c : Cfg} {ρ : List Slot} {s₀ s : Shared} {E : Value → Shared → Prop} {Q : Unit → Shared → Prop} {hot : Bool} {a : Addr} {X : String} {fl : Value} (to : Option Addr) (R : Raised F₀ c sc ρ s₀ s) (x : ExcT c.F s₀.heap s.heap fl hot a X)
    (h : ∀ s', Raised F₀ c sc ρ s₀ s' → ExcT c.F s₀.heap s'.heap (to.elim .none fun f => rawInt f) hot a X → Q () s') : wpAny M A (setFlight (.ref a) to) Q E s := by
  obtain ⟨hn, haF, oe, vs, T, oT, ts, he, hc, hd, h2, h1, hTn, hTF, hTe, hT, hdT, h3⟩ := x
  unfold setFlight
  refine wpAny_bind (wpAny_field he hd h1 ?_)
  rw [if_pos (show (Value.ref T != Value.none) = true from by simp)]
  have hsz := (Array.getElem?_eq_some_iff.mp h3).1
  have hd₃ := Obj.data_mapFields hdT (·.setIfInBounds 3 (to.elim .none fun f => rawInt f))
  have hT₃ := Heap.get?_update_self (Obj.mapFields (·.setIfInBounds 3 (to.elim .none fun f => rawInt f))) hT (Obj.isFreed_of_fields hd₃)
  have kx : KpX c [T] s { s with heap := s.heap.update T (Obj.mapFields (·.setIfInBounds 3 (to.elim .none fun f => rawInt f))) } := .sameBut (tk := s.toks) (.update ..)
  have one : ∀ b ∈ [T], b = T := fun b hb => List.mem_singleton.mp hb
  refine wpAny_setField hT hdT hsz (h _ ⟨R.S.recs kx (fun b hb => one b hb ▸ hTF) (fun b hb => one b hb ▸ R.fresh hTn) (fun b hb o e => ⟨ts, by rw [one b hb, hT] at e; cases e; exact hdT⟩) R.na, R.k.recs (c := c.at F₀) kx (fun b hb => one b hb ▸ hTn) R.fF, R.fF, R.bs, R.fn, R.na⟩ ?_)
  exact ⟨hn, haF, oe, vs, T, _, _, (Heap.get?_update_other _ _ hTe).trans he, hc, hd, h2, h1, hTn, hTF, hTe, hT₃, hd₃, by simp [hsz]⟩

theorem cameBack {M : Model} {A : Around} {F₀ : List Addr} {c : Cfg} {ρ : List Slot} {s₀ s : Shared} {E : Value → Shared → Prop} {hot : Bool} {a : Addr} {X : String} (R : Raised F₀ c sc ρ s₀ s) (x : ExcT c.F s₀.heap s.heap (rawInt c.env.locals) hot a X)
    (h : ∀ s', Raised F₀ c sc ρ s₀ s' → ExcT c.F s₀.heap s'.heap (rawInt c.env.locals) hot a X → E (.ref a) s') : cameBackBy M A c.env E (.ref a) s := by
  have x' := x
  obtain ⟨hn, haF, oe, vs, T, oT, ts, he, hc, hd, h2, h1, _⟩ := x'
  unfold cameBackBy
  refine wpAny_bind (wpAny_field he hd h1 ?_)
  rw [if_neg (by simp)]
  rw [R.fn.fr]
  exact setFlightX (some c.env.locals) R x fun s' R' x' => h s' R' x'
theorem passOnX {M : Model} {A : Around} {F₀ : List Addr} {c : Cfg} {ρ : List Slot} {s₀ s : Shared} {E : Value → Shared → Prop} {Q : Flow → Shared → Prop} {hot : Bool} {a : Addr} {X : String} {what : String} {fl : Value} (R : Raised F₀ c sc ρ s₀ s) (x : ExcT c.F s₀.heap s.heap fl hot a X)
    (h : ∀ s', Raised F₀ c sc ρ s₀ s' → ExcT c.F s₀.heap s'.heap (rawInt c.env.locals) hot a X → E (.ref a) s') : wpAny M A (PySem.passOn what (.ref a) c.env) Q E s := by
  have x' := x
  obtain ⟨hn, haF, oe, vs, T, oT, ts, he, hc, hd, h2, h1, _⟩ := x'
  unfold PySem.passOn
  refine wpAny_bind (wpAny_field he hd h1 ?_)
  rw [if_neg (by simp)]
  rw [R.fn.fr]
  exact wpAny_bind (setFlightX (some c.env.locals) R x fun s' R' x' => wpAny_throw (h s' R' x'))
end
end Mine
end

section
namespace Mine

section
variable {prog : Program} {w : World} {sc : Sc}

/-- within a handler; within a finally whose exception has no context -/
noncomputable abbrev Sc.heat (sc : Sc) (rz : Bool) : Sc := { sc with hot := true, rz := rz }
/-- what may be touched, but for what the base holds -/
noncomputable def hid (c : Cfg) : List Addr := c.F.filter fun b => (c.base.get? b).isNone
theorem hid_mem {c : Cfg} {a : Addr} : a ∈ hid c ↔ a ∈ c.F ∧ c.base.get? a = none := by
  unfold hid; rw [List.mem_filter]; simp
noncomputable def Cfg.heat (c : Cfg) (h : Heap) (a : Addr) : Cfg := { c with A := c.A.mark (some (.ref a)), base := hideAll h (hid c) }

theorem funFrames_base {h base base' : Heap} : ∀ {l : List Env}, h.FunFrames base l → (∀ L ∈ l.filterMap (·.frame), base'.get? L = none) → h.FunFrames base' l
  | [], _, _ => trivial
  | env :: r, ⟨hk, ⟨L, o, hf, _, ho, hd⟩, hr⟩, hb => ⟨hk, ⟨L, o, hf, hb L (by rw [List.filterMap_cons, hf]; exact .head _), ho, hd⟩, funFrames_base hr fun a ha => hb a (by rw [List.filterMap_cons, hf]; exact .tail _ ha)⟩

theorem FSt.heat {c : Cfg} {ρ : List Slot} {s₀ h : Heap} {a : Addr} {X : String} {fl : Value} {rz ctx : Bool} (S : FSt c sc ρ h) (x : ExcT c.F s₀ h fl ctx a X) (hz : rz = true → ctx = false) : FSt (c.heat h a) (sc.heat rz) ρ h := by
  obtain ⟨hn, haF, oe, vs, T, oT, ts, he, hc, hd, h2, _⟩ := x
  refine ⟨⟨S.st.kind, S.st.glob, S.st.glo, S.st.blt, fun q => (by cases q), fun _ q => ⟨a, oe, vs, rfl, hideAll_get _ he (fun q => haF (hid_mem.mp q).1), hd, h2 (hz q)⟩, S.st.room, S.st.units, S.st.frames, ?_, S.st.frF, S.st.liveF, fun y b hb => hideAll_none _ (hid_mem.mpr ⟨(S.st.cel y b hb).1, S.st.celb y b hb⟩), S.st.G, ?_, fun b o e => of_hideAll _ e,
    S.st.cel, S.st.capart, S.st.cells, S.st.stok, S.st.vars⟩, S.ns, S.LF, S.LC, S.nd, S.own, S.oapart, S.apps, fun i x xs b hx e l => ⟨(S.oex i x xs b hx e l).1, hideAll_none _ (hid_mem.mpr ⟨(S.own i x xs b hx e l).1, (S.oex i x xs b hx e l).2⟩)⟩, hideAll_none _ (hid_mem.mpr ⟨S.LF, S.Lb⟩)⟩
  · exact funFrames_base S.st.ff fun L hL => hideAll_none _ (hid_mem.mpr ⟨S.st.frF L hL, (S.st.ff.mem hL).1⟩)
  · intro b o e
    have e' := S.st.gb b o e
    exact hideAll_get _ (S.st.stays b o e') fun q => by rw [(hid_mem.mp q).2] at e'; cases e'

theorem FSt.heat_up {c : Cfg} {ρ : List Slot} {h : Heap} {a : Addr} (S : FSt c sc ρ h) (b : Addr) (hb : c.base.get? b ≠ none) : (c.heat h a).base.get? b ≠ none := by
  cases e : c.base.get? b with
  | none => exact absurd e hb
  | some o =>
    have : (hideAll h (hid c)).get? b = some o := hideAll_get _ (S.st.stays b o e) fun q => by rw [(hid_mem.mp q).2] at e; cases e
    show (hideAll h (hid c)).get? b ≠ none
    rw [this]; simp

theorem FSt.cool {c : Cfg} {ρ ρ' : List Slot} {h h' : Heap} {a : Addr} {F' : List Addr} {rz : Bool} (S : FSt c sc ρ h) (hh : sc.hot = false) (S' : FSt ((c.heat h a).at F') (sc.heat rz) ρ' h') : FSt (c.at F') sc ρ' h' := by
  have up : ∀ b o, c.base.get? b = some o → (hideAll h (hid c)).get? b = some o := fun b o e => hideAll_get _ (S.st.stays b o e) fun q => by rw [(hid_mem.mp q).2] at e; cases e
  have dn : ∀ b, (hideAll h (hid c)).get? b = none → c.base.get? b = none := fun b hb => by
    cases q : c.base.get? b with
    | none => rfl
    | some o => exact absurd ((up b o q).symm.trans hb) (by simp)
  refine ⟨⟨S'.st.kind, S'.st.glob, S'.st.glo, S'.st.blt, S.st.hand, fun q => (by rw [hh] at q; cases q), S'.st.room, S'.st.units, S'.st.frames, ?_, S'.st.frF, S'.st.liveF, fun y b hb => dn b (S'.st.celb y b hb), S'.st.G, S.st.gb, fun b o e => S'.st.stays b o (up b o e),
    S'.st.cel, S'.st.capart, S'.st.cells, S'.st.stok, S'.st.vars⟩, S'.ns, S'.LF, S'.LC, S'.nd, S'.own, S'.oapart, S'.apps, fun i x xs b hx e l => ⟨(S'.oex i x xs b hx e l).1, dn b (S'.oex i x xs b hx e l).2⟩, dn _ S'.Lb⟩
  · exact funFrames_base S'.st.ff fun L hL => (S.st.ff.mem hL).1

/-! ## tests that may raise -/
noncomputable def TsX (prog : Program) (w : World) (sc : Sc) (e : Expr) (f : List Slot → Option (Except String Bool)) : Prop :=
  ∀ (c : Cfg) (ρ : List Slot) (r : Except String Bool) (s : Shared), St c sc ρ s.heap → f ρ = some r →
    wpAny (model prog w) c.A (isTrue e c.env (eval e c.env)) (fun v s' => r = .ok v ∧ Kp c s s') (fun x s' => ∃ a X, r = .error X ∧ x = .ref a ∧ ExcN c.F s.heap s'.heap sc.hot a X ∧ Kp c s s') s
theorem TsR.x {e : Expr} {f : List Slot → Option Bool} (h : TsR prog w sc e f) : TsX prog w sc e (fun ρ => (f ρ).map .ok) := by
  intro c ρ r s S e'
  obtain ⟨b, hb, rfl⟩ := Option.map_eq_some_iff.mp e'
  exact wpAny_mono (h c ρ b s _ S hb) (fun _ _ q => ⟨by rw [q.1], q.2⟩) fun _ _ x => x

/-- a value that may raise -/
noncomputable def EvX (prog : Program) (w : World) (sc : Sc) (e : Expr) (f : List Slot → Option (Except String PV)) : Prop :=
  ∀ (c : Cfg) (ρ : List Slot) (r : Except String PV) (s : Shared), St c sc ρ s.heap → f ρ = some r →
    wpAny (model prog w) c.A (eval e c.env) (fun v s' => ∃ p, r = .ok p ∧ Rep c.F s'.heap v p ∧ Kp c s s') (fun x s' => ∃ a X, r = .error X ∧ x = .ref a ∧ ExcN c.F s.heap s'.heap sc.hot a X ∧ Kp c s s') s

theorem ExcN.kp {c : Cfg} {s s₁ : Shared} {h : Heap} {hot : Bool} {a : Addr} {X : String} (k : Kp c s s₁) (x : ExcN c.F s₁.heap h hot a X) : ExcN c.F s.heap h hot a X := x.back fun _ => none_back k

/-! ## loops -/
noncomputable def whileP (hot : Bool) (t : List Slot → Option (Except String Bool)) (f : List Slot → Option (Out × List Slot)) : Nat → List Slot → Option (Out × List Slot)
  | 0, _ => none
  | n + 1, ρ => (t ρ).bind fun
    | .error X => some (.exc X hot, ρ)
    | .ok false => some (.next, ρ)
    | .ok true => (f ρ).bind fun
      | (.next, ρ₁) => whileP hot t f n ρ₁
      | (.cont, ρ₁) => whileP hot t f n ρ₁
      | (.brk, ρ₁) => some (.next, ρ₁)
      | r => some r

theorem Kp.at {c : Cfg} {F' : List Addr} {s s' : Shared} (k : Kp (c.at F') s s') : Kp c s s' := k

/-- an exception goes out of a loop -/
theorem loopOut {c : Cfg} {F₁ : List Addr} {ρ₀ ρ₁ : List Slot} {s s₁ : Shared} {a : Addr} {X : String} {ctx : Bool} (S₀ : FSt c sc ρ₀ s.heap) (fn : Fn c) (na : sc.app = false) (S : FSt (c.at F₁) sc ρ₁ s₁.heap) (g : Grown c s F₁) (k : KpF c s s₁) (x : ExcAt F₁ s.heap s₁.heap c.env.locals ctx a X) :
    notedBy (model prog w) c.A c.env (fun e s' => cameBackBy (model prog w) c.A c.env (PostX c sc s (.exc X ctx) ρ₁) e s') (.ref a) s₁ := by
  have R : Raised c.F (c.at F₁) sc ρ₁ s s₁ := ⟨S, k, S₀.st.frF, S₀.st.stays, fn.at, na⟩
  unfold notedBy
  refine note (c := c.at F₁) R x fun s₂ R₂ x₂ => ?_
  refine cameBack (c := c.at F₁) R₂ x₂ fun s₃ R₃ x₃ => ?_
  exact ⟨F₁, a, X, ctx, rfl, rfl, g, R₃.S, R₃.k, .inr x₃⟩

theorem ExS.while {t : Expr} {ss : List Stmt} {pos : Pos} {ft : List Slot → Option (Except String Bool)} {f : List Slot → Option (Out × List Slot)} (n : Nat) (ht : TsX prog w sc t ft) (h : ExR prog w sc ss f) (na : sc.app = false ∨ ∀ ρ X, ft ρ ≠ some (.error X)) (na' : sc.app = false ∨ ∀ ρ X ctx ρ', f ρ ≠ some (.exc X ctx, ρ')) :
    ExS prog w sc (.While t ss [] pos) (whileP sc.hot ft f n) := by
  intro c ρ ρ' out s h1 S e
  refine wpAny_While ?_
  refine codeAny_mono (codeAny_whileLoop (R := fun r s' => match r with | .ok fl => PostN c sc s out ρ' fl s' | .error x => cameBackBy (model prog w) c.A c.env (PostX c sc s out ρ') x s')
    (fun m s' => ∃ F₁ ρ₁, Grown c s F₁ ∧ FSt (c.at F₁) sc ρ₁ s'.heap ∧ KpF c s s' ∧ whileP sc.hot ft f m ρ₁ = some (out, ρ')) ?_ n ⟨c.F, ρ, .refl _ _, S, .refl _ _, e⟩) fun _ _ q => q
  rintro m s₁ ⟨F₁, ρ₁, g₁, S₁, k₁, e₁⟩
  cases m with
  | zero => cases e₁
  | succ m =>
    obtain ⟨b, hb, e₁⟩ := Option.bind_eq_some_iff.mp e₁
    refine wpAny_mono (ht (c.at F₁) ρ₁ b s₁ S₁.st hb) (fun v s₂ q => ?_) fun x s₂ q => ?_
    · obtain ⟨rfl, k⟩ := q
      have S₂ := S₁.kp k
      have k₂ := k₁.trans g₁ (KpF.of k S₁.st.frF)
      cases v with
      | false =>
        cases e₁
        exact wpAny_execs_nil ⟨F₁, g₁, S₂, k₂, trivial⟩
      | true =>
        obtain ⟨⟨o, ρ₂⟩, hf, e₁⟩ := Option.bind_eq_some_iff.mp e₁
        refine wpAny_mono (h (c.at F₁) ρ₁ ρ₂ o s₂ h1.at S₂ hf) (fun fl s₃ q => ?_) fun x s₃ q => ?_
        · obtain ⟨F₃, g₃, S₃, k₃, fi⟩ := PostN.step g₁ k₂ q
          cases o with
          | next => cases fl <;> first | exact fi.elim | exact ⟨m, Nat.lt_succ_self m, F₃, ρ₂, g₃, S₃, k₃, e₁⟩
          | cont => cases fl <;> first | exact fi.elim | exact ⟨m, Nat.lt_succ_self m, F₃, ρ₂, g₃, S₃, k₃, e₁⟩
          | brk => cases e₁; cases fl <;> first | exact fi.elim | exact ⟨F₃, g₃, S₃, k₃, trivial⟩
          | ret p => cases e₁; cases fl <;> first | exact fi.elim | exact ⟨F₃, g₃, S₃, k₃, fi⟩
          | exc n _ => cases fl <;> exact fi.elim
        · obtain ⟨F₃, a, X, ctx, rfl, rfl, g₃, S₃, k₃, x⟩ := PostX.step g₁ k₂ q
          cases e₁
          exact loopOut S h1 (na'.elim id fun q => absurd hf (q _ _ _ _)) S₃ g₃ k₃ x
    · obtain ⟨a, X, rfl, rfl, x, k⟩ := q
      cases e₁
      have S₂ := S₁.kp k
      exact loopOut S h1 (na.elim id fun q => absurd hb (q _ _)) S₂ g₁ (k₁.trans g₁ (KpF.of k S₁.st.frF)) (.inl (x.back fun _ => none_of_live k₁))
end
end Mine
end

section
namespace Mine

section
variable {prog : Program} {w : World} {sc : Sc}

/-! ## try -/
noncomputable def tryP (X : String) (f g : List Slot → Option (Out × List Slot)) (ρ : List Slot) : Option (Out × List Slot) := (f ρ).bind fun
  | (.exc n _, ρ₁) => if n = X then (g ρ₁).bind fun | (.exc _ _, _) => none | r => some r else none
  | r => some r

theorem PostN.cool {c : Cfg} {ρ ρ' : List Slot} {s : Shared} {a : Addr} {out : Out} {fl : Flow} {s' : Shared} (S : FSt c sc ρ s.heap) (hh : sc.hot = false) {rz : Bool} (p : PostN (c.heat s.heap a) (sc.heat rz) s out ρ' fl s') : PostN c sc s out ρ' fl s' := by
  obtain ⟨F₁, g, S', k, fi⟩ := p
  exact ⟨F₁, ⟨g.1, fun b hb hn => g.2 b hb (S.heat_up b hn)⟩, S.cool hh S', ⟨k.same, k.keep, k.slots, k.live⟩, fi⟩

theorem ExS.tryE {body suite : List Stmt} {b₀ : Stmt} {T : Str} {X : String} {np hp pos : Pos} {f g : List Slot → Option (Out × List Slot)} (hb : ExR prog w sc body f) (hg : ExR prog w (sc.heat false) (b₀ :: suite) g) (hh : sc.hot = false) (na : sc.app = false)
    (hT : T ∈ sc.globs) (hTb : T ∈ bNames) (hv : bootBuiltins T = some (.type X)) (hn : T ≠ "__name__") (hd : (T == ("__debug__" : Str)) = false)
    (hexc : isSubtype (.type X) (.type "BaseException") = pure true) (hnt : isSubtype (.type ((Manifest.find? X).elim "type" fun x => x.metatype)) (.type "tuple") = pure false) (hsub : isSubtype (.type X) (.type X) = pure true) :
    ExS prog w sc (.Try body [.ExceptHandler (some (.Name T np)) none (b₀ :: suite) hp] [] [] pos) (tryP X f g) := by
  intro c ρ ρ' out s h1 S e
  obtain ⟨⟨o, ρ₁⟩, hf, e⟩ := Option.bind_eq_some_iff.mp e
  refine wpAny_Try_except (wpAny_mono (hb c ρ ρ₁ o s h1 S hf) (fun fl s₁ q => ?_) fun x s₁ q => ?_)
  · obtain ⟨F₁, g₁, S₁, k₁, fi⟩ := q
    cases o with
    | next => cases e; cases fl <;> first | exact fi.elim | exact wpAny_execs_nil ⟨F₁, g₁, S₁, k₁, fi⟩
    | brk => cases e; cases fl <;> first | exact fi.elim | exact ⟨F₁, g₁, S₁, k₁, fi⟩
    | cont => cases e; cases fl <;> first | exact fi.elim | exact ⟨F₁, g₁, S₁, k₁, fi⟩
    | ret p => cases e; cases fl <;> first | exact fi.elim | exact ⟨F₁, g₁, S₁, k₁, fi⟩
    | exc n _ => cases fl <;> exact fi.elim
  · obtain ⟨F₁, a, n, ctx, rfl, rfl, g₁, S₁, k₁, x⟩ := q
    have e2 : (if n = X then (g ρ₁).bind (fun | (.exc _ _, _) => none | r => some r) else none) = some (out, ρ') := e
    by_cases hX : n = X
    · rw [if_pos hX] at e2
      subst hX
      obtain ⟨⟨o, ρ₂⟩, hg', e⟩ := Option.bind_eq_some_iff.mp e2
      have R : Raised c.F (c.at F₁) sc ρ₁ s s₁ := ⟨S₁, k₁, S.st.frF, S.st.stays, h1.at, na⟩
      refine note (c := c.at F₁) R x fun s₂ R₂ x₂ => ?_
      refine setFlightX (c := c.at F₁) none R₂ x₂ fun s₃ R₃ x₃ => ?_
      have S₃ := R₃.S.heat (rz := false) x₃ nofun
      refine wpAny_handleBy_builtin (b := true) hexc hnt hsub (name_blt (c := (c.at F₁).heat s₃.heap a) S₃.st hT hTb hv hn hd ?_)
      refine ⟨rfl, ?_, ?_⟩
      · obtain ⟨_, _, oe, _, _, _, _, he, hc, _⟩ := x₃; exact ⟨oe, he, hc⟩
      · rw [if_pos rfl]
        refine setFlightX (c := c.at F₁) none R₃ x₃ fun s₄ R₄ x₄ => ?_
        have S₄ := R₄.S.heat (rz := false) x₄ nofun
        refine wpAny_mono (hg ((c.at F₁).heat s₄.heap a) ρ₁ ρ₂ o s₄ ⟨h1.e, h1.fr, h1.lo⟩ S₄ hg') (fun fl s₅ q => ?_) fun x s₅ q => ?_
        · have q' := PostN.step g₁ R₄.k (PostN.cool R₄.S hh q)
          cases o with
          | exc n _ => obtain ⟨_, _, _, _, fi⟩ := q'; cases fl <;> exact fi.elim
          | _ => cases e; exact q'
        · obtain ⟨_, _, _, _, _, rfl, _⟩ := q
          cases e
    · rw [if_neg hX] at e2; cases e2

noncomputable def finP (f g g' : List Slot → Option (Out × List Slot)) (ρ : List Slot) : Option (Out × List Slot) := (f ρ).bind fun
  | (.next, ρ₁) => (g ρ₁).bind fun | (.next, ρ₂) => some (.next, ρ₂) | (.exc m c, ρ₂) => some (.exc m c, ρ₂) | _ => none
  | (.exc n false, ρ₁) => (g' ρ₁).bind fun | (.next, ρ₂) => some (.exc n false, ρ₂) | (.exc m c, ρ₂) => some (.exc m c, ρ₂) | _ => none
  | _ => none

theorem ExS.tryF {body fs : List Stmt} {f₀ : Stmt} {pos : Pos} {f g g' : List Slot → Option (Out × List Slot)} (hb : ExR prog w sc body f) (hg : ExR prog w sc (f₀ :: fs) g) (hg' : ExR prog w (sc.heat true) (f₀ :: fs) g') (hh : sc.hot = false) (na : sc.app = false) :
    ExS prog w sc (.Try body [] [] (f₀ :: fs) pos) (finP f g g') := by
  intro c ρ ρ' out s h1 S e
  obtain ⟨⟨o, ρ₁⟩, hf, e⟩ := Option.bind_eq_some_iff.mp e
  refine wpAny_Try_finally (wpAny_mono (hb c ρ ρ₁ o s h1 S hf) (fun fl s₁ q => ?_) fun x s₁ q => ?_)
  · obtain ⟨F₁, g₁, S₁, k₁, fi⟩ := q
    cases o with
    | next =>
      obtain ⟨⟨o, ρ₂⟩, hg₁, e⟩ := Option.bind_eq_some_iff.mp e
      cases fl <;> first | exact fi.elim | skip
      refine wpAny_execs_nil (wpAny_mono (hg (c.at F₁) ρ₁ ρ₂ o s₁ h1.at S₁ hg₁) (fun fl s₂ q => ?_) fun x s₂ q => ?_)
      · have q' := PostN.step g₁ k₁ q
        obtain ⟨F₂, g₂, S₂, k₂, fi⟩ := q'
        cases o with
        | next => cases e; cases fl <;> first | exact fi.elim | exact ⟨F₂, g₂, S₂, k₂, fi⟩
        | exc n _ => cases fl <;> exact fi.elim
        | _ => cases e
      · obtain ⟨F₂, a, n, ctx, rfl, rfl, g₂, S₂, k₂, x⟩ := PostX.step g₁ k₁ q
        cases e
        exact loopOut S h1 na S₂ g₂ k₂ x
    | exc n _ => cases fl <;> exact fi.elim
    | _ => cases e
  · obtain ⟨F₁, a, n, ctx, rfl, rfl, g₁, S₁, k₁, x⟩ := q
    cases ctx with
    | true => cases e
    | false =>
    obtain ⟨⟨o, ρ₂⟩, hg₁, e⟩ := Option.bind_eq_some_iff.mp e
    have R : Raised c.F (c.at F₁) sc ρ₁ s s₁ := ⟨S₁, k₁, S.st.frF, S.st.stays, h1.at, na⟩
    refine note (c := c.at F₁) R x fun s₂ R₂ x₂ => ⟨ref_ne_byPass a, ?_⟩
    refine note_again (c := c.at F₁) R₂.fn x₂ rfl ?_
    refine setFlightX (c := c.at F₁) none R₂ x₂ fun s₃ R₃ x₃ => ?_
    have S₃ := R₃.S.heat (rz := true) x₃ fun _ => rfl
    have fn₃ : Fn ((c.at F₁).heat s₃.heap a) := ⟨h1.e, h1.fr, h1.lo⟩
    refine wpAny_mono (hg' ((c.at F₁).heat s₃.heap a) ρ₁ ρ₂ o s₃ fn₃ S₃ hg₁) (fun fl s₄ q => ?_) fun x s₄ q => ?_
    · obtain ⟨F₄, g₄, S₄, k₄, fi⟩ := q
      cases o with
      | next =>
        cases e
        cases fl <;> first | exact fi.elim | skip
        have S₄' := R₃.S.cool hh S₄
        have kk : KpF (c.at F₁) s₃ s₄ := ⟨k₄.same, k₄.keep, k₄.slots, k₄.live⟩
        have R₄ : Raised c.F ((c.at F₁).at F₄) sc ρ' s s₄ := ⟨S₄', KpF.trans (c := c) R₃.k g₁ kk, S.st.frF, S.st.stays, h1.at, na⟩
        obtain ⟨y1, y2, oe, vs, T, oT, ts, z1, z2, z3, z4, z5, z6, z7, z8, z9, z10, z11⟩ := x₃
        have fresh : ∀ b o, b ∉ F₁ → s₃.heap.get? b = some o → b ∉ F₄ := fun b o hb eo q => (g₄.1 b q).elim hb fun h => by rw [h] at eo; cases eo
        have x₄ : ExcT F₄ s.heap s₄.heap .none false a n := ⟨y1, fresh a oe y2 z1, oe, vs, T, oT, ts, kk.keep a oe y2 z1, z2, z3, z4, z5, z6, fresh T oT z7 z9, z8, kk.keep T oT z7 z9, z10, z11⟩
        refine passOnX (c := c.at F₄) R₄ x₄ fun s₅ R₅ x₅ => ?_
        refine ⟨F₄, a, n, false, rfl, rfl, ⟨fun b hb => ?_, fun b hb hn => g₄.2 b (g₁.2 b hb hn) (R₃.S.heat_up b hn)⟩, R₅.S, R₅.k, .inr x₅⟩
        rcases g₄.1 b hb with h | h
        · exact g₁.1 b h
        · exact .inr (none_of_live (c := c) R₃.k h)
      | exc m _ => cases fl <;> exact fi.elim
      | _ => cases e
    · obtain ⟨F₄, a', n', ctx', rfl, rfl, g₄, S₄, k₄, x⟩ := q
      cases e
      have S₄' := R₃.S.cool hh S₄
      have kk : KpF (c.at F₁) s₃ s₄ := ⟨k₄.same, k₄.keep, k₄.slots, k₄.live⟩
      have x' : ExcAt F₄ s.heap s₄.heap c.env.locals ctx' a' n' := by
        have nb : ∀ b, s₃.heap.get? b = none → s.heap.get? b = none := fun b => none_of_live (c := c) R₃.k
        exact x.elim (fun x => .inl (x.back nb)) fun x => .inr (x.back nb)
      have gg : Grown c s F₄ := by
        refine ⟨fun b hb => ?_, fun b hb hn => g₄.2 b (g₁.2 b hb hn) (R₃.S.heat_up b hn)⟩
        rcases g₄.1 b hb with h | h
        · exact g₁.1 b h
        · exact .inr (none_of_live (c := c) R₃.k h)
      have R₄ : Raised c.F (c.at F₄) sc ρ' s s₄ := ⟨S₄', KpF.trans (c := c) R₃.k g₁ kk, S.st.frF, S.st.stays, h1.at, na⟩
      show notedBy (model prog w) (c.A.mark (some (.ref a))) c.env (cameBackBy (model prog w) c.A c.env (PostX c sc s (.exc n' ctx') ρ')) (.ref a') s₄
      unfold notedBy
      refine note (c := c.at F₄) R₄ x' fun s₅ R₅ x₅ => ?_
      refine cameBack (c := c.at F₄) R₅ x₅ fun s₆ R₆ x₆ => ?_
      exact ⟨F₄, a', n', ctx', rfl, rfl, gg, R₆.S, R₆.k, .inr x₆⟩
end
end Mine
end

section
namespace Mine

theorem entry_unchain : entryFor table "proto.unchain" = some Builtin.«proto.unchain» := entryFor_of_fast (by kernel_rfl)

section
variable {prog : Program} {w : World} {sc : Sc}

theorem wpAny_updateField' {M : Model} {A : Around} {E : Value → Shared → Prop} {s : Shared} {a : Addr} {o : Obj} {vs : Array Value} {i : Nat} {v : Value} {Q : Unit → Shared → Prop} (ho : s.heap.get? a = some o) (hd : o.data = .fields vs) (hi : i < vs.size)
    (h : Q () { s with heap := s.heap.update a (Obj.mapFields (·.setIfInBounds i v)) }) : wpAny M A (updateField a i v) Q E s := by
  unfold updateField
  refine wpAny_bind (wpAny_load ho ?_)
  rw [hd]
  simp only
  rw [if_pos hi]
  exact wpAny_update ho h

/-- an exception made and raised -/
theorem raise_any {α : Type} {c : Cfg} {ρ : List Slot} {s : Shared} {A : Around} {cls msg : String} {Q : α → Shared → Prop} {E : Value → Shared → Prop} (S : St c sc ρ s.heap) (hz : sc.hot = true → sc.rz = true) (hp : PlainExc cls) (hA : A.handled = c.A.handled)
    (h : ∀ s' e, Kp c s s' → ExcN c.F s.heap s'.heap sc.hot e cls → E (.ref e) s') : wpAny (model prog w) A (raiseErrorWords cls msg : Sem α) Q E s := by
  have nF : ∀ a, s.heap.get? a = none → a ∉ c.F := fun a ha q => by obtain ⟨o, ho⟩ := S.liveF a q; rw [ha] at ho; cases ho
  cases hh : sc.hot with
  | false =>
    refine wpAny_raiseErrorWords hp (hA.trans (S.hand hh)) fun h' tk e x => ?_
    obtain ⟨hk, hn, ob, t, he, hc, hd⟩ := x
    refine h _ _ (.keeps hk) ⟨hn, nF e hn, ob, _, he, hc, hd, fun _ => by simp, by simp⟩
  | true =>
    obtain ⟨b, ob, vs, hb, hob, hdb, h2⟩ := S.hotk hh (hz hh)
    have hob' := S.stays b ob hob
    unfold raiseErrorWords
    refine wpAny_bind (wpAny_mkText (wpAny_bind ?_))
    unfold newExc newTuple
    refine wpAny_bind (wpAny_newObj_type ?_)
    refine wpAny_bind (m := firstArgMember _ _) (wpAny_of_eq (a := Value.none) (by simp only [firstArgMember, hp.first]; rfl) ?_)
    rw [hp.own]
    refine wpAny_newObj_type ?_
    unfold raiseNew
    refine wpAny_bind (wpAny_handled ?_)
    rw [hA, hb]
    dsimp only
    generalize hT : ({ cls := .type "tuple", dict := none, data := .seq _ } : Obj) = oT
    generalize hX : ({ cls := .type cls, dict := none, data := _ } : Obj) = oX
    have hsz : (s.heap.push oT).objs.size = s.heap.objs.size + 1 := Heap.size_push ..
    have hbo : ((s.heap.push oT).push oX).get? b = some ob := Heap.get?_push_of_some _ (Heap.get?_push_of_some _ hob')
    have hne : b ≠ (s.heap.push oT).objs.size := by
      have := Heap.lt_size hob'
      rw [hsz]; exact Nat.ne_of_lt (Nat.lt_succ_of_lt this)
    have hX' : ((s.heap.push oT).push oX).get? (s.heap.push oT).objs.size = some oX := Heap.get?_push_size _ (by rw [← hX]; rfl)
    rw [if_pos (by simp; rw [hsz] at hne; exact hne)]
    refine wpAny_bind (wpAny_holding (wpAny_runValue (codeAny_builtin entry_unchain ?_)))
    show wpAny _ _ (do let context ← field (.ref b) 2; _) _ _ _
    refine wpAny_bind (wpAny_field hbo hdb h2 ?_)
    rw [if_pos (by rfl)]
    refine wpAny_pure ?_
    dsimp only
    refine wpAny_bind (wpAny_updateField' hX' (by rw [← hX]) ?_ (wpAny_throw ?_))
    · simp
    · have hd₃ : (Obj.mapFields (·.setIfInBounds 2 (.ref b)) oX).data = .fields _ := Obj.data_mapFields (by rw [← hX]) _
      have hg := Heap.get?_update_self (Obj.mapFields (·.setIfInBounds 2 (.ref b))) hX' (Obj.isFreed_of_fields hd₃)
      have hn : s.heap.get? (s.heap.push oT).objs.size = none := Heap.get?_none_of_le (by rw [hsz]; exact Nat.le_succ _)
      refine h _ _ (.keeps fun d o e => ?_) ⟨hn, nF _ hn, _, _, hg, ?_, hd₃, (fun q => by rw [hh] at q; cases q), by simp⟩
      · rw [Heap.get?_update_other _ _ (fun q => by rw [← q, hn] at e; cases e)]
        exact Heap.get?_push_of_some _ (Heap.get?_push_of_some _ e)
      · rw [Obj.cls_mapFields, ← hX]


theorem getItem_out {c : Cfg} {ρ : List Slot} {s : Shared} {l : Addr} {items : Array Value} {k : Int} {t : Tok} {Q E : Value → Shared → Prop} (S : St c sc ρ s.heap) (hz : sc.hot = true → sc.rz = true) (hl : s.heap.IsList l items)
    (hout : (items.size : Int) ≤ k) (hfit : Builtin.List.listFitsIndex k = true) (h : ∀ s' e, Kp c s s' → ExcN c.F s.heap s'.heap sc.hot e "IndexError" → E (.ref e) s') : wpAny (model prog w) c.A (getItem (.ref l) (.int k t)) Q E s := by
  obtain ⟨o, ho, hc, ne, hd⟩ := id hl
  unfold getItem
  try with_reducible refine wpAny_holding ?_
  first | refine wpAny_bind (wpAny_pure ?_) | skip
  refine wpAny_bind (wpAny_sequenceKey hl.typeIs (by decide) ?_)
  refine wpAny_bind (wpAny_callSpecial?_slot (name := Str.ofString "__getitem__") hl.typeIs slot_list_getitem
    (wpAny_call_entry slot_list_getitem hl.typeIs entry_list_getitem ?_ (args_list_getitem _ _)))
  show wpAny _ _ (Builtin.List.listSubscript? (.int k t) >>= _) _ _ s
  refine wpAny_bind (wpAny_listSubscript_int hfit ?_)
  clear hfit
  cases k with
  | ofNat j =>
    have hx : items[j]? = none := Array.getElem?_eq_none (by have : (items.size : Int) ≤ (j : Int) := hout; omega)
    show wpAny _ _ ((seqItemAt l j >>= fun r => pure (r.map (j, ·))) >>= _) _ _ s
    refine wpAny_bind (wpAny_bind (wpAny_seqItemAt ho hd (wpAny_pure ?_)))
    rw [hx]
    first
      | exact wpAny_bind (wpAny_rule (raise_any S hz plainExc_IndexError rfl h))
      | exact wpAny_bind (wpAny_rule (wpAny_bind (raise_any S hz plainExc_IndexError rfl h)))
      | exact wpAny_bind (wpAny_bind (wpAny_rule (raise_any S hz plainExc_IndexError rfl h)))
  | negSucc j => exact absurd hout (by have := Int.negSucc_lt_zero j; omega)

noncomputable def itemX : PV → PV → Option (Except String PV)
  | .list xs, .int k => if 0 ≤ k ∧ k < 1000000 then (match xs[k.toNat]? with | some p => some (.ok p) | none => some (.error "IndexError")) else none
  | _, _ => none

theorem EvX.sub {e₁ e₂ : Expr} {pos : Pos} {f₁ f₂ : List Slot → Option PV} (h₁ : EvB prog w sc e₁ f₁) (h₂ : EvR prog w sc e₂ f₂) (hz : sc.hot = true → sc.rz = true) :
    EvX prog w sc (.Subscript e₁ e₂ pos) (fun ρ => (f₁ ρ).bind fun a => (f₂ ρ).bind fun b => itemX a b) := by
  intro c ρ r s S e
  obtain ⟨a, ha, e⟩ := Option.bind_eq_some_iff.mp e
  obtain ⟨b, hb, e⟩ := Option.bind_eq_some_iff.mp e
  refine Subscript_ (wpAny_mono (h₁ c ρ a s _ S ha) (fun v₁ s₁ q₁ => ?_) fun _ _ x => x)
  refine wpAny_mono (h₂ c ρ b s₁ _ (S.kp q₁.2) hb) (fun v₂ s₂ q₂ => ?_) fun _ _ x => x
  have r₁ := RepB.kp S.frF q₁.1 q₂.2
  obtain ⟨r₂, k₂⟩ := q₂
  have kk := q₁.2.trans k₂
  have key : ∀ {l : Addr} {vs : List Value} {xs : List PV}, Lst s₂.heap l vs.toArray → Reps c.F s₂.heap vs xs → itemX (.list xs) b = some r →
      wpAny (model prog w) c.A (subscriptTail e₁ e₂ (.ref l) v₂) (fun v s' => ∃ p, r = .ok p ∧ Rep c.F s'.heap v p ∧ Kp c s s') (fun x s' => ∃ a X, r = .error X ∧ x = .ref a ∧ ExcN c.F s.heap s'.heap sc.hot a X ∧ Kp c s s') s₂ := by
    intro l vs xs hl hr e
    cases r₂ with
    | int k u =>
      simp only [itemX] at e
      split at e
      · rename_i hk
        obtain ⟨ops, ho⟩ := subscripted_plain e₂ (.ref l) (.int k u)
        obtain ⟨n, rfl⟩ := Int.eq_ofNat_of_zero_le hk.1
        have hlen := hr.length
        split at e
        · rename_i p hx
          cases e
          refine tail_any hl.1.typeIs slot_list_getitem.lookup (wpAny_mono (list_item hl hr (by omega) (p := p) ?_) (fun _ _ q => ⟨p, rfl, q.1, q.2 ▸ kk⟩) fun _ _ x => x) ho
          have hx' : xs[n]? = some p := by simpa using hx
          have hn := (List.getElem?_eq_some_iff.mp hx').1
          have : seqIndex? (n : Int) xs.length = some n := by
            unfold seqIndex?
            have h0 : ¬ ((n : Int) < 0) := by omega
            simp only [h0, if_false]
            have h1 : (decide ((0 : Int) ≤ (n : Int)) && decide ((n : Int) < (xs.length : Int))) = true := by simp; exact hn
            simp [hn]
          rw [this]; exact hx'
        · rename_i hx
          cases e
          have hx' : xs.length ≤ n := by simpa using hx
          refine tail_any hl.1.typeIs slot_list_getitem.lookup (getItem_out ((S.kp kk)) hz hl.1 (by simp only [List.size_toArray]; omega) (fitsIndex_both (by omega) (by omega)) fun s' e k x => ?_) ho
          exact ⟨e, _, rfl, rfl, x.kp kk, kk.trans k⟩
      · cases e
    | _ => cases e
  rcases r₁ with r₁ | ⟨l, vs, xs, rfl, rfl, hl, hr⟩
  · cases r₁ with
    | list hl hn hr => exact key hl hr e
    | _ => cases e
  · exact key hl hr e

theorem TsX.cmp {op : CmpOp} {e₁ e₂ : Expr} {pos : Pos} {f₁ : List Slot → Option (Except String PV)} {f₂ : List Slot → Option PV} {g : PV → PV → Option Bool} (hb : CmpOk prog w op g) (h₁ : EvX prog w sc e₁ f₁) (h₂ : EvB prog w sc e₂ f₂)
    (hm : behindInMarks op e₂ = false := by with_unfolding_all rfl) :
    TsX prog w sc (.Compare e₁ [op] [e₂] pos) (fun ρ => (f₁ ρ).bind fun | .error X => some (.error X) | .ok a => (f₂ ρ).bind fun b => (g a b).map .ok) := by
  intro c ρ r s S e
  obtain ⟨a, ha, e⟩ := Option.bind_eq_some_iff.mp e
  refine wpAny_isTrue_Compare1 (wpAny_mono (h₁ c ρ a s S ha) (fun v₁ s₁ q₁ => ?_) fun x s₁ q₁ => ?_) hm
  · obtain ⟨p, rfl, r₁, k₁⟩ := q₁
    obtain ⟨b, hb', e⟩ := Option.bind_eq_some_iff.mp e
    obtain ⟨t, ht, rfl⟩ := Option.map_eq_some_iff.mp e
    refine wpAny_mono (h₂ c ρ b s₁ _ (S.kp k₁) hb') (fun v₂ s₂ q₂ => ?_) fun _ _ x => x
    refine wpAny_mono (hb c s₂ _ v₁ v₂ p b t (units_of S) (.inl (r₁.kp S.frF q₂.2)) q₂.1 ht) (fun v s₃ q₃ => ?_) fun _ _ x => x
    obtain ⟨rfl, rfl⟩ := q₃
    exact wpAny_truthy_bool ⟨rfl, k₁.trans q₂.2⟩
  · obtain ⟨a, X, rfl, rfl, x, k⟩ := q₁
    cases e
    exact ⟨a, X, rfl, rfl, x, k⟩

theorem ExS.assignX {x : Str} {e : Expr} {p pos : Pos} {f : List Slot → Option (Except String PV)} {i : Nat} (h : EvX prog w sc e f) (hi : sc.vars[i]? = some x) (hx : x ∈ sc.sto)
    (hs : ∀ env, swapsWith e (some (.Name x p)) pos.line env = pure false := by intro _; rfl) :
    ExS prog w sc (.Assign [.Name x p] e pos) (fun ρ => (f ρ).map fun | .ok p => (.next, ρ.set i (.val p)) | .error X => (.exc X sc.hot, ρ)) := by
  intro c ρ ρ' out s h1 S e'
  obtain ⟨q, hq, e'⟩ := Option.map_eq_some_iff.mp e'
  refine wpAny_Assign_Name (wpAny_mono (h c ρ q s S.st hq) (fun v s₁ r => ?_) fun x s₁ r => ?_) (hs _)
  · obtain ⟨p, rfl, r, k⟩ := r
    cases e'
    refine storeF h1 (S.kp k) hi hx (.inr (.inl ⟨p, rfl, r⟩)) fun s' S' k' _ => ⟨c.F, .refl _ _, S', (KpF.of k S.st.frF).trans (F' := c.F) (.refl _ _) k', trivial⟩
  · obtain ⟨a, X, rfl, rfl, x, k⟩ := r
    cases e'
    exact ⟨c.F, a, X, _, rfl, rfl, .refl _ _, S.kp k, KpF.of k S.st.frF, .inl x⟩
end
end Mine
end

section
namespace Mine

section
variable {prog : Program} {w : World} {sc : Sc}

theorem erase_toArray {vs : List Value} {j : Nat} (h : j < vs.length) : vs.toArray.eraseIdxIfInBounds j = (vs.eraseIdx j).toArray := by
  unfold Array.eraseIdxIfInBounds
  simp [h]

theorem Reps.erase {F : List Addr} {h : Heap} {vs : List Value} {xs : List PV} (r : Reps F h vs xs) : ∀ j, Reps F h (vs.eraseIdx j) (xs.eraseIdx j) := by
  induction r using Reps.rec (motive_1 := fun _ _ _ => True) with
  | nil => intro j; simp; exact .nil
  | cons hv hr _ ih =>
    intro j
    cases j with
    | zero => exact hr
    | succ j => exact .cons hv (ih j)
  | _ => trivial

/-- a list's object turned by the model's own step -/
theorem upd_list {h : Heap} {a : Addr} {vs vs' : List Value} {n : Nat} {f : Array Value → Array Value} (ho : h.get? a = some { cls := .type "list", dict := none, data := .seq vs.toArray n, slots := #[] }) (hf : f vs.toArray = vs'.toArray) :
    ∃ n', (h.update a (Obj.mapSeq f)).get? a = some { cls := .type "list", dict := none, data := .seq vs'.toArray n', slots := #[] } := by
  refine ⟨if (f vs.toArray).size == vs.toArray.size then n else n + 1, ?_⟩
  rw [Heap.get?_update_self _ ho (by rfl), ← hf]
  rfl

theorem ExS.assignPop {x y : Str} {p xp ap cpos pos : Pos} {i j : Nat} (hi : sc.vars[i]? = some x) (hj : sc.vars[j]? = some y) (hy : y ∈ sc.sto) (hij : i ≠ j) (hd : (x == ("__debug__" : Str)) = false) (hn : (x == ("__classdict__" : Str)) = false) (hline : (ap.endLine == cpos.line) = true) :
    ExS prog w sc (.Assign [.Name y p] (.Call (.Attribute (.Name x xp) "pop" ap) [] [] cpos) pos) (fun ρ => (ownAt i ρ).bind fun xs => (xs[xs.length - 1]?).bind fun q => if xs.length ≤ 1000000 then some (.next, (ρ.set i (.own (xs.eraseIdx (xs.length - 1)))).set j (.val q)) else none) := by
  intro c ρ ρ' out s h1 S e'
  obtain ⟨xs, hx, e'⟩ := Option.bind_eq_some_iff.mp e'
  obtain ⟨q, hq, e'⟩ := Option.bind_eq_some_iff.mp e'
  split at e'
  · rename_i hlen
    cases e'
    have ho := ownAt_eq hx
    refine wpAny_Assign_Name (meth_own S hi ho hd hn hline F.slot_list_pop F.type_list_pop rfl fun a vs n hl hp hr => ?_) rfl
    refine Calls.callWith_builtin rfl (PySem.evalArgs_none ?_)
    obtain ⟨v, hv, rv⟩ := hr.get hq
    have hlv := hr.length
    have hlt : xs.length - 1 < vs.length := by rw [hlv]; exact (List.getElem?_eq_some_iff.mp hq).1
    refine call_meets F.slot_list_pop ⟨_, hp, rfl⟩ F.entry_list_pop (F.args_list_pop_1 _) (MeetsSeq.list_pop_last a vs.toArray n v (by simpa [hlv] using hv) (by show _ ≤ 2 ^ 24; simp only [List.size_toArray]; omega)) ⟨hp, ?_⟩
    obtain ⟨n', hp'⟩ := upd_list (vs' := vs.eraseIdx (xs.length - 1)) (f := fun xs => xs.eraseIdxIfInBounds (vs.toArray.size - 1)) hp (by have := erase_toArray hlt; show vs.toArray.eraseIdxIfInBounds (vs.toArray.size - 1) = _; rw [List.size_toArray, hlv]; exact this)
    have hs : Heap.SameBut a s.heap (s.heap.update a (Obj.mapSeq fun xs => xs.eraseIdxIfInBounds (vs.toArray.size - 1))) := .update ..
    have S₁ := S.mut hi ho hl hs ⟨_, _, hp'⟩ (.of hp') (hr.erase (xs.length - 1))
    have k₁ : KpF c s { s with heap := s.heap.update a (Obj.mapSeq fun xs => xs.eraseIdxIfInBounds (vs.toArray.size - 1)) } := KpF.own (tk := s.toks) S hi ho hl hs ⟨_, _, hp'⟩
    show wpAny _ _ (storeName c.env y v) _ _ { s with heap := s.heap.update a (Obj.mapSeq fun xs => xs.eraseIdxIfInBounds (vs.toArray.size - 1)) }
    exact storeF h1 S₁ hj hy (.inr (.inl ⟨q, rfl, rv.mono k₁.keep⟩)) fun s' S' k' _ => ⟨c.F, .refl _ _, S', k₁.trans (F' := c.F) (.refl _ _) k', trivial⟩
  · cases e'

/-! ### removing by value -/
noncomputable def kindK : PV → PV → Bool
  | .int _, .int _ => true
  | .str _, .str _ => true
  | _, _ => false
noncomputable def eqbP : PV → PV → Bool
  | .int a, .int b => a == b
  | .str a, .str b => a == b
  | _, _ => false
noncomputable def eqV (x : Value) : Value → Bool := fun y => match y, x with
  | .int a _, .int b _ => a == b
  | .str a _, .str b _ => a.cps.toList == b.cps.toList
  | _, _ => false
theorem eqV_eq {F : List Addr} {h : Heap} {v y : Value} {p q : PV} (rp : Rep F h v p) (rq : Rep F h y q) (hk : kindK q p = true) : MeetsSeq.EqGives y v (eqV v y) ∧ eqV v y = eqbP q p := by
  unfold kindK at hk
  split at hk
  · obtain ⟨t, rfl⟩ := rp.inv_int
    obtain ⟨u, rfl⟩ := rq.inv_int
    exact ⟨MeetsSeq.EqGives.int _ _ u t, rfl⟩
  · obtain ⟨t, rfl⟩ := rp.inv_str
    obtain ⟨u, rfl⟩ := rq.inv_str
    exact ⟨SeqRoads2.EqGives.str _ _ u t, by simp [eqV, eqbP]⟩
  · cases hk

noncomputable def removeP (xs : List PV) (p : PV) : Option (Option (List PV)) :=
  if xs.length ≤ 1000000 ∧ xs.all (fun q => kindK q p) = true then some ((xs.findIdx? fun q => eqbP q p).map xs.eraseIdx) else none

theorem ExS.remove {x : Str} {xp ap pos spos : Pos} {e : Expr} {f : List Slot → Option PV} {i : Nat} (h : EvR prog w sc e f) (hi : sc.vars[i]? = some x) (hd : (x == ("__debug__" : Str)) = false) (hn : (x == ("__classdict__" : Str)) = false) (hline : (ap.endLine == pos.line) = true) (hh : sc.hot = false)
    (he : ∀ env, starEach [e] env = [(false, eval e env)] := by intro _; rfl) :
    ExS prog w sc (.Expr (.Call (.Attribute (.Name x xp) "remove" ap) [e] [] pos) spos) (fun ρ => (ownAt i ρ).bind fun xs => (f ρ).bind fun p => (removeP xs p).map fun | some ys => (.next, ρ.set i (.own ys)) | none => (.exc "ValueError" false, ρ)) := by
  intro c ρ ρ' out s h1 S e'
  obtain ⟨xs, hx, e'⟩ := Option.bind_eq_some_iff.mp e'
  obtain ⟨p, hp, e'⟩ := Option.bind_eq_some_iff.mp e'
  obtain ⟨r, hr', e'⟩ := Option.map_eq_some_iff.mp e'
  unfold removeP at hr'
  split at hr'
  · rename_i hc
    cases hr'
    obtain ⟨hlen, hall⟩ := hc
    have ho := ownAt_eq hx
    refine wpAny_Expr_any (meth_own S hi ho hd hn hline F.slot_list_remove F.type_list_remove (by rw [he]; rfl) fun a vs n hl hpl hr => ?_) (notInteractive S.st) rfl
    rw [he]
    show wpAny _ _ (callWith pos (.builtin "list.remove") [.ref a] [(false, eval e c.env)] []) _ _ s
    refine Calls.callWith_builtin rfl (Calls.evalArgs_plain (Calls.spliced_cons (wpAny_mono (h c ρ p s _ S.st hp) (fun v s₁ q => Calls.spliced_nil ?_) fun _ _ x => x)))
    obtain ⟨rv, k⟩ := q
    have hafr := (S.own i x xs a hi ho hl).2.2.2
    have S₁ := S.kp k
    have hpl₁ := k.keep hafr hpl
    have hr₁ := hr.kp S.st.frF k
    have hlv := hr.length
    have hsz : vs.toArray.size ≤ sizeLine := by show _ ≤ 2 ^ 24; simp only [List.size_toArray]; omega
    have item : ∀ m (hm : m < vs.toArray.size), ∃ q, xs[m]? = some q ∧ MeetsSeq.EqGives vs.toArray[m] v (eqV v vs.toArray[m]) ∧ eqV v vs.toArray[m] = eqbP q p := by
      intro m hm
      have hm' : m < vs.length := by simpa using hm
      obtain ⟨q, hq, rq⟩ := hr₁.get' (List.getElem?_eq_getElem hm')
      have hk := List.all_eq_true.mp hall q (List.mem_of_getElem? hq)
      obtain ⟨h1, h2⟩ := eqV_eq rv rq hk
      exact ⟨q, hq, by simpa using h1, by simpa using h2⟩
    have gives : ∀ y, y ∈ vs.toArray → MeetsSeq.EqGives y v (eqV v y) := by
      intro y hy
      obtain ⟨m, hm, rfl⟩ := Array.mem_iff_getElem.mp hy
      obtain ⟨_, _, h, _⟩ := item m hm
      exact h
    have hT : s₁.TypeIs (.ref a) "list" := ⟨_, hpl₁, rfl⟩
    show wpAny _ _ (call (.builtin "list.remove") [.ref a, v]) _ _ s₁
    cases hfi : xs.findIdx? (fun q => eqbP q p) with
    | some j =>
      rw [hfi] at e'
      cases e'
      obtain ⟨hj, hj1, hj2⟩ := List.findIdx?_eq_some_iff_getElem.mp hfi
      have hjv : j < vs.toArray.size := by simp; omega
      refine call_meets F.slot_list_remove hT F.entry_list_remove (F.args_list_remove_2 _ _) (MeetsSeq.list_remove a vs.toArray n v (eqV v) gives j hjv ?_ ?_ hsz) ⟨hpl₁, ?_⟩
      · obtain ⟨q, hq, _, h2⟩ := item j hjv
        rw [h2]
        rw [List.getElem?_eq_getElem hj] at hq; cases hq; exact hj1
      · intro m hm hmj
        obtain ⟨q, hq, _, h2⟩ := item m hm
        rw [h2]
        have := hj2 m hmj
        rw [List.getElem?_eq_getElem (by omega)] at hq; cases hq; simpa using this
      · obtain ⟨n', hp'⟩ := upd_list (f := fun xs => xs.eraseIdxIfInBounds j) hpl₁ (erase_toArray (by simpa using hjv))
        have hs : Heap.SameBut a s₁.heap (s₁.heap.update a (Obj.mapSeq fun xs => xs.eraseIdxIfInBounds j)) := .update ..
        exact ⟨c.F, .refl _ _, S₁.mut hi ho (k.up.ld hl) hs ⟨_, _, hp'⟩ (.of hp') (hr₁.erase j), (KpF.of k S.st.frF).trans (F' := c.F) (.refl _ _) (KpF.own (tk := s₁.toks) S₁ hi ho (k.up.ld hl) hs ⟨_, _, hp'⟩), trivial⟩
    | none =>
      rw [hfi] at e'
      cases e'
      have hno := List.findIdx?_eq_none_iff.mp hfi
      refine call_meets F.slot_list_remove hT F.entry_list_remove (F.args_list_remove_2 _ _) (MeetsSeq.list_remove_none a vs.toArray n v (eqV v) gives ?_) ⟨hpl₁, S.st.hand hh, ?_⟩
      · intro m hm
        obtain ⟨q, hq, _, h2⟩ := item m hm
        rw [h2]
        simpa using hno q (List.mem_of_getElem? hq)
      · intro h' tk e x
        obtain ⟨hk, hn', ob, t, he', hc, hd'⟩ := x
        have k₂ : Kp c s { s₁ with heap := h', toks := tk } := k.trans (.keeps hk)
        have hn₀ : s.heap.get? e = none := none_back k hn'
        exact ⟨c.F, e, _, false, rfl, rfl, .refl _ _, S.kp k₂, KpF.of k₂ S.st.frF, .inl ⟨hn₀, fun q => (by obtain ⟨o, ho⟩ := S.st.liveF _ q; rw [hn₀] at ho; cases ho), ob, _, he', hc, hd', fun _ => by simp, by simp⟩⟩
  · cases hr'
end
end Mine
end

section
namespace Mine

section
variable {prog : Program} {w : World} {sc : Sc}

theorem EvF.slice {e : Expr} {lo hi st : Option Expr} {p pos : Pos} {f : List Slot → Option PV} {fl fh fs : List Slot → Option (Option Int)} (h : EvB prog w sc e f) (hl : PtR prog w sc lo fl) (hh : PtR prog w sc hi fh) (hs : PtR prog w sc st fs) :
    EvF prog w sc (.Subscript e (.Slice lo hi st p) pos) (fun ρ => (f ρ).bind fun a => (fl ρ).bind fun l => (fh ρ).bind fun u => (fs ρ).bind fun t => match sliceP a l u t with | some (.list ys) => some ys | _ => none) := by
  intro c ρ ys s E S e'
  obtain ⟨a, ha, e'⟩ := Option.bind_eq_some_iff.mp e'
  obtain ⟨l, hla, e'⟩ := Option.bind_eq_some_iff.mp e'
  obtain ⟨u, hua, e'⟩ := Option.bind_eq_some_iff.mp e'
  obtain ⟨t, hta, e'⟩ := Option.bind_eq_some_iff.mp e'
  split at e'
  · rename_i ys' e''
    cases e'
    refine Subscript_ (wpAny_mono (h c ρ a s E S ha) (fun v₁ s₁ q₁ => ?_) fun _ _ x => x)
    refine wpAny_Slice ?_
    have S₁ := S.kp q₁.2
    refine wpAny_mono (hl c ρ l s₁ E S₁ hla) (fun vl s₂ q₂ => ?_) fun _ _ x => x
    have S₂ := S₁.kp q₂.2
    refine wpAny_mono (hh c ρ u s₂ E S₂ hua) (fun vu s₃ q₃ => ?_) fun _ _ x => x
    have S₃ := S₂.kp q₃.2
    refine wpAny_mono (hs c ρ t s₃ E S₃ hta) (fun vt s₄ q₄ => ?_) fun _ _ x => x
    have S₄ := S₃.kp q₄.2
    have r := RepB.kp S.frF q₁.1 (((q₂.2.trans q₃.2).trans q₄.2).trans (push_kp (c := c) (s := s₄) (o := { cls := .type "slice", data := .fields #[vl, vu, vt] })))
    have kk := (((q₁.2.trans q₂.2).trans q₃.2).trans q₄.2).trans (push_kp (c := c) (s := s₄) (o := { cls := .type "slice", data := .fields #[vl, vu, vt] }))
    have S₅ := S.kp kk
    obtain ⟨⟨l', rfl, rfl⟩, _⟩ := q₂
    obtain ⟨⟨u', rfl, rfl⟩, _⟩ := q₃
    obtain ⟨⟨t', rfl, rfl⟩, _⟩ := q₄
    generalize hs5 : ({ s₄ with heap := s₄.heap.push { cls := .type "slice", data := .fields #[partValue l', partValue u', partValue t'] } } : Shared) = s₅ at r kk S₅
    have hsl : s₅.heap.IsSliceOf s₄.heap.objs.size (partValue l') (partValue u') (partValue t') := by rw [← hs5]; exact .new ..
    obtain ⟨ops, ho⟩ := subscripted_plain (.Slice lo hi st p) v₁ (.ref s₄.heap.objs.size)
    have key : ∀ {b : Addr} {vs : List Value} {xs : List PV}, v₁ = .ref b → Lst s₅.heap b vs.toArray → Reps c.F s₅.heap vs xs → sliceP (.list xs) (l'.map (·.1)) (u'.map (·.1)) (t'.map (·.1)) = some (.list ys) →
        wpAny (model prog w) c.A (subscriptTail e (.Slice lo hi st p) v₁ (.ref s₄.heap.objs.size)) (fun v s' => Fresh c s v ys s') E s₅ := by
      intro b vs xs hv hb hr e'
      subst hv
      simp only [sliceP] at e'
      split at e'
      · rename_i hc
        cases e'
        have hlen := hr.length
        refine tail_any hb.1.typeIs slot_list_getitem.lookup (wpAny_getItem_list_slice hb.1 hsl isPart_of isPart_of isPart_of hc.1 ?_ ?_) ho
        · have hget : ∃ n, (s₅.heap.push { cls := .type "list", data := .seq (slicePick vs.toArray (l'.map (·.1)) (u'.map (·.1)) (t'.map (·.1))) } : Heap).get? s₅.heap.objs.size = some { cls := .type "list", dict := none, data := .seq (pickL vs (l'.map (·.1)) (u'.map (·.1)) (t'.map (·.1))).toArray n, slots := #[] } := by
            refine ⟨0, ?_⟩
            rw [Heap.get?_push_size _ rfl]
            simp [slicePick, pickL]
          obtain ⟨n, hget⟩ := hget
          refine Fresh.step kk ⟨s₅.heap.objs.size, pickL vs (l'.map (·.1)) (u'.map (·.1)) (t'.map (·.1)), rfl, Heap.get?_none_of_le (Nat.le_refl _), .of hget, ⟨_, _, hget⟩, ?_, push_kp⟩
          have := hr.pick (sliceRange (sliceBounds (l'.map (·.1)) (u'.map (·.1)) (t'.map (·.1)) xs.length).1 (sliceBounds (l'.map (·.1)) (u'.map (·.1)) (t'.map (·.1)) xs.length).2.1 (sliceBounds (l'.map (·.1)) (u'.map (·.1)) (t'.map (·.1)) xs.length).2.2)
          unfold pickL
          rw [hlen]
          refine (this.sub (F' := s₅.heap.objs.size :: c.F) fun b hb hlt q => ?_).kp (c := c.at (s₅.heap.objs.size :: c.F)) (fun a ha => .tail _ (S.frF a ha)) push_kp
          rcases List.mem_cons.mp q with e | q
          · exact Nat.lt_irrefl _ (e ▸ hlt)
          · exact hb q
        · show _ ≤ 2 ^ 24
          simp only [List.size_toArray]; omega
      · cases e'
    rcases r with r | ⟨b, vs, xs, hv, rfl, hb, hr⟩
    · cases r with
      | list hb hn hr => exact key rfl hb hr e''
      | str s₀ tt =>
        exfalso
        cases t' with
        | some tv => cases e''
        | none =>
          simp only [Option.map_none, sliceP] at e''
          split at e'' <;> cases e''
      | _ => cases t' <;> cases e''
    · exact key hv hb hr e''
  · cases e'

theorem ExS.extend {x : Str} {xp ap pos spos : Pos} {e : Expr} {f : List Slot → Option (List PV)} {i : Nat} (h : EvF prog w sc e f) (hi : sc.vars[i]? = some x) (hd : (x == ("__debug__" : Str)) = false) (hn : (x == ("__classdict__" : Str)) = false) (hline : (ap.endLine == pos.line) = true)
    (he : ∀ env, starEach [e] env = [(false, eval e env)] := by intro _; rfl) :
    ExS prog w sc (.Expr (.Call (.Attribute (.Name x xp) "extend" ap) [e] [] pos) spos) (fun ρ => (ownAt i ρ).bind fun xs => (f ρ).bind fun ys => if xs.length ≤ 1000000 ∧ ys.length ≤ 1000000 then some (.next, ρ.set i (.own (xs ++ ys))) else none) := by
  intro c ρ ρ' out s h1 S e'
  obtain ⟨xs, hx, e'⟩ := Option.bind_eq_some_iff.mp e'
  obtain ⟨ys, hp, e'⟩ := Option.bind_eq_some_iff.mp e'
  split at e'
  · rename_i hlen
    cases e'
    have ho := ownAt_eq hx
    refine wpAny_Expr_any (meth_own S hi ho hd hn hline F.slot_list_extend F.type_list_extend (by rw [he]; rfl) fun a vs n hl hpl hr => ?_) (notInteractive S.st) rfl
    rw [he]
    show wpAny _ _ (callWith pos (.builtin "list.extend") [.ref a] [(false, eval e c.env)] []) _ _ s
    refine Calls.callWith_builtin rfl (Calls.evalArgs_plain (Calls.spliced_cons (wpAny_mono (h c ρ ys s _ S.st hp) (fun v s₁ q => Calls.spliced_nil ?_) fun _ _ x => x)))
    obtain ⟨b, ws, rfl, hbn, ⟨⟨ob, hob, _, _, hbd⟩, _⟩, ⟨ws', n2, hbp⟩, hrb, k⟩ := q
    rw [hbp] at hob; cases hob; cases hbd
    have hafr := (S.own i x xs a hi ho hl).2.2.2
    have S₁ := S.kp k
    have hpl₁ := k.keep hafr hpl
    have hl₁ := k.up.ld hl
    have hlv := hr.length
    have hlw := hrb.length
    have hsz : vs.toArray.size + ws.toArray.size ≤ sizeLine := by show _ ≤ 2 ^ 24; simp only [List.size_toArray]; omega
    refine call_meets F.slot_list_extend ⟨_, hpl₁, rfl⟩ F.entry_list_extend (F.args_list_extend_2 _ _) (AutoSeq1.list_extend_list_list_0 a vs.toArray n b ws.toArray _ (extend_door hsz) (Nat.le_trans (Nat.le_add_right _ _) hsz) (Nat.le_succ_of_le hsz)) ⟨hpl₁, hbp, ?_⟩
    obtain ⟨n', hp'⟩ := upd_list (vs' := vs ++ ws) (f := fun x => x ++ ws.toArray) hpl₁ (by simp)
    have hs : Heap.SameBut a s₁.heap (s₁.heap.update a (Obj.mapSeq fun x => x ++ ws.toArray)) := .update ..
    exact ⟨c.F, .refl _ _, S₁.mut hi ho hl₁ hs ⟨_, _, hp'⟩ (.of hp') ((hr.kp S.st.frF k).append (hrb.sub fun b hb _ q => hb (.tail _ q))), (KpF.of k S.st.frF).trans (F' := c.F) (.refl _ _) (KpF.own (tk := s₁.toks) S₁ hi ho hl₁ hs ⟨_, _, hp'⟩), trivial⟩
  · cases e'

/-! ## for -/
theorem rep_live {F F' : List Addr} {h : Heap} (key : ∀ b, b ∉ F → (∃ o, h.get? b = some o) → b ∉ F') {v p} (r : Rep F h v p) : Rep F' h v p := by
  induction r using Rep.rec (motive_2 := fun vs xs _ => Reps F' h vs xs) with
  | none => exact .none
  | bool b => exact .bool b
  | int i t => exact .int i t
  | str s t => exact .str s t
  | list hl hn _ ih => exact .list hl (key _ hn (let ⟨o, h, _⟩ := hl.1; ⟨o, h⟩)) ih
  | tup hl hn _ ih => exact .tup hl (key _ hn (let ⟨o, h, _⟩ := hl; ⟨o, h⟩)) ih
  | keys hl hn => exact .keys hl (key _ hn (let ⟨o, h, _⟩ := hl.1; ⟨o, h⟩))
  | obj hl hn => exact .obj hl (key _ hn (let ⟨o, h, _⟩ := hl; ⟨o, h⟩))
  | nil => exact .nil
  | cons _ _ ih1 ih2 => exact .cons ih1 ih2

noncomputable def AsR (prog : Program) (w : World) (sc : Sc) (t : Expr) (g : PV → List Slot → Option (List Slot)) : Prop :=
  ∀ (c : Cfg) (ρ ρ' : List Slot) (p : PV) (v : Value) (s : Shared) (E : Value → Shared → Prop), Fn c → FSt c sc ρ s.heap → Rep c.F s.heap v p → g p ρ = some ρ' →
    wpAny (model prog w) c.A (assign t c.env v) (fun _ s' => FSt c sc ρ' s'.heap ∧ KpF c s s') E s
theorem AsR.name {x : Str} {px : Pos} {i : Nat} (hi : sc.vars[i]? = some x) (hx : x ∈ sc.sto) : AsR prog w sc (.Name x px) (fun p ρ => some (ρ.set i (.val p))) := by
  intro c ρ ρ' p v s E h1 S r e
  cases e
  exact wpAny_assign_Name (storeF h1 S hi hx (.inr (.inl ⟨p, rfl, r⟩)) fun s' S' k' _ => ⟨S', k'⟩)

noncomputable def forP (g : PV → List Slot → Option (List Slot)) (f : List Slot → Option (Out × List Slot)) : List PV → List Slot → Option (Out × List Slot)
  | [], ρ => some (.next, ρ)
  | p :: ps, ρ => (g p ρ).bind fun ρ₁ => (f ρ₁).bind fun
    | (.next, ρ₂) => forP g f ps ρ₂
    | (.cont, ρ₂) => forP g f ps ρ₂
    | (.brk, ρ₂) => some (.next, ρ₂)
    | r => some r

theorem ExS.for {target iter : Expr} {ss : List Stmt} {pos : Pos} {fi : List Slot → Option (List PV)} {g : PV → List Slot → Option (List Slot)} {f : List Slot → Option (Out × List Slot)} (hit : IterR prog w sc iter fi) (hg : AsR prog w sc target g) (h : ExR prog w sc ss f) (na : sc.app = false)
    (hs : ∀ env x, foldedSetIterable iter env x = pure x := by intro _ _; rfl) :
    ExS prog w sc (.For target iter ss [] pos) (fun ρ => (fi ρ).bind fun ps => forP g f ps ρ) := by
  intro c ρ ρ' out s h1 S e
  obtain ⟨ps, hps, e⟩ := Option.bind_eq_some_iff.mp e
  refine wpAny_For (wpAny_mono (hit c ρ ps s _ S.st hps) (fun xv s₁ h₁ => wpAny_mono h₁ (fun it s₂ h₂ => ?_) fun _ _ x => x) fun _ _ x => x) (hs _)
  obtain ⟨k, I, fp, wr, P, W, rfl, hW, hw, hfp, hwr, hwf, hP, hI, hfl⟩ := h₂
  have S₂ := S.kp k
  refine codeAny_mono (codeAny_forLoop_any (R := fun r s' => match r with | .ok fl => PostN c sc s out ρ' fl s' | .error x => cameBackBy (model prog w) c.A c.env (PostX c sc s out ρ') x s')
    (fun m s' => ∃ j F₁ ρ₁, m = ps.length - j ∧ j ≤ ps.length ∧ W j s'.heap ∧ Grown c s F₁ ∧ (∀ a ∈ F₁, a ∈ c.F ∨ s₂.heap.get? a = none) ∧ FSt (c.at F₁) sc ρ₁ s'.heap ∧ KpF c s s' ∧ (∀ b o, b ∉ c.F → (∀ vs, o.data ≠ .fields vs) → s₂.heap.get? b = some o → s'.heap.get? b = some o) ∧ (∀ b o, s₂.heap.get? b = some o → ∃ o', s'.heap.get? b = some o') ∧ forP g f (ps.drop j) ρ₁ = some (out, ρ')) ?_ ps.length
    ⟨0, c.F, ρ, by simp, by simp, hw, .refl _ _, fun _ h => .inl h, S₂, KpF.of k S.st.frF, fun _ _ _ _ e => e, fun _ o e => ⟨o, e⟩, by simpa using e⟩) fun _ _ q => q
  rintro m s' ⟨j, F₁, ρ₁, rfl, hj, hw', g₁, g₂, S', k', kn, kl, e'⟩
  have wl := hwf 0 _ hw
  have hwF : ∀ b ∈ wr, b ∉ F₁ := fun b hb q => by
    rcases g₂ b q with h | h
    · exact (hfp b (hW.sub b hb)).1 h
    · obtain ⟨o, _, ho, _⟩ := wl b hb; rw [h] at ho; cases ho
  have hwb : ∀ b ∈ wr, c.base.get? b = none := fun b hb => by
    cases q : c.base.get? b with
    | none => rfl
    | some o => have := S.st.stays b o q; rw [hwr b hb] at this; cases this
  have hwf' := hwf j _ hw'
  by_cases hlt : j < ps.length
  · refine hW.item j s' _ _ hlt hw' fun v h₁ tk₁ hPv hw₁ hk₁ => ?_
    obtain ⟨p, hp, rp⟩ := hP j v hPv
    rw [List.drop_eq_getElem_cons hlt] at e'
    have hpj : ps[j] = p := by rw [List.getElem?_eq_getElem hlt] at hp; exact Option.some.inj hp
    rw [hpj] at e'
    simp only [forP] at e'
    obtain ⟨ρa, hga, e'⟩ := Option.bind_eq_some_iff.mp e'
    obtain ⟨⟨o, ρb⟩, hfb, e'⟩ := Option.bind_eq_some_iff.mp e'
    have S₁ : FSt (c.at F₁) sc ρ₁ h₁ := S'.iter hk₁ hwF hwb hwf' na
    have kx : KpX c wr s' { s' with heap := h₁, toks := tk₁ } := ⟨h₁, tk₁, rfl, fun b o _ hb e => hk₁ b o hb e, fun b o hb e => ⟨o.slots, hk₁ b o hb e⟩⟩
    have k₁ : KpF c s { s' with heap := h₁, toks := tk₁ } := k'.recs kx hwr S.st.frF
    have recs : ∀ b o, (∀ vs, o.data ≠ .fields vs) → s'.heap.get? b = some o → h₁.get? b = some o := fun b o hd e => hk₁ b o (fun q => by obtain ⟨o', vs', e', d'⟩ := hwf' b q; rw [e] at e'; cases e'; exact hd vs' d') e
    have rp₁ : Rep F₁ h₁ v p := by
      have r₀ : Rep (c.F ++ F₁) s₂.heap v p := rep_live (fun b hb ⟨o, ho⟩ q => (List.mem_append.mp q).elim hb fun q => (g₂ b q).elim hb fun h => by rw [h] at ho; cases ho) rp
      have r₁ : Rep (c.F ++ F₁) h₁ v p := (rep_mono fun b o hb hd e => recs b o hd (kn b o (fun q => hb (List.mem_append_left _ q)) hd e)).1 r₀
      exact rep_live (fun b hb _ q => hb (List.mem_append_right _ q)) r₁
    obtain ⟨oI, vI, nI, hoI, hcI, hdI, hnI⟩ := hI (j + 1) h₁ hw₁
    have hgo : wpAny (model prog w) c.A (letOwnedTupleGo target (.ref I) v) (fun _ s₃ => s₃ = { s' with heap := h₁, toks := tk₁ }) (notedBy (model prog w) c.A c.env fun e s' => cameBackBy (model prog w) c.A c.env (PostX c sc s out ρ') e s') { s' with heap := h₁, toks := tk₁ } := by
      unfold letOwnedTupleGo
      split
      all_goals first
        | exact wpAny_pure rfl
        | cases v with
          | ref a =>
            refine wpAny_bind (wpAny_load hoI ?_)
            simp only [hcI, hdI, hnI, Bool.false_and]
            exact wpAny_pure rfl
          | _ => exact wpAny_pure rfl
    refine wpAny_mono hgo (fun _ s₃ hs₃ => ?_) fun _ _ x => x
    subst hs₃
    refine wpAny_mono (hg (c.at F₁) ρ₁ ρa p v { s' with heap := h₁, toks := tk₁ } _ h1.at S₁ rp₁ hga) (fun _ s₄ q => ?_) fun _ _ x => x
    obtain ⟨S₄, k₄⟩ := q
    have k₄' : KpF c s s₄ := k₁.trans g₁ k₄
    refine wpAny_mono (h (c.at F₁) ρa ρb o s₄ h1.at S₄ hfb) (fun fl s₅ q => ?_) fun x s₅ q => ?_
    · obtain ⟨F₅, g₅, S₅, k₅, fi⟩ := q
      have gg : Grown c s F₅ := g₁.trans k₄' g₅
      have kk : KpF c s s₅ := k₄'.trans g₁ k₅
      have lv4 : ∀ b o, s₂.heap.get? b = some o → ∃ o', s₄.heap.get? b = some o' := by
        intro b o e
        obtain ⟨o', e'⟩ := kl b o e
        by_cases hb : b ∈ wr
        · obtain ⟨o'', _, e'', _⟩ := hwf (j + 1) h₁ hw₁ b hb
          exact k₄.live b o'' e''
        · exact k₄.live b o' (hk₁ b o' hb e')
      have nxt : forP g f (ps.drop (j + 1)) ρb = some (out, ρ') → ∃ m, m < ps.length - j ∧ ∃ j' F₁ ρ₁, m = ps.length - j' ∧ j' ≤ ps.length ∧ W j' s₅.heap ∧ Grown c s F₁ ∧ (∀ a ∈ F₁, a ∈ c.F ∨ s₂.heap.get? a = none) ∧ FSt (c.at F₁) sc ρ₁ s₅.heap ∧ KpF c s s₅ ∧ (∀ b o, b ∉ c.F → (∀ vs, o.data ≠ .fields vs) → s₂.heap.get? b = some o → s₅.heap.get? b = some o) ∧ (∀ b o, s₂.heap.get? b = some o → ∃ o', s₅.heap.get? b = some o') ∧ forP g f (ps.drop j') ρ₁ = some (out, ρ') := by
        intro e''
        have fpF : ∀ b ∈ fp, ∀ o, h₁.get? b = some o → s₅.heap.get? b = some o := by
          intro b hb o e
          have nb : b ∉ F₁ := fun q => by
            rcases g₂ b q with h | h
            · exact (hfp b hb).1 h
            · obtain ⟨o', e'⟩ := hfl b hb; rw [h] at e'; cases e'
          have e4 := k₄.keep b o nb e
          exact k₅.keep b o nb e4
        refine ⟨ps.length - (j + 1), by omega, j + 1, F₅, ρb, rfl, hlt, hW.frame _ _ _ hw₁ fpF, gg, ?_, S₅, kk, ?_, ?_, e''⟩
        · intro a ha
          rcases g₅.1 a ha with h | h
          · exact g₂ a h
          · refine .inr ?_
            cases q : s₂.heap.get? a with
            | none => rfl
            | some o => obtain ⟨o', e'⟩ := lv4 a o q; rw [e'] at h; cases h
        · intro b o hb hd e
          have nb : b ∉ F₁ := fun q => (g₂ b q).elim hb fun h => by rw [h] at e; cases e
          exact k₅.keep b o nb (k₄.keep b o nb (recs b o hd (kn b o hb hd e)))
        · intro b o e
          obtain ⟨o', e'⟩ := lv4 b o e
          exact k₅.live b o' e'
      cases o with
      | next => cases fl <;> first | exact fi.elim | exact nxt e'
      | cont => cases fl <;> first | exact fi.elim | exact nxt e'
      | brk => cases e'; cases fl <;> first | exact fi.elim | exact ⟨F₅, gg, S₅, kk, trivial⟩
      | ret p => cases e'; cases fl <;> first | exact fi.elim | exact ⟨F₅, gg, S₅, kk, fi⟩
      | exc n _ => cases fl <;> exact fi.elim
    · obtain ⟨F₅, a, X, ctx, rfl, rfl, g₅, S₅, k₅, x⟩ := PostX.step g₁ k₄' q
      cases e'
      exact loopOut S h1 na S₅ g₅ k₅ x
  · have hje : j = ps.length := by omega
    subst hje
    rw [List.drop_length] at e'
    cases e'
    refine hW.done s' _ _ hw' fun h₁ tk₁ hk₁ => wpAny_execs_nil ⟨F₁, g₁, S'.iter hk₁ hwF hwb hwf' na, ?_, trivial⟩
    have kx : KpX c wr s' { s' with heap := h₁, toks := tk₁ } := ⟨h₁, tk₁, rfl, fun b o _ hb e => hk₁ b o hb e, fun b o hb e => ⟨o.slots, hk₁ b o hb e⟩⟩
    exact k'.recs kx hwr S.st.frF
end
end Mine
end

section
set_option maxRecDepth 100000
namespace Mine

namespace G
theorem slot_md_get : PySem.Slot "method_descriptor" "__get__" "method_descriptor.__get__" :=
  .of (owner := "method_descriptor") (n := "__get__") (by rw [typeLookup_type, builtinLookup_eq_fast]; kernel_rfl) (by decide +kernel) (by decide +kernel) (by decide +kernel)
    (by first | exact .inl (by decide +kernel) | exact .inr (by decide +kernel)) (by rw [isSubtype_type]; kernel_rfl)
theorem no_set : typeLookup (.type "method_descriptor") "__set__" = pure none := by rw [typeLookup_type, builtinLookup_eq_fast]; kernel_rfl
theorem no_del : typeLookup (.type "method_descriptor") "__delete__" = pure none := by rw [typeLookup_type, builtinLookup_eq_fast]; kernel_rfl
theorem entry_md_get : entryFor table "method_descriptor.__get__" = some Builtin.«method_descriptor.__get__» := entryFor_of_tree (by kernel_rfl)
theorem args_md_get (a b c : Value) : argsOk "method_descriptor.__get__" ⟨[a, b, c], []⟩ := by unfold argsOk; kernel_rfl
theorem told : Manifest.toldItsClass.contains "list.append" = false := by decide +kernel
end G

section
variable {prog : Program} {w : World} {A : Around} {E : Value → Shared → Prop} {h : Heap} {g : Array GenState} {d : Drawn} {t : Nat} {os : OsState} {a : Addr} {o : Obj}

noncomputable def boundApp (a : Addr) : Obj := { cls := .type "builtin_function_or_method", data := .fields #[.builtin "list.append", .ref a] }

theorem isInst_list {Q : Bool → Shared → Prop} (hx : h.get? a = some o) (hc : o.cls = .type "list") (hq : Q true ⟨h, g, d, t, os⟩) : wpAny (model prog w) A (isInstance (.ref a) (.type "list")) Q E ⟨h, g, d, t, os⟩ := by
  have hT : (⟨h, g, d, t, os⟩ : Shared).TypeIs (.ref a) "list" := ⟨_, hx, hc⟩
  unfold isInstance
  exact wpAny_bind (wpAny_typeOf hT (wpAny_of_eq AutoSeq1.sub_list_list hq))

theorem app_get {R : Result → Shared → Prop} (hx : h.get? a = some o) (hc : o.cls = .type "list") (hq : R (.ok (.ret (.ref h.objs.size))) ⟨h.push (boundApp a), g, d, t, os⟩) :
    codeAny (model prog w) A (.call (.builtin "method_descriptor.__get__") ⟨[.builtin "list.append", .ref a, .type "list"], []⟩) R ⟨h, g, d, t, os⟩ := by
  have hT : (⟨h, g, d, t, os⟩ : Shared).TypeIs (.ref a) "list" := ⟨_, hx, hc⟩
  have hT5 : (⟨h, g, d, t, os⟩ : Shared).TypeIs (.builtin "list.append") "method_descriptor" := F.type_list_append
  refine codeAny_call_builtin G.slot_md_get.plain G.entry_md_get (G.slot_md_get.check _ _ _ _ _ _ _ _ hT5 (G.args_md_get _ _ _) ?_)
  unfold Builtin.«method_descriptor.__get__»
  refine wpAny_bind (wpAny_of_eq (a := (.builtin "list.append", some (.ref a), some (.type "list"))) (by first | rfl | kernel_rfl) ?_)
  simp only [G.told, Bool.false_eq_true, if_false]
  refine wpAny_bind ?_
  refine wpAny_bind (wpAny_of_eq (a := (("append" : Str), Value.type "list")) (by first | rfl | kernel_rfl) ?_)
  refine wpAny_bind (isInst_list hx hc ?_)
  refine wpAny_pure ?_
  unfold newFields
  exact wpAny_bind (wpAny_newObj_type (wpAny_pure hq))

theorem app_entry {tk : Tok} {items : Array Value} {n : Nat} {sl : Array (Option Value)} {Q : PySem.Fin → Shared → Prop} (hx : h.get? a = some { cls := .type "list", dict := none, data := .seq items n, slots := sl }) (hq : Q (.done (.ret (.ref h.objs.size))) ⟨h.push (boundApp a), g, d, t, os⟩) :
    wpAny (model prog w) A (Builtin.«object.__getattribute__» ⟨[.ref a, .str "append" tk], []⟩) Q E ⟨h, g, d, t, os⟩ := by
  have hT : (⟨h, g, d, t, os⟩ : Shared).TypeIs (.ref a) "list" := ⟨_, hx, rfl⟩
  have hT5 : (⟨h, g, d, t, os⟩ : Shared).TypeIs (.builtin "list.append") "method_descriptor" := F.type_list_append
  have f4 := F.slot_list_append.lookup
  have f5 := F.type_list_append
  have f6 := G.slot_md_get.lookup
  have f7 := G.no_set
  have f8 := G.no_del
  repeat (any_goals (first | assumption | wp_step))
  refine app_get hx rfl ?_
  exact wpAny_pure hq

theorem app_getAttr {items : Array Value} {n : Nat} {sl : Array (Option Value)} {Q : Value → Shared → Prop} (hx : h.get? a = some { cls := .type "list", dict := none, data := .seq items n, slots := sl }) (hq : Q (.ref h.objs.size) ⟨h.push (boundApp a), g, d, t + 1, os⟩) :
    wpAny (model prog w) A (getAttr (.ref a) "append" true) Q E ⟨h, g, d, t, os⟩ := by
  have hT : (⟨h, g, d, t + 1, os⟩ : Shared).TypeIs (.ref a) "list" := ⟨_, hx, rfl⟩
  have f2 := F.slot_list_getattribute.lookup
  have f3 := F.slot_list_getattribute.bind (.ref a)
  unfold getAttr
  refine wpAny_bind (wpAny_mkText ?_)
  show wpAny _ _ (getAttrBy (.ref a) (.str "append" t) true true) _ _ ⟨h, g, d, t + 1, os⟩
  repeat (any_goals (first | assumption | wp_step))
  exact codeAny_call_builtin F.slot_list_getattribute.plain F.entry_list_ga (F.slot_list_getattribute.check _ _ _ _ _ _ _ _ hT (F.args_list_getattribute_2 _ _) (app_entry hx (wpAny_pure hq)))
end

section
variable {prog : Program} {w : World} {sc : Sc}

theorem G.quiet_app {as : Args} : (Code.builtin "list.append" as).quiet = true := Code.quiet_builtin _ (by decide +kernel)
theorem G.sig_app : Manifest.signature? "list.append" = some ⟨.oneArg, "list.append", "append", .self, [⟨"object", .posOnly, true⟩]⟩ := by
  rw [signature?_of (id := "list.append") (n := ['d', 'n', 'e', 'p', 'p', 'a']) (o := ['t', 's', 'i', 'l']) (by kernel_rfl) F.owner_list]; kernel_rfl
theorem G.kind_app : builtinKind "list.append" = some .method := by first | rfl | decide +kernel | kernel_rfl
theorem G.va_app : Manifest.varargsMethods.contains "list.append" = false := by decide +kernel
theorem G.last_app : Bind.lastOf "list.append" = "append" := by first | rfl | decide +kernel
theorem G.last_list : Bind.lastOf "list" = "list" := by first | rfl | decide +kernel
theorem G.sub_module : isSubtype (.type "list") (.type "module") = pure false := by rw [isSubtype_type]; kernel_rfl
theorem G.check_app {M : Model} {A : Around} {s : Shared} {E : Value → Shared → Prop} {Q : Unit → Shared → Prop} {a : Addr} {v : Value} {items : Array Value} {n : Nat} (hx : s.heap.get? a = some { cls := .type "list", dict := none, data := .seq items n, slots := #[] }) (h : Q () s) :
    wpAny M A (checkBoundCall "list.append" ⟨[.ref a, v], []⟩) Q E s := by
  have hT : s.TypeIs (.ref a) "list" := ⟨_, hx, rfl⟩
  unfold checkBoundCall
  rw [G.sig_app]
  dsimp only
  rw [G.kind_app]
  dsimp only
  rw [if_neg (by decide)]
  refine wpAny_bind (wpAny_bind (wpAny_typeOf hT (wpAny_of_eq G.sub_module ?_)))
  rw [G.va_app, if_neg (by decide)]
  refine wpAny_bind (wpAny_bind (wpAny_loadPart' hx (wpAny_pure ?_)))
  dsimp only
  rw [if_neg (by decide)]
  refine wpAny_bind (wpAny_typeOf hT ?_)
  dsimp only
  refine wpAny_of_eq (a := ()) ?_ h
  rw [G.last_list, G.last_app]
  have := F.args_list_append_2 (.ref a) v
  unfold argsOk at this
  rw [G.sig_app] at this
  exact this

/-- add = res.append -/
theorem ExS.bindApp {x y : Str} {xp p ap pos : Pos} {i j : Nat} (hi : sc.vars[i]? = some x) (hj : sc.vars[j]? = some y) (hy : y ∈ sc.sto) (hij : j ≠ i) (na : sc.app = true) (hd : (x == ("__debug__" : Str)) = false) (hn : (x == ("__classdict__" : Str)) = false) :
    ExS prog w sc (.Assign [.Name y p] (.Attribute (.Name x xp) "append" ap) pos) (fun ρ => (ownAt i ρ).bind fun xs => if j < ρ.length then some (.next, ρ.set j (.app i)) else none) := by
  intro c ρ ρ' out s h1 S e'
  obtain ⟨xs, hx, e'⟩ := Option.bind_eq_some_iff.mp e'
  split at e'
  · rename_i hjl
    cases e'
    have ho := ownAt_eq hx
    obtain ⟨a, vs, n, hl, hp, hr⟩ := S.ownAt hi ho
    refine wpAny_Assign_Name (Attribute_name (ld_eval S.st.kind hl (app_getAttr hp ?_) hd hn)) rfl
    have k : Kp c s { s with heap := s.heap.push (boundApp a), toks := s.toks + 1 } := push_kp.trans (.tok ..)
    have S₁ := S.kp k
    have hq : (s.heap.push (boundApp a)).get? s.heap.objs.size = some (boundApp a) := Heap.get?_push_size _ rfl
    have hqF : s.heap.objs.size ∉ c.F := S.st.newF (Nat.le_refl _)
    refine storeF (s := { s with heap := s.heap.push (boundApp a), toks := s.toks + 1 }) h1 S₁ hj hy (.inl rfl) fun s' S' k' ⟨b, hb, hsb, other, ld⟩ => ?_
    refine ⟨c.F, .refl _ _, ?_, (KpF.of k S.st.frF).trans (F' := c.F) (.refl _ _) k', trivial⟩
    have get : ∀ r, r ≠ j → (ρ.set j (.app i)).getD r .unb = (ρ.set j .unb).getD r .unb := fun r hk => by rw [getD_set_ne (Ne.symm hk), getD_set_ne (Ne.symm hk)]
    have getj : (ρ.set j (.app i)).getD j .unb = .app i := by rw [getD_set_self, if_pos hjl]
    have ne_own : ∀ k ys, (ρ.set j (.app i)).getD k .unb = .own ys → k ≠ j := fun k ys e q => by rw [q, getj] at e; cases e
    refine ⟨{ S'.st with vars := fun r z hz => ?_ }, S'.ns, S'.LF, S'.LC, S'.nd, fun k z ys d hz e l => S'.own k z ys d hz (get k (ne_own k ys e) ▸ e) l, fun k₁ k₂ z₁ z₂ ys zs d hz₁ hz₂ e₁ e₂ l₁ l₂ => S'.oapart k₁ k₂ z₁ z₂ ys zs d hz₁ hz₂ (get k₁ (ne_own k₁ ys e₁) ▸ e₁) (get k₂ (ne_own k₂ zs e₂) ▸ e₂) l₁ l₂,
      fun r z m hz e => ?_, fun r z ys d hz e l => S'.oex r z ys d hz (get r (ne_own r ys e) ▸ e) l, S'.Lb⟩
    · by_cases hk : r = j
      · rw [hk, getj]; trivial
      · rw [get r hk]; exact S'.st.vars r z hz
    · by_cases hk : r = j
      · rw [hk] at e hz ⊢
        rw [getj] at e; cases e
        rw [hj] at hz; cases hz
        refine ⟨na, hij, s.heap.objs.size, a, x, ld, hi, ⟨_, _, (k'.keep _ _ hqF hq), rfl, rfl, rfl, rfl⟩, hqF, fun ys _ => ?_⟩
        exact (other x _ (fun q => (names_ne S.nd hj hi (Ne.symm hij)) q)).mp (k.up.ld hl)
      · rw [get r hk] at e
        obtain ⟨g1, g2, q, b', y', g3, g4, g5, g6, g7⟩ := S'.apps r z m hz e
        exact ⟨g1, g2, q, b', y', g3, g4, g5, g6, fun ys e => g7 ys (get m (ne_own m ys e) ▸ e)⟩
  · cases e'
noncomputable def appAt (j : Nat) (ρ : List Slot) : Option Nat := match ρ.getD j .unb with | .app i => some i | _ => none

/-- add(e) -/
theorem ExS.callApp {y : Str} {yp pos spos : Pos} {e : Expr} {f : List Slot → Option PV} {j : Nat} (h : EvR prog w sc e f) (hj : sc.vars[j]? = some y) (hd : (y == ("__debug__" : Str)) = false) (hn : (y == ("__classdict__" : Str)) = false)
    (he : ∀ env, starEach [e] env = [(false, eval e env)] := by intro _; rfl) :
    ExS prog w sc (.Expr (.Call (.Name y yp) [e] [] pos) spos) (fun ρ => (appAt j ρ).bind fun i => (ownAt i ρ).bind fun xs => (f ρ).bind fun p => if xs.length ≤ 1000000 then some (.next, ρ.set i (.own (xs ++ [p]))) else none) := by
  intro c ρ ρ' out s h1 S e'
  obtain ⟨i, hj', e'⟩ := Option.bind_eq_some_iff.mp e'
  obtain ⟨xs, hx, e'⟩ := Option.bind_eq_some_iff.mp e'
  obtain ⟨p, hp, e'⟩ := Option.bind_eq_some_iff.mp e'
  split at e'
  · rename_i hlen
    cases e'
    have ho := ownAt_eq hx
    have hji : ρ.getD j .unb = .app i := by
      unfold appAt at hj'
      split at hj'
      · rename_i q; cases hj'; exact q
      · cases hj'
    obtain ⟨_, _, q, a, x, hq, hi, hm, hqF, hla⟩ := S.apps j y i hj hji
    refine wpAny_Expr_any ?_ (notInteractive S.st) rfl
    refine wpAny_Call_ofName (ld_eval S.st.kind hq ?_ hd hn)
    rw [he]
    show wpAny _ _ (callWith pos (.ref q) [] [(false, eval e c.env)] []) _ _ s
    unfold callWith
    refine wpAny_bind (wpAny_holding (wpAny_mono (Calls.evalArgs_plain (f := .ref q) (Q := fun x s₁ => x.kw = [] ∧ ∃ v, x.pos = [v] ∧ Rep c.F s₁.heap v p ∧ Kp c s s₁) (Calls.spliced_cons (wpAny_mono (h c ρ p s _ S.st hp) (fun v s₁ r => Calls.spliced_nil ⟨rfl, v, rfl, r.1, r.2⟩) fun _ _ x => x))) (fun x s₁ r => wpAny_bind (wpAny_standAt ?_)) fun _ _ x => x))
    obtain ⟨hkw, v, hpos, rv, k⟩ := r
    have S₁ := S.kp k
    obtain ⟨oq, qs, hoq, hcq, hdq, hq0, hq1⟩ := hm.up k.up
    simp only [List.any_cons, List.any_nil, Bool.or_false]
    refine wpAny_bind (m := keeperOf (.ref q)) ?_
    unfold keeperOf
    refine wpAny_bind (wpAny_load hoq ?_)
    rw [hdq]
    simp only [hcq, show (Value.type "builtin_function_or_method" != Value.type "method") = true by decide, show (Value.type "builtin_function_or_method" == Value.type "builtin_function_or_method" || Value.type "builtin_function_or_method" == Value.type "method-wrapper") = true by decide, if_true]
    refine wpAny_pure ?_
    rw [hpos, hkw]
    obtain ⟨a', vs, n, hl, hpl, hr⟩ := S₁.ownAt hi ho
    have : a' = a := by have := (k.up.ld (hla xs ho)).unique hl; cases this; rfl
    subst this
    refine wpAny_bind (wpAny_mono (Q := fun _ s' => PostN c sc s .next (ρ.set i (.own (xs ++ [p]))) .next s') (E := PostX c sc s .next (ρ.set i (.own (xs ++ [p])))) ?_ (fun r s₂ hr => wpAny_bind (wpAny_holding (wpAny_point (wpAny_pure hr)))) fun _ _ x => x)
    refine wpAny_call (codeAny_of_tree ?_)
    show wpAny _ c.A.in1 (callAny (.ref q) ⟨[v], []⟩) _ _ s₁
    simp only [callAny]
    refine wpAny_bind (wpAny_load hoq ?_)
    rw [hdq]
    simp only [hcq, show (Value.type "builtin_function_or_method" == Value.type "method" || Value.type "builtin_function_or_method" == Value.type "builtin_function_or_method" || Value.type "builtin_function_or_method" == Value.type "method-wrapper") = true by decide, if_true, hq0, hq1]
    rw [if_pos (by decide)]
    refine wpAny_bind (G.check_app hpl ?_)
    refine wpAny_pure ?_
    refine ⟨G.quiet_app, codeAny_builtin F.entry_list_append ?_⟩
    show wpAny _ _ (updateSeq a' (·.push v) >>= fun _ => PySem.ret Value.none) _ _ s₁
    have hpl' := upd_list (vs' := vs ++ [v]) (f := fun xs => xs.push v) hpl (by simp)
    obtain ⟨n', hp'⟩ := hpl'
    have hs : Heap.SameBut a' s₁.heap (s₁.heap.update a' (Obj.mapSeq fun xs => xs.push v)) := .update ..
    have hlv := hr.length
    refine wpAny_bind (wpAny_updateSeq hpl rfl (wpAny_pure ?_))
    exact ⟨c.F, .refl _ _, S₁.mut hi ho hl hs ⟨_, _, hp'⟩ (.of hp') (hr.snoc rv), (KpF.of k S.st.frF).trans (F' := c.F) (.refl _ _) (KpF.own (tk := s₁.toks) S₁ hi ho hl hs ⟨_, _, hp'⟩), trivial⟩
  · cases e'
end
end Mine
end

section
namespace Mine

/-! ## calls of the program's own functions -/
inductive AV where
  | val (p : PV) | own (xs : List PV)
noncomputable def AV.slot : AV → Slot
  | .val p => .val p
  | .own xs => .own xs

inductive ArgsAre (F : List Addr) (h : Heap) : List Value → List AV → List Addr → Prop
  | nil : ArgsAre F h [] [] []
  | val {v : Value} {p : PV} {vs : List Value} {avs : List AV} {own : List Addr} : Rep F h v p → ArgsAre F h vs avs own → ArgsAre F h (v :: vs) (.val p :: avs) own
  | own {a : Addr} {ws : List Value} {xs : List PV} {vs : List Value} {avs : List AV} {own : List Addr} : Lst h a ws.toArray → PL h a → Reps F h ws xs → ArgsAre F h vs avs own → ArgsAre F h (.ref a :: vs) (.own xs :: avs) (a :: own)

theorem ArgsAre.mono {F : List Addr} {h h' : Heap} {vs avs own} (x : ArgsAre F h vs avs own) (hk : ∀ b o, b ∉ F → h.get? b = some o → h'.get? b = some o) (ho : ∀ b ∈ own, ∀ o, h.get? b = some o → h'.get? b = some o) : ArgsAre F h' vs avs own := by
  induction x with
  | nil => exact .nil
  | val r _ ih => exact .val (r.mono hk) (ih ho)
  | own hl hp hr _ ih => exact .own (hl.at (ho _ (.head _))) (hp.at (ho _ (.head _))) (hr.mono hk) (ih fun b hb => ho b (.tail _ hb))
theorem reps_live {F F' : List Addr} {h : Heap} (key : ∀ b, b ∉ F → (∃ o, h.get? b = some o) → b ∉ F') {vs xs} (r : Reps F h vs xs) : Reps F' h vs xs := by
  induction r using Reps.rec (motive_1 := fun _ _ _ => True) with
  | nil => exact .nil
  | cons hv _ _ ih => exact .cons (rep_live key hv) ih
  | _ => trivial
theorem ArgsAre.live {F F' : List Addr} {h : Heap} {vs avs own} (key : ∀ b, b ∉ F → (∃ o, h.get? b = some o) → b ∉ F') (x : ArgsAre F h vs avs own) : ArgsAre F' h vs avs own := by
  induction x with
  | nil => exact .nil
  | val r _ ih => exact .val (rep_live key r) ih
  | own hl hp hr _ ih => exact .own hl hp (reps_live key hr) ih
theorem ArgsAre.length {F : List Addr} {h : Heap} {vs avs own} (x : ArgsAre F h vs avs own) : vs.length = avs.length := by
  induction x <;> simp_all

section
variable {prog : Program} {w : World} {sc : Sc}

theorem St.grow {c : Cfg} {ρ : List Slot} {s s' : Shared} {a : Addr} (S : St c sc ρ s.heap) (k : Kp c s s') (hn : s.heap.get? a = none) (hl : ∃ o, s'.heap.get? a = some o) : St (c.at (a :: c.F)) sc ρ s'.heap := by
  have S' := S.kp k
  have keep : ∀ b o, b ∉ a :: c.F → s.heap.get? b = some o → s'.heap.get? b = some o := fun b o hb e => k.keep (fun q => hb (.tail _ (S.frF b q))) e
  have key : ∀ b, b ∉ c.F → (∃ o, s.heap.get? b = some o) → b ∉ a :: c.F := fun b hb ⟨o, ho⟩ q => (List.mem_cons.mp q).elim (fun e => by rw [e, hn] at ho; cases ho) hb
  refine ⟨S.kind, S.glob, S.glo, S.blt, S.hand, S.hotk, S.room, S.units, S.frames, S'.ff, fun b hb => .tail _ (S.frF b hb), fun b hb => ?_, S.celb, S.G, S.gb, S'.stays, fun y b hb => ?_, S.capart, S.cells, S.stok, fun j y hj => ?_⟩
  · rcases List.mem_cons.mp hb with rfl | h
    · exact hl
    · exact S'.liveF b h
  · obtain ⟨h1, h2, h3⟩ := S'.cel y b hb
    exact ⟨.tail _ h1, h2, h3⟩
  · have q := S.vars j y hj
    generalize ρ.getD j .unb = sl at q ⊢
    cases sl with
    | unb => trivial
    | app _ => trivial
    | val p => obtain ⟨v, hl, hr⟩ := q; exact ⟨v, k.up.ld hl, (rep_live key hr).mono keep⟩
    | own ys => obtain ⟨b, vs, hl, hli, hr⟩ := q; exact ⟨b, vs, k.up.ld hl, k.up.list hli, (reps_live key hr).mono keep⟩

noncomputable def EvAs (prog : Program) (w : World) (sc : Sc) (es : List Expr) (f : List Slot → Option (List AV)) : Prop :=
  ∀ (c : Cfg) (ρ : List Slot) (avs : List AV) (pos : Pos) (s : Shared) (E : Value → Shared → Prop), St c sc ρ s.heap → f ρ = some avs →
    wpAny (model prog w) c.A (spliced (backTo pos (starEach es c.env))) (fun vs s' => ∃ own, ArgsAre (own ++ c.F) s'.heap vs avs own ∧ (∀ a ∈ own, s.heap.get? a = none ∧ ∃ o, s'.heap.get? a = some o) ∧ own.Nodup ∧ Kp c s s') E s

theorem EvAs.nil : EvAs prog w sc [] (fun _ => some []) := by
  intro c ρ avs pos s E S e
  cases e
  exact wpAny_items_nil ⟨[], .nil, fun _ h => (by cases h), .nil, .refl ..⟩
theorem EvAs.val {e : Expr} {es : List Expr} {f : List Slot → Option PV} {g : List Slot → Option (List AV)} (h : EvR prog w sc e f) (hs : EvAs prog w sc es g)
    (he : ∀ env, starEach (e :: es) env = (false, eval e env) :: starEach es env := by intro _; rfl) :
    EvAs prog w sc (e :: es) (fun ρ => (f ρ).bind fun a => (g ρ).map fun r => .val a :: r) := by
  intro c ρ avs pos s E S e'
  obtain ⟨a, ha, e'⟩ := Option.bind_eq_some_iff.mp e'
  obtain ⟨r, hr, rfl⟩ := Option.map_eq_some_iff.mp e'
  refine wpAny_items_cons (wpAny_mono (h c ρ a s E S ha) (fun v s₁ q₁ => ?_) fun _ _ x => x) (he _)
  obtain ⟨rv, k₁⟩ := q₁
  refine wpAny_mono (hs c ρ r pos s₁ E (S.kp k₁) hr) (fun vs s₂ q₂ => ?_) fun _ _ x => x
  obtain ⟨own, hA, hO, hN, k₂⟩ := q₂
  refine ⟨own, .val ?_ hA, fun a ha => ⟨none_back k₁ (hO a ha).1, (hO a ha).2⟩, hN, k₁.trans k₂⟩
  refine (rep_live (fun b hb ⟨o, ho⟩ q => ?_) rv).mono fun b o hb e => k₂.keep (fun q => hb (List.mem_append_right _ (S.frF b q))) e
  rcases List.mem_append.mp q with q | q
  · have := (hO b q).1; rw [ho] at this; cases this
  · exact hb q
theorem EvAs.own {e : Expr} {es : List Expr} {f : List Slot → Option (List PV)} {g : List Slot → Option (List AV)} (h : EvF prog w sc e f) (hs : EvAs prog w sc es g)
    (he : ∀ env, starEach (e :: es) env = (false, eval e env) :: starEach es env := by intro _; rfl) :
    EvAs prog w sc (e :: es) (fun ρ => (f ρ).bind fun a => (g ρ).map fun r => .own a :: r) := by
  intro c ρ avs pos s E S e'
  obtain ⟨xs, ha, e'⟩ := Option.bind_eq_some_iff.mp e'
  obtain ⟨r, hr, rfl⟩ := Option.map_eq_some_iff.mp e'
  refine wpAny_items_cons (wpAny_mono (h c ρ xs s E S ha) (fun v s₁ q₁ => ?_) fun _ _ x => x) (he _)
  obtain ⟨a, ws, rfl, hn, hl, hp, hrs, k₁⟩ := q₁
  have hla : ∃ o, s₁.heap.get? a = some o := let ⟨_, _, h⟩ := hp; ⟨_, h⟩
  have S₁ := S.grow k₁ hn hla
  refine wpAny_mono (hs (c.at (a :: c.F)) ρ r pos s₁ E S₁ hr) (fun vs s₂ q₂ => ?_) fun _ _ x => x
  obtain ⟨own, hA, hO, hN, k₂⟩ := q₂
  have hao : a ∉ own := fun q => by obtain ⟨o, ho⟩ := hla; have := (hO a q).1; rw [ho] at this; cases this
  have hafr : a ∉ c.fr := fun q => by obtain ⟨_, o, ho, _⟩ := S.ff.mem q; rw [hn] at ho; cases ho
  have k₂' : Kp c s₁ s₂ := k₂
  have perm : ∀ b, b ∈ own ++ (a :: c.F) ↔ b ∈ (a :: own) ++ c.F := fun b => by simp [or_left_comm]
  refine ⟨a :: own, .own (hl.at fun o e => k₂'.keep hafr e) (hp.at fun o e => k₂'.keep hafr e) ?_ (hA.live fun b hb _ q => hb ((perm b).mpr q)), fun b hb => ?_, List.nodup_cons.mpr ⟨hao, hN⟩, k₁.trans k₂'⟩
  · refine (reps_live (fun b hb ⟨o, ho⟩ q => ?_) hrs).mono fun b o hb e => k₂'.keep (fun q => hb (List.mem_append_right _ (S.frF b q))) e
    rcases List.mem_append.mp q with q | q
    · rcases List.mem_cons.mp q with rfl | q
      · exact hb (.head _)
      · have := (hO b q).1; rw [ho] at this; cases this
    · exact hb (.tail _ q)
  · rcases List.mem_cons.mp hb with rfl | hb
    · refine ⟨hn, ?_⟩
      obtain ⟨o, ho⟩ := hla
      exact ⟨o, k₂'.keep hafr ho⟩
    · exact ⟨none_back k₁ (hO b hb).1, (hO b hb).2⟩

theorem bindL_skip {k : Str → Option NameKind} {x : Str} : ∀ {binds : List (Str × Value)} {m : Str → Option Value}, (∀ y ∈ binds, y.1 ≠ x) → bindL k binds m x = m x
  | [], _, _ => rfl
  | (n, v) :: r, m, h => by
    unfold bindL
    rw [bindL_skip fun y hy => h y (.tail _ hy)]
    split
    · have : x ≠ n := Ne.symm (h (n, v) (.head _))
      simp [this]
    · rfl
theorem bindC_skip {k : Str → Option NameKind} {x : Str} : ∀ {binds : List (Str × Value)} {m : Str → Option Value}, (∀ y ∈ binds, y.1 ≠ x) → bindC k binds m x = m x
  | [], _, _ => rfl
  | (n, v) :: r, m, h => by
    unfold bindC
    rw [bindC_skip fun y hy => h y (.tail _ hy)]
    split
    · rfl
    · have : x ≠ n := Ne.symm (h (n, v) (.head _))
      simp [this]
theorem bind_at {k : Str → Option NameKind} : ∀ {names : List Str} {vals : List Value} {i : Nat} {x : Str} {v : Value} {m m' : Str → Option Value}, names.Nodup → names[i]? = some x → vals[i]? = some v →
    (k x = some .local → bindL k (names.zip vals) m x = some v) ∧ (k x ≠ some .local → bindC k (names.zip vals) m' x = some v)
  | [], _, i, _, _, _, _, _, h, _ => by simp at h
  | _ :: _, [], i, _, _, _, _, _, _, h => by simp at h
  | n :: ns, u :: vs, i, x, v, m, m', hn, hx, hv => by
    obtain ⟨h1, h2⟩ := List.nodup_cons.mp hn
    cases i with
    | zero =>
      simp only [List.getElem?_cons_zero, Option.some.injEq] at hx hv
      subst hx; subst hv
      have skip : ∀ y ∈ ns.zip vs, y.1 ≠ n := fun y hy e => h1 (e ▸ (List.of_mem_zip hy).1)
      constructor
      · intro hk
        rw [List.zip_cons_cons]; unfold bindL
        rw [bindL_skip skip, if_pos hk]; simp
      · intro hk
        rw [List.zip_cons_cons]; unfold bindC
        rw [bindC_skip skip, if_neg hk]; simp
    | succ i =>
      simp only [List.getElem?_cons_succ] at hx hv
      rw [List.zip_cons_cons]
      unfold bindL bindC
      exact bind_at h2 hx hv

structure FnOk (d : DefRec) (sc' : Sc) (names : List Str) (xv : List Bool) : Prop where
  kind : d.scope.kind = .function
  co : d.scope.isCoroutine = false
  gen : d.scope.isGenerator = false
  par : ∀ (i : Nat) (x : Str), names[i]? = some x → sc'.vars[i]? = some x
  parK : ∀ x ∈ names, d.scope.names.lookup x = some .local ∨ d.scope.names.lookup x = some .cell
  nnd : names.Nodup
  cells : ∀ x ∈ sc'.cells, d.scope.names.lookup x = some .cell
  globs : ∀ x ∈ sc'.globs, d.scope.names.lookup x = some .globalImplicit
  sto : ∀ x ∈ sc'.sto, d.scope.names.lookup x = some .local ∨ (d.scope.names.lookup x = some .cell ∧ x ∈ sc'.cells)
  nd : sc'.vars.Nodup
  hot : sc'.hot = false
  bind : ∀ (kV doc pm : Value) (an : Option Addr) (cdv ct : Value) (vals : List Value) (s : Shared), (d.params.kwonlyargs = [] ∧ kV = .none ∨ ∃ k, kV = .ref k ∧ ∃ mk, s.heap.Ns k mk ∧ mk "unhashable_fallback" = some (.bool false)) → vals.length + xv.length = names.length →
    BindsTo s (fnOf d.name d.name d.params d.body d.scope .none kV doc pm an cdv ct) ⟨vals, []⟩ (names.zip (vals ++ xv.map .bool))

noncomputable def slotsOf (sc' : Sc) (avs : List AV) (xv : List Bool) : List Slot := avs.map AV.slot ++ xv.map (fun b => .val (.bool b)) ++ List.replicate (sc'.vars.length - avs.length - xv.length) .unb

noncomputable def cfgN (c : Cfg) (env : Env) (h : Heap) (own : List Addr) : Cfg :=
  { c with base := hideAll h (c.fr ++ own), A := c.A.deeper env, fenv := env, outer := c.fenv :: c.outer, env := env, F := env.locals :: (env.cells.map (·.2) ++ (own ++ c.F)) }

theorem slot_at {F : List Addr} {h : Heap} : ∀ {vs : List Value} {avs : List AV} {own : List Addr}, ArgsAre F h vs avs own → ∀ (xv : List Bool) (k : Nat) (i : Nat),
    match ((avs.map AV.slot ++ xv.map (fun b => Slot.val (.bool b)) ++ List.replicate k Slot.unb).getD i .unb) with
    | .val p => ∃ v, (vs ++ xv.map Value.bool)[i]? = some v ∧ Rep F h v p
    | .own xs => ∃ a ws, (vs ++ xv.map Value.bool)[i]? = some (.ref a) ∧ a ∈ own ∧ Lst h a ws.toArray ∧ PL h a ∧ Reps F h ws xs
    | .unb => True
    | .app _ => False := by
  intro vs avs own x
  induction x with
  | nil =>
    intro xv k i
    simp only [List.map_nil, List.nil_append]
    induction xv generalizing i with
    | nil =>
      have : (List.map (fun b => Slot.val (.bool b)) ([] : List Bool) ++ List.replicate k Slot.unb).getD i .unb = .unb := by
        simp only [List.map_nil, List.nil_append, List.getD_eq_getElem?_getD, List.getElem?_replicate]
        split <;> rfl
      rw [this]
      trivial
    | cons b r ih =>
      cases i with
      | zero => exact ⟨.bool b, rfl, .bool b⟩
      | succ i => exact ih i
  | val r _ ih =>
    intro xv k i
    cases i with
    | zero => exact ⟨_, rfl, r⟩
    | succ i => exact ih xv k i
  | own hl hp hr _ ih =>
    intro xv k i
    cases i with
    | zero => exact ⟨_, _, rfl, .head _, hl, hp, hr⟩
    | succ i =>
      have := ih xv k i
      revert this
      show (match ((List.map AV.slot _ ++ _ ++ _).getD i .unb) with | .val p => _ | .own xs => _ | .unb => True | .app _ => False) → (match ((List.map AV.slot _ ++ _ ++ _).getD i .unb) with | .val p => _ | .own xs => _ | .unb => True | .app _ => False)
      split
      · exact fun h => h
      · rintro ⟨a, ws, h1, h2, h3⟩; exact ⟨a, ws, h1, .tail _ h2, h3⟩
      · exact fun h => h
      · exact fun h => h

theorem slots_apart {F : List Addr} {h : Heap} : ∀ {vs : List Value} {avs : List AV} {own : List Addr}, ArgsAre F h vs avs own → own.Nodup → ∀ (xv : List Bool) (k : Nat) (i j : Nat) (xs ys : List PV) (a : Addr),
    (avs.map AV.slot ++ xv.map (fun b => Slot.val (.bool b)) ++ List.replicate k Slot.unb).getD i .unb = .own xs → (avs.map AV.slot ++ xv.map (fun b => Slot.val (.bool b)) ++ List.replicate k Slot.unb).getD j .unb = .own ys →
    (vs ++ xv.map Value.bool)[i]? = some (.ref a) → (vs ++ xv.map Value.bool)[j]? = some (.ref a) → i = j := by
  intro vs avs own x
  induction x with
  | nil =>
    intro _ xv k i j xs ys a e _ e' _
    exfalso
    have := slot_at (F := F) (h := h) .nil xv k i
    rw [e] at this
    obtain ⟨_, _, _, h2, _⟩ := this
    cases h2
  | val r _ ih =>
    intro hn xv k i j xs ys a ei ej vi vj
    cases i with
    | zero => cases ei
    | succ i =>
      cases j with
      | zero => cases ej
      | succ j => rw [ih hn xv k i j xs ys a ei ej vi vj]
  | @own b ws zs vs avs own hl hp hr hx ih =>
    intro hn xv k i j xs ys a ei ej vi vj
    obtain ⟨h1, h2⟩ := List.nodup_cons.mp hn
    have inOwn : ∀ i xs, (avs.map AV.slot ++ xv.map (fun b => Slot.val (.bool b)) ++ List.replicate k Slot.unb).getD i .unb = .own xs → (vs ++ xv.map Value.bool)[i]? = some (.ref a) → a ∈ own := by
      intro i xs e v
      have := slot_at hx xv k i
      rw [e] at this
      obtain ⟨a', _, v', h, _⟩ := this
      rw [v] at v'; cases v'; exact h
    cases i with
    | zero =>
      cases j with
      | zero => rfl
      | succ j =>
        have e : b = a := by cases vi; rfl
        exact absurd (inOwn j ys ej vj) (e ▸ h1)
    | succ i =>
      cases j with
      | zero =>
        have e : b = a := by cases vj; rfl
        exact absurd (inOwn i xs ei vi) (e ▸ h1)
      | succ j => rw [ih h2 xv k i j xs ys a ei ej vi vj]
end
end Mine
end

section
namespace Mine

structure EnvOk (d : DefRec) (h : Heap) (env : Env) : Prop where
  scope : env.scope = d.scope
  glob : env.globals = mainGlobals
  blt : env.builtins = builtinsNs
  frame : env.frame = some env.locals
  loc : env.locals = h.objs.size
  cells : env.cells = cellsFrom (h.objs.size + 1) d.scope.names []

noncomputable def cfgF (c : Cfg) (env : Env) (h : Heap) (own : List Addr) : Cfg :=
  { c with base := hideAll h (c.fr ++ own), A := c.A.deeper env, fenv := env, outer := c.fenv :: c.outer, env := env, F := env.locals :: (env.cells.filterMap (fun p => env.cells.lookup p.1) ++ (own ++ c.F)) }

section
variable {prog : Program} {w : World} {sc : Sc}

theorem ArgsAre.liveOwn {F : List Addr} {h : Heap} {vs avs own} (x : ArgsAre F h vs avs own) : ∀ a ∈ own, ∃ o, h.get? a = some o := by
  induction x with
  | nil => intro a h; cases h
  | val _ _ ih => exact ih
  | own _ hp _ _ ih =>
    intro a ha
    rcases List.mem_cons.mp ha with rfl | ha
    · exact let ⟨_, _, h⟩ := hp; ⟨_, h⟩
    · exact ih a ha
theorem fn_enter {d : DefRec} {sc' : Sc} {names : List Str} {xv : List Bool} {c : Cfg} {ρ : List Slot} {s s₁ : Shared} {avs : List AV} {vals : List Value} {own : List Addr} {env : Env} (ok : FnOk d sc' names xv) (S : St c sc ρ s.heap) (hh : sc.hot = false) (hlv : sc'.lv + 1 ≤ sc.lv)
    (hA : ArgsAre (own ++ c.F) s.heap vals avs own) (hO : ∀ a ∈ own, a ∉ c.F ∧ c.base.get? a = none) (hN : own.Nodup) (hlen : vals.length + xv.length = names.length) (ev : EnvOk d s.heap env)
    (x : InCallC s env.locals (bindL env.kindOf (names.zip (vals ++ xv.map .bool)) fun _ => none) env.cells (bindC env.kindOf (names.zip (vals ++ xv.map .bool)) fun _ => none) s₁) :
    FSt (cfgF c env s.heap own) sc' (slotsOf sc' avs xv) s₁.heap ∧ Fn (cfgF c env s.heap own) := by
  have kO : ∀ y, env.kindOf y = d.scope.names.lookup y := fun y => by unfold Env.kindOf; rw [ev.scope]
  have keep : ∀ b o, s.heap.get? b = some o → s₁.heap.get? b = some o := x.toInCall.keep
  have hbase : ∀ b o, (hideAll s.heap (c.fr ++ own)).get? b = some o → s.heap.get? b = some o := fun b o e => of_hideAll _ e
  have newb : ∀ a : Nat, s.heap.objs.size ≤ a → (hideAll s.heap (c.fr ++ own)).get? a = none := fun a ha => by
    cases q : (hideAll s.heap (c.fr ++ own)).get? a with
    | none => rfl
    | some o => exact absurd (Heap.lt_size (hbase a o q)) (Nat.not_lt.mpr ha)
  have hL : @Eq Nat env.locals s.heap.objs.size := ev.loc
  have frlt : ∀ a : Nat, a ∈ c.fr → a < s.heap.objs.size := fun a ha => let ⟨_, o, ho, _⟩ := S.ff.mem ha; Heap.lt_size ho
  have cellgt : ∀ y (a : Nat), env.cells.lookup y = some a → env.locals < a := fun y a h => x.above y a (mem_of_lookup h)
  have ownlive := hA.liveOwn
  have ownlt : ∀ a : Nat, a ∈ own → a < s.heap.objs.size := fun a ha => let ⟨o, ho⟩ := ownlive a ha; Heap.lt_size ho
  obtain ⟨oL, esL, epL, hoL, hdL, hmL⟩ := id x.toInCall.ns
  have hfr : ∀ a, a ∈ (cfgF c env s.heap own).fr ↔ a = env.locals ∨ a ∈ c.fr := fun a => by
    show a ∈ (env :: c.fenv :: c.outer).filterMap (·.frame) ↔ _
    rw [List.filterMap_cons, ev.frame]; exact List.mem_cons
  have ldAt : ∀ (i : Nat) (y : Str) (v : Value), sc'.vars[i]? = some y → (vals ++ xv.map Value.bool)[i]? = some v → Ld env s₁.heap y v := by
    intro i y v hy hv
    have hi : i < names.length := by
      have := (List.getElem?_eq_some_iff.mp hv).1
      simp only [List.length_append, List.length_map] at this; omega
    have hy' := ok.par i _ (List.getElem?_eq_getElem hi)
    rw [hy] at hy'; cases hy'
    obtain ⟨b1, b2⟩ := bind_at (k := env.kindOf) (m := fun _ => none) (m' := fun _ => none) ok.nnd (List.getElem?_eq_getElem hi) hv
    rcases ok.parK names[i] (List.getElem_mem hi) with hk | hk
    · exact .inl ⟨(kO _).trans hk, _, x.toInCall.ns, b1 ((kO _).trans hk)⟩
    · have hc := cellsFrom_has (y := names[i]) d.scope.names (s.heap.objs.size + 1) [] (.inl (mem_of_lookup' hk))
      rw [← ev.cells] at hc
      obtain ⟨b, hb⟩ := hc
      refine .inr ⟨.inl ((kO _).trans hk), b, hb, ?_⟩
      have := x.cell _ b hb
      rw [b2 (by rw [kO, hk]; decide)] at this
      exact this
  have sl := fun i => slot_at hA xv (sc'.vars.length - avs.length - xv.length) i
  have ownInv : ∀ i y xs a, sc'.vars[i]? = some y → (slotsOf sc' avs xv).getD i .unb = .own xs → Ld env s₁.heap y (.ref a) → a ∈ own ∧ (vals ++ xv.map Value.bool)[i]? = some (.ref a) ∧ PL s.heap a := by
    intro i y xs a hy e l
    have := sl i
    unfold slotsOf at e
    rw [e] at this
    obtain ⟨a', ws, h1, h2, _, h4, _⟩ := this
    cases (ldAt i y _ hy h1).unique l
    exact ⟨h2, h1, h4⟩
  have memF : ∀ a, a ∈ (cfgF c env s.heap own).F ↔ a = env.locals ∨ (∃ y, env.cells.lookup y = some a) ∨ a ∈ own ∨ a ∈ c.F := by
    intro a
    show a ∈ env.locals :: (env.cells.filterMap (fun p => env.cells.lookup p.1) ++ (own ++ c.F)) ↔ _
    rw [List.mem_cons, List.mem_append, List.mem_append, List.mem_filterMap]
    constructor
    · rintro (h | ⟨p, _, h⟩ | h | h)
      · exact .inl h
      · exact .inr (.inl ⟨_, h⟩)
      · exact .inr (.inr (.inl h))
      · exact .inr (.inr (.inr h))
    · rintro (h | ⟨y, h⟩ | h | h)
      · exact .inl h
      · exact .inr (.inl ⟨(y, a), mem_of_lookup h, h⟩)
      · exact .inr (.inr (.inl h))
      · exact .inr (.inr (.inr h))
  have repF : ∀ b, b ∉ own ++ c.F → (∃ o, s.heap.get? b = some o) → b ∉ (cfgF c env s.heap own).F := by
    rintro b hb ⟨o, ho⟩ q
    have hlt : @LT.lt Nat _ b s.heap.objs.size := Heap.lt_size ho
    rcases (memF b).mp q with e | ⟨y, e⟩ | e | e
    · rw [e, hL] at hlt; exact Nat.lt_irrefl _ hlt
    · have h1 := cellgt y b e
      have h2 : @LT.lt Nat _ env.locals b := h1
      rw [hL] at h2; exact Nat.lt_asymm h2 hlt
    · exact hb (List.mem_append_left _ e)
    · exact hb (List.mem_append_right _ e)
  refine ⟨⟨⟨?_, ?_, ev.glob, ev.blt, fun _ => S.hand hh, fun q => (by rw [ok.hot] at q; cases q), ?_, ?_, ?_, ?_, ?_, ?_, ?_, S.G, ?_, fun b o e => keep b o (hbase b o e), ?_, ?_, ?_, ?_, ?_⟩, ⟨_, x.toInCall.ns⟩, .head _, ?_, ok.nd, ?_, ?_, ?_, ?_, ?_⟩, ⟨rfl, ev.frame, ?_⟩⟩
  · show env.scope.kind = _; rw [ev.scope]; exact ok.kind
  · intro y hy; exact (kO y).trans (ok.globs y hy)
  · show c.A.depth + 1 + sc'.lv < 990
    have := S.room; omega
  · show c.A.units + 3 + 10 * sc'.lv < 9000
    have := S.units; omega
  · show c.A.frames.map (env :: ·) = _
    rw [S.frames]; rfl
  · refine ⟨?_, ⟨env.locals, oL, ev.frame, newb _ (Nat.le_of_eq hL.symm), hoL, fun vs q => by rw [hdL] at q; cases q⟩, ?_⟩
    · show env.scope.kind ≠ _; rw [ev.scope, ok.kind]; decide
    · exact funFrames_base (S.ff.of_keeps fun b o e _ => ⟨o, keep b o e, rfl⟩) fun L hL' => hideAll_none _ (List.mem_append_left _ hL')
  · intro a ha
    rcases (hfr a).mp ha with e | h
    · exact (memF a).mpr (.inl e)
    · exact (memF a).mpr (.inr (.inr (.inr (S.frF a h))))
  · intro a ha
    rcases (memF a).mp ha with e | ⟨y, e⟩ | e | e
    · exact ⟨oL, e ▸ hoL⟩
    · obtain ⟨o, ho, _⟩ := x.cell y a e; exact ⟨o, ho⟩
    · obtain ⟨o, ho⟩ := ownlive a e; exact ⟨o, keep a o ho⟩
    · obtain ⟨o, ho⟩ := S.liveF a e; exact ⟨o, keep a o ho⟩
  · intro y a e
    refine newb a ?_
    have h2 : @LT.lt Nat _ env.locals a := cellgt y a e
    rw [hL] at h2; exact Nat.le_of_lt h2
  · intro b o e
    have e' := S.gb b o e
    refine hideAll_get _ (S.stays b o e') fun q => ?_
    rcases List.mem_append.mp q with q | q
    · exact S.frameFresh e' q
    · rw [(hO b q).2] at e'; cases e'
  · intro y a e
    have h2 : @LT.lt Nat _ env.locals a := cellgt y a e
    refine ⟨(memF a).mpr (.inr (.inl ⟨y, e⟩)), fun q => ?_, _, x.cell y a e⟩
    rcases (hfr a).mp q with e' | h
    · rw [e'] at h2; exact Nat.lt_irrefl _ h2
    · have := frlt a h; rw [hL] at h2; exact Nat.lt_asymm h2 this
  · intro y z a hy hz; exact name_of_addr x.apart (mem_of_lookup hy) (mem_of_lookup hz)
  · intro y hy
    refine ⟨.inl ((kO y).trans (ok.cells y hy)), ?_⟩
    have hc := cellsFrom_has (y := y) d.scope.names (s.heap.objs.size + 1) [] (.inl (mem_of_lookup' (ok.cells y hy)))
    rw [← ev.cells] at hc
    exact hc
  · intro y hy
    rcases ok.sto y hy with h | ⟨h, hc⟩
    · exact .inl ((kO y).trans h)
    · exact .inr ⟨(kO y).trans h, hc⟩
  · intro i y hy
    have := sl i
    unfold slotsOf
    generalize ((avs.map AV.slot ++ xv.map (fun b => Slot.val (.bool b)) ++ List.replicate (sc'.vars.length - avs.length - xv.length) Slot.unb).getD i .unb) = slt at this ⊢
    cases slt with
    | unb => trivial
    | app _ => exact this.elim
    | val p =>
      obtain ⟨v, hv, r⟩ := this
      exact ⟨v, ldAt i y v hy hv, (rep_live repF r).mono fun b o _ e => keep b o e⟩
    | own xs =>
      obtain ⟨a, ws, hv, _, hl, _, r⟩ := this
      exact ⟨a, ws, ldAt i y _ hy hv, hl.at (keep a), (reps_live repF r).mono fun b o _ e => keep b o e⟩
  · intro y a h e
    have h2 : @LT.lt Nat _ env.locals a := cellgt y a h
    have e' : @Eq Nat a env.locals := e
    omega
  · intro i y xs a hy e l
    obtain ⟨h1, _⟩ := ownInv i y xs a hy e l
    have hlt := ownlt a h1
    refine ⟨(memF a).mpr (.inr (.inr (.inl h1))), fun e' => ?_, fun z b hz e' => ?_, fun q => ?_⟩
    · have e'' : @Eq Nat a env.locals := e'
      omega
    · have h2 : @LT.lt Nat _ env.locals b := cellgt z b hz
      have e'' : @Eq Nat a b := e'
      omega
    · rcases (hfr a).mp q with e' | h
      · have e'' : @Eq Nat a env.locals := e'
        omega
      · exact (hO a h1).1 (S.frF a h)
  · intro i j y z xs ys a hy hz ei ej li lj
    obtain ⟨_, h1, _⟩ := ownInv i y xs a hy ei li
    obtain ⟨_, h2, _⟩ := ownInv j z ys a hz ej lj
    unfold slotsOf at ei ej
    exact slots_apart hA hN xv _ i j xs ys a ei ej h1 h2
  · intro i y j hy e
    have := sl i
    unfold slotsOf at e
    rw [e] at this
    exact this.elim
  · intro i y xs a hy e l
    obtain ⟨h1, _, h3⟩ := ownInv i y xs a hy e l
    exact ⟨h3.at (keep a), hideAll_none _ (List.mem_append_right _ h1)⟩
  · exact newb _ (Nat.le_of_eq hL.symm)
  · intro q
    have : env.locals ∈ c.fr := q
    have := frlt _ this
    rw [hL] at this; exact Nat.lt_irrefl _ this

theorem fn_call {d : DefRec} {sc' : Sc} {names : List Str} {xv : List Bool} {c : Cfg} {ρ ρ' : List Slot} {s₀ s : Shared} {avs : List AV} {vals : List Value} {own : List Addr} {f : List Slot → Option (Out × List Slot)} {p : PV} {E : Value → Shared → Prop} {fa : Addr}
    (hd : d ∈ allDefs) (ok : FnOk d sc' names xv) (hb : ExR prog w sc' d.body f) (S : St c sc ρ s.heap) (hh : sc.hot = false) (hlv : sc'.lv + 1 ≤ sc.lv) (hfa : c.mg d.name = some (.ref fa))
    (hA : ArgsAre (own ++ c.F) s.heap vals avs own) (hO : ∀ a ∈ own, s₀.heap.get? a = none) (S₀ : St c sc ρ s₀.heap) (k : Kp c s₀ s) (hN : own.Nodup) (hlen : vals.length + xv.length = names.length) (e : f (slotsOf sc' avs xv) = some (.ret p, ρ')) :
    wpAny (model prog w) c.A (call (.ref fa) vals) (fun v s' => Rep c.F s'.heap v p ∧ Kp c s₀ s') E s := by
  obtain ⟨a, o, dV, kV, doc, pm, an, cdv, ct, hmg, ho, hdata, hcd, rfl, hkw⟩ := S.G.defs d hd
  rw [hfa] at hmg; cases hmg
  have hO' : ∀ a ∈ own, a ∉ c.F ∧ c.base.get? a = none := fun a ha => by
    have h := hO a ha
    refine ⟨fun q => (by obtain ⟨o, ho⟩ := S₀.liveF a q; rw [h] at ho; cases ho), ?_⟩
    cases q : c.base.get? a with
    | none => rfl
    | some o => have := S₀.stays a o q; rw [h] at this; cases this
  have ho' := S.gs _ _ ho
  refine wpAny_call (codeAny_call_function (body := d.body) ?_ ho' hdata ok.co ok.gen rfl (hcd.keeps S.gs) ?_)
  · have := S.room; show c.A.depth < 1000; omega
  refine ok.bind kV doc pm an cdv ct vals s ?_ hlen _ _ _ _ ?_
  · rcases hkw with h | ⟨k, hk, mk, hm, hv⟩
    · exact .inl h
    · exact .inr ⟨k, hk, mk, hm.keeps S.gs, hv⟩
  refine wpAny_newFunctionEnv_cells ok.kind (fun y hy => ?_) fun env he s₁ x => ?_
  · have hy1 := (List.of_mem_zip (show (y.1, y.2) ∈ _ from hy)).1
    rcases ok.parK y.1 hy1 with h | h
    · exact .inl h
    · refine .inr ⟨h, ?_⟩
      obtain ⟨b, hb⟩ := cellsFrom_has (y := y.1) d.scope.names (s.heap.objs.size + 1) [] (.inl (mem_of_lookup' h))
      rw [hb]; rfl
  have ev : EnvOk d s.heap env := by subst he; exact ⟨rfl, rfl, rfl, rfl, rfl, rfl⟩
  clear he
  obtain ⟨S₁, fn₁⟩ := fn_enter ok S hh hlv hA hO' hN hlen ev x
  have keep : ∀ b o, s.heap.get? b = some o → s₁.heap.get? b = some o := x.toInCall.keep
  refine ⟨(S.G.nolimit.keeps S.gs).keeps keep, codeAny_func ?_⟩
  refine wpAny_mono (hb (cfgF c env s.heap own) _ ρ' (.ret p) s₁ fn₁ S₁ e) (fun fl s₂ q => ?_) fun x s₂ q => ?_
  · obtain ⟨F₂, g, S₂, k₂, fi⟩ := q
    cases fl with
    | ret v =>
      have fi' : Rep F₂ s₂.heap v p := fi
      have inb : ∀ b o, b ∉ c.fr → b ∉ own → s.heap.get? b = some o → (hideAll s.heap (c.fr ++ own)).get? b = some o := fun b o h1 h2 e => hideAll_get _ e fun q => (List.mem_append.mp q).elim h1 h2
      show Rep c.F s₂.heap v p ∧ Kp c s₀ s₂
      refine ⟨rep_live (fun b hb _ q => ?_) fi', ?_⟩
      · by_cases hfr : b ∈ c.fr
        · refine hb (S₂.st.frF b ?_)
          show b ∈ (env :: c.fenv :: c.outer).filterMap (·.frame)
          rw [List.filterMap_cons, ev.frame]; exact .tail _ hfr
        · obtain ⟨o, ho⟩ := S.liveF b q
          refine hb (g.2 b ?_ ?_)
          · show b ∈ env.locals :: (_ ++ (own ++ c.F))
            exact .tail _ (List.mem_append_right _ (List.mem_append_right _ q))
          · show (hideAll s.heap (c.fr ++ own)).get? b ≠ none
            rw [inb b o hfr (fun h => (hO' b h).1 q) ho]; simp
      · obtain ⟨h₁, t₁, hs₁, k₁, u₁⟩ := k
        obtain ⟨h₂, t₂, hs₂⟩ := k₂.same
        obtain ⟨h₃, t₃, hs₃⟩ := x.toInCall.same
        refine ⟨s₂.heap, s₂.toks, ?_, fun b o hb e => ?_, fun b o e => ?_⟩
        · rw [hs₂, hs₃, hs₁]
        · have e1 : s.heap.get? b = some o := by rw [hs₁]; exact k₁ b o hb e
          exact S₂.st.stays b o (inb b o hb (fun h => by rw [hO b h] at e; cases e) e1)
        · by_cases hb : b ∈ c.fr
          · obtain ⟨sl, e1⟩ := u₁ b o e
            have e2 : s.heap.get? b = some { o with slots := sl } := by rw [hs₁]; exact e1
            obtain ⟨sl', e3⟩ := k₂.slots b _ (show b ∈ (c.fenv :: c.outer).filterMap (·.frame) from hb) (keep b _ e2)
            exact ⟨sl', e3⟩
          · have e1 : s.heap.get? b = some o := by rw [hs₁]; exact k₁ b o hb e
            exact ⟨o.slots, S₂.st.stays b o (inb b o hb (fun h => by rw [hO b h] at e; cases e) e1)⟩
    | _ => exact fi.elim
  · obtain ⟨_, _, _, _, _, h, _⟩ := q
    cases h

theorem EvR.call {d : DefRec} {x : Str} {np pos : Pos} {es : List Expr} {sc' : Sc} {names : List Str} {xv : List Bool} {f : List Slot → Option (Out × List Slot)} {fa : List Slot → Option (List AV)} (hd : d ∈ allDefs) (hx : x = d.name) (hg : x ∈ sc.globs) (hdb : (x == ("__debug__" : Str)) = false)
    (ok : FnOk d sc' names xv) (hb : ExR prog w sc' d.body f) (ha : EvAs prog w sc es fa) (hh : sc.hot = false) (hlv : sc'.lv + 1 ≤ sc.lv)
    (hne : ∀ env pos, ∃ x rest, backTo pos (starEach es env) = (false, x) :: rest := by intro _ _; exact ⟨_, _, rfl⟩) :
    EvR prog w sc (.Call (.Name x np) es [] pos) (fun ρ => (fa ρ).bind fun avs => if avs.length + xv.length = names.length then (f (slotsOf sc' avs xv)).bind fun | (.ret p, _) => some p | _ => none else none) := by
  subst hx
  intro c ρ p s E S e
  obtain ⟨avs, hav, e⟩ := Option.bind_eq_some_iff.mp e
  split at e
  · rename_i hlen
    obtain ⟨⟨o, ρ'⟩, hf, e⟩ := Option.bind_eq_some_iff.mp e
    cases o with
    | ret q =>
      cases e
      obtain ⟨a, o, dV, kV, doc, pm, an, cdv, ct, hmg, ho, hdata, hcd, hdV, hkw⟩ := S.G.defs d hd
      refine wpAny_Call_ofName (name_def S hg hmg hdb ?_)
      have hargs := ha c ρ avs pos s E S hav
      obtain ⟨x₁, rest, hne⟩ := hne c.env pos
      show wpAny _ _ (callWith pos (.ref a) [] (backTo pos (starEach es c.env)) []) _ E s
      rw [hne] at hargs ⊢
      refine Calls.callWith_function (o := o) (fd := fnOf d.name d.name d.params d.body d.scope dV kV doc pm an cdv ct) (Calls.evalArgs_plain (wpAny_mono hargs (fun vs s₁ q => ?_) fun _ _ x => x))
      obtain ⟨own, hA, hO, hN, k⟩ := q
      have S₁ := S.kp k
      refine ⟨⟨S₁.gs _ _ ho, hdata⟩, fn_call hd ok hb S₁ hh hlv hmg hA (fun a ha => (hO a ha).1) S k hN (by show vs.length + _ = _; rw [hA.length]; exact hlen) hf⟩
    | _ => cases e
  · cases e
end
end Mine
end

section
set_option maxRecDepth 100000
namespace Mine
namespace G
theorem lookup_object_new : typeLookup (.type "object") "__new__" = pure (some (.builtin "object.__new__")) := by rw [typeLookup_type, builtinLookup_eq_fast]; kernel_rfl
theorem called_object : TypeCalled "object" "object.__new__" "object.__init__" :=
  ⟨by decide +kernel, by decide +kernel, ⟨_, _, F.mro_object⟩, madeBy_type F.mro_object lookup_object_new (by decide +kernel), by decide +kernel, by rw [isSubtype_type]; kernel_rfl, F.slot_object_init⟩
theorem typeCall_object : checkTypeCall "object" ⟨[], []⟩ = pure () := by kernel_rfl
theorem newCall_object : checkBuiltinCall "object.__new__" ⟨[.type "object"], []⟩ = pure () := by kernel_rfl
theorem entry_object_new : entryFor table "object.__new__" = some Builtin.«object.__new__» := entryFor_of_tree (by kernel_rfl)
theorem plain_object_new : plainId "object.__new__" = true := by decide +kernel
theorem isType_object : isType (.type "object") = pure true := rfl
theorem noNew_object : (Manifest.find? "object").elim false (·.mro.any fun t => (Manifest.find? t).elim false (·.noNew)) = false := by decide +kernel
theorem here_object : Bind.madeHere "object.__new__" (.type "object") = pure () := by kernel_rfl
theorem nodict_object : typeHasDict (.type "object") = false := by first | rfl | decide +kernel
theorem dies_object : diesByItsTypesDel "object" = false := by first | rfl | decide +kernel
end G
section
variable {prog : Program} {w : World} {A : Around} {E : Value → Shared → Prop} {s : Shared}
theorem call_object {Q : Value → Shared → Prop} (h : Q (.ref s.heap.objs.size) { s with heap := s.heap.push { cls := .type "object", data := .plain } }) : wpAny (model prog w) A (PySem.call (.type "object") []) Q E s := by
  refine callType_codes (Q₁ := fun obj s₁ => obj = .ref s.heap.objs.size ∧ s₁ = { s with heap := s.heap.push { cls := .type "object", data := .plain } }) G.called_object G.typeCall_object F.entry_object_init ?_ fun obj s₁ h₁ => ?_
  · refine codeAny_of_tree ?_
    show wpAny _ A.in1.in1 (do checkBuiltinCall "object.__new__" ⟨[.type "object"], []⟩; again (.builtin "object.__new__" ⟨[.type "object"], []⟩)) _ _ s
    refine wpAny_bind (wpAny_of_eq G.newCall_object (wpAny_pure ⟨plainId_quiet G.plain_object_new _, codeAny_builtin G.entry_object_new ?_⟩))
    have f1 := G.here_object
    have f2 := G.noNew_object
    have f3 := G.nodict_object
    have f4 := G.dies_object
    obtain ⟨hp, g, d, tk, os⟩ := s
    unfold Builtin.«object.__new__»
    repeat (any_goals (first | assumption | wp_step))
    exact ⟨rfl, rfl⟩
  · obtain ⟨rfl, rfl⟩ := h₁
    have hS : (s.heap.push { cls := .type "object", data := .plain }).get? s.heap.objs.size = some { cls := .type "object", data := .plain } := Heap.get?_push_size _ rfl
    refine ⟨⟨_, hS, rfl⟩, F.args_object_init_1 _, ?_⟩
    show wpAny _ _ (PySem.ret Value.none) _ _ _
    exact wpAny_pure ⟨rfl, h⟩
end

section
variable {prog : Program} {w : World} {sc : Sc}

theorem AsR.tuple2 {x y : Str} {k : Nat} {p₁ p₂ pos : Pos} {i j : Nat} (hi : sc.vars[i]? = some x) (hx : x ∈ sc.sto) (hj : sc.vars[j]? = some y) (hy : y ∈ sc.sto) (hh : sc.hot = false) :
    AsR prog w sc (.Tuple [.Name x p₁, .Name y p₂] k pos) (fun p ρ => match p with | .tup [a, b] => some ((ρ.set i (.val a)).set j (.val b)) | _ => none) := by
  intro c ρ ρ' p v s E h1 S r e
  simp only at e
  split at e
  · rename_i a b
    cases e
    cases r with
    | tup ht hn hr =>
      cases hr with
      | cons r₁ hr =>
        cases hr with
        | cons r₂ hr =>
          cases hr
          rename_i v₁ v₂
          refine wpAny_assign_Tuple (S.st.hand hh) ht rfl rfl fun h' he => ?_
          have k₂ : Kp c s { s with heap := h' } := .keeps fun b o e => he b o (fun q => by rw [q] at e; rw [Heap.get?_none_of_le (Nat.le_refl _)] at e; cases e) e
          have S₂ := S.kp k₂
          show wpAny _ _ (do holding [v₂] (PySem.assign (Expr.Name x p₁) c.env v₁); assignInOrder [fun v => PySem.assign (Expr.Name y p₂) c.env v] [v₂]) _ _ _
          refine wpAny_bind (wpAny_holding (wpAny_assign_Name (storeF h1 S₂ hi hx (.inr (.inl ⟨a, rfl, r₁.kp S.st.frF k₂⟩)) fun s₃ S₃ k₃ _ => ?_)))
          show wpAny _ _ (do holding [] (PySem.assign (Expr.Name y p₂) c.env v₂); assignInOrder [] []) _ _ _
          refine wpAny_bind (wpAny_holding (wpAny_assign_Name (storeF h1 S₃ hj hy (.inr (.inl ⟨b, rfl, (r₂.kp S.st.frF k₂).mono k₃.keep⟩)) fun s₄ S₄ k₄ _ => wpAny_pure ?_)))
          exact ⟨S₄, ((KpF.of k₂ S.st.frF).trans (F' := c.F) (.refl _ _) k₃).trans (F' := c.F) (.refl _ _) k₄⟩
  · cases e

/-- a method of a built-in value with one argument -/
theorem meth1 {c : Cfg} {ρ : List Slot} {s : Shared} {E : Value → Shared → Prop} {Q : Value → Shared → Prop} {o e : Expr} {name : Str} {T id : String} {ap pos : Pos} {fo fe : List Slot → Option PV} {po pe : PV} (ho : EvB prog w sc o fo) (he : EvB prog w sc e fe) (S : St c sc ρ s.heap) (hpo : fo ρ = some po) (hpe : fe ρ = some pe)
    (hbase : attributeBase o name c.env (eval o c.env) = eval o c.env) (hline : (ap.endLine == pos.line) = true) (pa : PlainAttrs T) (slot : PySem.Slot T name id) (hty : typeOf (.builtin id) = pure (.type "method_descriptor"))
    (hT : ∀ (s : Shared) (v : Value), RepB c.F s.heap v po → s.TypeIs v T ∧ ∀ a, v = .ref a → ∃ ob, s.heap.get? a = some ob ∧ ob.dict = none)
    (hs : starEach [e] c.env = [(false, eval e c.env)])
    (h : ∀ s₁ v₁ v₂, RepB c.F s₁.heap v₁ po → RepB c.F s₁.heap v₂ pe → Kp c s s₁ → wpAny (model prog w) c.A (call (.builtin id) [v₁, v₂]) Q E s₁) :
    wpAny (model prog w) c.A (eval (.Call (.Attribute o name ap) [e] [] pos) c.env) Q E s := by
  refine wpAny_Call_method hbase (by rw [hs]; rfl) hline pa slot hty (wpAny_mono (ho c ρ po s E S hpo) (fun v₁ s₁ q₁ => ⟨(hT s₁ v₁ q₁.1).1, (hT s₁ v₁ q₁.1).2, ?_⟩) fun _ _ x => x)
  rw [hs]
  show wpAny _ _ (callWith pos (.builtin id) [v₁] [(false, eval e c.env)] []) _ E s₁
  refine Calls.callWith_builtin rfl (Calls.evalArgs_plain (Calls.spliced_cons (wpAny_mono (he c ρ pe s₁ E (S.kp q₁.2) hpe) (fun v₂ s₂ q₂ => Calls.spliced_nil ?_) fun _ _ x => x)))
  exact h s₂ v₁ v₂ (q₁.1.kp S.frF q₂.2) q₂.1 (q₁.2.trans q₂.2)

noncomputable def strsOf : List PV → Option (List (List Nat))
  | [] => some []
  | .str s :: r => (strsOf r).map (s :: ·)
  | _ => none
theorem Reps.strs {F : List Addr} {h : Heap} {vs : List Value} {xs : List PV} (r : Reps F h vs xs) : ∀ {ss : List (List Nat)}, strsOf xs = some ss → StrsAre vs (ss.map St8) := by
  induction r using Reps.rec (motive_1 := fun _ _ _ => True) with
  | nil => intro ss e; cases e; exact .nil
  | cons hv _ _ ih =>
    intro ss e
    cases hv with
    | str s t =>
      obtain ⟨r, hr, rfl⟩ := Option.map_eq_some_iff.mp e
      exact .cons _ _ (ih hr)
    | _ => cases e
  | _ => trivial

theorem join_flat (ss : List (List Nat)) : Txt.join (St8 []) (ss.map St8) = St8 ss.flatten := by
  unfold Txt.join
  rw [StrLaws.glued_eq_join]
  induction ss with
  | nil => rfl
  | cons a r ih =>
    cases r with
    | nil => simp [Str.join]
    | cons b r =>
      show St8 a ++ St8 [] ++ Str.join (St8 []) ((b :: r).map St8) = _
      rw [ih, St8_append, St8_append]
      simp
noncomputable def joinP : PV → Option PV
  | .list xs => (strsOf xs).bind fun ss => if (ss.map List.length).sum ≤ 1000000 then some (.str ss.flatten) else none
  | _ => none
theorem EvR.join {e : Expr} {k : Nat} {sp ap pos : Pos} {f : List Slot → Option PV} (h : EvB prog w sc e f) (hline : (ap.endLine == pos.line) = true) (he : ∀ env, starEach [e] env = [(false, eval e env)] := by intro _; rfl) :
    EvR prog w sc (.Call (.Attribute (.Constant (.str (Str.ofString "")) k sp) "join" ap) [e] [] pos) (fun ρ => (f ρ).bind joinP) := by
  intro c ρ p s E S e'
  obtain ⟨a, ha, e'⟩ := Option.bind_eq_some_iff.mp e'
  refine meth1 (po := .str []) EvR.str.b h S rfl ha rfl hline F.plainAttrs_str F.slot_str_join F.type_str_join (fun s v r => ?_) (he _) fun s₁ v₁ v₂ r₁ r₂ k₁ => ?_
  · rcases r with r | ⟨_, _, _, _, h, _⟩
    · cases r with
      | str _ t => exact ⟨typeIs_str _ _ _, fun a e => by cases e⟩
    · cases h
  · rcases r₁ with r₁ | ⟨_, _, _, _, h, _⟩
    · cases r₁ with
      | str _ t =>
        have key : ∀ {l : Addr} {vs : List Value} {xs : List PV}, Lst s₁.heap l vs.toArray → Reps c.F s₁.heap vs xs → joinP (.list xs) = some p → wpAny (model prog w) c.A (PySem.call (.builtin "str.join") [.str (St8 []) t, .ref l]) (fun v s' => Rep c.F s'.heap v p ∧ Kp c s s') E s₁ := by
          intro l vs xs hl hr e
          obtain ⟨ss, hss, e⟩ := Option.bind_eq_some_iff.mp e
          split at e
          · rename_i hlen
            cases e
            refine join_list (ys := ss.map St8) hl.1 (by simpa using hr.strs hss) ?_ fun t' k => ⟨?_, k₁.trans (.tok ..)⟩
            · have e0 : (St8 []).length = 0 := rfl
              have e1 : ∀ ss : List (List Nat), (ss.map St8).map (·.length) = ss.map List.length := fun ss => by
                rw [List.map_map]
                refine List.map_congr_left fun a _ => ?_
                show a.toArray.size = a.length
                simp
              rw [e0, e1]; omega
            · rw [join_flat]; exact .str _ _
          · cases e
        rcases r₂ with r₂ | ⟨l, vs, xs, rfl, rfl, hl, hr⟩
        · cases r₂ with
          | list hl hn hr => exact key hl hr e'
          | _ => cases e'
        · exact key hl hr e'
    · cases h

/-- isinstance(e, str) -/
theorem EvR.isStr {x y : Str} {p₁ p₂ pos : Pos} {e : Expr} {f : List Slot → Option PV} (h : EvR prog w sc e f) (hx : x = "isinstance") (hg : x ∈ sc.globs) (hy : y = "str") (hgy : y ∈ sc.globs) (he : ∀ env, starEach [e, .Name y p₂] env = [(false, eval e env), (false, eval (.Name y p₂) env)] := by intro _; rfl) :
    EvR prog w sc (.Call (.Name x p₁) [e, .Name y p₂] [] pos) (fun ρ => (f ρ).bind fun | .str _ => some (.bool true) | _ => none) := by
  subst hx; subst hy
  intro c ρ p s E S e'
  obtain ⟨a, ha, e'⟩ := Option.bind_eq_some_iff.mp e'
  refine wpAny_Call_ofName (name_blt (v := .builtin "isinstance") S hg (by decide) (by rfl) (by decide) (by decide) ?_)
  show wpAny _ _ (callWith pos (.builtin "isinstance") [] (backTo pos (starEach [e, .Name _ p₂] c.env)) []) _ E s
  rw [he]
  refine Calls.callWith_builtin rfl (Calls.evalArgs_plain (Calls.spliced_cons (wpAny_mono (h c ρ a s E S ha) (fun v s₁ q => ?_) fun _ _ x => x)))
  obtain ⟨r, k⟩ := q
  refine Calls.spliced_cons (name_blt (v := .type "str") (S.kp k) hgy (by decide) (by rfl) (by decide) (by decide) (Calls.spliced_nil ?_))
  cases r with
  | str x t =>
    cases e'
    exact IsiPair.str_str ⟨.bool _, k⟩
  | _ => cases e'

/-- object() -/
theorem EvR.object {x : Str} {np pos : Pos} (hx : x = "object") (hg : x ∈ sc.globs) : EvR prog w sc (.Call (.Name x np) [] [] pos) (fun _ => some .obj) := by
  subst hx
  intro c ρ p s E S e'
  cases e'
  refine wpAny_Call_ofName (name_blt (v := .type "object") S hg (by decide) (by rfl) (by decide) (by decide) ?_)
  show wpAny _ _ (callWith pos (.type "object") [] [] []) _ E s
  refine PySem.callWith_type rfl (PySem.evalArgs_none (call_object ?_))
  exact ⟨.obj ⟨_, Heap.get?_push_size _ rfl, rfl, rfl⟩ (S.newF (Nat.le_refl _)), push_kp⟩

/-! ### index -/
noncomputable def sindexP : PV → PV → Option PV
  | .str s, .str r => match Builtin.Str.occurrences (St8 s) (St8 r) 0 (St8 s).length 1 with | i :: _ => some (.int i) | [] => none
  | _, _ => none
theorem EvR.sindex {o e : Expr} {ap pos : Pos} {fo f : List Slot → Option PV} (ho : EvR prog w sc o fo) (h : EvR prog w sc e f) (hline : (ap.endLine == pos.line) = true) (hbase : ∀ env, attributeBase o "index" env (eval o env) = eval o env := by intro _; rfl) (he : ∀ env, starEach [e] env = [(false, eval e env)] := by intro _; rfl) :
    EvR prog w sc (.Call (.Attribute o "index" ap) [e] [] pos) (fun ρ => (fo ρ).bind fun a => (f ρ).bind fun b => sindexP a b) := by
  intro c ρ p s E S e'
  obtain ⟨a, ha, e'⟩ := Option.bind_eq_some_iff.mp e'
  obtain ⟨b, hb, e'⟩ := Option.bind_eq_some_iff.mp e'
  have key : ∃ x y, a = .str x ∧ b = .str y := by
    unfold sindexP at e'
    split at e'
    · exact ⟨_, _, rfl, rfl⟩
    · cases e'
  obtain ⟨x, y, rfl, rfl⟩ := key
  simp only [sindexP] at e'
  split at e'
  · rename_i i rest hocc
    cases e'
    refine meth1 ho.b h.b S ha hb (hbase _) hline F.plainAttrs_str F.slot_str_index F.type_str_index (fun s v r => ?_) (he _) fun s₁ v₁ v₂ r₁ r₂ k₁ => ?_
    · obtain ⟨t, rfl⟩ := r.inv_str
      exact ⟨typeIs_str _ _ _, fun a e => by cases e⟩
    · obtain ⟨t, rfl⟩ := r₁.inv_str
      obtain ⟨u, rfl⟩ := r₂.inv_str
      exact call_gives F.slot_str_index (typeIs_str _ _ _) F.entry_str_index (F.args_str_index_2 _ _) (gives_str_index (St8 x) (St8 y) t u i rest hocc) ⟨.int _ _, k₁.trans (.tok ..)⟩
  · cases e'

noncomputable def lindexP : PV → PV → Option PV
  | .list xs, p => if xs.length ≤ 1000000 ∧ xs.all (fun q => kindK q p) = true then (xs.findIdx? fun q => eqbP q p).map (fun j : Nat => PV.int (j : Int)) else none
  | _, _ => none
theorem EvR.lindex {o e : Expr} {ap pos : Pos} {fo f : List Slot → Option PV} (ho : EvB prog w sc o fo) (h : EvR prog w sc e f) (hline : (ap.endLine == pos.line) = true) (hbase : ∀ env, attributeBase o "index" env (eval o env) = eval o env := by intro _; rfl) (he : ∀ env, starEach [e] env = [(false, eval e env)] := by intro _; rfl) :
    EvR prog w sc (.Call (.Attribute o "index" ap) [e] [] pos) (fun ρ => (fo ρ).bind fun a => (f ρ).bind fun b => lindexP a b) := by
  intro c ρ p s E S e'
  obtain ⟨a, ha, e'⟩ := Option.bind_eq_some_iff.mp e'
  obtain ⟨b, hb, e'⟩ := Option.bind_eq_some_iff.mp e'
  cases a with
  | list xs =>
    simp only [lindexP] at e'
    split at e'
    · rename_i hc
      obtain ⟨hlen, hall⟩ := hc
      obtain ⟨j, hfi, e'⟩ := Option.map_eq_some_iff.mp e'
      subst e'
      refine meth1 ho h.b S ha hb (hbase _) hline F.plainAttrs_list F.slot_list_index F.type_list_index (fun s v r => ?_) (he _) fun s₁ v₁ v₂ r₁ r₂ k₁ => ?_
      · rcases r with r | ⟨a, _, _, rfl, _, hl, _⟩
        · cases r with
          | list hl => exact ⟨hl.1.typeIs, hl.noDict⟩
        · exact ⟨hl.1.typeIs, hl.noDict⟩
      · have r₂' : Rep c.F s₁.heap v₂ b := by
          rcases r₂ with r₂ | ⟨_, _, _, _, h, _⟩
          · exact r₂
          · subst h
            exfalso
            obtain ⟨hj, hj1, _⟩ := List.findIdx?_eq_some_iff_getElem.mp hfi
            cases hx : xs[j] <;> rw [hx] at hj1 <;> cases hj1
        have key : ∀ {l : Addr} {vs : List Value}, Lst s₁.heap l vs.toArray → Reps c.F s₁.heap vs xs → wpAny (model prog w) c.A (PySem.call (.builtin "list.index") [.ref l, v₂]) (fun v s' => Rep c.F s'.heap v (.int j) ∧ Kp c s s') E s₁ := by
          intro l vs hl hr
          have hlv := hr.length
          obtain ⟨⟨o, ho, hcl, n, hd⟩, o', ho', hdn⟩ := hl
          rw [ho] at ho'; cases ho'
          have item : ∀ m (hm : m < vs.toArray.size), ∃ q, xs[m]? = some q ∧ MeetsSeq.EqGives vs.toArray[m] v₂ (eqV v₂ vs.toArray[m]) ∧ eqV v₂ vs.toArray[m] = eqbP q b := by
            intro m hm
            have hm' : m < vs.length := by simpa using hm
            obtain ⟨q, hq, rq⟩ := hr.get' (List.getElem?_eq_getElem hm')
            have hk := List.all_eq_true.mp hall q (List.mem_of_getElem? hq)
            obtain ⟨h1, h2⟩ := eqV_eq r₂' rq hk
            exact ⟨q, hq, by simpa using h1, by simpa using h2⟩
          obtain ⟨hj, hj1, hj2⟩ := List.findIdx?_eq_some_iff_getElem.mp hfi
          have hjv : j < vs.toArray.size := by simp; omega
          obtain ⟨cl, dd, dt, sl⟩ := o
          simp only at hcl hd hdn
          subst hcl; subst hd; subst hdn
          refine call_meets F.slot_list_index ⟨_, ho, rfl⟩ F.entry_list_index (F.args_list_index_2 _ _) (SeqAt.list_indexAt l vs.toArray n none sl v₂ (eqV v₂) j hjv (by omega) ?_ ?_) ⟨ho, ?_, .int _ _, k₁.trans (.tok ..)⟩
          · obtain ⟨q, hq, _, h2⟩ := item j hjv
            rw [h2]
            rw [List.getElem?_eq_getElem hj] at hq; cases hq; exact hj1
          · intro m hm hmj
            obtain ⟨q, hq, _, h2⟩ := item m hm
            rw [h2]
            have := hj2 m hmj
            rw [List.getElem?_eq_getElem (by omega)] at hq; cases hq; simpa using this
          · intro y hy
            obtain ⟨m, hm, rfl⟩ := Array.mem_iff_getElem.mp hy
            obtain ⟨_, _, h, _⟩ := item m hm
            exact h.at _ _
        rcases r₁ with r₁ | ⟨l, vs, ys, rfl, hq, hl, hr⟩
        · cases r₁ with
          | list hl hn hr => exact key hl hr
        · cases hq; exact key hl hr
    · cases e'
  | _ => cases e'
end
end Mine
end

section
set_option maxRecDepth 100000
namespace Mine

section
variable {prog : Program} {w : World} {sc : Sc}

/-! ### list * int -/
noncomputable def mulL : PV → PV → Option PV
  | .list xs, .int n => if 0 ≤ n ∧ n < 1000 ∧ xs.length ≤ 1000 ∧ xs ≠ [] then some (.list (List.replicate n.toNat xs).flatten) else none
  | _, _ => none
theorem foldl_rep {α : Type} (xs : List α) : ∀ (n : Nat) (acc : Array α), List.foldl (fun x1 x2 => x1 ++ x2) acc (List.replicate n xs.toArray) = acc ++ ((List.replicate n xs).flatten).toArray
  | 0, acc => by simp
  | n + 1, acc => by
    rw [List.replicate_succ, List.foldl_cons, foldl_rep xs n]
    simp [List.replicate_succ]
theorem Reps.replicate {F : List Addr} {h : Heap} {vs : List Value} {xs : List PV} (r : Reps F h vs xs) : ∀ n, Reps F h (List.replicate n vs).flatten (List.replicate n xs).flatten
  | 0 => .nil
  | n + 1 => by simpa [List.replicate_succ] using r.append (Reps.replicate r n)
/-- a list display times a number -/
theorem EvR.mulList {e₁ e₂ : Expr} {pos : Pos} {f₁ : List Slot → Option (List PV)} {f₂ : List Slot → Option PV} {p : Pos} {es : List Expr} (he : e₁ = .List es p) (h₁ : EvRs prog w sc es f₁) (h₂ : EvR prog w sc e₂ f₂) :
    EvR prog w sc (.BinOp e₁ .Mult e₂ pos) (fun ρ => (f₁ ρ).bind fun xs => (f₂ ρ).bind fun b => mulL (.list xs) b) := by
  subst he
  intro c ρ q s E S e
  obtain ⟨xs, hx, e⟩ := Option.bind_eq_some_iff.mp e
  obtain ⟨b, hb, e⟩ := Option.bind_eq_some_iff.mp e
  cases b with
  | int n =>
    simp only [mulL] at e
    split at e
    · rename_i hc
      cases e
      obtain ⟨h0, hn, hl, hne⟩ := hc
      refine wpAny_BinOp (wpAny_List (wpAny_mono (h₁ c ρ xs p s E S hx) (fun vs s₁ q₁ => ⟨?_, ?_⟩) fun _ _ x => x))
      · rw [q₁.1.length]; show _ ≤ 2 ^ 24; omega
      · obtain ⟨r₁, k₁⟩ := q₁
        have k₁' : Kp c s { s₁ with heap := s₁.heap.push { cls := .type "list", data := .seq vs.toArray } } := k₁.trans push_kp
        have hlo : (s₁.heap.push { cls := .type "list", data := .seq vs.toArray }).get? s₁.heap.objs.size = some { cls := .type "list", dict := none, data := .seq vs.toArray 0, slots := #[] } := Heap.get?_push_size _ rfl
        have hafr : s₁.heap.objs.size ∉ c.fr := fun q => by have := S.newF (a := s₁.heap.objs.size); exact (S.kp k₁).newF (Nat.le_refl _) (S.frF _ q)
        refine wpAny_mono (h₂ c ρ (.int n) _ E (S.kp k₁') hb) (fun v₂ s₂ q₂ => ?_) fun _ _ x => x
        obtain ⟨r₂, k₂⟩ := q₂
        have S₂ := (S.kp k₁').kp k₂
        have hl₂ := k₂.keep hafr hlo
        cases r₂ with
        | int _ u =>
          have hlen := r₁.length
          have hemp : vs.toArray.isEmpty = false := by
            cases vs with
            | nil => cases xs with
              | nil => exact absurd rfl hne
              | cons => cases hlen
            | cons => rfl
          have hsz : vs.toArray.size * n.toNat ≤ 2 ^ 24 := by
            simp only [List.size_toArray]
            have h1 : vs.length ≤ 1000 := by omega
            have h2 : n.toNat ≤ 1000 := by omega
            calc vs.length * n.toNat ≤ 1000 * 1000 := Nat.mul_le_mul h1 h2
              _ ≤ 2 ^ 24 := by decide
          refine wpAny_binaryOp_repeat_ref (T := "list") (U := "int") (by decide) ⟨_, hl₂, rfl⟩ (fun s' => typeIs_int s' n u) noFill_list_mul F.fills_int_mul F.slot_int_rmul repeat_list F.slot_int_index.lookup
            (call_meets F.slot_int_rmul (typeIs_int _ n u) F.entry_int_rmul (F.args_int_rmul_2 _ _) (int___rmul___int_list n u _ vs.toArray 0) ⟨hl₂, rfl, ⟨_, hl₂, rfl⟩, ?_⟩)
          refine call_meets F.slot_list_mul ⟨_, hl₂, rfl⟩ F.entry_list_mul (F.args_list_mul_2 _ _) (AutoListH.list___mul___list_int_3 _ vs.toArray 0 n u (by simp [Builtin.List.listFitsIndex]; omega) (by omega) (by simp [Builtin.List.listTooLong, sizeLine]; simp only [List.size_toArray] at hsz; omega)) ⟨hl₂, ?_⟩
          have key : ({ cls := Value.type "list", data := Data.seq (List.foldl (fun x1 x2 => x1 ++ x2) #[] (List.replicate (if vs.toArray.isEmpty = true then 0 else n.toNat) vs.toArray)) } : Obj) = { cls := .type "list", data := .seq ((List.replicate n.toNat vs).flatten).toArray } := by
            rw [hemp]; simp only [Bool.false_eq_true, if_false]; rw [foldl_rep]; simp
          rw [key]
          refine ⟨.list (.of (Heap.get?_push_size _ rfl)) (S₂.newF (Nat.le_refl _)) ?_, k₁'.trans (k₂.trans push_kp)⟩
          exact ((r₁.kp S.frF push_kp).kp S.frF (k₂.trans push_kp)).replicate _
    · cases e
  | _ => cases e

/-! ### list(range(n)) and list(keys) -/
theorem Reps.of_at {F : List Addr} {h : Heap} : ∀ {vs : List Value} {xs : List PV}, vs.length = xs.length → (∀ (j : Nat) (v : Value), vs[j]? = some v → ∃ p, xs[j]? = some p ∧ Rep F h v p) → Reps F h vs xs
  | [], [], _, _ => .nil
  | v :: vs, x :: xs, hl, h => by
    obtain ⟨p, hp, r⟩ := h 0 v rfl
    cases hp
    exact .cons r (Reps.of_at (by simpa using hl) fun j u hu => h (j + 1) u hu)
  | [], _ :: _, hl, _ => by simp at hl
  | _ :: _, [], hl, _ => by simp at hl
theorem EvR.listRange {x y : Str} {np yp pos pos' : Pos} {e : Expr} {f : List Slot → Option PV} (h : EvR prog w sc e f) (hh : sc.hot = false) (hx : x = "list") (hg : x ∈ sc.globs) (hy : y = "range") (hgy : y ∈ sc.globs)
    (he : ∀ env, starEach [.Call (.Name y yp) [e] [] pos'] env = [(false, eval (.Call (.Name y yp) [e] [] pos') env)] := by intro _; rfl) (he' : ∀ env, starEach [e] env = [(false, eval e env)] := by intro _; rfl) :
    EvR prog w sc (.Call (.Name x np) [.Call (.Name y yp) [e] [] pos'] [] pos) (fun ρ => (f ρ).bind fun | .int n => if 0 ≤ n ∧ n < 1000000 then some (.list (rangeP 0 n 1)) else none | _ => none) := by
  subst hx; subst hy
  intro c ρ p s E S e'
  obtain ⟨a, ha, e'⟩ := Option.bind_eq_some_iff.mp e'
  refine wpAny_Call_ofName (name_blt (v := .type "list") S hg (by decide) (by rfl) (by decide) (by decide) ?_)
  show wpAny _ _ (callWith pos (.type "list") [] (backTo pos (starEach [.Call (.Name _ yp) [e] [] pos'] c.env)) []) _ E s
  rw [he]
  show wpAny _ _ (callWith pos (.type "list") [] [(false, eval (.Call (.Name _ yp) [e] [] pos') c.env)] []) _ E s
  refine PySem.callWith_type1 ?_
  refine wpAny_Call_ofName (name_blt (v := .type "range") S hgy (by decide) (by decide +kernel) (by decide) (by decide) ?_)
  show wpAny _ _ (callWith pos' (.type "range") [] (backTo pos' (starEach [e] c.env)) []) _ E s
  rw [he']
  show wpAny _ _ (callWith pos' (.type "range") [] [(false, eval e c.env)] []) _ E s
  refine PySem.callWith_type1 (wpAny_mono (h c ρ a s E S ha) (fun v s₁ q => ?_) fun _ _ x => x)
  obtain ⟨r, k⟩ := q
  cases r with
  | int n t =>
    simp only at e'
    split at e'
    · rename_i hn
      cases e'
      refine call_range_1 ?_
      have k₂ : Kp c s { s₁ with heap := s₁.heap.push { cls := .type "range", data := .fields #[.int 0 s₁.toks, .int n t, .int 1 (s₁.toks + 1)] }, toks := s₁.toks + 1 + 1 } := k.trans (push_kp.trans (.tok ..))
      have S₂ := S.kp k₂
      refine call_list_range (n := n.toNat) (S.hand hh) (IsRange.new ..) (small_one (by decide) (by decide) (by omega) (by omega)) ?_ (by omega) fun h' tk acc' c' hk hD hI => ?_
      · rw [rangeSize_one]; split <;> omega
      · have e : acc' = acc'.toList.toArray := by simp
        rw [e] at hD
        refine ⟨.list (vs := acc'.toList) (.of hD) (S₂.newF (Nat.le_refl _)) ?_, k₂.trans (.keeps hk)⟩
        refine Reps.of_at (by simp [rangeP, hI.1]) fun j v hv => ?_
        obtain ⟨t', rfl⟩ := hI.2 j v (by simpa using hv)
        have hj : j < n.toNat := by have := (List.getElem?_eq_some_iff.mp hv).1; simp [hI.1] at this; omega
        exact ⟨.int (0 + j * 1), by simp [rangeP, hj], .int ..⟩
    · cases e'
  | _ => cases e'

theorem EvR.listKeys {x : Str} {np pos : Pos} {e : Expr} {f : List Slot → Option PV} (h : EvR prog w sc e f) (hh : sc.hot = false) (hx : x = "list") (hg : x ∈ sc.globs)
    (he : ∀ env, starEach [e] env = [(false, eval e env)] := by intro _; rfl) :
    EvR prog w sc (.Call (.Name x np) [e] [] pos) (fun ρ => (f ρ).bind fun | .keys xs => if xs.length < 1000000 then some (.list (xs.map .int)) else none | _ => none) := by
  subst hx
  intro c ρ p s E S e'
  obtain ⟨a, ha, e'⟩ := Option.bind_eq_some_iff.mp e'
  refine wpAny_Call_ofName (name_blt (v := .type "list") S hg (by decide) (by rfl) (by decide) (by decide) ?_)
  show wpAny _ _ (callWith pos (.type "list") [] (backTo pos (starEach [e] c.env)) []) _ E s
  rw [he]
  show wpAny _ _ (callWith pos (.type "list") [] [(false, eval e c.env)] []) _ E s
  refine PySem.callWith_type1 (wpAny_mono (h c ρ a s E S ha) (fun v s₁ q => ?_) fun _ _ x => x)
  obtain ⟨r, k⟩ := q
  have S₁ := S.kp k
  cases r with
  | keys hk hn =>
    simp only at e'
    split at e'
    · rename_i xs hlen
      cases e'
      obtain ⟨_, lo, hat⟩ := hk
      obtain ⟨kvs, ep, hD, hm⟩ := hat prog w
      have hl : kvs.length = xs.length := by rw [← hm]; simp
      refine kdl_call (kdl_dict (knd := PySem.intKind prog w) lo) (S.hand hh) hD (by show _ ≤ 2 ^ 24; omega) fun h' tk acc' c' hkp hS hI => ?_
      have e : acc' = acc'.toList.toArray := by simp
      rw [e] at hS
      refine ⟨.list (vs := acc'.toList) (.of hS) (S₁.newF (Nat.le_refl _)) (Reps.of_at (by simp [hI.1, hl]) fun j v hv => ?_), k.trans (.keeps hkp)⟩
      obtain ⟨n, x, hx, hn⟩ := hI.2 j v (by simpa using hv)
      obtain ⟨t, rfl⟩ := Value.isInt_shape hn
      refine ⟨.int n, ?_, .int ..⟩
      rw [← hm]; simp [hx]
    · cases e'
  | _ => cases e'
end
end Mine
end

section
set_option maxRecDepth 100000
namespace Mine

noncomputable def boundFk : Obj := { cls := .type "builtin_function_or_method", data := .fields #[.builtin "dict.fromkeys", .type "dict"] }
namespace G
theorem type_fk : typeOf (.builtin "dict.fromkeys") = pure (.type "classmethod_descriptor") := by show builtinType _ = _; rw [builtinType_eq_fast]; kernel_rfl
theorem entry_fk : entryFor table "dict.fromkeys" = some Builtin.«dict.fromkeys» := entryFor_of_tree (by kernel_rfl)
theorem entry_fk_loop : entryFor table "dict.fromkeys.loop" = some Builtin.«dict.fromkeys.loop» := entryFor_of_tree (by kernel_rfl)
theorem quiet_fk {as : Args} : (Code.builtin "dict.fromkeys" as).quiet = true := Code.quiet_builtin _ (by decide +kernel)
theorem quiet_fk_loop {as : Args} : (Code.builtin "dict.fromkeys.loop" as).quiet = true := Code.quiet_builtin _ (by decide +kernel)
theorem type_dict : isType (.type "dict") = pure true := rfl
theorem check_fk {l : Addr} : checkBoundCall "dict.fromkeys" ⟨[.type "dict", .ref l], []⟩ = pure () := by first | kernel_rfl | rfl
end G

section
variable {prog : Program} {w : World} {A : Around} {E : Value → Shared → Prop} {s : Shared}

theorem fk_get {M : Model} {P : PySem.Fin → Shared → Prop} (h : P (.done (.ret (.ref s.heap.objs.size))) { s with heap := s.heap.push boundFk }) :
    wpAny M A (Builtin.«classmethod_descriptor.__get__» ⟨[.builtin "dict.fromkeys", .none, .type "dict"], []⟩) P E s := by
  unfold Builtin.«classmethod_descriptor.__get__»
  refine wpAny_bind (wpAny_of_eq (a := (.builtin "dict.fromkeys", none, some (.type "dict"))) (by first | rfl | kernel_rfl) ?_)
  dsimp only
  refine wpAny_bind (wpAny_of_eq (a := .type "dict") rfl ?_)
  refine wpAny_bind (wpAny_of_eq (a := true) G.type_dict ?_)
  refine KFB.if_not rfl ?_
  refine wpAny_bind (wpAny_of_eq (a := true) ?_ ?_)
  · have key : ∀ x : String, x = "dict" → isSubtype (.type "dict") (.type x) = pure true := fun x e => e ▸ F.kt_sub_dict
    exact key _ (by first | decide +kernel | kernel_rfl)
  · refine KFB.if_not rfl ?_
    exact wpAny_bind (wpAny_newObj_type (wpAny_pure h))

theorem fk_getMethod {pl : Sem Bool} {Q : Value × List Value → Shared → Prop} (h : Q (.ref s.heap.objs.size, []) { s with heap := s.heap.push boundFk, toks := s.toks + 1 }) :
    wpAny (model prog w) A (getMethod (.type "dict") (PySem.Str.ofString "fromkeys") pl) Q E s := by
  have X : Frag.In [] s.heap := fun _ _ e => by cases e
  have hstub : opaqueClassAbove (.type "dict") = pure none := by unfold opaqueClassAbove; dsimp only; rw [show Manifest.isStub "dict" = false by decide +kernel]; rfl
  have ht : typeOf (.type "dict") = pure (.type "type") := by first | rfl | kernel_rfl
  have L0 : Looks (model prog w) s.heap (typeOf (.type "dict")) (.type "type") := Looks.of_pure ht
  have hg : findIn [] (.type "type") "__getattribute__" = some (some (.builtin "type.__getattribute__")) := type_tga
  unfold getMethod specialOf
  refine wpAny_bind (wpAny_bind (L0.here ((looks_findIn X hg).here ?_)))
  dsimp only
  rw [if_pos canon_tga]
  refine wpAny_bind (wpAny_mono (Q := fun v => Q (v, [])) (E := E) ?_ (fun _ _ z => wpAny_pure z) fun _ _ z => z)
  have LO : Looks (model prog w) s.heap (opaqueClassAbove (.type "dict")) none := Looks.of_pure hstub
  refine cls_open (r := .get (.builtin "classmethod_descriptor.__get__") (.builtin "dict.fromkeys") .none (.type "dict")) X LO L0 hg (looks_hook X (r := none) (by rfl)) (by show subIn [] _ _ = _; first | rfl | decide +kernel) (by first | rfl | decide +kernel | kernel_rfl) ?_
  show wpAny _ _ (holding [.builtin "dict.fromkeys"] (PySem.call (.builtin "classmethod_descriptor.__get__") [.builtin "dict.fromkeys", .none, .type "dict"]) >>= fun v => PySem.ret v) _ _ _
  refine wpAny_bind (wpAny_holding (wpAny_call_entry KFB.slot_get G.type_fk KFB.entry_get (fk_get ⟨_, rfl, wpAny_pure (wpAny_pure h)⟩) (KFB.args_get _ _ _)))

noncomputable def KpL (wr : List Addr) (d : Addr) (s s' : Shared) : Prop := ∃ h' tk, s' = { s with heap := h', toks := tk } ∧ ∀ b o, b ≠ d → b ∉ wr → s.heap.get? b = some o → h'.get? b = some o

theorem code_dict_new0 {Q₁ : Value → Shared → Prop} (h : Q₁ (.ref s.heap.objs.size) { s with heap := s.heap.push { cls := .type "dict", data := .dict #[] } }) :
    codeAny (model prog w) A (.call (.builtin "dict.__new__") ⟨[.type "dict"], []⟩) (wants Q₁ E) s := by
  refine codeAny_call_builtin F.kt_plain_dict_new F.kt_entry_dict_new (wpAny_of_eq (a := ()) (by kernel_rfl) ?_)
  have hsub := F.kt_sub_dict
  have hmro := F.kt_mro_dict
  obtain ⟨hp, g, d, tk, os⟩ := s
  unfold Builtin.«dict.__new__»
  wp_walk
  exact h
theorem call_dict0 {Q : Value → Shared → Prop} (h : Q (.ref s.heap.objs.size) { s with heap := s.heap.push { cls := .type "dict", data := .dict #[] } }) :
    wpAny (model prog w) A (PySem.call (.type "dict") []) Q E s := by
  refine callType_codes (Q₁ := fun obj s₁ => obj = .ref s.heap.objs.size ∧ s₁ = { s with heap := s.heap.push { cls := .type "dict", data := .dict #[] } }) F.kt_called_dict (by kernel_rfl) F.entry_dict_init (code_dict_new0 ⟨rfl, rfl⟩) ?_
  rintro obj s₁ ⟨rfl, rfl⟩
  have hnew : (s.heap.push { cls := .type "dict", data := .dict #[] }).DictOf (PySem.intKind prog w) s.heap.objs.size [] := Heap.DictOf.new s.heap
  refine ⟨hnew.typeIs, F.args_dict_init_1 _, ?_⟩
  unfold Builtin.«dict.__init__»
  refine wpAny_bind ?_
  unfold Builtin.Dict.selfAndRest
  refine wpAny_bind (wpAny_notOrdered_dict hnew.typeIs ?_)
  show wpAny _ _ (pure (s.heap.objs.size, [])) _ _ _
  refine wpAny_pure ?_
  show wpAny _ _ (Builtin.Dict.updateCommon "dict.__init__" "dict" s.heap.objs.size [] []) _ _ _
  show wpAny _ _ (Builtin.Dict.addKeywords s.heap.objs.size [] >>= fun _ => PySem.ret Value.none) _ _ _
  refine wpAny_bind ?_
  unfold Builtin.Dict.addKeywords
  repeat (any_goals (first | assumption | wp_step))
  exact ⟨rfl, h⟩

theorem plain_fk_loop : plainId "dict.fromkeys.loop" = true := by decide +kernel
noncomputable def addK (acc : List Int) (n : Int) : List Int := if n ∈ acc then acc else acc ++ [n]
theorem stored_keys {ks : List (Int × Value)} {n : Int} {v : Value} : (stored ks n v).map (·.1) = addK (ks.map (·.1)) n := by
  unfold stored addK
  by_cases h : ks.any (fun kv => decide (kv.1 = n)) = true
  · rw [if_pos h]
    obtain ⟨kv, hm, he⟩ := List.any_eq_true.mp h
    have : n ∈ ks.map (·.1) := List.mem_map.mpr ⟨kv, hm, by simpa using he⟩
    rw [if_pos this, List.map_map]
    refine List.map_congr_left fun kv _ => ?_
    simp only [Function.comp]
    split <;> rfl
  · rw [if_neg h]
    have : n ∉ ks.map (·.1) := fun q => by
      obtain ⟨kv, hm, he⟩ := List.mem_map.mp q
      exact h (List.any_eq_true.mpr ⟨kv, hm, by simpa using he⟩)
    rw [if_neg this]; simp
theorem fk_loop {d : Addr} {P : Nat → Value → Prop} {W : Nat → Heap → Prop} {fp wr : List Addr} {I : Addr} {ns : List Int} {R : Result → Shared → Prop} (hW : Walks prog w A.in1 I fp wr ns.length P W) (hdf : d ∉ fp) (hP : ∀ i v, P i v → ∃ n t, ns[i]? = some n ∧ v = .int n t)
    (hn : ns.length ≤ 1000000) (hR : ∀ s' ks, s'.heap.DictOf (PySem.intKind prog w) d ks → ks.map (·.1) = ns.foldl addK [] → KpL wr d s s' → R (.ok (.ret (.ref d))) s') :
    ∀ (k j : Nat) (s' : Shared) (ks : List (Int × Value)), k = ns.length - j → j ≤ ns.length → W j s'.heap → s'.heap.DictOf (PySem.intKind prog w) d ks → ks.map (·.1) = (ns.take j).foldl addK [] → ks.length ≤ j → KpL wr d s s' →
      codeAny (model prog w) A (.builtin "dict.fromkeys.loop" ⟨[.ref d, .ref I, .none], []⟩) R s' := by
  intro k
  induction k with
  | zero =>
    intro j s' ks hk hj hw hD hks hlen kp
    have hje : j = ns.length := by omega
    subst hje
    refine codeAny_builtin G.entry_fk_loop ?_
    rw [Around.under_plainId plain_fk_loop _]
    unfold Builtin.«dict.fromkeys.loop»
    dsimp only
    refine wpAny_bind (hW.done s' _ _ hw fun h' tk' hk' => ?_)
    refine wpAny_pure ?_
    have hdw : d ∉ wr := fun q => hdf (hW.sub d q)
    refine hR _ ks (let ⟨o, es, ep, ho, r⟩ := hD; ⟨o, es, ep, hk' d o hdw ho, r⟩) (by rw [hks, List.take_length]) ?_
    obtain ⟨h₁, t₁, rfl, k₁⟩ := kp
    exact ⟨h', tk', rfl, fun b o hb hbw e => hk' b o hbw (k₁ b o hb hbw e)⟩
  | succ k ih =>
    intro j s' ks hk hj hw hD hks hlen kp
    have hlt : j < ns.length := by omega
    refine codeAny_builtin G.entry_fk_loop ?_
    rw [Around.under_plainId plain_fk_loop _]
    unfold Builtin.«dict.fromkeys.loop»
    dsimp only
    refine wpAny_bind (hW.item j s' _ _ hlt hw fun v h' tk' hPv hw' hk' => ?_)
    obtain ⟨n, t, hns, rfl⟩ := hP j v hPv
    have hdw : d ∉ wr := fun q => hdf (hW.sub d q)
    have hD' : h'.DictOf (PySem.intKind prog w) d ks := let ⟨o, es, ep, ho, r⟩ := hD; ⟨o, es, ep, hk' d o hdw ho, r⟩
    dsimp only
    refine wpAny_bind (wpAny_typeOf (s := { s' with heap := h', toks := tk' }) hD'.typeIs ?_)
    rw [if_pos (by rfl)]
    refine wpAny_bind (wpAny_of_eq (a := d) rfl ?_)
    refine wpAny_bind (wpAny_holding ?_)
    refine wpAny_dictSet_pairs (knd := PySem.intKind prog w) (k := n) (by show Value.isInt n (.int n t) = true; simp [Value.isInt]) hD' (fun h'' hD'' hs'' => ?_) (by show _ ≤ 2 ^ 24; omega)
    refine wpAny_pure ⟨G.quiet_fk_loop, ih (j + 1) _ (stored ks n .none) (by omega) (by omega) ?_ hD'' ?_ ?_ ?_⟩
    · exact hW.frame _ _ _ hw' fun b hb o e => (hs''.2 b fun q => hdf (q ▸ hb)).trans e
    · rw [stored_keys, hks, List.take_add_one, hns]; simp
    · have : (stored ks n .none).length ≤ ks.length + 1 := by unfold stored; split <;> simp
      omega
    · obtain ⟨h₁, t₁, rfl, k₁⟩ := kp
      exact ⟨h'', _, rfl, fun b o hb hbw e => (hs''.2 b hb).trans (hk' b o hbw (k₁ b o hb hbw e))⟩
end

section
variable {prog : Program} {w : World} {sc : Sc}

theorem pairs_any {prog prog' : Program} {w w' : World} {es : List DictEntry} {kvs : List (Int × Value)} (x : Pairs (PySem.intKind prog w) es kvs) : Pairs (PySem.intKind prog' w') es kvs := by
  induction x with
  | nil => exact .nil
  | cons h1 h2 _ ih => exact .cons h1 h2 ih
theorem dictAt_any {prog prog' : Program} {w w' : World} {h : Heap} {a : Addr} {kvs : List (Int × Value)} {ep : Nat} (x : Heap.DictAt (PySem.intKind prog w) h a kvs ep) : Heap.DictAt (PySem.intKind prog' w') h a kvs ep :=
  let ⟨o, es, h1, h2, h3, h4, h5, h6⟩ := x; ⟨o, es, h1, h2, h3, h4, pairs_any h5, h6⟩
theorem intsOf_at : ∀ {xs : List PV} {ns : List Int}, intsOf xs = some ns → ns.length = xs.length ∧ ∀ (j : Nat) (p : PV), xs[j]? = some p → ∃ n, ns[j]? = some n ∧ p = .int n
  | [], _, e => by cases e; exact ⟨rfl, fun j p h => by simp at h⟩
  | x :: xs, ns, e => by
    cases x with
    | int i =>
      obtain ⟨r, hr, rfl⟩ := Option.map_eq_some_iff.mp e
      obtain ⟨h1, h2⟩ := intsOf_at hr
      refine ⟨by simp [h1], fun j p h => ?_⟩
      cases j with
      | zero => simp at h; exact ⟨i, rfl, h.symm⟩
      | succ j => simpa using h2 j p (by simpa using h)
    | _ => cases e

noncomputable def fkP : PV → Option PV
  | .list xs => (intsOf xs).bind fun ns => if ns.length ≤ 1000000 then some (.keys (ns.foldl addK [])) else none
  | _ => none

theorem fk_call {c : Cfg} {ρ : List Slot} {s : Shared} {E : Value → Shared → Prop} {x : Addr} {v : Value} {a p : PV} (S : St c sc ρ s.heap) (hh : sc.hot = false) (hx : s.heap.get? x = some boundFk) (r : Rep c.F s.heap v a) (e : fkP a = some p) :
    wpAny (model prog w) c.A (PySem.call (.ref x) [v]) (fun v s' => Rep c.F s'.heap v p ∧ Kp c s s') E s := by
  have hA := S.hand hh
  cases r with
  | @list l vs xs hl hn hr =>
    obtain ⟨ns, hns, e⟩ := Option.bind_eq_some_iff.mp e
    split at e
    · rename_i hlen
      cases e
      obtain ⟨hnl, hat⟩ := intsOf_at hns
      refine wpAny_call (codeAny_of_tree ?_)
      show wpAny _ c.A.in1 (callAny (.ref x) ⟨[.ref l], []⟩) _ _ s
      simp only [callAny]
      refine wpAny_bind (wpAny_load hx ?_)
      simp only [boundFk, show (Value.type "builtin_function_or_method" == Value.type "method" || Value.type "builtin_function_or_method" == Value.type "builtin_function_or_method" || Value.type "builtin_function_or_method" == Value.type "method-wrapper") = true by decide, if_true]
      refine KFB.if_so (by decide) ?_
      refine wpAny_bind (wpAny_of_eq (a := ()) G.check_fk ?_)
      refine wpAny_pure ⟨G.quiet_fk, codeAny_builtin G.entry_fk ?_⟩
      unfold Builtin.«dict.fromkeys»
      dsimp only
      refine wpAny_bind (wpAny_of_eq (a := true) G.type_dict ?_)
      refine KFB.if_not rfl ?_
      refine wpAny_bind (wpAny_of_eq (a := true) F.kt_sub_dict ?_)
      refine KFB.if_not rfl ?_
      refine KFB.if_not rfl ?_
      refine wpAny_bind (wpAny_rule (wpAny_bind (wpAny_pure (wpAny_bind (call_dict0 ?_)))))
      generalize hs₁ : ({ s with heap := s.heap.push { cls := .type "dict", data := .dict #[] } } : Shared) = s₁
      have k₁ : Kp c s s₁ := hs₁ ▸ push_kp
      have hD₁ : s₁.heap.DictOf (PySem.intKind prog w) s.heap.objs.size [] := by rw [← hs₁]; exact Heap.DictOf.new s.heap
      have hl₁ : Lst s₁.heap l vs.toArray := hl.at fun o e => k₁.keep (fun q => hn (S.frF l q)) e
      have hdl : l ≠ s.heap.objs.size := Nat.ne_of_lt hl.lt
      refine wpAny_holding ?_
      refine wpAny_bind (wpAny_typeOf hl₁.1.typeIs (wpAny_bind (wpAny_typeOf hD₁.typeIs ?_)))
      refine KFB.if_not (by decide) ?_
      refine wpAny_bind (wpAny_typeOf hD₁.typeIs ?_)
      refine KFB.if_not (by decide) ?_
      have hW := Walks.list (prog := prog) (w := w) (A := c.A.in1) hA s₁.heap.objs.size l (Nat.ne_of_lt hl₁.lt) vs.toArray
      rw [show vs.toArray.size = ns.length by simp [hr.length, hnl]] at hW
      refine wpAny_bind (wpAny_pyIter_list hl₁.1 ?_)
      have k₂ : Kp c s₁ { s₁ with heap := s₁.heap.push { cls := .type "list_iterator", data := .fields #[.ref l, .int 0 0] } } := push_kp
      refine wpAny_pure ⟨G.quiet_fk_loop, ?_⟩
      have hds : s.heap.objs.size < s₁.heap.objs.size := by rw [← hs₁]; show _ < (s.heap.push _).objs.size; rw [Heap.size_push]; exact Nat.lt_succ_self _
      refine fk_loop (s := { s₁ with heap := s₁.heap.push { cls := .type "list_iterator", data := .fields #[.ref l, .int 0 0] } }) (ns := ns) hW ?_ (fun i v hv => ?_) hlen (fun s' ks hD hks kp => ?_) ns.length 0 _ [] (by simp) (Nat.zero_le _) ⟨⟨_, Heap.get?_push_size _ rfl, rfl, rfl⟩, hl₁.1.push _⟩ ?_ (by simp) (Nat.zero_le _) ⟨_, _, rfl, fun _ _ _ _ e => e⟩
      · intro q
        rcases List.mem_cons.mp q with e | q
        · exact Nat.ne_of_lt hds e
        · exact hdl (List.mem_singleton.mp q).symm
      · obtain ⟨p, hp, rp⟩ := hr.get' (by simpa using hv)
        obtain ⟨n, hn, rfl⟩ := hat i p hp
        cases rp with
        | int _ t => exact ⟨n, t, hn, rfl⟩
      · show Rep c.F s'.heap (.ref s.heap.objs.size) (.keys (ns.foldl addK [])) ∧ Kp c s s'
        have hdF : s.heap.objs.size ∉ c.F := S.newF (Nat.le_refl _)
        obtain ⟨ep, hDa⟩ := hD.dictAt
        refine ⟨.keys ⟨?_, ?_, fun prog' w' => ⟨ks, ep, dictAt_any hDa, hks⟩⟩ hdF, ?_⟩
        · obtain ⟨o, es, ep, ho, _, hd, _⟩ := hD; exact ⟨o, ho, es, ep, hd⟩
        · have h2 : cStatics < s.heap.objs.size := by
            obtain ⟨mc, ⟨o, es, ep, ho, _⟩, _⟩ := S.G.nodigits
            exact Heap.lt_size (S.gs _ _ ho)
          have h2' : @LT.lt Nat _ 2 s.heap.objs.size := h2
          show (s.heap.objs.size == (1 : Nat)) = false
          simp; omega
        · obtain ⟨h', tk', rfl, kp⟩ := kp
          have e1 : ∀ b o, s.heap.get? b = some o → s₁.heap.get? b = some o := fun b o e => by rw [← hs₁]; exact Heap.get?_push_of_some _ e
          have e2 : ∀ b o, s.heap.get? b = some o → h'.get? b = some o := fun b o e => by
            have hlt : @LT.lt Nat _ b s.heap.objs.size := Heap.lt_size e
            have hds' : @LT.lt Nat _ s.heap.objs.size s₁.heap.objs.size := hds
            refine kp b o (fun q => ?_) (fun q => ?_) (Heap.get?_push_of_some _ (e1 b o e))
            · have q' : @Eq Nat b s.heap.objs.size := q
              omega
            · have q' : @Eq Nat b s₁.heap.objs.size := List.mem_singleton.mp q
              omega
          subst hs₁
          exact Kp.keeps e2
      · obtain ⟨o, es, ep, ho, r⟩ := hD₁; exact ⟨o, es, ep, Heap.get?_push_of_some _ ho, r⟩
    · cases e
  | _ => cases e

theorem EvR.fromkeys {x : Str} {xp ap pos : Pos} {e : Expr} {f : List Slot → Option PV} (h : EvR prog w sc e f) (hh : sc.hot = false) (hx : x = "dict") (hg : x ∈ sc.globs) (hline : (ap.endLine == pos.line) = true)
    (he : ∀ env, starEach [e] env = [(false, eval e env)] := by intro _; rfl) (hbase : ∀ env, attributeBase (.Name x xp) "fromkeys" env (eval (.Name x xp) env) = eval (.Name x xp) env := by intro _; rfl) :
    EvR prog w sc (.Call (.Attribute (.Name x xp) "fromkeys" ap) [e] [] pos) (fun ρ => (f ρ).bind fkP) := by
  subst hx
  intro c ρ p s E S e'
  obtain ⟨a, ha, e'⟩ := Option.bind_eq_some_iff.mp e'
  rw [arm_eval_Call, hbase]
  refine wpAny_bind (name_blt (v := .type "dict") S hg (by decide) (by rfl) (by decide) (by decide) (wpAny_bind (wpAny_standAt ?_)))
  have hform : methodCallForm (([e] : List Expr).length + ([] : List Keyword).length) (backTo pos (starEach [e] c.env)) (backToKw pos (keywordEach [] c.env)) = true := by rw [he]; rfl
  have hpos : methodCallPos true (.Name (Str.ofString "dict") xp) c.env ap pos = pure pos := by unfold methodCallPos; simp [hline]
  unfold methodCall
  rw [hform]
  refine wpAny_bind (wpAny_holding (fk_getMethod ?_))
  refine wpAny_bind (wpAny_of_eq hpos ?_)
  have k : Kp c s { s with heap := s.heap.push boundFk, toks := s.toks + 1 } := push_kp.trans (.tok ..)
  have S₁ := S.kp k
  have hx₁ : ({ s with heap := s.heap.push boundFk, toks := s.toks + 1 } : Shared).heap.get? s.heap.objs.size = some boundFk := Heap.get?_push_size _ rfl
  have hxfr : s.heap.objs.size ∉ c.fr := fun q => S.newF (Nat.le_refl _) (S.frF _ q)
  generalize ({ s with heap := s.heap.push boundFk, toks := s.toks + 1 } : Shared) = s₁ at k S₁ hx₁ ⊢
  rw [he]
  show wpAny _ _ (callWith pos (.ref s.heap.objs.size) [] [(false, eval e c.env)] []) _ E s₁
  unfold callWith
  refine wpAny_bind (wpAny_holding (wpAny_mono (Calls.evalArgs_plain (f := .ref s.heap.objs.size) (Q := fun x s₂ => x.kw = [] ∧ ∃ v, x.pos = [v] ∧ Rep c.F s₂.heap v a ∧ Kp c s₁ s₂) (Calls.spliced_cons (wpAny_mono (h c ρ a s₁ _ S₁ ha) (fun v s₂ r => Calls.spliced_nil ⟨rfl, v, rfl, r.1, r.2⟩) fun _ _ x => x))) (fun x s₂ r => wpAny_bind (wpAny_standAt ?_)) fun _ _ x => x))
  obtain ⟨hkw, v, hpos, rv, k₂⟩ := r
  have S₂ := S₁.kp k₂
  have hx₂ := k₂.keep hxfr hx₁
  simp only [List.any_cons, List.any_nil, Bool.or_false]
  refine wpAny_bind (m := keeperOf (.ref s.heap.objs.size)) ?_
  unfold keeperOf
  refine wpAny_bind (wpAny_load hx₂ ?_)
  simp only [boundFk, show (Value.type "builtin_function_or_method" != Value.type "method") = true by decide, show (Value.type "builtin_function_or_method" == Value.type "builtin_function_or_method" || Value.type "builtin_function_or_method" == Value.type "method-wrapper") = true by decide, if_true]
  refine wpAny_pure ?_
  rw [hpos, hkw]
  exact wpAny_bind (wpAny_mono (fk_call S₂ hh hx₂ rv e') (fun r s₃ hr => wpAny_bind (wpAny_holding (wpAny_point (wpAny_pure ⟨hr.1, (k.trans k₂).trans hr.2⟩)))) fun _ _ x => x)
end
end Mine
end

section
set_option maxRecDepth 100000
namespace Mine

namespace G
theorem sub_key_lookup : isSubtype (.type "KeyError") (.type "LookupError") = pure true := by rw [isSubtype_type]; kernel_rfl
end G
section
variable {prog : Program} {w : World} {A : Around} {E : Value → Shared → Prop} {s : Shared}

theorem tableLookup_miss {d : Addr} {f : Int → Option Value} {n : Nat} {Q : Builtin.Str.Mapped → Shared → Prop} (lo : (d == sysModules) = false) (hh : A.handled = none) (hm : Heap.MapOf (PySem.intKind prog w) s.heap d f) (hf : f n = none)
    (h : ∀ h' tk, (∀ b o, s.heap.get? b = some o → h'.get? b = some o) → Q .keep { s with heap := h', toks := tk }) : wpAny (model prog w) A (Builtin.Str.tableLookup (.ref d) n) Q E s := by
  unfold Builtin.Str.tableLookup
  refine wpAny_bind (wpAny_attempt (wpAny_bind (wpAny_mkInt ?_)))
  refine wpAny_getItem_missing_of (knd := PySem.intKind prog w) (k := (n : Int)) (by show ((n : Int) == (n : Int)) = true; simp) lo hh hm hf fun h' e x => ?_
  obtain ⟨hk, hn, ob, t, he, hc, hd⟩ := x
  dsimp only
  have hT : ({ s with heap := h', toks := s.toks + 1 + 1 } : Shared).TypeIs (.ref e) "KeyError" := ⟨ob, he, hc⟩
  unfold isInstance
  refine wpAny_bind (wpAny_bind (wpAny_typeOf hT (wpAny_of_eq G.sub_key_lookup ?_)))
  rw [if_pos rfl]
  exact wpAny_bind (wpAny_rule (wpAny_pure (h _ _ hk)))

theorem translate_one {d : Addr} {f : Int → Option Value} {n : Nat} {t : Tok} {Q : Value → Shared → Prop} (lo : (d == sysModules) = false) (hh : A.handled = none) (hm : Heap.MapOf (PySem.intKind prog w) s.heap d f) (hf : f n = none) (hn : n < 128)
    (h : ∀ h' tk t', (∀ b o, s.heap.get? b = some o → h'.get? b = some o) → Q (.str (St8 [n]) t') { s with heap := h', toks := tk }) : wpAny (model prog w) A (PySem.call (.builtin "str.translate") [.str (St8 [n]) t, .ref d]) Q E s := by
  refine wpAny_call_entry F.slot_str_translate (typeIs_str _ _ _) F.entry_str_translate ?_ (F.args_str_translate_2 _ _)
  unfold Builtin.«str.translate»
  refine wpAny_bind (wpAny_of_eq (a := (.str (St8 [n]) t, St8 [n], .ref d)) (by first | rfl | kernel_rfl) ?_)
  dsimp only
  refine KFB.if_not rfl ?_
  have hall : ((#[n] : Array Nat).all fun x => decide (x < 128)) = true := by simp [hn]
  rw [hall, List.forIn_toArray, List.forIn_cons]
  refine wpAny_bind (wpAny_bind ?_)
  refine KFB.if_not (by first | rfl | decide) ?_
  dsimp only
  refine KFB.if_so rfl ?_
  refine wpAny_bind ?_
  refine tableLookup_miss lo hh hm hf fun h' tk hk => ?_
  dsimp only
  refine wpAny_bind (wpAny_pure ?_)
  dsimp only
  refine wpAny_pure ?_
  dsimp only
  rw [List.forIn_nil]
  refine wpAny_pure ?_
  dsimp only
  refine KFB.if_not (by first | rfl | decide) ?_
  unfold retStr
  refine wpAny_bind (wpAny_mkStr ?_ (by show 1 ≤ 2 ^ 24; decide))
  exact wpAny_pure ⟨_, rfl, h _ _ _ hk⟩
end

section
variable {prog : Program} {w : World} {sc : Sc}
noncomputable def transP : PV → Option PV
  | .str [n] => if n = 97 ∨ n = 98 then some (.str [n]) else none
  | _ => none
theorem EvR.translate {o : Expr} {y : Str} {yp ap pos : Pos} {fo : List Slot → Option PV} (ho : EvR prog w sc o fo) (hy : y = "_special_chars_map") (hgy : y ∈ sc.globs) (hh : sc.hot = false) (hline : (ap.endLine == pos.line) = true) (hbase : ∀ env, attributeBase o "translate" env (eval o env) = eval o env := by intro _; rfl)
    (he : ∀ env, starEach [.Name y yp] env = [(false, eval (.Name y yp) env)] := by intro _; rfl) :
    EvR prog w sc (.Call (.Attribute o "translate" ap) [.Name y yp] [] pos) (fun ρ => (fo ρ).bind transP) := by
  subst hy
  intro c ρ p s E S e'
  obtain ⟨a, ha, e'⟩ := Option.bind_eq_some_iff.mp e'
  obtain ⟨d, hd, lo, hmap⟩ := S.G.spec
  obtain ⟨f, hm, h97, h98⟩ := hmap prog w
  unfold transP at e'
  split at e'
  · rename_i n
    split at e'
    · rename_i hn
      cases e'
      refine wpAny_Call_method (hbase _) (by rw [he]; rfl) hline F.plainAttrs_str F.slot_str_translate F.type_str_translate (wpAny_mono (ho c ρ _ s E S ha) (fun v s₁ q => ?_) fun _ _ x => x)
      obtain ⟨r, k⟩ := q
      cases r with
      | str _ t =>
        refine ⟨typeIs_str _ _ _, fun a e => (by cases e), ?_⟩
        have S₁ := S.kp k
        rw [he]
        show wpAny _ _ (callWith pos (.builtin "str.translate") [.str (St8 [n]) t] [(false, eval (.Name _ yp) c.env)] []) _ E s₁
        refine Calls.callWith_builtin rfl (Calls.evalArgs_plain (Calls.spliced_cons (name_def S₁ hgy hd (by decide) (Calls.spliced_nil ?_))))
        have hm₁ : Heap.MapOf (PySem.intKind prog w) s₁.heap d f := let ⟨o, es, ep, ho, r⟩ := hm; ⟨o, es, ep, S₁.gs _ _ ho, r⟩
        exact translate_one lo (S.hand hh) hm₁ (by rcases hn with rfl | rfl <;> assumption) (by omega) fun h' tk t' hk => ⟨.str _ _, k.trans (.keeps hk)⟩
    · cases e'
  · cases e'
end
end Mine
end

section
set_option maxRecDepth 100000
namespace Mine

/-! ## static checks, decided -/
noncomputable def compOkB (scope : Scope) (sc sc' : Sc) (caps : List (Option Nat)) : Bool :=
  decide (scope.kind = .function) &&
  scope.names.all (fun x => x.2 != .local || scope.names.lookup x.1 == some .local) &&
  sc'.globs.all (fun x => scope.names.lookup x == some .globalImplicit) &&
  sc'.cells.all (fun x => scope.names.lookup x == some .cell || scope.names.lookup x == some .free) &&
  scope.names.all (fun x => x.2 != .free || sc.cells.contains x.1) &&
  decide sc'.vars.Nodup &&
  (List.range caps.length).all (fun j => match caps[j]? with
    | some (some i) => (match sc'.vars[j]? with
      | some x => sc.vars[i]? == some x && scope.names.lookup x == some .free && !scope.names.contains (x, .cell)
      | none => true)
    | _ => true) &&
  decide (sc'.lv = sc.lv) && decide (sc'.hot = sc.hot) && decide (sc'.rz = sc.rz) && decide (sc'.app = false) &&
  sc'.sto.all (fun x => scope.names.lookup x == some .local || (scope.names.lookup x == some .cell && sc'.cells.contains x)) &&
  sc'.sto.all (fun x => scope.names.all fun y => y.1 != x || y.2 != .free)

theorem compOk_of {scope : Scope} {sc sc' : Sc} {caps : List (Option Nat)} (h : compOkB scope sc sc' caps = true) : CompOk scope sc sc' caps := by
  unfold compOkB at h
  simp only [Bool.and_eq_true, List.all_eq_true, decide_eq_true_eq] at h
  obtain ⟨⟨⟨⟨⟨⟨⟨⟨⟨⟨⟨⟨h1, h2⟩, h3⟩, h4⟩, h5⟩, h6⟩, h7⟩, h8⟩, h9⟩, h10⟩, h11⟩, h12⟩, h13⟩ := h
  refine ⟨h1, fun x hx hl => ?_, fun x hx => ?_, fun x hx => ?_, fun x hx hf => ?_, h6, fun j i hc x hx => ?_, h8, h9, h10, h11, fun x hx => ?_, fun x hx k hk => ?_⟩
  · have := h2 x hx; rw [hl] at this; simpa using this
  · simpa using h3 x hx
  · simpa using h4 x hx
  · have := h5 x hx; rw [hf] at this; simpa using this
  · have hj : j < caps.length := (List.getElem?_eq_some_iff.mp hc).1
    have := h7 j (List.mem_range.mpr hj)
    rw [hc] at this
    simp only [hx] at this
    simpa [and_assoc] using this
  · simpa using h12 x hx
  · have := h13 x hx (x, k) hk
    intro e; subst e; simp at this

noncomputable def fnOkB (d : DefRec) (sc' : Sc) (names : List Str) : Bool :=
  decide (d.scope.kind = .function) && !d.scope.isCoroutine && !d.scope.isGenerator &&
  names.isPrefixOf sc'.vars &&
  names.all (fun x => d.scope.names.lookup x == some .local || d.scope.names.lookup x == some .cell) &&
  decide names.Nodup &&
  sc'.cells.all (fun x => d.scope.names.lookup x == some .cell) &&
  sc'.globs.all (fun x => d.scope.names.lookup x == some .globalImplicit) &&
  sc'.sto.all (fun x => d.scope.names.lookup x == some .local || (d.scope.names.lookup x == some .cell && sc'.cells.contains x)) &&
  decide sc'.vars.Nodup && !sc'.hot
theorem fnOk_of {d : DefRec} {sc' : Sc} {names : List Str} {xv : List Bool} (h : fnOkB d sc' names = true)
    (bind : ∀ (kV doc pm : Value) (an : Option Addr) (cdv ct : Value) (vals : List Value) (s : Shared), (d.params.kwonlyargs = [] ∧ kV = .none ∨ ∃ k, kV = .ref k ∧ ∃ mk, s.heap.Ns k mk ∧ mk "unhashable_fallback" = some (.bool false)) → vals.length + xv.length = names.length →
    BindsTo s (fnOf d.name d.name d.params d.body d.scope .none kV doc pm an cdv ct) ⟨vals, []⟩ (names.zip (vals ++ xv.map .bool))) : FnOk d sc' names xv := by
  unfold fnOkB at h
  simp only [Bool.and_eq_true, List.all_eq_true, decide_eq_true_eq, Bool.not_eq_true'] at h
  obtain ⟨⟨⟨⟨⟨⟨⟨⟨⟨⟨h1, h2⟩, h3⟩, h4⟩, h5⟩, h6⟩, h7⟩, h8⟩, h9⟩, h10⟩, h11⟩ := h
  refine ⟨h1, h2, h3, fun i x hx => ?_, fun x hx => by simpa using h5 x hx, h6, fun x hx => by simpa using h7 x hx, fun x hx => by simpa using h8 x hx, fun x hx => by simpa using h9 x hx, h10, h11, bind⟩
  obtain ⟨t, ht⟩ := List.isPrefixOf_iff_prefix.mp h4
  rw [← ht, List.getElem?_append_left (List.getElem?_eq_some_iff.mp hx).1]
  exact hx

/-! ## no exception goes out -/
noncomputable def noExc (f : List Slot → Option (Out × List Slot)) (ρ : List Slot) : Option (Out × List Slot) := (f ρ).bind fun | (.exc _ _, _) => none | r => some r
theorem noExc_spec {f : List Slot → Option (Out × List Slot)} (ρ : List Slot) (X : String) (ctx : Bool) (ρ' : List Slot) : noExc f ρ ≠ some (.exc X ctx, ρ') := by
  unfold noExc
  intro e
  obtain ⟨⟨o, ρ₁⟩, _, e⟩ := Option.bind_eq_some_iff.mp e
  cases o <;> cases e
theorem ExR.noExc {prog : Program} {w : World} {sc : Sc} {ss : List Stmt} {f : List Slot → Option (Out × List Slot)} (h : ExR prog w sc ss f) : ExR prog w sc ss (Mine.noExc f) := by
  intro c ρ ρ' out s h1 S e
  obtain ⟨⟨o, ρ₁⟩, hf, e⟩ := Option.bind_eq_some_iff.mp e
  cases o <;> cases e <;> exact h c ρ _ _ s h1 S hf
theorem ok_noErr {f : List Slot → Option Bool} (ρ : List Slot) (X : String) : (f ρ).map (Except.ok (ε := String)) ≠ some (.error X) := by
  intro e
  obtain ⟨b, _, e⟩ := Option.map_eq_some_iff.mp e
  cases e

noncomputable def dAt (n : Nat) : DefRec := (allDefs[n]?).getD ⟨"", ⟨[], [], none, [], [], none, []⟩, [], PySem.Challenge.pw_rt0015_01.main.scope, ⟨0, 0, 0, 0⟩⟩
theorem dAt_mem {n : Nat} (h : n < 14) : dAt n ∈ allDefs := by
  have hl : allDefs.length = 14 := by rfl
  have : allDefs[n]? = some (dAt n) := by
    unfold dAt
    rw [List.getElem?_eq_getElem (by omega)]; rfl
  exact List.mem_of_getElem? this

noncomputable def subP : PV → PV → Option PV
  | .int a, .int b => some (.int (a - b))
  | _, _ => none
theorem bin_sub {prog : Program} {w : World} : BinOk prog w .Sub subP := by
  intro c s E v₁ v₂ p₁ p₂ p _ r₁ r₂ e
  unfold subP at e
  split at e
  · obtain ⟨t, rfl⟩ := r₁.inv_int
    obtain ⟨u, rfl⟩ := r₂.inv_int
    cases e
    exact sub_int ⟨.int .., .tok ..⟩
  · cases e
theorem ExS.assignC {prog : Program} {w : World} {sc : Sc} {x : Str} {elt : Expr} {gens : List Comprehension} {scope : Scope} {cp p pos : Pos} {f : List Slot → Option PV} {i : Nat} (h : EvR prog w sc (.ListComp elt gens scope cp) f) (hi : sc.vars[i]? = some x) (hx : x ∈ sc.sto) (hc : x ∈ sc.cells) :
    ExS prog w sc (.Assign [.Name x p] (.ListComp elt gens scope cp) pos) (fun ρ => (f ρ).map fun p => (.next, ρ.set i (.val p))) := by
  intro c ρ ρ' out s h1 S e'
  obtain ⟨q, hq, e'⟩ := Option.map_eq_some_iff.mp e'
  cases e'
  have hs : swapsWith (.ListComp elt gens scope cp) (some (.Name x p)) pos.line c.env = pure false := by
    unfold swapsWith
    show (pure _ : Sem Bool) = _
    congr 1
    have hk : (c.env.kindOf x == some NameKind.local) = false := by
      rcases (S.st.cells x hc).1 with h | h <;> rw [h] <;> decide
    rw [hk]; simp
  refine wpAny_Assign_Name (wpAny_mono (h c ρ q s _ S.st hq) (fun v s₁ r => ?_) fun _ _ x => x) hs
  refine storeF h1 (S.kp r.2) hi hx (.inr (.inl ⟨q, rfl, r.1⟩)) fun s' S' k' _ => ⟨c.F, .refl _ _, S', (KpF.of r.2 S.st.frF).trans (F' := c.F) (.refl _ _) k', trivial⟩
theorem exc_IndexError : isSubtype (.type "IndexError") (.type "BaseException") = pure true ∧ isSubtype (.type ((Manifest.find? "IndexError").elim "type" fun x => x.metatype)) (.type "tuple") = pure false ∧ isSubtype (.type "IndexError") (.type "IndexError") = pure true :=
  ⟨F.isExc_IndexError, F.notTuple_IndexError, by rw [isSubtype_type]; kernel_rfl⟩
theorem exc_ValueError : isSubtype (.type "ValueError") (.type "BaseException") = pure true ∧ isSubtype (.type ((Manifest.find? "ValueError").elim "type" fun x => x.metatype)) (.type "tuple") = pure false ∧ isSubtype (.type "ValueError") (.type "ValueError") = pure true :=
  ⟨F.isExc_ValueError, F.notTuple_ValueError, by rw [isSubtype_type]; kernel_rfl⟩
theorem exc_TypeError : isSubtype (.type "TypeError") (.type "BaseException") = pure true ∧ isSubtype (.type ((Manifest.find? "TypeError").elim "type" fun x => x.metatype)) (.type "tuple") = pure false ∧ isSubtype (.type "TypeError") (.type "TypeError") = pure true :=
  ⟨F.isExc_TypeError, F.notTuple_TypeError, by rw [isSubtype_type]; kernel_rfl⟩
theorem swapped2 {env : Env} {x y : Str} {p₁ p₂ tp vp cp ep : Pos} {k k' kc : Nat} {i : Int} {fe : Expr} {args : List Expr} {kws : List Keyword} (h1 : env.blockKind = .function) (h2 : env.kindOf x = some .local) (h3 : env.kindOf y = some .local)
    (hl : p₂.line = p₁.line) (hd : [x, y].eraseDups.length = 2) (hf : [.Constant (.int i) kc cp, .Call fe args kws ep].all (foldedForSure 8) = false) (hc : [.Constant (.int i) kc cp, .Call fe args kws ep].all (constantsAlone 8) = false) :
    swappedStores [.Tuple [.Name x p₁, .Name y p₂] k tp] (.Tuple [.Constant (.int i) kc cp, .Call fe args kws ep] k' vp) env = pure (some [x, y]) := by
  unfold swappedStores
  have e1 : (Expr.Name x p₁).pos.line = p₁.line := rfl
  simp only [h1, h2, h3, hl, e1, List.filterMap_cons, List.filterMap_nil, List.head?_cons, Option.map_some, Option.getD_some, hf, hc, beq_self_eq_true, Bool.and_self, if_true, hd, List.length_cons, List.length_nil]
  rfl
end Mine
end

section
set_option maxRecDepth 100000
namespace Mine

noncomputable def sc10 : Sc := { vars := ["pattern", "other"], globs := ["range"], cells := ["other", "pattern"], sto := ["pattern", "other"], lv := 1 }
noncomputable def den10 : { f : List Slot → Option (Out × List Slot) // ∀ prog w, ExR prog w sc10 (dAt 10).body f } := by
  apply Subtype.mk
  · intro prog w
    change ExR prog w sc10 (_ :: _) _
    exact (ExR.cons (ExS.ret (EvR.join ((EvR.comp (compOk_of (sc := sc10) (sc' := { vars := ["k", "pattern", "other"], globs := [], cells := ["pattern", "other"], sto := ["k"], lv := sc10.lv }) (caps := [none, some 0, some 1]) (by decide)) (IterR.range1 EvR.int rfl rfl (by decide)) (fun _ _ _ => compTurn_emit rfl rfl) (BdR.tests0 (BdR.emit (EvR.ifexp (TsR.cmp cmp_eq ((EvR.sub (EvB.name (i := 1) rfl (by decide) (by decide)) (EvR.name (i := 0) rfl (by decide) (by decide)))).b (EvR.str).b) (EvR.sub (EvB.name (i := 2) rfl (by decide) (by decide)) (EvR.name (i := 0) rfl (by decide) (by decide))) (EvR.sub (EvB.name (i := 1) rfl (by decide) (by decide)) (EvR.name (i := 0) rfl (by decide) (by decide)))))) (i := 0) rfl (by decide))).b rfl)) ExR.nil)

theorem ok10 : FnOk (dAt 10) sc10 ["pattern", "other"] [] := fnOk_of (by decide) fun kV doc pm an cdv ct vals s hk hl => by
  match vals, hl with
  | [a, b], _ => exact .of_eq rfl

noncomputable def sc7 : Sc := { vars := ["unhashable_params", "new_unhashable", "t"], globs := [], cells := [], sto := ["unhashable_params", "new_unhashable", "t"], lv := 1 }
noncomputable def den7 : { f : List Slot → Option (Out × List Slot) // ∀ prog w, ExR prog w sc7 (dAt 7).body f } := by
  apply Subtype.mk
  · intro prog w
    change ExR prog w sc7 (_ :: _) _
    exact (ExR.cons (ExS.assignF (i := 1) EvF.nil rfl (by decide)) (ExR.cons (ExS.for (IterR.val (EvR.name (i := 0) rfl (by decide) (by decide)) rfl) (AsR.name (i := 2) rfl (by decide)) (ExR.cons (ExS.iff (TsR.cmp cmp_nin (EvB.name (i := 2) rfl (by decide) (by decide)) (EvB.name (i := 1) rfl (by decide) (by decide))) (ExR.cons (ExS.append (i := 1) (EvR.name (i := 2) rfl (by decide) (by decide)) rfl (by decide) (by decide) rfl) ExR.nil) ExR.nil) ExR.nil) rfl) (ExR.cons (ExS.frz 1 (x := "new_unhashable") rfl (ExS.ret (EvR.name (i := 1) rfl (by decide) (by decide)))) ExR.nil)))

theorem ok7 : FnOk (dAt 7) sc7 ["unhashable_params"] [] := fnOk_of (by decide) fun kV doc pm an cdv ct vals s hk hl => by
  match vals, hl with
  | [a], _ => exact .of_eq rfl

noncomputable def sc3 : Sc := { vars := ["pattern"], globs := ["isinstance", "str", "_special_chars_map"], cells := [], sto := ["pattern"], lv := 1 }
noncomputable def den3 : { f : List Slot → Option (Out × List Slot) // ∀ prog w, ExR prog w sc3 (dAt 3).body f } := by
  apply Subtype.mk
  · intro prog w
    change ExR prog w sc3 (_ :: _) _
    exact (ExR.cons (ExS.iff (TsR.value ((EvR.isStr (EvR.name (i := 0) rfl (by decide) (by decide)) rfl (by decide) rfl (by decide))).b) (ExR.cons (ExS.ret (EvR.translate (EvR.name (i := 0) rfl (by decide) (by decide)) rfl (by decide) rfl rfl)) ExR.nil) ExR.dead) ExR.nil)

theorem ok3 : FnOk (dAt 3) sc3 ["pattern"] [] := fnOk_of (by decide) fun kV doc pm an cdv ct vals s hk hl => by
  match vals, hl with
  | [a], _ => exact .of_eq rfl

end Mine
end

section
set_option maxRecDepth 100000
set_option maxHeartbeats 4000000
namespace Mine

noncomputable def sc1 : Sc := { vars := ["expected", "actual", "missing", "item"], globs := ["ValueError"], cells := [], sto := ["expected", "actual", "missing", "item"], lv := 1 }
noncomputable def den1 : { f : List Slot → Option (Out × List Slot) // ∀ prog w, ExR prog w sc1 (dAt 1).body f } := by
  apply Subtype.mk
  · intro prog w
    change ExR prog w sc1 (_ :: _) _
    exact (ExR.cons (ExS.assignF (i := 2) EvF.nil rfl (by decide)) (ExR.cons (ExS.while 40 (TsR.x (TsR.value (EvB.name (i := 0) rfl (by decide) (by decide)))) (ExR.cons (ExS.assignPop (i := 0) (j := 3) rfl rfl (by decide) (by decide) (by decide) (by decide) rfl) (ExR.cons (ExS.tryE (ExR.cons (ExS.remove (i := 1) (EvR.name (i := 3) rfl (by decide) (by decide)) rfl (by decide) (by decide) rfl rfl) ExR.nil) (ExR.cons (ExS.append (i := 2) (EvR.name (i := 3) rfl (by decide) (by decide)) rfl (by decide) (by decide) rfl) ExR.nil) rfl rfl (by decide) (by decide) rfl (by decide) (by decide) exc_ValueError.1 exc_ValueError.2.1 exc_ValueError.2.2) ExR.nil)) (.inl rfl) (.inl rfl)) (ExR.cons (ExS.frz 1 (x := "actual") rfl (ExS.frz 2 (x := "missing") rfl (ExS.ret (EvR.tuple (EvRs.cons (EvR.name (i := 2) rfl (by decide) (by decide)) (EvRs.cons (EvR.name (i := 1) rfl (by decide) (by decide)) EvRs.nil)))))) ExR.nil)))

theorem ok1 : FnOk (dAt 1) sc1 ["expected", "actual"] [] := fnOk_of (by decide) fun kV doc pm an cdv ct vals s hk hl => by
  match vals, hl with
  | [a, b], _ => exact .of_eq rfl

noncomputable def sc9 : Sc := { vars := ["text", "rows", "sign"], globs := [], cells := ["sign"], sto := ["text", "rows", "sign"], lv := 1 }
noncomputable def den9 : { f : List Slot → Option (Out × List Slot) // ∀ prog w, ExR prog w sc9 (dAt 9).body f } := by
  apply Subtype.mk
  · intro prog w
    change ExR prog w sc9 (_ :: _) _
    exact (ExR.cons (ExS.iff (TsR.or2 (TsR.cmp cmp_ne ((EvR.slice (EvB.name (i := 0) rfl (by decide) (by decide)) PtR.none (PtR.some EvR.int) PtR.none)).b (EvR.str).b) (TsR.cmp cmp_ne ((EvR.slice (EvB.name (i := 0) rfl (by decide) (by decide)) (PtR.some (EvR.neg EvR.int)) PtR.none PtR.none)).b (EvR.str).b)) (ExR.cons (ExS.ret (EvR.list EvRs.nil)) ExR.nil) ExR.nil) (ExR.cons (ExS.assign (i := 1) (EvR.list (EvRs.cons EvR.str EvRs.nil)) rfl (by decide)) (ExR.cons (ExS.for (IterR.val (EvR.slice (EvB.name (i := 0) rfl (by decide) (by decide)) (PtR.some EvR.int) (PtR.some (EvR.neg EvR.int)) PtR.none) rfl) (AsR.name (i := 2) rfl (by decide)) (ExR.cons (ExS.assignComp (compOk_of (sc := sc9) (sc' := { vars := ["row", "other", "sign"], globs := [], cells := ["sign"], sto := ["row", "other"], lv := sc9.lv }) (caps := [none, none, some 2]) (by decide)) (IterR.val (EvR.name (i := 1) rfl (by decide) (by decide)) rfl) (fun _ _ _ => compTurn_nest rfl rfl) (BdR.tests0 (BdR.nest rfl (IterR.val (EvR.ifexp (TsR.cmp cmp_eq (EvB.name (i := 2) rfl (by decide) (by decide)) (EvR.str).b) EvR.str (EvR.name (i := 2) rfl (by decide) (by decide))) rfl) (fun _ _ _ => compTurn_emit rfl rfl) (BdR.tests0 (BdR.emit (EvR.bin bin_add (EvR.name (i := 0) rfl (by decide) (by decide)) (EvR.name (i := 1) rfl (by decide) (by decide))))) (i := 1) rfl (by decide))) (i := 0) rfl (by decide) (j := 1) rfl (by decide) (by decide) rfl (by decide)) ExR.nil) rfl) (ExR.cons (ExS.ret (EvR.name (i := 1) rfl (by decide) (by decide))) ExR.nil))))

theorem ok9 : FnOk (dAt 9) sc9 ["text"] [] := fnOk_of (by decide) fun kV doc pm an cdv ct vals s hk hl => by
  match vals, hl with
  | [a], _ => exact .of_eq rfl

noncomputable def sc12 : Sc := { vars := ["order", "gates", "ends", "k"], globs := ["list", "range", "len"], cells := ["gates", "order", "k"], sto := ["order", "gates", "ends", "k"], lv := 1 }
noncomputable def forBody : Stmt → List Stmt
  | .For _ _ ss _ _ => ss
  | _ => []
noncomputable def den12b : { f : List Slot → Option (Out × List Slot) // ∀ prog w, ExR prog w sc12 (forBody (((dAt 12).body[1]?).getD (.Pass ⟨0, 0, 0, 0⟩))) f } := by
  apply Subtype.mk
  · intro prog w
    change ExR prog w sc12 (_ :: _) _
    exact (ExR.cons (ExS.assignComp (compOk_of (sc := sc12) (sc' := { vars := ["spot", "gates", "order", "k"], globs := [], cells := ["gates", "order", "k"], sto := ["spot"], lv := sc12.lv }) (caps := [none, some 1, some 0, some 3]) (by decide)) (IterR.val (EvR.name (i := 2) rfl (by decide) (by decide)) rfl) (fun _ _ _ => compTurn_emit rfl rfl) (BdR.tests0 (BdR.emit (EvR.sub ((EvR.sub (EvB.name (i := 1) rfl (by decide) (by decide)) (EvR.sub (EvB.name (i := 2) rfl (by decide) (by decide)) (EvR.name (i := 3) rfl (by decide) (by decide))))).b (EvR.name (i := 0) rfl (by decide) (by decide))))) (i := 0) rfl (by decide) (j := 2) rfl (by decide) (by decide) rfl (by decide)) ExR.nil)
noncomputable def den12 : { f : List Slot → Option (Out × List Slot) // ∀ prog w, ExR prog w sc12 (dAt 12).body f } := by
  apply Subtype.mk
  · intro prog w
    change ExR prog w sc12 (_ :: _) _
    exact (ExR.cons (ExS.assign (i := 2) (EvR.listRange EvR.int rfl rfl (by decide) rfl (by decide)) rfl (by decide)) (ExR.cons (ExS.for (IterR.range3 (EvR.bin bin_sub (EvR.blt1 blt_len (EvB.name (i := 0) rfl (by decide) (by decide)) rfl (by decide) (by decide) (by decide) (by decide)) EvR.int) (EvR.neg EvR.int) (EvR.neg EvR.int) rfl rfl (by decide)) (AsR.name (i := 3) rfl (by decide)) (den12b.2 prog w) rfl) (ExR.cons (ExS.ret (EvR.name (i := 2) rfl (by decide) (by decide))) ExR.nil)))

theorem ok12 : FnOk (dAt 12) sc12 ["order", "gates"] [] := fnOk_of (by decide) fun kV doc pm an cdv ct vals s hk hl => by
  match vals, hl with
  | [a, b], _ => exact .of_eq rfl

end Mine
end

section
set_option maxRecDepth 100000
namespace Mine

theorem wpAny_ifF {M : Model} {A : Around} {α : Type} {E : Value → Shared → Prop} {Q : α → Shared → Prop} {s : Shared} {b : Bool} {x y : Sem α} (h : b = false) (hy : wpAny M A y Q E s) : wpAny M A (if b = true then x else y) Q E s := by
  subst h; exact hy
theorem wpAny_ifT {M : Model} {A : Around} {α : Type} {E : Value → Shared → Prop} {Q : α → Shared → Prop} {s : Shared} {b : Bool} {x y : Sem α} (h : b = true) (hy : wpAny M A x Q E s) : wpAny M A (if b = true then x else y) Q E s := by
  subst h; exact hy
noncomputable def sc6 : Sc := { vars := ["params", "unhashable_fallback"], globs := ["dict", "TypeError", "_deduplicate_unhashable"], cells := [], sto := ["params", "unhashable_fallback"], lv := 1 }
theorem ok6 : FnOk (dAt 6) sc6 ["params", "unhashable_fallback"] [false] := fnOk_of (by decide) fun kV doc pm an cdv ct vals s hk hl => by
  match vals, hl with
  | [a], _ =>
    rcases hk with ⟨h, _⟩ | ⟨k, rfl, mk, hm, hv⟩
    · cases h
    · intro M A E Q hq
      unfold bindArgs
      refine wpAny_bind (wpAny_of_eq rfl ?_)
      refine wpAny_bind (wpAny_of_eq (a := none) rfl ?_)
      refine wpAny_ifF rfl ?_
      refine wpAny_ifF rfl ?_
      refine wpAny_bind (wpAny_of_eq rfl ?_)
      refine wpAny_bind ?_
      refine wpAny_bind ?_
      refine wpAny_ifT rfl ?_
      refine wpAny_bind (wpAny_nsGet hm ?_)
      rw [hv]
      refine wpAny_pure (wpAny_pure ?_)
      exact wpAny_of_eq rfl hq
end Mine
end

section
set_option maxRecDepth 100000
namespace Mine

noncomputable def sc5 : Sc := { vars := ["inp", "STAR", "res", "add", "i", "n", "fixed"], globs := ["len"], cells := [], sto := ["inp", "STAR", "res", "add", "i", "n", "fixed"], lv := 2, app := true }
noncomputable def den5 : { f : List Slot → Option (Out × List Slot) // ∀ prog w, ExR prog w sc5 (dAt 5).body f } := by
  apply Subtype.mk
  · intro prog w
    change ExR prog w sc5 (_ :: _) _
    exact (ExR.cons (ExS.assignF (i := 2) EvF.nil rfl (by decide)) (ExR.cons (ExS.bindApp (i := 2) (j := 3) rfl rfl (by decide) (by decide) rfl (by decide) (by decide)) (ExR.cons (ExS.assignT2 (i := 4) (j := 5) (EvRs.cons EvR.int (EvRs.cons (EvR.blt1 blt_len (EvB.name (i := 0) rfl (by decide) (by decide)) rfl (by decide) (by decide) (by decide) (by decide)) EvRs.nil)) rfl (by decide) rfl (by decide) (by decide) (by decide) rfl (fun env h1 h2 h3 => swapped2 h1 h2 h3 rfl (by decide) rfl rfl)) (ExR.cons (ExS.while 20 (TsR.x (TsR.and2 (TsR.cmp cmp_lt (EvB.name (i := 4) rfl (by decide) (by decide)) (EvB.name (i := 5) rfl (by decide) (by decide))) (TsR.cmp cmp_isnt ((EvR.sub (EvB.name (i := 0) rfl (by decide) (by decide)) (EvR.name (i := 4) rfl (by decide) (by decide)))).b (EvB.name (i := 1) rfl (by decide) (by decide))))) (ExR.noExc (ExR.cons (ExS.callApp (j := 3) (EvR.sub (EvB.name (i := 0) rfl (by decide) (by decide)) (EvR.name (i := 4) rfl (by decide) (by decide))) rfl (by decide) (by decide)) (ExR.cons (ExS.aug (i := 4) EvR.int rfl (by decide) (by decide)) ExR.nil))) (.inr ok_noErr) (.inr noExc_spec)) (ExR.cons (ExS.while 20 (TsR.x (TsR.cmp cmp_lt (EvB.name (i := 4) rfl (by decide) (by decide)) (EvB.name (i := 5) rfl (by decide) (by decide)))) ExR.dead (.inr ok_noErr) (.inr (fun _ _ _ _ h => nomatch h))) (ExR.cons (ExS.assert (TsR.cmp cmp_eq (EvB.name (i := 4) rfl (by decide) (by decide)) (EvB.name (i := 5) rfl (by decide) (by decide)))) (ExR.cons (ExS.frz 2 (x := "res") rfl (ExS.assign (i := 2) (EvR.join (EvB.name (i := 2) rfl (by decide) (by decide)) rfl) rfl (by decide))) (ExR.cons (ExS.frz 2 (x := "res") rfl (ExS.ret (EvR.fstr (EvR.name (i := 2) rfl (by decide) (by decide))))) ExR.nil))))))))

theorem ok5 : FnOk (dAt 5) sc5 ["inp", "STAR"] [] := fnOk_of (by decide) fun kV doc pm an cdv ct vals s hk hl => by
  match vals, hl with
  | [a, b], _ => exact .of_eq rfl

noncomputable def sc4 : Sc := { vars := ["pat", "STAR", "QUESTION_MARK", "res", "add", "i", "n", "c", "j", "stuff", "chunks", "k", "chunk"], globs := ["len", "range", "escape"], cells := [], sto := ["pat", "STAR", "QUESTION_MARK", "res", "add", "i", "n", "c", "j", "stuff", "chunks", "k", "chunk"], lv := 2, app := true }
noncomputable def den4 : { f : List Slot → Option (Out × List Slot) // ∀ prog w, ExR prog w sc4 (dAt 4).body f } := by
  apply Subtype.mk
  · intro prog w
    change ExR prog w sc4 (_ :: _) _
    exact (ExR.cons (ExS.assignF (i := 3) EvF.nil rfl (by decide)) (ExR.cons (ExS.bindApp (i := 3) (j := 4) rfl rfl (by decide) (by decide) rfl (by decide) (by decide)) (ExR.cons (ExS.assignT2 (i := 5) (j := 6) (EvRs.cons EvR.int (EvRs.cons (EvR.blt1 blt_len (EvB.name (i := 0) rfl (by decide) (by decide)) rfl (by decide) (by decide) (by decide) (by decide)) EvRs.nil)) rfl (by decide) rfl (by decide) (by decide) (by decide) rfl (fun env h1 h2 h3 => swapped2 h1 h2 h3 rfl (by decide) rfl rfl)) (ExR.cons (ExS.while 20 (TsR.x (TsR.cmp cmp_lt (EvB.name (i := 5) rfl (by decide) (by decide)) (EvB.name (i := 6) rfl (by decide) (by decide)))) (ExR.noExc (ExR.cons (ExS.assign (i := 7) (EvR.sub (EvB.name (i := 0) rfl (by decide) (by decide)) (EvR.name (i := 5) rfl (by decide) (by decide))) rfl (by decide)) (ExR.cons (ExS.assign (i := 5) (EvR.bin bin_add (EvR.name (i := 5) rfl (by decide) (by decide)) EvR.int) rfl (by decide)) (ExR.cons (ExS.iff (TsR.cmp cmp_eq (EvB.name (i := 7) rfl (by decide) (by decide)) (EvR.str).b) ExR.dead (ExR.cons (ExS.iff (TsR.cmp cmp_eq (EvB.name (i := 7) rfl (by decide) (by decide)) (EvR.str).b) (ExR.cons (ExS.callApp (j := 4) (EvR.name (i := 2) rfl (by decide) (by decide)) rfl (by decide) (by decide)) ExR.nil) (ExR.cons (ExS.iff (TsR.cmp cmp_eq (EvB.name (i := 7) rfl (by decide) (by decide)) (EvR.str).b) ExR.dead (ExR.cons (ExS.callApp (j := 4) (EvR.call (dAt_mem (n := 3) (by decide)) rfl (by decide) (by decide) ok3 (den3.2 prog w) (EvAs.val (EvR.name (i := 7) rfl (by decide) (by decide)) EvAs.nil) rfl (by decide)) rfl (by decide) (by decide)) ExR.nil)) ExR.nil)) ExR.nil)) ExR.nil)))) (.inr ok_noErr) (.inr noExc_spec)) (ExR.cons (ExS.assert (TsR.cmp cmp_eq (EvB.name (i := 5) rfl (by decide) (by decide)) (EvB.name (i := 6) rfl (by decide) (by decide)))) (ExR.cons (ExS.frz 3 (x := "res") rfl (ExS.ret (EvR.name (i := 3) rfl (by decide) (by decide)))) ExR.nil))))))

theorem ok4 : FnOk (dAt 4) sc4 ["pat", "STAR", "QUESTION_MARK"] [] := fnOk_of (by decide) fun kV doc pm an cdv ct vals s hk hl => by
  match vals, hl with
  | [a, b, c], _ => exact .of_eq rfl

end Mine
end

section
set_option maxRecDepth 100000
namespace Mine

noncomputable def sc2 : Sc := { vars := ["pat", "STAR", "parts"], globs := ["object", "_translate", "_join_translated_parts"], cells := [], sto := ["pat", "STAR", "parts"], lv := 3 }
noncomputable def den2 : { f : List Slot → Option (Out × List Slot) // ∀ prog w, ExR prog w sc2 (dAt 2).body f } := by
  apply Subtype.mk
  · intro prog w
    change ExR prog w sc2 (_ :: _) _
    exact (ExR.cons (ExS.assign (i := 1) (EvR.object rfl (by decide)) rfl (by decide)) (ExR.cons (ExS.assign (i := 2) (EvR.call (dAt_mem (n := 4) (by decide)) rfl (by decide) (by decide) ok4 (den4.2 prog w) (EvAs.val (EvR.name (i := 0) rfl (by decide) (by decide)) (EvAs.val (EvR.name (i := 1) rfl (by decide) (by decide)) (EvAs.val EvR.str EvAs.nil))) rfl (by decide)) rfl (by decide)) (ExR.cons (ExS.ret (EvR.call (dAt_mem (n := 5) (by decide)) rfl (by decide) (by decide) ok5 (den5.2 prog w) (EvAs.val (EvR.name (i := 2) rfl (by decide) (by decide)) (EvAs.val (EvR.name (i := 1) rfl (by decide) (by decide)) EvAs.nil)) rfl (by decide))) ExR.nil)))

theorem ok2 : FnOk (dAt 2) sc2 ["pat"] [] := fnOk_of (by decide) fun kV doc pm an cdv ct vals s hk hl => by
  match vals, hl with
  | [a], _ => exact .of_eq rfl

end Mine
end

section
set_option maxRecDepth 100000
namespace Mine

noncomputable def sc0 : Sc := { vars := ["expected", "actual", "i", "j", "missing", "unexpected", "e", "a"], globs := ["IndexError"], cells := [], sto := ["expected", "actual", "i", "j", "missing", "unexpected", "e", "a"], lv := 1 }
noncomputable def den0 : { f : List Slot → Option (Out × List Slot) // ∀ prog w, ExR prog w sc0 (dAt 0).body f } := by
  apply Subtype.mk
  · intro prog w
    change ExR prog w sc0 (_ :: _) _
    exact (ExR.cons (ExS.assign2 (i := 2) (j := 3) EvR.int rfl (by decide) rfl (by decide)) (ExR.cons (ExS.assignF (i := 4) EvF.nil rfl (by decide)) (ExR.cons (ExS.assignF (i := 5) EvF.nil rfl (by decide)) (ExR.cons (ExS.while 40 (TsR.x (TsR.value (EvR.bool).b)) (ExR.cons (ExS.tryE (ExR.cons (ExS.assignX (i := 6) (EvX.sub (EvB.name (i := 0) rfl (by decide) (by decide)) (EvR.name (i := 2) rfl (by decide) (by decide)) (fun h => nomatch h)) rfl (by decide)) (ExR.cons (ExS.assignX (i := 7) (EvX.sub (EvB.name (i := 1) rfl (by decide) (by decide)) (EvR.name (i := 3) rfl (by decide) (by decide)) (fun h => nomatch h)) rfl (by decide)) (ExR.cons (ExS.iff (TsR.cmp cmp_lt (EvB.name (i := 6) rfl (by decide) (by decide)) (EvB.name (i := 7) rfl (by decide) (by decide))) (ExR.cons (ExS.append (i := 4) (EvR.name (i := 6) rfl (by decide) (by decide)) rfl (by decide) (by decide) rfl) (ExR.cons (ExS.aug (i := 2) EvR.int rfl (by decide) (by decide)) (ExR.cons (ExS.while 40 (TsX.cmp cmp_eq (EvX.sub (EvB.name (i := 0) rfl (by decide) (by decide)) (EvR.name (i := 2) rfl (by decide) (by decide)) (fun h => nomatch h)) (EvB.name (i := 6) rfl (by decide) (by decide))) (ExR.cons (ExS.aug (i := 2) EvR.int rfl (by decide) (by decide)) ExR.nil) (.inl rfl) (.inl rfl)) ExR.nil))) (ExR.cons (ExS.iff (TsR.cmp cmp_gt (EvB.name (i := 6) rfl (by decide) (by decide)) (EvB.name (i := 7) rfl (by decide) (by decide))) (ExR.cons (ExS.append (i := 5) (EvR.name (i := 7) rfl (by decide) (by decide)) rfl (by decide) (by decide) rfl) (ExR.cons (ExS.aug (i := 3) EvR.int rfl (by decide) (by decide)) (ExR.cons (ExS.while 40 (TsX.cmp cmp_eq (EvX.sub (EvB.name (i := 1) rfl (by decide) (by decide)) (EvR.name (i := 3) rfl (by decide) (by decide)) (fun h => nomatch h)) (EvB.name (i := 7) rfl (by decide) (by decide))) (ExR.cons (ExS.aug (i := 3) EvR.int rfl (by decide) (by decide)) ExR.nil) (.inl rfl) (.inl rfl)) ExR.nil))) (ExR.cons (ExS.aug (i := 2) EvR.int rfl (by decide) (by decide)) (ExR.cons (ExS.tryF (ExR.cons (ExS.while 40 (TsX.cmp cmp_eq (EvX.sub (EvB.name (i := 0) rfl (by decide) (by decide)) (EvR.name (i := 2) rfl (by decide) (by decide)) (fun h => nomatch h)) (EvB.name (i := 6) rfl (by decide) (by decide))) (ExR.cons (ExS.aug (i := 2) EvR.int rfl (by decide) (by decide)) ExR.nil) (.inl rfl) (.inl rfl)) ExR.nil) (ExR.cons (ExS.aug (i := 3) EvR.int rfl (by decide) (by decide)) (ExR.cons (ExS.while 40 (TsX.cmp cmp_eq (EvX.sub (EvB.name (i := 1) rfl (by decide) (by decide)) (EvR.name (i := 3) rfl (by decide) (by decide)) (fun h => nomatch h)) (EvB.name (i := 7) rfl (by decide) (by decide))) (ExR.cons (ExS.aug (i := 3) EvR.int rfl (by decide) (by decide)) ExR.nil) (.inl rfl) (.inl rfl)) ExR.nil)) (ExR.cons (ExS.aug (i := 3) EvR.int rfl (by decide) (by decide)) (ExR.cons (ExS.while 40 (TsX.cmp cmp_eq (EvX.sub (EvB.name (i := 1) rfl (by decide) (by decide)) (EvR.name (i := 3) rfl (by decide) (by decide)) (fun _ => rfl)) (EvB.name (i := 7) rfl (by decide) (by decide))) (ExR.cons (ExS.aug (i := 3) EvR.int rfl (by decide) (by decide)) ExR.nil) (.inl rfl) (.inl rfl)) ExR.nil)) rfl rfl) ExR.nil))) ExR.nil)) ExR.nil))) (ExR.cons (ExS.extend (i := 4) (EvF.slice (EvB.name (i := 0) rfl (by decide) (by decide)) (PtR.some (EvR.name (i := 2) rfl (by decide) (by decide))) PtR.none PtR.none) rfl (by decide) (by decide) rfl) (ExR.cons (ExS.extend (i := 5) (EvF.slice (EvB.name (i := 1) rfl (by decide) (by decide)) (PtR.some (EvR.name (i := 3) rfl (by decide) (by decide))) PtR.none PtR.none) rfl (by decide) (by decide) rfl) (ExR.cons ExS.brk ExR.nil))) rfl rfl (by decide) (by decide) rfl (by decide) (by decide) exc_IndexError.1 exc_IndexError.2.1 exc_IndexError.2.2) ExR.nil) (.inl rfl) (.inl rfl)) (ExR.cons (ExS.frz 5 (x := "unexpected") rfl (ExS.frz 4 (x := "missing") rfl (ExS.ret (EvR.tuple (EvRs.cons (EvR.name (i := 4) rfl (by decide) (by decide)) (EvRs.cons (EvR.name (i := 5) rfl (by decide) (by decide)) EvRs.nil)))))) ExR.nil)))))

theorem ok0 : FnOk (dAt 0) sc0 ["expected", "actual"] [] := fnOk_of (by decide) fun kV doc pm an cdv ct vals s hk hl => by
  match vals, hl with
  | [a, b], _ => exact .of_eq rfl

end Mine
end

section
set_option maxRecDepth 100000
namespace Mine

noncomputable def sc8 : Sc := { vars := ["first_args", "second_args", "first_unhashable", "second_unhashable", "t", "elem"], globs := ["_deduplicate_unhashable", "list", "ValueError"], cells := [], sto := ["first_args", "second_args", "first_unhashable", "second_unhashable", "t", "elem"], lv := 2 }
noncomputable def den8 : { f : List Slot → Option (Out × List Slot) // ∀ prog w, ExR prog w sc8 (dAt 8).body f } := by
  apply Subtype.mk
  · intro prog w
    change ExR prog w sc8 (_ :: _) _
    exact (ExR.cons (ExS.assign (i := 2) (EvR.call (dAt_mem (n := 7) (by decide)) rfl (by decide) (by decide) ok7 (den7.2 prog w) (EvAs.val (EvR.name (i := 0) rfl (by decide) (by decide)) EvAs.nil) rfl (by decide)) rfl (by decide)) (ExR.cons (ExS.assign (i := 3) (EvR.call (dAt_mem (n := 7) (by decide)) rfl (by decide) (by decide) ok7 (den7.2 prog w) (EvAs.val (EvR.name (i := 1) rfl (by decide) (by decide)) EvAs.nil) rfl (by decide)) rfl (by decide)) (ExR.cons (ExS.assignF (i := 4) (EvF.copy (EvB.name (i := 3) rfl (by decide) (by decide)) rfl (by decide)) rfl (by decide)) (ExR.cons (ExS.tryE (ExR.cons (ExS.for (IterR.val (EvR.name (i := 2) rfl (by decide) (by decide)) rfl) (AsR.name (i := 5) rfl (by decide)) (ExR.cons (ExS.remove (i := 4) (EvR.name (i := 5) rfl (by decide) (by decide)) rfl (by decide) (by decide) rfl rfl) ExR.nil) rfl) ExR.nil) (ExR.cons (ExS.ret EvR.bool) ExR.nil) rfl rfl (by decide) (by decide) rfl (by decide) (by decide) exc_ValueError.1 exc_ValueError.2.1 exc_ValueError.2.2) (ExR.cons (ExS.ret (EvR.not (EvB.name (i := 4) rfl (by decide) (by decide)))) ExR.nil)))))

theorem ok8 : FnOk (dAt 8) sc8 ["first_args", "second_args"] [] := fnOk_of (by decide) fun kV doc pm an cdv ct vals s hk hl => by
  match vals, hl with
  | [a, b], _ => exact .of_eq rfl

noncomputable def den6 : { f : List Slot → Option (Out × List Slot) // ∀ prog w, ExR prog w sc6 (dAt 6).body f } := by
  apply Subtype.mk
  · intro prog w
    change ExR prog w sc6 (_ :: _) _
    exact (ExR.cons (ExS.tryE (ExR.cons (ExS.ret (EvR.fromkeys (EvR.name (i := 0) rfl (by decide) (by decide)) rfl rfl (by decide) rfl)) ExR.nil) ExR.dead rfl rfl (by decide) (by decide) rfl (by decide) (by decide) exc_TypeError.1 exc_TypeError.2.1 exc_TypeError.2.2) ExR.nil)


end Mine
end

section
set_option maxRecDepth 100000
namespace Mine

noncomputable def sc11 : Sc := { vars := ["spots", "codes", "gate", "code", "far", "near"], globs := ["range", "len"], cells := ["code", "codes", "spots", "far"], sto := ["spots", "codes", "gate", "code", "far", "near"], lv := 2 }
noncomputable def den11 : { f : List Slot → Option (Out × List Slot) // ∀ prog w, ExR prog w sc11 (dAt 11).body f } := by
  apply Subtype.mk
  · intro prog w
    change ExR prog w sc11 (_ :: _) _
    exact (ExR.cons (ExS.assignF (i := 2) EvF.nil rfl (by decide)) (ExR.cons (ExS.for (IterR.val (EvR.name (i := 1) rfl (by decide) (by decide)) rfl) (AsR.name (i := 3) rfl (by decide)) (ExR.cons (ExS.assignC (i := 4) (EvR.comp (compOk_of (sc := sc11) (sc' := { vars := ["k", "code", "codes"], globs := ["len", "unorderable_list_difference", "list"], cells := ["code", "codes"], sto := ["k"], lv := sc11.lv }) (caps := [none, some 3, some 1]) (by decide)) (IterR.val (EvR.name (i := 0) rfl (by decide) (by decide)) rfl) (fun _ _ _ => compTurn_emit rfl rfl) (BdR.tests0 (BdR.emit (EvR.blt1 blt_len ((EvR.sub ((EvR.call (dAt_mem (n := 1) (by decide)) rfl (by decide) (by decide) ok1 (den1.2 prog w) (EvAs.own (EvF.copy (EvB.name (i := 1) rfl (by decide) (by decide)) rfl (by decide)) (EvAs.own (EvF.copy ((EvR.sub (EvB.name (i := 2) rfl (by decide) (by decide)) (EvR.name (i := 0) rfl (by decide) (by decide)))).b rfl (by decide)) EvAs.nil)) rfl (by decide))).b EvR.int)).b rfl (by decide) (by decide) (by decide) (by decide)))) (i := 0) rfl (by decide)) rfl (by decide) (by decide)) (ExR.cons (ExS.assignComp (compOk_of (sc := sc11) (sc' := { vars := ["j", "spots", "far"], globs := ["min"], cells := ["spots", "far"], sto := ["j"], lv := sc11.lv }) (caps := [none, some 0, some 4]) (by decide)) (IterR.range1 (EvR.blt1 blt_len (EvB.name (i := 0) rfl (by decide) (by decide)) rfl (by decide) (by decide) (by decide) (by decide)) rfl rfl (by decide)) (fun _ _ _ => compTurn_emit rfl rfl) (BdR.tests1 (TsR.cmp cmp_eq ((EvR.sub (EvB.name (i := 2) rfl (by decide) (by decide)) (EvR.name (i := 0) rfl (by decide) (by decide)))).b ((EvR.blt1 (blt_min rfl) (EvB.name (i := 2) rfl (by decide) (by decide)) rfl (by decide) (by decide) (by decide) (by decide))).b) (BdR.emit (EvR.sub (EvB.name (i := 1) rfl (by decide) (by decide)) (EvR.name (i := 0) rfl (by decide) (by decide))))) (i := 0) rfl (by decide) (j := 5) rfl (by decide) (by decide) rfl (by decide)) (ExR.cons (ExS.append (i := 2) (EvR.ifexp (TsR.cmp cmp_eq ((EvR.blt1 blt_len (EvB.name (i := 5) rfl (by decide) (by decide)) rfl (by decide) (by decide) (by decide) (by decide))).b (EvR.int).b) (EvR.sub (EvB.name (i := 5) rfl (by decide) (by decide)) EvR.int) (EvR.neg EvR.int)) rfl (by decide) (by decide) rfl) ExR.nil))) rfl) (ExR.cons (ExS.frz 2 (x := "gate") rfl (ExS.ret (EvR.name (i := 2) rfl (by decide) (by decide)))) ExR.nil)))

theorem ok11 : FnOk (dAt 11) sc11 ["spots", "codes"] [] := fnOk_of (by decide) fun kV doc pm an cdv ct vals s hk hl => by
  match vals, hl with
  | [a, b], _ => exact .of_eq rfl

end Mine
end

section
set_option maxRecDepth 100000
namespace Mine
section
variable {prog : Program} {w : World} {sc : Sc}
theorem EvR.tup2 {a b : Int} {k₁ k₂ k : Nat} {p₁ p₂ p : Pos} : EvR prog w sc (.Tuple [.Constant (.int a) k₁ p₁, .Constant (.int b) k₂ p₂] k p) (fun _ => some (.tup [.int a, .int b])) :=
  EvR.tuple (EvRs.cons EvR.int (EvRs.cons EvR.int EvRs.nil))
theorem EvR.tup3 {a b c : Int} {k₁ k₂ k₃ k : Nat} {p₁ p₂ p₃ p : Pos} : EvR prog w sc (.Tuple [.Constant (.int a) k₁ p₁, .Constant (.int b) k₂ p₂, .Constant (.int c) k₃ p₃] k p) (fun _ => some (.tup [.int a, .int b, .int c])) :=
  EvR.tuple (EvRs.cons EvR.int (EvRs.cons EvR.int (EvRs.cons EvR.int EvRs.nil)))
theorem star_tuple {es r : List Expr} {k : Nat} {p : Pos} {env : Env} : starEach (.Tuple es k p :: r) env = (false, eval (.Tuple es k p) env) :: starEach r env := by
  rw [starEach]
  intro e q h; cases h

/-! ## the judgements, shut: the elaborator does not look behind them -/
structure XR (prog : Program) (w : World) (sc : Sc) (ss : List Stmt) (f : List Slot → Option (Out × List Slot)) : Prop where
  h : ExR prog w sc ss f
structure XS (prog : Program) (w : World) (sc : Sc) (st : Stmt) (f : List Slot → Option (Out × List Slot)) : Prop where
  h : ExS prog w sc st f
structure XI (prog : Program) (w : World) (sc : Sc) (e : Expr) (f : List Slot → Option (List PV)) : Prop where
  h : IterR prog w sc e f
structure XEs (prog : Program) (w : World) (sc : Sc) (es : List Expr) (f : List Slot → Option (List PV)) : Prop where
  h : EvRs prog w sc es f
theorem XR.nil : XR prog w sc [] (fun ρ => some (.next, ρ)) := ⟨ExR.nil⟩
theorem XR.cons {st : Stmt} {rest : List Stmt} {f g : List Slot → Option (Out × List Slot)} (h : XS prog w sc st f) (hr : XR prog w sc rest g) : XR prog w sc (st :: rest) (seqP f g) := ⟨ExR.cons h.h hr.h⟩
theorem XS.for {target iter : Expr} {ss : List Stmt} {pos : Pos} {fi : List Slot → Option (List PV)} {g : PV → List Slot → Option (List Slot)} {f : List Slot → Option (Out × List Slot)} (hit : XI prog w sc iter fi) (hg : AsR prog w sc target g) (h : ExR prog w sc ss f) (na : sc.app = false)
    (hs : ∀ env x, foldedSetIterable iter env x = pure x := by intro _ _; rfl) :
    XS prog w sc (.For target iter ss [] pos) (fun ρ => (fi ρ).bind fun ps => forP g f ps ρ) := ⟨ExS.for hit.h hg h na hs⟩
theorem XI.tuple {es : List Expr} {k : Nat} {pos : Pos} {g : List Slot → Option (List PV)} (h : XEs prog w sc es g) (hh : sc.hot = false) : XI prog w sc (.Tuple es k pos) (fun ρ => ((g ρ).bind fun xs => if xs.length ≤ 1000000 then some (.tup xs) else none).bind itemsOf) :=
  ⟨IterR.val (EvR.tuple h.h) hh⟩
theorem XEs.nil : XEs prog w sc [] (fun _ => some []) := ⟨EvRs.nil⟩
theorem XEs.tup2 {a b : Int} {k₁ k₂ k : Nat} {p₁ p₂ p : Pos} {es : List Expr} {g : List Slot → Option (List PV)} (h : XEs prog w sc es g) : XEs prog w sc (.Tuple [.Constant (.int a) k₁ p₁, .Constant (.int b) k₂ p₂] k p :: es) (fun ρ => (g ρ).map fun r => .tup [.int a, .int b] :: r) :=
  ⟨EvRs.cons EvR.tup2 h.h fun _ => star_tuple⟩
theorem XEs.tup3 {a b c : Int} {k₁ k₂ k₃ k : Nat} {p₁ p₂ p₃ p : Pos} {es : List Expr} {g : List Slot → Option (List PV)} (h : XEs prog w sc es g) : XEs prog w sc (.Tuple [.Constant (.int a) k₁ p₁, .Constant (.int b) k₂ p₂, .Constant (.int c) k₃ p₃] k p :: es) (fun ρ => (g ρ).map fun r => .tup [.int a, .int b, .int c] :: r) :=
  ⟨EvRs.cons EvR.tup3 h.h fun _ => star_tuple⟩
end
end Mine
end

section
set_option maxRecDepth 100000
set_option maxHeartbeats 4000000
namespace Mine

noncomputable def sc13 : Sc := { vars := ["script", "draws", "patterns", "names", "codes", "spots", "gates", "pattern", "taken", "rests", "order", "filled", "friends", "one", "other", "shared", "walk"], globs := ["range", "_law_names", "translate", "_law_gate", "_law_fill", "list", "_deduplicate", "_law_ends", "len", "_compare_args_orderless", "sorted_list_difference"], cells := ["script", "taken", "names", "pattern", "spots", "rests", "draws"], sto := ["script", "draws", "patterns", "names", "codes", "spots", "gates", "pattern", "taken", "rests", "order", "filled", "friends", "one", "other", "shared", "walk"], lv := 4 }
noncomputable def lawAt (n : Nat) : Stmt := ((dAt 13).body[n]?).getD (.Pass ⟨0, 0, 0, 0⟩)
noncomputable def law0 : { f : List Slot → Option (Out × List Slot) // ∀ prog w, XS prog w sc13 (lawAt 0) f } := by
  apply Subtype.mk
  · intro prog w
    change XS prog w sc13 (.Assign _ _ _) _
    exact (XS.mk (ExS.assignC (i := 1) (EvR.comp (compOk_of (sc := sc13) (sc' := { vars := ["k", "script"], globs := ["abs", "sum"], cells := ["script"], sto := ["k"], lv := sc13.lv }) (caps := [none, some 0]) (by decide)) (IterR.range1 EvR.int rfl rfl (by decide)) (fun _ _ _ => compTurn_emit rfl rfl) (BdR.tests0 (BdR.emit (EvR.bin bin_add (EvR.blt1 blt_abs ((EvR.blt1 (blt_sum rfl) ((EvR.slice (EvB.name (i := 1) rfl (by decide) (by decide)) (PtR.some (EvR.name (i := 0) rfl (by decide) (by decide))) PtR.none (PtR.some EvR.int))).b rfl (by decide) (by decide) (by decide) (by decide))).b rfl (by decide) (by decide) (by decide) (by decide)) (EvR.sub ((EvR.tuple (EvRs.cons EvR.int (EvRs.cons EvR.int (EvRs.cons EvR.int (EvRs.cons EvR.int EvRs.nil)))))).b (EvR.name (i := 0) rfl (by decide) (by decide)))))) (i := 0) rfl (by decide)) rfl (by decide) (by decide)))
noncomputable def law1 : { f : List Slot → Option (Out × List Slot) // ∀ prog w, XS prog w sc13 (lawAt 1) f } := by
  apply Subtype.mk
  · intro prog w
    change XS prog w sc13 (.Assign _ _ _) _
    exact (XS.mk (ExS.assignComp (compOk_of (sc := sc13) (sc' := { vars := ["x"], globs := ["range"], cells := ["x"], sto := ["x"], lv := sc13.lv }) (caps := [none]) (by decide)) (IterR.val (EvR.slice (EvB.name (i := 1) rfl (by decide) (by decide)) PtR.none (PtR.some EvR.int) PtR.none) rfl) (fun _ _ _ => compTurn_emit rfl rfl) (BdR.tests0 (BdR.emit (EvR.join ((EvR.comp (compOk_of (sc := { vars := ["x"], globs := ["range"], cells := ["x"], sto := ["x"], lv := sc13.lv }) (sc' := { vars := ["j", "x"], globs := [], cells := ["x"], sto := ["j"], lv := sc13.lv }) (caps := [none, some 0]) (by decide)) (IterR.range1 EvR.int rfl rfl (by decide)) (fun _ _ _ => compTurn_emit rfl rfl) (BdR.tests0 (BdR.emit (EvR.sub (EvR.str).b (EvR.bin bin_fmod (EvR.bin bin_fdiv (EvR.bin bin_fmod (EvR.name (i := 1) rfl (by decide) (by decide)) EvR.int) (EvR.bin bin_pow EvR.int (EvR.name (i := 0) rfl (by decide) (by decide)))) EvR.int)))) (i := 0) rfl (by decide))).b rfl))) (i := 0) rfl (by decide) (j := 2) rfl (by decide) (by decide) rfl (by decide)))
noncomputable def law2 : { f : List Slot → Option (Out × List Slot) // ∀ prog w, XS prog w sc13 (lawAt 2) f } := by
  apply Subtype.mk
  · intro prog w
    change XS prog w sc13 (.Assign _ _ _) _
    exact (XS.mk (ExS.assignC (i := 3) (EvR.comp (compOk_of (sc := sc13) (sc' := { vars := ["x", "y", "z"], globs := [], cells := [], sto := ["x", "y", "z"], lv := sc13.lv }) (caps := [none, none, none]) (by decide)) (IterR.val EvR.str rfl) (fun _ _ _ => compTurn_nest rfl rfl) (BdR.tests0 (BdR.nest rfl (IterR.val EvR.str rfl) (fun _ _ _ => compTurn_nest rfl rfl) (BdR.tests0 (BdR.nest rfl (IterR.val EvR.str rfl) (fun _ _ _ => compTurn_emit rfl rfl) (BdR.tests0 (BdR.emit (EvR.bin bin_add (EvR.bin bin_add (EvR.name (i := 0) rfl (by decide) (by decide)) (EvR.name (i := 1) rfl (by decide) (by decide))) (EvR.name (i := 2) rfl (by decide) (by decide))))) (i := 2) rfl (by decide))) (i := 1) rfl (by decide))) (i := 0) rfl (by decide)) rfl (by decide) (by decide)))
noncomputable def law3 : { f : List Slot → Option (Out × List Slot) // ∀ prog w, XS prog w sc13 (lawAt 3) f } := by
  apply Subtype.mk
  · intro prog w
    change XS prog w sc13 (.Assign _ _ _) _
    exact (XS.mk (ExS.assignComp (compOk_of (sc := sc13) (sc' := { vars := ["name"], globs := ["range"], cells := ["name"], sto := ["name"], lv := sc13.lv }) (caps := [none]) (by decide)) (IterR.val (EvR.name (i := 3) rfl (by decide) (by decide)) rfl) (fun _ _ _ => compTurn_emit rfl rfl) (BdR.tests0 (BdR.emit (EvR.comp (compOk_of (sc := { vars := ["name"], globs := ["range"], cells := ["name"], sto := ["name"], lv := sc13.lv }) (sc' := { vars := ["k", "name"], globs := [], cells := ["name"], sto := ["k"], lv := sc13.lv }) (caps := [none, some 0]) (by decide)) (IterR.range1 EvR.int rfl rfl (by decide)) (fun _ _ _ => compTurn_emit rfl rfl) (BdR.tests0 (BdR.emit (EvR.bin bin_add (EvR.bin bin_mul EvR.int (EvR.name (i := 0) rfl (by decide) (by decide))) (EvR.sindex EvR.str (EvR.sub (EvB.name (i := 1) rfl (by decide) (by decide)) (EvR.name (i := 0) rfl (by decide) (by decide))) rfl)))) (i := 0) rfl (by decide)))) (i := 0) rfl (by decide) (j := 4) rfl (by decide) (by decide) rfl (by decide)))
noncomputable def law4 : { f : List Slot → Option (Out × List Slot) // ∀ prog w, XS prog w sc13 (lawAt 4) f } := by
  apply Subtype.mk
  · intro prog w
    change XS prog w sc13 (.Assign _ _ _) _
    exact (XS.mk (ExS.assignF (i := 5) EvF.nil rfl (by decide)))
noncomputable def law5 : { f : List Slot → Option (Out × List Slot) // ∀ prog w, XS prog w sc13 (lawAt 5) f } := by
  apply Subtype.mk
  · intro prog w
    change XS prog w sc13 (.Assign _ _ _) _
    exact (XS.mk (ExS.assignF (i := 6) EvF.nil rfl (by decide)))
noncomputable def law6b : { f : List Slot → Option (Out × List Slot) // ∀ prog w, ExR prog w sc13 (forBody (lawAt 6)) f } := by
  apply Subtype.mk
  · intro prog w
    change ExR prog w sc13 (_ :: _) _
    exact (ExR.cons (ExS.assign (i := 8) (EvR.call (dAt_mem (n := 9) (by decide)) rfl (by decide) (by decide) ok9 (den9.2 prog w) (EvAs.val (EvR.call (dAt_mem (n := 2) (by decide)) rfl (by decide) (by decide) ok2 (den2.2 prog w) (EvAs.val (EvR.name (i := 7) rfl (by decide) (by decide)) EvAs.nil) rfl (by decide)) EvAs.nil) rfl (by decide)) rfl (by decide)) (ExR.cons (ExS.append (i := 5) (EvR.comp (compOk_of (sc := sc13) (sc' := { vars := ["k", "names", "taken"], globs := [], cells := ["names", "taken"], sto := ["k"], lv := sc13.lv }) (caps := [none, some 3, some 8]) (by decide)) (IterR.range1 EvR.int rfl rfl (by decide)) (fun _ _ _ => compTurn_emit rfl rfl) (BdR.tests1 (TsR.cmp cmp_in ((EvR.sub (EvB.name (i := 1) rfl (by decide) (by decide)) (EvR.name (i := 0) rfl (by decide) (by decide)))).b (EvB.name (i := 2) rfl (by decide) (by decide))) (BdR.emit (EvR.name (i := 0) rfl (by decide) (by decide)))) (i := 0) rfl (by decide)) rfl (by decide) (by decide) rfl) (ExR.cons (ExS.append (i := 6) (EvR.call (dAt_mem (n := 11) (by decide)) rfl (by decide) (by decide) ok11 (den11.2 prog w) (EvAs.val (EvR.sub (EvB.name (i := 5) rfl (by decide) (by decide)) (EvR.neg EvR.int)) (EvAs.val (EvR.name (i := 4) rfl (by decide) (by decide)) EvAs.nil)) rfl (by decide)) rfl (by decide) (by decide) rfl) (ExR.cons (ExS.iff (TsR.cmp cmp_ne ((EvR.sub (EvB.name (i := 6) rfl (by decide) (by decide)) (EvR.neg EvR.int))).b ((EvR.comp (compOk_of (sc := sc13) (sc' := { vars := ["name", "names", "pattern"], globs := ["_law_fill"], cells := ["names", "pattern"], sto := ["name"], lv := sc13.lv }) (caps := [none, some 3, some 7]) (by decide)) (IterR.val (EvR.name (i := 3) rfl (by decide) (by decide)) rfl) (fun _ _ _ => compTurn_emit rfl rfl) (BdR.tests0 (BdR.emit (EvR.lindex (EvB.name (i := 1) rfl (by decide) (by decide)) (EvR.call (dAt_mem (n := 10) (by decide)) rfl (by decide) (by decide) ok10 (den10.2 prog w) (EvAs.val (EvR.name (i := 2) rfl (by decide) (by decide)) (EvAs.val (EvR.name (i := 0) rfl (by decide) (by decide)) EvAs.nil)) rfl (by decide)) rfl))) (i := 0) rfl (by decide))).b) (ExR.cons (ExS.ret EvR.bool) ExR.nil) ExR.nil) ExR.nil))))
noncomputable def law6 : { f : List Slot → Option (Out × List Slot) // ∀ prog w, XS prog w sc13 (lawAt 6) f } := by
  apply Subtype.mk
  · intro prog w
    change XS prog w sc13 (.For _ _ _ _ _) _
    exact (XS.for ⟨(IterR.val (EvR.name (i := 2) rfl (by decide) (by decide)) rfl)⟩ (AsR.name (i := 7) rfl (by decide)) (law6b.2 prog w) rfl)
noncomputable def law7 : { f : List Slot → Option (Out × List Slot) // ∀ prog w, XS prog w sc13 (lawAt 7) f } := by
  apply Subtype.mk
  · intro prog w
    change XS prog w sc13 (.Assign _ _ _) _
    exact (XS.mk (ExS.assignF (i := 9) EvF.nil rfl (by decide)))
noncomputable def law8b : { f : List Slot → Option (Out × List Slot) // ∀ prog w, ExR prog w sc13 (forBody (lawAt 8)) f } := by
  apply Subtype.mk
  · intro prog w
    change ExR prog w sc13 (_ :: _) _
    exact (ExR.cons (ExS.assign (i := 11) (EvR.call (dAt_mem (n := 10) (by decide)) rfl (by decide) (by decide) ok10 (den10.2 prog w) (EvAs.val (EvR.call (dAt_mem (n := 10) (by decide)) rfl (by decide) (by decide) ok10 (den10.2 prog w) (EvAs.val (EvR.sub (EvB.name (i := 2) rfl (by decide) (by decide)) (EvR.sub (EvB.name (i := 10) rfl (by decide) (by decide)) EvR.int)) (EvAs.val (EvR.sub (EvB.name (i := 2) rfl (by decide) (by decide)) (EvR.sub (EvB.name (i := 10) rfl (by decide) (by decide)) EvR.int)) EvAs.nil)) rfl (by decide)) (EvAs.val (EvR.sub (EvB.name (i := 2) rfl (by decide) (by decide)) (EvR.sub (EvB.name (i := 10) rfl (by decide) (by decide)) EvR.int)) EvAs.nil)) rfl (by decide)) rfl (by decide)) (ExR.cons (ExS.frz 6 (x := "gates") rfl (ExS.append (i := 9) (EvR.listKeys (EvR.call (dAt_mem (n := 6) (by decide)) rfl (by decide) (by decide) ok6 (den6.2 prog w) (EvAs.val (EvR.call (dAt_mem (n := 12) (by decide)) rfl (by decide) (by decide) ok12 (den12.2 prog w) (EvAs.val (EvR.name (i := 10) rfl (by decide) (by decide)) (EvAs.val (EvR.name (i := 6) rfl (by decide) (by decide)) EvAs.nil)) rfl (by decide)) EvAs.nil) rfl (by decide)) rfl rfl (by decide)) rfl (by decide) (by decide) rfl)) (ExR.cons (ExS.assign (i := 8) (EvR.call (dAt_mem (n := 9) (by decide)) rfl (by decide) (by decide) ok9 (den9.2 prog w) (EvAs.val (EvR.call (dAt_mem (n := 2) (by decide)) rfl (by decide) (by decide) ok2 (den2.2 prog w) (EvAs.val (EvR.name (i := 11) rfl (by decide) (by decide)) EvAs.nil) rfl (by decide)) EvAs.nil) rfl (by decide)) rfl (by decide)) (ExR.cons (ExS.iff (TsR.or2 (TsR.cmp cmp_ne ((EvR.blt1 blt_len ((EvR.sub (EvB.name (i := 9) rfl (by decide) (by decide)) (EvR.neg EvR.int))).b rfl (by decide) (by decide) (by decide) (by decide))).b ((EvR.blt1 blt_len (EvB.name (i := 8) rfl (by decide) (by decide)) rfl (by decide) (by decide) (by decide) (by decide))).b) (TsR.cmp cmp_isnt ((EvR.call (dAt_mem (n := 8) (by decide)) rfl (by decide) (by decide) ok8 (den8.2 prog w) (EvAs.val (EvR.comp (compOk_of (sc := sc13) (sc' := { vars := ["k", "names"], globs := [], cells := ["names"], sto := ["k"], lv := sc13.lv }) (caps := [none, some 3]) (by decide)) (IterR.val (EvR.sub (EvB.name (i := 9) rfl (by decide) (by decide)) (EvR.neg EvR.int)) rfl) (fun _ _ _ => compTurn_emit rfl rfl) (BdR.tests0 (BdR.emit (EvR.sub (EvB.name (i := 1) rfl (by decide) (by decide)) (EvR.name (i := 0) rfl (by decide) (by decide))))) (i := 0) rfl (by decide)) (EvAs.val (EvR.name (i := 8) rfl (by decide) (by decide)) EvAs.nil)) rfl (by decide))).b (EvR.bool).b)) (ExR.cons (ExS.ret EvR.bool) ExR.nil) ExR.nil) ExR.nil))))
noncomputable def law8 : { f : List Slot → Option (Out × List Slot) // ∀ prog w, XS prog w sc13 (lawAt 8) f } := by
  apply Subtype.mk
  · intro prog w
    change XS prog w sc13 (.For _ _ _ _ _) _
    exact (XS.for (XI.tuple (XEs.tup3 (XEs.tup3 (XEs.tup3 (XEs.tup3 (XEs.tup3 (XEs.tup3 XEs.nil)))))) rfl) (AsR.name (i := 10) rfl (by decide)) (law8b.2 prog w) rfl)
noncomputable def law9 : { f : List Slot → Option (Out × List Slot) // ∀ prog w, XS prog w sc13 (lawAt 9) f } := by
  apply Subtype.mk
  · intro prog w
    change XS prog w sc13 (.Assign _ _ _) _
    exact (XS.mk (ExS.assign (i := 12) EvR.bool rfl (by decide)))
noncomputable def law10b : { f : List Slot → Option (Out × List Slot) // ∀ prog w, ExR prog w sc13 (forBody (lawAt 10)) f } := by
  apply Subtype.mk
  · intro prog w
    change ExR prog w sc13 (_ :: _) _
    exact (ExR.cons (ExS.iff (TsR.cmp cmp_eq ((EvR.sub ((EvR.call (dAt_mem (n := 0) (by decide)) rfl (by decide) (by decide) ok0 (den0.2 prog w) (EvAs.val (EvR.sub (EvB.name (i := 5) rfl (by decide) (by decide)) (EvR.name (i := 13) rfl (by decide) (by decide))) (EvAs.val (EvR.sub (EvB.name (i := 5) rfl (by decide) (by decide)) (EvR.name (i := 14) rfl (by decide) (by decide))) EvAs.nil)) rfl (by decide))).b EvR.int)).b ((EvR.sub (EvB.name (i := 5) rfl (by decide) (by decide)) (EvR.name (i := 13) rfl (by decide) (by decide)))).b) (ExR.cons (ExS.assign (i := 12) EvR.bool rfl (by decide)) ExR.nil) ExR.nil) ExR.nil)
noncomputable def law10 : { f : List Slot → Option (Out × List Slot) // ∀ prog w, XS prog w sc13 (lawAt 10) f } := by
  apply Subtype.mk
  · intro prog w
    change XS prog w sc13 (.For _ _ _ _ _) _
    exact (XS.for (XI.tuple (XEs.tup2 (XEs.tup2 (XEs.tup2 XEs.nil))) rfl) (AsR.tuple2 (i := 13) (j := 14) rfl (by decide) rfl (by decide) rfl) (law10b.2 prog w) rfl)
noncomputable def law11 : { f : List Slot → Option (Out × List Slot) // ∀ prog w, XS prog w sc13 (lawAt 11) f } := by
  apply Subtype.mk
  · intro prog w
    change XS prog w sc13 (.Assign _ _ _) _
    exact (XS.mk (ExS.frz 5 (x := "spots") rfl (ExS.assignComp (compOk_of (sc := sc13) (sc' := { vars := ["k", "spots"], globs := [], cells := ["spots"], sto := ["k"], lv := sc13.lv }) (caps := [none, some 5]) (by decide)) (IterR.val (EvR.sub (EvB.name (i := 5) rfl (by decide) (by decide)) EvR.int) rfl) (fun _ _ _ => compTurn_emit rfl rfl) (BdR.tests1 (TsR.and2 (TsR.cmp cmp_in (EvB.name (i := 0) rfl (by decide) (by decide)) ((EvR.sub (EvB.name (i := 1) rfl (by decide) (by decide)) EvR.int)).b) (TsR.cmp cmp_in (EvB.name (i := 0) rfl (by decide) (by decide)) ((EvR.sub (EvB.name (i := 1) rfl (by decide) (by decide)) EvR.int)).b)) (BdR.emit (EvR.name (i := 0) rfl (by decide) (by decide)))) (i := 0) rfl (by decide) (j := 15) rfl (by decide) (by decide) rfl (by decide))))
noncomputable def law12 : { f : List Slot → Option (Out × List Slot) // ∀ prog w, XS prog w sc13 (lawAt 12) f } := by
  apply Subtype.mk
  · intro prog w
    change XS prog w sc13 (.If _ _ _ _) _
    exact (XS.mk (ExS.frz 9 (x := "rests") rfl (ExS.iff (TsR.or2 (TsR.cmp cmp_ne (EvB.name (i := 12) rfl (by decide) (by decide)) ((EvR.cmp cmp_ne (EvB.name (i := 15) rfl (by decide) (by decide)) ((EvR.list EvRs.nil)).b)).b) (TsR.cmp cmp_ne (EvB.name (i := 12) rfl (by decide) (by decide)) ((EvR.cmp cmp_eq ((EvR.comp (compOk_of (sc := sc13) (sc' := { vars := ["rest", "rests"], globs := ["_compare_args_orderless"], cells := ["rests"], sto := ["rest"], lv := sc13.lv }) (caps := [none, some 9]) (by decide)) (IterR.val (EvR.name (i := 9) rfl (by decide) (by decide)) rfl) (fun _ _ _ => compTurn_emit rfl rfl) (BdR.tests0 (BdR.emit (EvR.call (dAt_mem (n := 8) (by decide)) rfl (by decide) (by decide) ok8 (den8.2 prog w) (EvAs.val (EvR.sub (EvB.name (i := 1) rfl (by decide) (by decide)) EvR.int) (EvAs.val (EvR.name (i := 0) rfl (by decide) (by decide)) EvAs.nil)) rfl (by decide)))) (i := 0) rfl (by decide))).b ((EvR.mulList rfl (EvRs.cons EvR.bool EvRs.nil) EvR.int)).b)).b)) (ExR.cons (ExS.ret EvR.bool) ExR.nil) ExR.nil)))
noncomputable def law13 : { f : List Slot → Option (Out × List Slot) // ∀ prog w, XS prog w sc13 (lawAt 13) f } := by
  apply Subtype.mk
  · intro prog w
    change XS prog w sc13 (.If _ _ _ _) _
    exact (XS.mk (ExS.iff (TsR.and2 (TsR.value (EvB.name (i := 12) rfl (by decide) (by decide))) (TsR.cmp cmp_isnt ((EvR.call (dAt_mem (n := 8) (by decide)) rfl (by decide) (by decide) ok8 (den8.2 prog w) (EvAs.val (EvR.name (i := 15) rfl (by decide) (by decide)) (EvAs.val (EvR.sub (EvB.name (i := 9) rfl (by decide) (by decide)) EvR.int) EvAs.nil)) rfl (by decide))).b (EvR.bool).b)) (ExR.cons (ExS.ret EvR.bool) ExR.nil) ExR.nil))
noncomputable def law14 : { f : List Slot → Option (Out × List Slot) // ∀ prog w, XS prog w sc13 (lawAt 14) f } := by
  apply Subtype.mk
  · intro prog w
    change XS prog w sc13 (.Assign _ _ _) _
    exact (XS.mk (ExS.assignComp (compOk_of (sc := sc13) (sc' := { vars := ["j", "draws"], globs := [], cells := ["draws"], sto := ["j"], lv := sc13.lv }) (caps := [none, some 1]) (by decide)) (IterR.range1 EvR.int rfl rfl (by decide)) (fun _ _ _ => compTurn_emit rfl rfl) (BdR.tests0 (BdR.emit (EvR.bin bin_fmod (EvR.bin bin_fdiv (EvR.sub (EvB.name (i := 1) rfl (by decide) (by decide)) EvR.int) (EvR.bin bin_pow EvR.int (EvR.name (i := 0) rfl (by decide) (by decide)))) EvR.int))) (i := 0) rfl (by decide) (j := 16) rfl (by decide) (by decide) rfl (by decide)))
noncomputable def law15 : { f : List Slot → Option (Out × List Slot) // ∀ prog w, XS prog w sc13 (lawAt 15) f } := by
  apply Subtype.mk
  · intro prog w
    change XS prog w sc13 (.Return _ _) _
    exact (XS.mk (ExS.frz 6 (x := "gates") rfl (ExS.ret (EvR.cmp cmp_eq ((EvR.call (dAt_mem (n := 12) (by decide)) rfl (by decide) (by decide) ok12 (den12.2 prog w) (EvAs.val (EvR.name (i := 16) rfl (by decide) (by decide)) (EvAs.val (EvR.name (i := 6) rfl (by decide) (by decide)) EvAs.nil)) rfl (by decide))).b ((EvR.call (dAt_mem (n := 12) (by decide)) rfl (by decide) (by decide) ok12 (den12.2 prog w) (EvAs.val (EvR.listKeys (EvR.call (dAt_mem (n := 6) (by decide)) rfl (by decide) (by decide) ok6 (den6.2 prog w) (EvAs.val (EvR.name (i := 16) rfl (by decide) (by decide)) EvAs.nil) rfl (by decide)) rfl rfl (by decide)) (EvAs.val (EvR.name (i := 6) rfl (by decide) (by decide)) EvAs.nil)) rfl (by decide))).b))))
noncomputable def den13 : { f : List Slot → Option (Out × List Slot) // ∀ prog w, XR prog w sc13 (dAt 13).body f } := by
  apply Subtype.mk
  · intro prog w
    change XR prog w sc13 [lawAt 0, lawAt 1, lawAt 2, lawAt 3, lawAt 4, lawAt 5, lawAt 6, lawAt 7, lawAt 8, lawAt 9, lawAt 10, lawAt 11, lawAt 12, lawAt 13, lawAt 14, lawAt 15] _
    exact (XR.cons (law0.2 prog w) (XR.cons (law1.2 prog w) (XR.cons (law2.2 prog w) (XR.cons (law3.2 prog w) (XR.cons (law4.2 prog w) (XR.cons (law5.2 prog w) (XR.cons (law6.2 prog w) (XR.cons (law7.2 prog w) (XR.cons (law8.2 prog w) (XR.cons (law9.2 prog w) (XR.cons (law10.2 prog w) (XR.cons (law11.2 prog w) (XR.cons (law12.2 prog w) (XR.cons (law13.2 prog w) (XR.cons (law14.2 prog w) (XR.cons (law15.2 prog w) XR.nil))))))))))))))))

theorem ok13 : FnOk (dAt 13) sc13 ["script"] [] := fnOk_of (by decide) fun kV doc pm an cdv ct vals s hk hl => by
  match vals, hl with
  | [a], _ => exact .of_eq rfl

end Mine
end

section
set_option maxRecDepth 100000
namespace Mine
/-! ## values, equal by a test -/
mutual
noncomputable def bq : PV → PV → Bool
  | .none, .none => true
  | .bool a, .bool b => a == b
  | .int a, .int b => a == b
  | .str a, .str b => a == b
  | .list a, .list b => bqs a b
  | .tup a, .tup b => bqs a b
  | .keys a, .keys b => a == b
  | .obj, .obj => true
  | _, _ => false
noncomputable def bqs : List PV → List PV → Bool
  | [], [] => true
  | a :: r, b :: t => bq a b && bqs r t
  | _, _ => false
end
mutual
theorem bq_eq : ∀ {a b : PV}, bq a b = true → a = b
  | .none, b, h => by cases b <;> simp [bq] at h; rfl
  | .bool a, b, h => by cases b <;> simp [bq] at h; rw [h]
  | .int a, b, h => by cases b <;> simp [bq] at h; rw [h]
  | .str a, b, h => by cases b <;> simp [bq] at h; rw [h]
  | .list a, b, h => by cases b <;> simp [bq] at h; rw [bqs_eq h]
  | .tup a, b, h => by cases b <;> simp [bq] at h; rw [bqs_eq h]
  | .keys a, b, h => by cases b <;> simp [bq] at h; rw [h]
  | .obj, b, h => by cases b <;> simp [bq] at h; rfl
theorem bqs_eq : ∀ {a b : List PV}, bqs a b = true → a = b
  | [], b, h => by cases b <;> simp [bqs] at h; rfl
  | a :: r, b, h => by
    cases b with
    | nil => simp [bqs] at h
    | cons b t =>
      simp only [bqs, Bool.and_eq_true] at h
      rw [bq_eq h.1, bqs_eq h.2]
end
noncomputable def oq (a : Option PV) (b : PV) : Bool := match a with | some a => bq a b | none => false
theorem oq_eq {a : Option PV} {b : PV} (h : oq a b = true) : a = some b := by
  cases a with
  | none => cases h
  | some a => exact congrArg some (bq_eq h)
theorem all_lt {n : Nat} {q : Nat → Bool} (h : (List.range n).all q = true) {m : Nat} (hm : m < n) : q m = true := List.all_eq_true.mp h m (List.mem_range.mpr hm)
theorem all_lt2 {n k : Nat} {q : Nat → Nat → Bool} (h : (List.range n).all (fun a => (List.range k).all (q a)) = true) {a b : Nat} (ha : a < n) (hb : b < k) : q a b = true := all_lt (q := q a) (all_lt h ha) hb

/-- a call -/
noncomputable def callP (f : List Slot → Option (Out × List Slot)) (sc : Sc) (avs : List AV) (xv : List Bool) : Option PV := (f (slotsOf sc avs xv)).bind fun | (.ret p, _) => some p | _ => none

/-! ## what the law's names hold -/
noncomputable def chN (t : Nat) : Nat := if t = 0 then 97 else if t = 1 then 98 else 63
noncomputable def patP (m : Nat) : PV := .str [chN (tr m 0), chN (tr m 1), chN (tr m 2)]
noncomputable def nameP (k : Nat) : PV := .str [97 + bt k 0, 97 + bt k 1, 97 + bt k 2]
noncomputable def namesP : PV := .list ((List.range 8).map nameP)
noncomputable def codeP (k : Nat) : PV := .list [.int (bt k 0 : Nat), .int ((2 + bt k 1 : Nat)), .int ((4 + bt k 2 : Nat))]
noncomputable def codesP : PV := .list ((List.range 8).map codeP)
noncomputable def itP (l : List Nat) : PV := .list (l.map fun k : Nat => .int k)
noncomputable def tkP (m : Nat) : PV := .list ((spN m).map nameP)
noncomputable def rsI (m : Nat) : List Int := ((gtN m).map Int.ofNat).foldl addK []
noncomputable def rsP (m : Nat) : PV := .list ((rsI m).map .int)
end Mine
end

section
set_option maxRecDepth 100000
namespace Mine
/-! ## tables: one kernel evaluation a row -/
noncomputable def qSld (a b : Nat) : Bool := match callP den0.1 sc0 [.val (itP (spN a)), .val (itP (spN b))] [] with | some (.tup [x, _]) => (eqP x (itP (spN a)) == some (cl a b)) | _ => false
noncomputable def qCmp (a b : Nat) : Bool := oq (callP den8.1 sc8 [.val (rsP a), .val (rsP b)] []) (.bool (a == b))
theorem t_sld0 : (List.range 9).all (fun a => (List.range 26).all (qSld (a + 0))) = true := by decide +kernel
theorem t_sld1 : (List.range 9).all (fun a => (List.range 26).all (qSld (a + 9))) = true := by decide +kernel
theorem t_sld2 : (List.range 8).all (fun a => (List.range 26).all (qSld (a + 18))) = true := by decide +kernel
theorem t_sld_all {a b : Nat} (ha : a < 26) (hb : b < 26) : qSld a b = true := by
  by_cases h1 : a < 9
  · exact all_lt2 (q := fun a => qSld (a + 0)) t_sld0 h1 hb
  · by_cases h2 : a < 18
    · have := all_lt2 (q := fun a => qSld (a + 9)) t_sld1 (a := a - 9) (by omega) hb
      simpa [show a - 9 + 9 = a by omega] using this
    · have := all_lt2 (q := fun a => qSld (a + 18)) t_sld2 (a := a - 18) (by omega) hb
      simpa [show a - 18 + 18 = a by omega] using this
theorem t_cmp0 : (List.range 9).all (fun a => (List.range 26).all (qCmp (a + 0))) = true := by decide +kernel
theorem t_cmp1 : (List.range 9).all (fun a => (List.range 26).all (qCmp (a + 9))) = true := by decide +kernel
theorem t_cmp2 : (List.range 8).all (fun a => (List.range 26).all (qCmp (a + 18))) = true := by decide +kernel
theorem t_cmp_all {a b : Nat} (ha : a < 26) (hb : b < 26) : qCmp a b = true := by
  by_cases h1 : a < 9
  · exact all_lt2 (q := fun a => qCmp (a + 0)) t_cmp0 h1 hb
  · by_cases h2 : a < 18
    · have := all_lt2 (q := fun a => qCmp (a + 9)) t_cmp1 (a := a - 9) (by omega) hb
      simpa [show a - 9 + 9 = a by omega] using this
    · have := all_lt2 (q := fun a => qCmp (a + 18)) t_cmp2 (a := a - 18) (by omega) hb
      simpa [show a - 18 + 18 = a by omega] using this
theorem t_cmp3 : (List.range 26).all (fun m => oq (callP den8.1 sc8 [.val (itP (spN m)), .val (rsP m)] []) (.bool true)) = true := by decide +kernel
theorem t_taken : (List.range 26).all (fun m => match callP den2.1 sc2 [.val (patP m)] [] with | some x => oq (callP den9.1 sc9 [.val x] []) (tkP m) | _ => false) = true := by decide +kernel
theorem t_dedup : (List.range 27).all (fun m => oq (callP den6.1 sc6 [.val (itP (gtN m))] [false]) (.keys (rsI m))) = true := by decide +kernel
theorem fill_sym {m : Nat} (hm : m < 27) (x y z : Nat) : callP den10.1 sc10 [.val (patP m), .val (.str [x, y, z])] [] = some (.str [if tr m 0 = 2 then x else chN (tr m 0), if tr m 1 = 2 then y else chN (tr m 1), if tr m 2 = 2 then z else chN (tr m 2)]) := by
  match m, hm with
  | 0, _ => kernel_rfl
  | 1, _ => kernel_rfl
  | 2, _ => kernel_rfl
  | 3, _ => kernel_rfl
  | 4, _ => kernel_rfl
  | 5, _ => kernel_rfl
  | 6, _ => kernel_rfl
  | 7, _ => kernel_rfl
  | 8, _ => kernel_rfl
  | 9, _ => kernel_rfl
  | 10, _ => kernel_rfl
  | 11, _ => kernel_rfl
  | 12, _ => kernel_rfl
  | 13, _ => kernel_rfl
  | 14, _ => kernel_rfl
  | 15, _ => kernel_rfl
  | 16, _ => kernel_rfl
  | 17, _ => kernel_rfl
  | 18, _ => kernel_rfl
  | 19, _ => kernel_rfl
  | 20, _ => kernel_rfl
  | 21, _ => kernel_rfl
  | 22, _ => kernel_rfl
  | 23, _ => kernel_rfl
  | 24, _ => kernel_rfl
  | 25, _ => kernel_rfl
  | 26, _ => kernel_rfl
  | n + 27, h => exact absurd h (by omega)
noncomputable def c5 (m : Nat) : Option PV := (if Int.natAbs 8 < 1000000 then some (rangeP 0 8 1) else none).bind fun ps => (foldC 0 (fun ρ => (((getB 1 ρ).bind fun a => (getV 0 ρ).bind fun b => itemP a b).bind fun a => (getB 2 ρ).bind fun b => inP a b).bind fun b => if b = true then Option.map (fun p => ([p], ρ)) (getV 0 ρ) else some ([], ρ)) ps [Slot.unb, .val namesP, .val (tkP m)]).bind fun r => if r.1.length ≤ 1000000 then some (PV.list r.1) else none
noncomputable def c6 (m : Nat) : Option Bool := (((itemsOf namesP).bind fun ps => (foldC 0 (fun ρ => Option.map (fun p => ([p], ρ)) ((getB 1 ρ).bind fun a => (((getV 2 ρ).bind fun a => Option.map (fun r => AV.val a :: r) ((getV 0 ρ).bind fun a => some [AV.val a])).bind fun avs => if avs.length + 0 = 2 then (den10.1 (slotsOf sc10 avs [])).bind fun x => match x with | (Out.ret p, _) => some p | _ => none else none).bind fun b => lindexP a b)) ps [Slot.unb, .val namesP, .val (patP m)]).bind fun r => if r.1.length ≤ 1000000 then some (PV.list r.1) else none)).bind fun b => neP (itP (gtN m)) b
theorem t_c5 : (List.range 26).all (fun m => oq (c5 m) (itP (spN m))) = true := by decide +kernel
theorem t_c6 : (List.range 26).all (fun m => c6 m == some false) = true := by decide +kernel
theorem t_gate : (List.range 26).all (fun m => oq (callP den11.1 sc11 [.val (itP (spN m)), .val codesP] []) (itP (gtN m))) = true := by decide +kernel
end Mine
end

section
set_option maxRecDepth 100000
namespace Mine
/-! ## reading a store -/
theorem getV_0 {p : PV} {r : List Slot} : getV 0 (.val p :: r) = some p := rfl
theorem getV_s {i : Nat} {x : Slot} {r : List Slot} : getV (i + 1) (x :: r) = getV i r := rfl
theorem getB_0 {p : PV} {r : List Slot} : getB 0 (.val p :: r) = some p := rfl
theorem getB_o {p : List PV} {r : List Slot} : getB 0 (.own p :: r) = some (.list p) := rfl
theorem getB_s {i : Nat} {x : Slot} {r : List Slot} : getB (i + 1) (x :: r) = getB i r := rfl
theorem ownAt_0 {p : List PV} {r : List Slot} : ownAt 0 (.own p :: r) = some p := rfl
theorem ownAt_s {i : Nat} {x : Slot} {r : List Slot} : ownAt (i + 1) (x :: r) = ownAt i r := rfl
theorem capS_n {r : List Slot} : capS r none = .unb := rfl
theorem capS_0 {p : PV} {r : List Slot} : capS (.val p :: r) (some 0) = .val p := rfl
theorem capS_s {i : Nat} {x : Slot} {r : List Slot} : capS (x :: r) (some (i + 1)) = capS r (some i) := rfl
theorem frz_v {p : PV} {r : List Slot} : frz 0 (.val p :: r) = .val p :: r := rfl
theorem frz_o {xs : List PV} {r : List Slot} : frz 0 (.own xs :: r) = .val (.list xs) :: r := rfl
theorem frz_s {i : Nat} {x : Slot} {r : List Slot} : frz (i + 1) (x :: r) = x :: frz i r := by
  unfold frz
  rw [List.getD_cons_succ]
  split <;> rfl
theorem callP_ret {f : List Slot → Option (Out × List Slot)} {sc : Sc} {avs : List AV} {xv : List Bool} {p : PV} (h : callP f sc avs xv = some p) : ∃ ρ', f (slotsOf sc avs xv) = some (.ret p, ρ') := by
  unfold callP at h
  obtain ⟨⟨o, ρ'⟩, hf, e⟩ := Option.bind_eq_some_iff.mp h
  cases o <;> cases e
  exact ⟨ρ', hf⟩
theorem seqIndex_nat {k n : Nat} (h : k < n) : seqIndex? (k : Int) n = some k := by
  unfold seqIndex?
  have h0 : ¬ ((k : Int) < 0) := by omega
  simp only [h0, if_false]
  simp [h]
theorem seqIndex_last {n : Nat} : seqIndex? (-1) (n + 1) = some n := by
  unfold seqIndex?
  simp
  omega
theorem item_nat {xs : List PV} {k : Nat} {p : PV} (h : xs[k]? = some p) (hk : k < 1000000) : itemP (.list xs) (.int k) = some p := by
  have hl := (List.getElem?_eq_some_iff.mp h).1
  simp only [itemP]
  rw [if_pos (by omega), seqIndex_nat hl]
  exact h
theorem item_last {R : List PV} {x : PV} : itemP (.list (R ++ [x])) (.int (-1)) = some x := by
  simp only [itemP]
  rw [if_pos (by decide), List.length_append, List.length_cons, List.length_nil, Nat.zero_add, seqIndex_last]
  simp

/-! ## comprehensions -/
theorem foldC_flat {α : Type} {f : List Slot → Option (List PV × List Slot)} {r : List Slot} {e : α → PV} {g : α → List PV} : ∀ (l : List α) (x0 : Slot), (∀ a ∈ l, f (.val (e a) :: r) = some (g a, .val (e a) :: r)) → ∃ x1, foldC 0 f (l.map e) (x0 :: r) = some (l.flatMap g, x1 :: r)
  | [], x0, _ => ⟨x0, rfl⟩
  | a :: l, x0, h => by
    obtain ⟨x1, h1⟩ := foldC_flat l (.val (e a)) fun b hb => h b (.tail _ hb)
    refine ⟨x1, ?_⟩
    rw [List.map_cons]
    unfold foldC
    rw [List.set_cons_zero, h a (.head _)]
    simp only [Option.bind_some]
    rw [h1]; rfl

theorem flatMap_one {α β : Type} (l : List α) (g : α → β) : l.flatMap (fun a => [g a]) = l.map g := by
  induction l with
  | nil => rfl
  | cons a l ih => rw [List.flatMap_cons, ih]; rfl
theorem flatMap_if {α β : Type} (l : List α) (q : α → Bool) (g : α → β) : l.flatMap (fun a => if q a = true then [g a] else []) = (l.filter q).map g := by
  induction l with
  | nil => rfl
  | cons a l ih =>
    rw [List.flatMap_cons, ih, List.filter_cons]
    cases q a <;> rfl

/-! ## the ends of an order -/
theorem itP_items (l : List Nat) : itemsOf (itP l) = some (l.map fun k : Nat => .int k) := rfl
theorem item_itP {l : List Nat} {k v : Nat} (h : l[k]? = some v) (hk : k < 1000000) : itemP (itP l) (.int k) = some (.int v) :=
  item_nat (by rw [List.getElem?_map, h]; rfl) hk

theorem ends_step {o g : PV} {E : List Nat} {k j m : Nat} (hE : ∀ e ∈ E, e < 8) (hl : E.length ≤ 1000000) (ho : itemP o (.int k) = some (.int j)) (hg : itemP g (.int j) = some (itP (gtN m))) :
    den12b.1 [.val o, .val g, .val (itP E), .val (.int k)] = some (.next, [.val o, .val g, .val (itP (E.map (gv m))), .val (.int k)]) := by
  unfold den12b
  simp only [seqP, getV_0, getV_s, List.map_cons, List.map_nil, capS_n, capS_0, capS_s, Option.bind_some, itP_items]
  obtain ⟨x1, h⟩ := foldC_flat (f := (fun ρ => Option.map (fun p => ([p], ρ)) (((getB 1 ρ).bind fun a => ((getB 2 ρ).bind fun a => (getV 3 ρ).bind fun b => itemP a b).bind fun b => itemP a b).bind fun a => (getV 0 ρ).bind fun b => itemP a b)))
    (r := [.val g, .val o, .val (.int k)]) (e := fun k : Nat => PV.int k) (g := fun a => [PV.int (gv m a : Nat)]) E .unb (fun a ha => by
      simp only [getB_s, getB_0, getV_0, getV_s, Option.bind_some, ho, hg]
      rw [item_itP (gtN_at (hE a ha)) (by have := hE a ha; omega)]; rfl)
  rw [h]
  simp only [Option.bind_some, flatMap_one, List.length_map]
  rw [if_pos hl]
  simp only [Option.bind_some, List.set_cons_zero, List.set_cons_succ, itP, List.map_map]
  rfl

theorem ends_loop {o g : PV} {p q : Nat → Nat} : ∀ (ks : List Nat) (e : Nat) (x : Slot), (∀ k ∈ ks, itemP o (.int k) = some (.int (q k)) ∧ itemP g (.int (q k)) = some (itP (gtN (p (q k))))) →
    ∃ y, forP (fun p ρ => some (ρ.set 3 (.val p))) den12b.1 (ks.map fun k : Nat => .int k) [.val o, .val g, .val (itP (gtN e)), x] = some (.next, [.val o, .val g, .val (itP (gtN (ks.foldl (fun e k => fillN (p (q k)) e) e))), y])
  | [], e, x, _ => ⟨x, rfl⟩
  | k :: ks, e, x, h => by
    obtain ⟨h1, h2⟩ := h k (.head _)
    obtain ⟨y, hy⟩ := ends_loop ks (fillN (p (q k)) e) (.val (.int k)) fun b hb => h b (.tail _ hb)
    refine ⟨y, ?_⟩
    rw [List.map_cons]
    unfold forP
    simp only [Option.bind_some, List.set_cons_zero, List.set_cons_succ]
    rw [ends_step (E := gtN e) (fun a ha => by
      unfold gtN at ha
      obtain ⟨b, _, rfl⟩ := List.mem_map.mp ha
      exact gv_lt _ _) (by simp [gtN]) h1 h2]
    simp only [Option.bind_some]
    rw [show List.map (gv (p (q k))) (gtN e) = gtN (fillN (p (q k)) e) from gtN_gtN _ _, hy]
    rfl

theorem range_down {n : Nat} : rangeP ((n : Int) - 1) (if (-1 : Int) < (n : Int) - 1 then (n : Int) - 1 - (-1) else 0) (-1) = ((List.range n).reverse).map fun k : Nat => PV.int k := by
  have e : (if (-1 : Int) < (n : Int) - 1 then (n : Int) - 1 - (-1) else 0).toNat = n := by split <;> omega
  unfold rangeP
  rw [e]
  apply List.ext_getElem
  · simp
  · intro i h1 h2
    simp only [List.length_map, List.length_range] at h1
    simp only [List.getElem_map, List.getElem_range, List.getElem_reverse, List.length_range]
    congr 1
    omega

theorem ends_all {o g : PV} {p : Nat → Nat} {os : List Nat} (hlen : lenP o = some (.int os.length)) (hl : os.length < 1000) (ho : ∀ k < os.length, itemP o (.int k) = some (.int (os.getD k 0))) (hg : ∀ j ∈ os, itemP g (.int j) = some (itP (gtN (p j)))) :
    callP den12.1 sc12 [.val o, .val g] [] = some (itP (gtN (pr p os))) := by
  unfold callP
  have e0 : slotsOf sc12 [.val o, .val g] [] = [.val o, .val g, .unb, .unb] := rfl
  rw [e0]
  unfold den12
  simp only [seqP, Option.bind_some, Option.map_some, List.set_cons_zero, List.set_cons_succ]
  rw [if_pos (by decide)]
  have e1 : (PV.list (rangeP 0 8 1)) = itP (gtN 26) := rfl
  simp only [Option.bind_some, Option.map_some, List.set_cons_zero, List.set_cons_succ, getB_0, hlen, subP]
  rw [if_pos (show ((os.length : Int) - 1).natAbs < 1000000 ∧ (-1 : Int).natAbs < 1000000 ∧ True from ⟨by omega, by decide, trivial⟩)]
  simp only [Option.bind_some]
  rw [e1, range_down]
  obtain ⟨y, hy⟩ := ends_loop (o := o) (g := g) (p := p) (q := fun k => os.getD k 0) (List.range os.length).reverse 26 .unb (fun k hk => by
    have hk' : k < os.length := by simpa using hk
    refine ⟨ho k hk', hg _ ?_⟩
    rw [List.getD_eq_getElem?_getD, List.getElem?_eq_getElem hk']
    exact List.getElem_mem hk')
  rw [hy]
  simp only [Option.bind_some, Option.map_some, getV_0, getV_s]
  rw [List.foldl_reverse]
  have : List.foldr (fun x y => fillN (p (os.getD x 0)) y) 26 (List.range os.length) = pr p os := by
    unfold pr
    rw [← List.foldr_map (f := fun k => os.getD k 0) (g := fun k e => fillN (p k) e)]
    congr 1
    apply List.ext_getElem
    · simp
    · intro i h1 h2
      simp [h2]
  rw [this]
end Mine
end

section
set_option maxRecDepth 100000
namespace Mine
/-! ## draws -/
theorem intsOf_map : ∀ ms : List Int, intsOf (ms.map .int) = some ms
  | [] => rfl
  | m :: ms => by rw [List.map_cons]; unfold intsOf; rw [intsOf_map ms]; rfl
theorem slice_ints {ns : List Int} (h : ns.length ≤ 1000000) (k : Int) : sliceP (.list (ns.map .int)) (some k) none (some 4) = some (.list ((pickL ns (some k) none (some 4)).map .int)) := by
  simp only [sliceP]
  rw [if_pos ⟨by decide, by simpa using h⟩]
  congr 2
  unfold pickL
  rw [List.length_map, List.map_filterMap]
  congr 1
  funext i
  simp
noncomputable def drN (ns : List Int) (i : Nat) : Nat := (pickL ns (some (0 + (i : Int) * 1)) none (some 4)).sum.natAbs + [15, 5, 21, 307].getD i 0
theorem absP_int (a : Int) : absP (.int a) = some (.int a.natAbs) := by
  simp only [absP]
  congr 2
  split <;> omega
noncomputable def bDraw : List Slot → Option (List PV × List Slot) := fun ρ =>
  Option.map (fun p => ([p], ρ)) (((((getB 1 ρ).bind fun a => ((getV 0 ρ).bind fun x => match x with | PV.int k => some (some k) | _ => none).bind fun l => sliceP a l none (some 4)).bind sumP).bind absP).bind fun a =>
    ((getV 0 ρ).bind fun b => itemP (PV.tup [PV.int 15, PV.int 5, PV.int 21, PV.int 307]) b).bind fun b => addP a b)
theorem bDraw_at {ns : List Int} (h : ns.length ≤ 1000000) (i : Nat) (hi : i ∈ List.range 4) : bDraw (.val (.int (0 + (i : Int) * 1)) :: [.val (.list (ns.map .int))]) = some ([PV.int (drN ns i : Nat)], .val (.int (0 + (i : Int) * 1)) :: [.val (.list (ns.map .int))]) := by
  have hi := List.mem_range.mp hi
  have e : itemP (PV.tup [PV.int 15, PV.int 5, PV.int 21, PV.int 307]) (.int (0 + (i : Int) * 1)) = some (.int ([15, 5, 21, 307].getD i 0 : Nat)) := by
    match i, hi with
    | 0, _ => rfl
    | 1, _ => rfl
    | 2, _ => rfl
    | 3, _ => rfl
  unfold bDraw
  simp only [getB_s, getB_0, getV_0, Option.bind_some, slice_ints h, e, sumP, intsOf_map, Option.map_some, absP_int, addP]
  congr 2
theorem st0 {ns : List Int} (h : ns.length ≤ 1000000) (x1 x2 x3 x4 x5 x6 x7 x8 x9 x10 x11 x12 x13 x14 x15 x16 : Slot) :
    law0.1 [.val (.list (ns.map .int)), x1, x2, x3, x4, x5, x6, x7, x8, x9, x10, x11, x12, x13, x14, x15, x16] = some (.next, [.val (.list (ns.map .int)), .val (itP [drN ns 0, drN ns 1, drN ns 2, drN ns 3]), x2, x3, x4, x5, x6, x7, x8, x9, x10, x11, x12, x13, x14, x15, x16]) := by
  obtain ⟨y, hy⟩ := foldC_flat (e := fun i : Nat => PV.int (0 + (i : Int) * 1)) (List.range 4) .unb (bDraw_at h)
  show Option.map _ ((foldC 0 bDraw ((List.range 4).map (fun i : Nat => PV.int (0 + (i : Int) * 1))) [.unb, .val (.list (ns.map .int))]).bind _) = _
  rw [hy]
  rfl

/-! ## patterns -/
theorem t_chr : (List.range 26).all (fun m => (List.range 3).all fun i => oq ((((powP (.int 3) (.int (0 + (i : Int) * 1))).bind fun b => fdivP (.int m) b).bind fun a => fmodP a (.int 3)).bind fun b => itemP (PV.str (Str.ofString "ab?").cps.toList) b) (.str [chN (tr m i)])) = true := by decide +kernel
noncomputable def bChr : List Slot → Option (List PV × List Slot) := fun ρ =>
  Option.map (fun p => ([p], ρ)) (((((getV 1 ρ).bind fun a => fmodP a (PV.int 26)).bind fun a => ((getV 0 ρ).bind fun b => powP (PV.int 3) b).bind fun b => fdivP a b).bind fun a => fmodP a (PV.int 3)).bind fun b => itemP (PV.str (Str.ofString "ab?").cps.toList) b)
theorem bChr_at (n : Nat) (i : Nat) (hi : i ∈ List.range 3) : bChr (.val (.int (0 + (i : Int) * 1)) :: [.val (.int n)]) = some ([PV.str [chN (tr (n % 26) i)]], .val (.int (0 + (i : Int) * 1)) :: [.val (.int n)]) := by
  have hm : n % 26 < 26 := Nat.mod_lt _ (by decide)
  have e26 : fmodP (.int n) (.int 26) = some (.int ((n % 26 : Nat) : Int)) := by
    simp only [fmodP]
    rw [if_pos (by decide)]; rfl
  have := oq_eq (all_lt2 (q := fun m i => oq _ _) t_chr hm (List.mem_range.mp hi))
  unfold bChr
  simp only [getV_s, getV_0, Option.bind_some, e26]
  rw [this]; rfl
noncomputable def bPat : List Slot → Option (List PV × List Slot) := fun ρ =>
  Option.map (fun p => ([p], ρ)) (((foldC 0 bChr ((List.range 3).map (fun i : Nat => PV.int (0 + (i : Int) * 1))) [.unb, capS ρ (some 0)]).bind fun r => if r.1.length ≤ 1000000 then some (.list r.1) else none).bind joinP)
theorem bPat_at (n : Nat) : bPat (.val (.int n) :: []) = some ([patP (n % 26)], .val (.int n) :: []) := by
  obtain ⟨z, hz⟩ := foldC_flat (e := fun i : Nat => PV.int (0 + (i : Int) * 1)) (List.range 3) .unb (bChr_at n)
  unfold bPat
  rw [capS_0, hz]
  rfl
theorem st1 (d0 d1 d2 d3 : Nat) (x0 x2 x3 x4 x5 x6 x7 x8 x9 x10 x11 x12 x13 x14 x15 x16 : Slot) :
    law1.1 [x0, .val (itP [d0, d1, d2, d3]), x2, x3, x4, x5, x6, x7, x8, x9, x10, x11, x12, x13, x14, x15, x16] = some (.next, [x0, .val (itP [d0, d1, d2, d3]), .val (.list [patP (d0 % 26), patP (d1 % 26), patP (d2 % 26)]), x3, x4, x5, x6, x7, x8, x9, x10, x11, x12, x13, x14, x15, x16]) := by
  obtain ⟨y, hy⟩ := foldC_flat (e := fun k : Nat => PV.int k) (f := bPat) (g := fun n => [patP (n % 26)]) (r := []) [d0, d1, d2] .unb (fun n _ => bPat_at n)
  show (foldC 0 bPat ([d0, d1, d2].map fun k : Nat => PV.int k) [.unb]).bind _ = _
  rw [hy]
  rfl
end Mine
end

section
set_option maxRecDepth 100000
namespace Mine
/-! ## names, codes, empty lists -/
theorem st2 (p0 p1 p2 : PV) : law2.1 [.val p0, .val p1, .val p2, .unb, .unb, .unb, .unb, .unb, .unb, .unb, .unb, .unb, .unb, .unb, .unb, .unb, .unb] = some (.next, [.val p0, .val p1, .val p2, .val namesP, .unb, .unb, .unb, .unb, .unb, .unb, .unb, .unb, .unb, .unb, .unb, .unb, .unb]) := by kernel_rfl
theorem st3 (p0 p1 p2 : PV) : law3.1 [.val p0, .val p1, .val p2, .val namesP, .unb, .unb, .unb, .unb, .unb, .unb, .unb, .unb, .unb, .unb, .unb, .unb, .unb] = some (.next, [.val p0, .val p1, .val p2, .val namesP, .val codesP, .unb, .unb, .unb, .unb, .unb, .unb, .unb, .unb, .unb, .unb, .unb, .unb]) := by kernel_rfl
theorem st4 (p0 p1 p2 p3 p4 : PV) : law4.1 [.val p0, .val p1, .val p2, .val p3, .val p4, .unb, .unb, .unb, .unb, .unb, .unb, .unb, .unb, .unb, .unb, .unb, .unb] = some (.next, [.val p0, .val p1, .val p2, .val p3, .val p4, .own [], .unb, .unb, .unb, .unb, .unb, .unb, .unb, .unb, .unb, .unb, .unb]) := by kernel_rfl
theorem st5 (p0 p1 p2 p3 p4 : PV) (S : List PV) : law5.1 [.val p0, .val p1, .val p2, .val p3, .val p4, .own S, .unb, .unb, .unb, .unb, .unb, .unb, .unb, .unb, .unb, .unb, .unb] = some (.next, [.val p0, .val p1, .val p2, .val p3, .val p4, .own S, .own [], .unb, .unb, .unb, .unb, .unb, .unb, .unb, .unb, .unb, .unb]) := by kernel_rfl
theorem st6b {m : Nat} (hm : m < 26) {S G : List PV} (hS : S.length ≤ 1000) (hG : G.length ≤ 1000) (s0 s1 s2 s8 s9 s10 s11 s12 s13 s14 s15 s16 : Slot) :
    law6b.1 [s0, s1, s2, .val namesP, .val codesP, .own S, .own G, .val (patP m), s8, s9, s10, s11, s12, s13, s14, s15, s16] =
      some (.next, [s0, s1, s2, .val namesP, .val codesP, .own (S ++ [itP (spN m)]), .own (G ++ [itP (gtN m)]), .val (patP m), .val (tkP m), s9, s10, s11, s12, s13, s14, s15, s16]) := by
  have ht := all_lt t_taken hm
  cases hc : callP den2.1 sc2 [.val (patP m)] [] with
  | none => rw [hc] at ht; cases ht
  | some tx =>
    rw [hc] at ht
    obtain ⟨r5, e5⟩ := callP_ret hc
    obtain ⟨r6, e6⟩ := callP_ret (oq_eq ht)
    have h5 : c5 m = some (itP (spN m)) := oq_eq (all_lt t_c5 hm)
    have h6 : c6 m = some false := by have := all_lt t_c6 hm; simpa using this
    obtain ⟨r7, e7⟩ := callP_ret (oq_eq (all_lt t_gate hm))
    unfold law6b
    simp only [seqP, getV_0, getV_s, getB_0, getB_o, getB_s, ownAt_0, ownAt_s, Option.bind_some, Option.map_some, List.map_cons, List.map_nil, capS_n, capS_0, capS_s, List.set_cons_zero, List.set_cons_succ, List.length_cons, List.length_nil, Nat.zero_add, Nat.reduceAdd, if_true, e5, e6]
    show Option.bind (Option.bind (c5 m) _) _ = _
    rw [h5]
    simp only [Option.bind_some]
    rw [if_pos (by omega)]
    simp only [seqP, getV_0, getV_s, getB_0, getB_o, getB_s, ownAt_0, ownAt_s, Option.bind_some, Option.map_some, List.map_cons, List.map_nil, capS_n, capS_0, capS_s, List.set_cons_zero, List.set_cons_succ, List.length_cons, List.length_nil, Nat.zero_add, Nat.reduceAdd, if_true, item_last, e7]
    rw [if_pos (by omega)]
    simp only [seqP, getV_0, getV_s, getB_0, getB_o, getB_s, ownAt_0, ownAt_s, Option.bind_some, Option.map_some, List.map_cons, List.map_nil, capS_n, capS_0, capS_s, List.set_cons_zero, List.set_cons_succ, List.length_cons, List.length_nil, Nat.zero_add, Nat.reduceAdd, if_true, item_last]
    show Option.bind (Option.bind (c6 m) _) _ = _
    rw [h6]
    rfl
theorem st6 {a b c : Nat} (ha : a < 26) (hb : b < 26) (hc : c < 26) (p0 p1 : PV) : law6.1 [.val p0, .val p1, .val (.list [patP a, patP b, patP c]), .val namesP, .val codesP, .own [], .own [], .unb, .unb, .unb, .unb, .unb, .unb, .unb, .unb, .unb, .unb] =
    some (.next, [.val p0, .val p1, .val (.list [patP a, patP b, patP c]), .val namesP, .val codesP, .own [itP (spN a), itP (spN b), itP (spN c)], .own [itP (gtN a), itP (gtN b), itP (gtN c)], .val (patP c), .val (tkP c), .unb, .unb, .unb, .unb, .unb, .unb, .unb, .unb]) := by
  show forP (fun p ρ => some (ρ.set 7 (.val p))) law6b.1 [patP a, patP b, patP c] _ = _
  unfold forP forP forP forP
  simp only [Option.bind_some, List.set_cons_zero, List.set_cons_succ]
  rw [st6b ha (by decide) (by decide)]
  simp only [Option.bind_some, List.set_cons_zero, List.set_cons_succ, List.nil_append]
  rw [st6b hb (by simp) (by simp)]
  simp only [Option.bind_some, List.set_cons_zero, List.set_cons_succ, List.cons_append, List.nil_append]
  rw [st6b hc (by simp) (by simp)]
  rfl
theorem st7 (p0 p1 p2 p3 p4 p7 p8 : PV) (S G : List PV) : law7.1 [.val p0, .val p1, .val p2, .val p3, .val p4, .own S, .own G, .val p7, .val p8, .unb, .unb, .unb, .unb, .unb, .unb, .unb, .unb] = some (.next, [.val p0, .val p1, .val p2, .val p3, .val p4, .own S, .own G, .val p7, .val p8, .own [], .unb, .unb, .unb, .unb, .unb, .unb, .unb]) := by kernel_rfl

/-! ## an order -/
theorem pat_fill {m n : Nat} (hm : m < 27) : callP den10.1 sc10 [.val (patP m), .val (patP n)] [] = some (patP (fillN m n)) := by
  obtain ⟨h1, h2, h3⟩ := tr_fill m n
  have e : ∀ t u : Nat, (if t = 2 then chN u else chN t) = chN (fl t u) := fun t u => by unfold fl; split <;> rfl
  have := fill_sym hm (chN (tr n 0)) (chN (tr n 1)) (chN (tr n 2))
  rw [e, e, e] at this
  unfold patP at this ⊢
  rw [h1, h2, h3]
  exact this
noncomputable def chk8 (f : Nat) : Option Bool :=
  ((lenP (rsP f)).bind fun a => (lenP (tkP f)).bind fun b => neP a b).bind fun a => if a = true then some true else
    (((((itemsOf (rsP f)).bind fun ps => (foldC 0 (fun ρ => Option.map (fun p => ([p], ρ)) ((getB 1 ρ).bind fun a => (getV 0 ρ).bind fun b => itemP a b)) ps [Slot.unb, .val namesP]).bind fun r => if r.fst.length ≤ 1000000 then some (PV.list r.fst) else none).bind fun a =>
      some [AV.val a, AV.val (tkP f)]).bind fun avs => if avs.length + 0 = 2 then (den8.1 (slotsOf sc8 avs [])).bind fun x => match x with | (Out.ret p, _) => some p | _ => none else none)).bind fun a => isntP a (PV.bool true)
theorem t_chk8 : (List.range 26).all (fun f => chk8 f == some false) = true := by decide +kernel
theorem rsI_len : (List.range 27).all (fun f => (rsI f).length < 1000000) = true := by decide +kernel
theorem st8b {o g pats i j k : PV} {x y z : Nat} {sg : Slot} {R : List PV} (hsg : ∀ r, frz 0 (sg :: r) = .val g :: r) (hx : x < 26) (hR : R.length ≤ 1000)
    (o0 : itemP o (.int 0) = some i) (o1 : itemP o (.int 1) = some j) (o2 : itemP o (.int 2) = some k) (p0 : itemP pats i = some (patP x)) (p1 : itemP pats j = some (patP y)) (p2 : itemP pats k = some (patP z))
    (he : callP den12.1 sc12 [.val o, .val g] [] = some (itP (gtN (f3 x y z)))) (s0 s1 s4 s5 s7 s8 s11 s12 s13 s14 s15 s16 : Slot) :
    law8b.1 [s0, s1, .val pats, .val namesP, s4, s5, sg, s7, s8, .own R, .val o, s11, s12, s13, s14, s15, s16] =
      some (.next, [s0, s1, .val pats, .val namesP, s4, s5, .val g, s7, .val (tkP (f3 x y z)), .own (R ++ [rsP (f3 x y z)]), .val o, .val (patP (f3 x y z)), s12, s13, s14, s15, s16]) := by
  have hf : f3 x y z < 26 := fill_lt26 _ (fill_lt26 _ hx)
  obtain ⟨r1, e1⟩ := callP_ret (pat_fill (n := y) (show x < 27 by omega))
  obtain ⟨r2, e2⟩ := callP_ret (pat_fill (m := fillN x y) (n := z) (fill_lt _ _))
  obtain ⟨r3, e3⟩ := callP_ret he
  obtain ⟨r4, e4⟩ := callP_ret (oq_eq (all_lt t_dedup (show f3 x y z < 27 by omega)))
  have ht := all_lt t_taken hf
  cases hc : callP den2.1 sc2 [.val (patP (f3 x y z))] [] with
  | none => rw [hc] at ht; cases ht
  | some tx =>
    rw [hc] at ht
    obtain ⟨r5, e5⟩ := callP_ret hc
    obtain ⟨r6, e6⟩ := callP_ret (oq_eq ht)
    have hk : chk8 (f3 x y z) = some false := by have := all_lt t_chk8 hf; simpa using this
    have hlen : (rsI (f3 x y z)).length < 1000000 := by simpa using all_lt rsI_len (show f3 x y z < 27 by omega)
    have c1 : ([AV.val (patP x), AV.val (patP y)].length + ([] : List Bool).length = [Str.ofString "pattern", Str.ofString "other"].length) := rfl
    unfold law8b
    simp only [seqP, getV_0, getV_s, getB_0, getB_o, getB_s, ownAt_0, ownAt_s, Option.bind_some, Option.map_some, List.map_cons, List.map_nil, capS_n, capS_0, capS_s, List.set_cons_zero, List.set_cons_succ, o0, o1, o2, p0, p1, p2, List.length_cons, List.length_nil, Nat.zero_add, Nat.reduceAdd, if_true, e1, e2,
      frz_s, hsg, e3, e4]
    rw [if_pos hlen]
    simp only [Option.bind_some]
    rw [if_pos (by omega)]
    have ef : fillN (fillN x y) z = f3 x y z := rfl
    have er : PV.list (List.map PV.int (rsI (f3 x y z))) = rsP (f3 x y z) := rfl
    simp only [ef, er, seqP, getV_0, getV_s, getB_0, getB_o, getB_s, ownAt_0, ownAt_s, Option.bind_some, Option.map_some, List.map_cons, List.map_nil, capS_n, capS_0, capS_s, List.set_cons_zero, List.set_cons_succ, List.length_cons, List.length_nil, Nat.zero_add, Nat.reduceAdd, if_true, item_last, e5, e6]
    show Option.bind (Option.bind (chk8 (f3 x y z)) _) _ = _
    rw [hk]
    rfl
end Mine
end

section
set_option maxRecDepth 100000
namespace Mine
/-! ## the six orders -/
noncomputable def gts (a b c : Nat) : PV := .list [itP (gtN a), itP (gtN b), itP (gtN c)]
noncomputable def sps (a b c : Nat) : PV := .list [itP (spN a), itP (spN b), itP (spN c)]
noncomputable def pts (a b c : Nat) : PV := .list [patP a, patP b, patP c]
noncomputable def ord (i j k : Nat) : PV := .tup [.int i, .int j, .int k]
noncomputable def pk (a b c : Nat) (j : Nat) : Nat := [a, b, c].getD j 0
theorem gts_at {a b c j : Nat} (h : j < 3) : itemP (gts a b c) (.int j) = some (itP (gtN (pk a b c j))) := by
  match j, h with
  | 0, _ => rfl
  | 1, _ => rfl
  | 2, _ => rfl
theorem pts_at {a b c j : Nat} (h : j < 3) : itemP (pts a b c) (.int j) = some (patP (pk a b c j)) := by
  match j, h with
  | 0, _ => rfl
  | 1, _ => rfl
  | 2, _ => rfl
theorem sps_at {a b c j : Nat} (h : j < 3) : itemP (sps a b c) (.int j) = some (itP (spN (pk a b c j))) := by
  match j, h with
  | 0, _ => rfl
  | 1, _ => rfl
  | 2, _ => rfl
theorem pk_lt {a b c j n : Nat} (ha : a < n) (hb : b < n) (hc : c < n) (h : j < 3) : pk a b c j < n := by
  match j, h with
  | 0, _ => exact ha
  | 1, _ => exact hb
  | 2, _ => exact hc
theorem ord_ends {a b c i j k : Nat} (ha : a < 26) (hb : b < 26) (hc : c < 26) (hi : i < 3) (hj : j < 3) (hk : k < 3) :
    callP den12.1 sc12 [.val (ord i j k), .val (gts a b c)] [] = some (itP (gtN (f3 (pk a b c i) (pk a b c j) (pk a b c k)))) := by
  have h := ends_all (o := ord i j k) (g := gts a b c) (p := pk a b c) (os := [i, j, k]) rfl (by simp) (fun m hm => by
    match m, hm with
    | 0, _ => rfl
    | 1, _ => rfl
    | 2, _ => rfl) (fun m hm => by
    simp only [List.mem_cons, List.not_mem_nil, or_false] at hm
    exact gts_at (by omega))
  rw [h]
  have : pr (pk a b c) [i, j, k] = f3 (pk a b c i) (pk a b c j) (pk a b c k) := by
    show fillN _ (fillN _ (fillN _ 26)) = _
    have := pk_lt ha hb hc hk
    rw [fill_26 (by omega), ← fill_assoc]; rfl
  rw [this]
theorem st8o {a b c i j k : Nat} {sg : Slot} {R : List PV} (ha : a < 26) (hb : b < 26) (hc : c < 26) (hi : i < 3) (hj : j < 3) (hk : k < 3) (hsg : ∀ r, frz 0 (sg :: r) = .val (gts a b c) :: r) (hR : R.length ≤ 1000) (s0 s1 s4 s5 s7 s8 s11 s12 s13 s14 s15 s16 : Slot) :
    law8b.1 [s0, s1, .val (pts a b c), .val namesP, s4, s5, sg, s7, s8, .own R, .val (ord i j k), s11, s12, s13, s14, s15, s16] =
      some (.next, [s0, s1, .val (pts a b c), .val namesP, s4, s5, .val (gts a b c), s7, .val (tkP (f3 (pk a b c i) (pk a b c j) (pk a b c k))), .own (R ++ [rsP (f3 (pk a b c i) (pk a b c j) (pk a b c k))]), .val (ord i j k), .val (patP (f3 (pk a b c i) (pk a b c j) (pk a b c k))), s12, s13, s14, s15, s16]) :=
  st8b hsg (pk_lt ha hb hc hi) hR (i := .int i) (j := .int j) (k := .int k) rfl rfl rfl (pts_at hi) (pts_at hj) (pts_at hk) (ord_ends ha hb hc hi hj hk) ..
noncomputable def rests (a b c : Nat) : List PV := [rsP (f3 a b c), rsP (f3 a c b), rsP (f3 b a c), rsP (f3 b c a), rsP (f3 c a b), rsP (f3 c b a)]
theorem st8 {a b c : Nat} (ha : a < 26) (hb : b < 26) (hc : c < 26) (s0 s1 s4 s5 s7 s8 : Slot) :
    law8.1 [s0, s1, .val (pts a b c), .val namesP, s4, s5, .own [itP (gtN a), itP (gtN b), itP (gtN c)], s7, s8, .own [], .unb, .unb, .unb, .unb, .unb, .unb, .unb] =
      some (.next, [s0, s1, .val (pts a b c), .val namesP, s4, s5, .val (gts a b c), s7, .val (tkP (f3 c b a)), .own (rests a b c), .val (ord 2 1 0), .val (patP (f3 c b a)), .unb, .unb, .unb, .unb, .unb]) := by
  show forP (fun p ρ => some (ρ.set 10 (.val p))) law8b.1 [ord 0 1 2, ord 0 2 1, ord 1 0 2, ord 1 2 0, ord 2 0 1, ord 2 1 0] _ = _
  unfold forP forP forP forP forP forP forP
  simp only [Option.bind_some, List.set_cons_zero, List.set_cons_succ]
  rw [st8o ha hb hc (by decide) (by decide) (by decide) (fun r => frz_o) (by decide)]
  simp only [Option.bind_some, List.set_cons_zero, List.set_cons_succ, List.nil_append, List.cons_append]
  rw [st8o ha hb hc (by decide) (by decide) (by decide) (fun r => frz_v) (by simp)]
  simp only [Option.bind_some, List.set_cons_zero, List.set_cons_succ, List.nil_append, List.cons_append]
  rw [st8o ha hb hc (by decide) (by decide) (by decide) (fun r => frz_v) (by simp)]
  simp only [Option.bind_some, List.set_cons_zero, List.set_cons_succ, List.nil_append, List.cons_append]
  rw [st8o ha hb hc (by decide) (by decide) (by decide) (fun r => frz_v) (by simp)]
  simp only [Option.bind_some, List.set_cons_zero, List.set_cons_succ, List.nil_append, List.cons_append]
  rw [st8o ha hb hc (by decide) (by decide) (by decide) (fun r => frz_v) (by simp)]
  simp only [Option.bind_some, List.set_cons_zero, List.set_cons_succ, List.nil_append, List.cons_append]
  rw [st8o ha hb hc (by decide) (by decide) (by decide) (fun r => frz_v) (by simp)]
  rfl

/-! ## friends -/
theorem st9 (s0 s1 s2 s3 s4 s5 s6 s7 s8 s9 s10 s11 s12 s13 s14 s15 s16 : Slot) : law9.1 [s0, s1, s2, s3, s4, s5, s6, s7, s8, s9, s10, s11, s12, s13, s14, s15, s16] = some (.next, [s0, s1, s2, s3, s4, s5, s6, s7, s8, s9, s10, s11, .val (.bool true), s13, s14, s15, s16]) := rfl
theorem st10b {a b c i j : Nat} (ha : a < 26) (hb : b < 26) (hc : c < 26) (hi : i < 3) (hj : j < 3) (t : Bool) (s0 s1 s2 s3 s4 s6 s7 s8 s9 s10 s11 s15 s16 : Slot) :
    law10b.1 [s0, s1, s2, s3, s4, .own [itP (spN a), itP (spN b), itP (spN c)], s6, s7, s8, s9, s10, s11, .val (.bool t), .val (.int i), .val (.int j), s15, s16] =
      some (.next, [s0, s1, s2, s3, s4, .own [itP (spN a), itP (spN b), itP (spN c)], s6, s7, s8, s9, s10, s11, .val (.bool (t && !cl (pk a b c i) (pk a b c j))), .val (.int i), .val (.int j), s15, s16]) := by
  have h := t_sld_all (pk_lt ha hb hc hi) (pk_lt ha hb hc hj)
  unfold qSld at h
  have ei := sps_at (a := a) (b := b) (c := c) hi
  have ej := sps_at (a := a) (b := b) (c := c) hj
  unfold sps at ei ej
  split at h
  · rename_i d r hc
    have h : eqP d (itP (spN (pk a b c i))) = some (cl (pk a b c i) (pk a b c j)) := by simpa using h
    obtain ⟨r1, e1⟩ := callP_ret hc
    have e0 : itemP (.tup [d, r]) (.int 0) = some d := rfl
    unfold law10b
    simp only [seqP, getV_0, getV_s, getB_0, getB_o, getB_s, Option.bind_some, Option.map_some, List.set_cons_zero, List.set_cons_succ, List.length_cons, List.length_nil, Nat.zero_add, Nat.reduceAdd, if_true, ei, ej, e1, e0, h]
    cases hcl : cl (pk a b c i) (pk a b c j) with
    | true => simp
    | false => simp
  · cases h
theorem st10 {a b c : Nat} (ha : a < 26) (hb : b < 26) (hc : c < 26) (s0 s1 s2 s3 s4 s6 s7 s8 s9 s10 s11 s13 s14 s15 s16 : Slot) :
    law10.1 [s0, s1, s2, s3, s4, .own [itP (spN a), itP (spN b), itP (spN c)], s6, s7, s8, s9, s10, s11, .val (.bool true), s13, s14, s15, s16] =
      some (.next, [s0, s1, s2, s3, s4, .own [itP (spN a), itP (spN b), itP (spN c)], s6, s7, s8, s9, s10, s11, .val (.bool (fr a b c)), .val (.int 1), .val (.int 2), s15, s16]) := by
  show forP (fun p ρ => match p with | PV.tup [a, b] => some ((ρ.set 13 (Slot.val a)).set 14 (Slot.val b)) | _ => none) law10b.1 [.tup [.int (0 : Nat), .int (1 : Nat)], .tup [.int (0 : Nat), .int (2 : Nat)], .tup [.int (1 : Nat), .int (2 : Nat)]] _ = _
  unfold forP forP forP forP
  simp only [Option.bind_some, List.set_cons_zero, List.set_cons_succ]
  rw [st10b ha hb hc (by decide) (by decide)]
  simp only [Option.bind_some, List.set_cons_zero, List.set_cons_succ]
  rw [st10b ha hb hc (by decide) (by decide)]
  simp only [Option.bind_some, List.set_cons_zero, List.set_cons_succ]
  rw [st10b ha hb hc (by decide) (by decide)]
  rfl

/-! ## shared -/
theorem t_in : (List.range 8).all (fun k => (List.range 26).all fun m => inP (.int k) (itP (spN m)) == some (mt m k)) = true := by decide +kernel
noncomputable def bShared : List Slot → Option (List PV × List Slot) := fun ρ =>
  (((getB 0 ρ).bind fun a => ((getB 1 ρ).bind fun a => itemP a (.int 1)).bind fun b => inP a b).bind fun a =>
    if a = true then (getB 0 ρ).bind fun a => ((getB 1 ρ).bind fun a => itemP a (.int 2)).bind fun b => inP a b else some false).bind
  fun b => if b = true then Option.map (fun p => ([p], ρ)) (getV 0 ρ) else some ([], ρ)
theorem bShared_at {a b c : Nat} (hb : b < 26) (hc : c < 26) (k : Nat) (hk : k ∈ spN a) : bShared (.val (.int k) :: [.val (sps a b c)]) = some (if (mt b k && mt c k) = true then [PV.int k] else [], .val (.int k) :: [.val (sps a b c)]) := by
  have hk8 : k < 8 := by
    unfold spN at hk
    exact List.mem_range.mp (List.mem_filter.mp hk).1
  have e1 : inP (.int k) (itP (spN b)) = some (mt b k) := by simpa using all_lt2 (q := fun k m => inP (.int k) (itP (spN m)) == some (mt m k)) t_in hk8 hb
  have e2 : inP (.int k) (itP (spN c)) = some (mt c k) := by simpa using all_lt2 (q := fun k m => inP (.int k) (itP (spN m)) == some (mt m k)) t_in hk8 hc
  have i1 : itemP (sps a b c) (.int 1) = some (itP (spN b)) := rfl
  have i2 : itemP (sps a b c) (.int 2) = some (itP (spN c)) := rfl
  unfold bShared
  simp only [getB_0, getB_s, getV_0, Option.bind_some, Option.map_some, i1, i2, e1, e2]
  cases mt b k <;> cases mt c k <;> rfl
noncomputable def shN (a b c : Nat) : List Nat := if fr a b c then spN (f3 a b c) else []
theorem st11 {a b c : Nat} (hb : b < 26) (hc : c < 26) (s0 s1 s2 s3 s4 s6 s7 s8 s9 s10 s11 s12 s13 s14 s15 s16 : Slot) :
    law11.1 [s0, s1, s2, s3, s4, .own [itP (spN a), itP (spN b), itP (spN c)], s6, s7, s8, s9, s10, s11, s12, s13, s14, s15, s16] =
      some (.next, [s0, s1, s2, s3, s4, .val (sps a b c), s6, s7, s8, s9, s10, s11, s12, s13, s14, .val (itP (shN a b c)), s16]) := by
  obtain ⟨y, hy⟩ := foldC_flat (e := fun k : Nat => PV.int k) (spN a) .unb (bShared_at hb hc)
  show ((foldC 0 bShared ((spN a).map fun k : Nat => PV.int k) [.unb, .val (sps a b c)]).bind _) = _
  rw [hy]
  simp only [Option.bind_some, flatMap_if, shared_eq]
  have hl : (if fr a b c = true then spN (f3 a b c) else []).length ≤ 8 := by
    split
    · unfold spN; exact Nat.le_trans (List.length_filter_le _ _) (by simp)
    · simp
  rw [if_pos (by rw [List.length_map]; omega)]
  rfl

/-! ## the two last tests -/
theorem t_ne : (List.range 26).all (fun m => neP (itP (spN m)) (.list []) == some true) = true := by decide +kernel
theorem t_six : ∀ b1 b2 b3 b4 b5 : Bool, eqP (.list [.bool true, .bool b1, .bool b2, .bool b3, .bool b4, .bool b5]) (.list [.bool true, .bool true, .bool true, .bool true, .bool true, .bool true]) = some (b1 && (b2 && (b3 && (b4 && b5)))) := by decide +kernel
theorem neB : ∀ a b : Bool, neP (.bool a) (.bool b) = some (a != b) := by decide +kernel
theorem shN_ne {a b c : Nat} (ha : a < 26) : neP (itP (shN a b c)) (.list []) = some (fr a b c) := by
  unfold shN
  cases fr a b c with
  | true => simpa using all_lt t_ne (show f3 a b c < 26 from fill_lt26 _ (fill_lt26 _ ha))
  | false =>
    show neP (itP []) (.list []) = some false
    rfl
noncomputable def bRest : List Slot → Option (List PV × List Slot) := fun ρ =>
  Option.map (fun p => ([p], ρ)) ((((getB 1 ρ).bind fun a => itemP a (.int 0)).bind fun a => Option.map (fun r => AV.val a :: r) ((getV 0 ρ).bind fun a => some [AV.val a])).bind fun avs =>
    if avs.length + 0 = 2 then (den8.1 (slotsOf sc8 avs [])).bind fun x => match x with | (Out.ret p, _) => some p | _ => none else none)
theorem bRest_at {f : Nat} {R : List PV} (hf : f < 26) (h0 : itemP (.list R) (.int 0) = some (rsP f)) (m : Nat) (hm : m < 26) : bRest (.val (rsP m) :: [.val (.list R)]) = some ([PV.bool (f == m)], .val (rsP m) :: [.val (.list R)]) := by
  obtain ⟨r, e⟩ := callP_ret (oq_eq (t_cmp_all hf hm))
  unfold bRest
  simp only [getB_0, getB_s, getV_0, Option.bind_some, Option.map_some, h0, e, List.length_cons, List.length_nil, Nat.zero_add, Nat.reduceAdd, if_true]
theorem items_list (xs : List PV) : itemsOf (.list xs) = some xs := rfl
theorem st12 {a b c : Nat} (ha : a < 26) (hb : b < 26) (hc : c < 26) (s0 s1 s2 s3 s4 s5 s6 s7 s8 s10 s11 s13 s14 s16 : Slot) :
    law12.1 [s0, s1, s2, s3, s4, s5, s6, s7, s8, .own (rests a b c), s10, s11, .val (.bool (fr a b c)), s13, s14, .val (itP (shN a b c)), s16] =
      some (.next, [s0, s1, s2, s3, s4, s5, s6, s7, s8, .val (.list (rests a b c)), s10, s11, .val (.bool (fr a b c)), s13, s14, .val (itP (shN a b c)), s16]) := by
  have hf : f3 a b c < 26 := fill_lt26 c (fill_lt26 b ha)
  have i0 : itemP (.list (rests a b c)) (.int 0) = some (rsP (f3 a b c)) := rfl
  have hm : ∀ m ∈ [f3 a b c, f3 a c b, f3 b a c, f3 b c a, f3 c a b, f3 c b a], m < 26 := by
    intro m hm
    simp only [List.mem_cons, List.not_mem_nil, or_false] at hm
    rcases hm with rfl | rfl | rfl | rfl | rfl | rfl <;> exact fill_lt26 _ (fill_lt26 _ (by assumption))
  have hbr : ∀ m ∈ [f3 a b c, f3 a c b, f3 b a c, f3 b c a, f3 c a b, f3 c b a], bRest (.val (rsP m) :: [.val (.list (rests a b c))]) = some ([PV.bool (f3 a b c == m)], .val (rsP m) :: [.val (.list (rests a b c))]) :=
    fun m h => bRest_at hf i0 m (hm m h)
  obtain ⟨y, hy⟩ := foldC_flat (f := bRest) (e := rsP) (r := [.val (.list (rests a b c))]) (g := fun m => [PV.bool (f3 a b c == m)]) [f3 a b c, f3 a c b, f3 b a c, f3 b c a, f3 c a b, f3 c b a] .unb hbr
  have hfr : fr a b c = ((f3 a b c == f3 a c b) && ((f3 a b c == f3 b a c) && ((f3 a b c == f3 b c a) && ((f3 a b c == f3 c a b) && (f3 a b c == f3 c b a))))) := by
    rw [Bool.eq_iff_iff, fr_iff]
    simp only [Bool.and_eq_true, beq_iff_eq]
    constructor
    · rintro ⟨h1, h2, h3, h4, h5⟩; exact ⟨h1.symm, h2.symm, h3.symm, h4.symm, h5.symm⟩
    · rintro ⟨h1, h2, h3, h4, h5⟩; exact ⟨h1.symm, h2.symm, h3.symm, h4.symm, h5.symm⟩
  have hmul : mulL (.list [.bool true]) (.int 6) = some (.list [.bool true, .bool true, .bool true, .bool true, .bool true, .bool true]) := rfl
  unfold law12
  simp only [frz_s, frz_o, getV_0, getV_s, getB_0, getB_o, getB_s, Option.bind_some, Option.map_some, List.map_cons, List.map_nil, capS_n, capS_0, capS_s, List.length_cons, List.length_nil, Nat.zero_add, Nat.reduceAdd, items_list, shN_ne ha, neB, Nat.zero_le, if_true, hmul, bne_self_eq_false, Bool.false_eq_true, if_false]
  show Option.bind (Option.bind (Option.bind (Option.bind (foldC 0 bRest ([f3 a b c, f3 a c b, f3 b a c, f3 b c a, f3 c a b, f3 c b a].map rsP) [.unb, .val (.list (rests a b c))]) _) _) _) _ = _
  rw [hy]
  simp only [Option.bind_some, flatMap_one, List.map_cons, List.map_nil, List.length_cons, List.length_nil]
  rw [if_pos (by decide)]
  simp only [Option.bind_some, beq_self_eq_true, t_six, Option.map_some, ← hfr, neB, bne_self_eq_false, Bool.false_eq_true, if_false]
theorem st13 {a b c : Nat} (ha : a < 26) (s0 s1 s2 s3 s4 s5 s6 s7 s8 s10 s11 s13 s14 s16 : Slot) :
    law13.1 [s0, s1, s2, s3, s4, s5, s6, s7, s8, .val (.list (rests a b c)), s10, s11, .val (.bool (fr a b c)), s13, s14, .val (itP (shN a b c)), s16] =
      some (.next, [s0, s1, s2, s3, s4, s5, s6, s7, s8, .val (.list (rests a b c)), s10, s11, .val (.bool (fr a b c)), s13, s14, .val (itP (shN a b c)), s16]) := by
  have hf := fill_lt26 c (fill_lt26 b ha)
  obtain ⟨r, e⟩ := callP_ret (oq_eq (all_lt t_cmp3 hf))
  have i0 : itemP (.list (rests a b c)) (.int 0) = some (rsP (f3 a b c)) := rfl
  have eq : isntP (.bool true) (.bool true) = some false := rfl
  unfold law13
  cases h : fr a b c with
  | false => 
    simp only [getV_0, getV_s, getB_0, getB_o, getB_s, Option.bind_some, Option.map_some, truthP, Bool.false_eq_true, if_false]
  | true =>
    have e' : shN a b c = spN (f3 a b c) := by unfold shN; rw [h]; rfl
    rw [e']
    have ef : fillN (fillN a b) c = f3 a b c := rfl
    rw [ef] at e
    simp only [getV_0, getV_s, getB_0, getB_o, getB_s, Option.bind_some, Option.map_some, truthP, if_true, i0, e, eq, List.length_cons, List.length_nil, Nat.zero_add, Nat.reduceAdd, Bool.false_eq_true, if_false]

/-! ## the walk -/
noncomputable def bWalk : List Slot → Option (List PV × List Slot) := fun ρ =>
  Option.map (fun p => ([p], ρ)) (((((getB 1 ρ).bind fun a => itemP a (.int 3)).bind fun a => ((getV 0 ρ).bind fun b => powP (.int 3) b).bind fun b => fdivP a b).bind fun a => fmodP a (.int 3)))
theorem t_pow : (List.range 6).all (fun i => oq (powP (.int 3) (.int (0 + (i : Int) * 1))) (.int ((3 ^ i : Nat) : Int))) = true := by decide +kernel
theorem bWalk_at (d0 d1 d2 d3 : Nat) (i : Nat) (hi : i ∈ List.range 6) : bWalk (.val (.int (0 + (i : Int) * 1)) :: [.val (itP [d0, d1, d2, d3])]) = some ([PV.int (tr d3 i : Nat)], .val (.int (0 + (i : Int) * 1)) :: [.val (itP [d0, d1, d2, d3])]) := by
  have hi := List.mem_range.mp hi
  have e := oq_eq (all_lt t_pow hi)
  have i3 : itemP (itP [d0, d1, d2, d3]) (.int 3) = some (.int d3) := rfl
  have h6 : 3 ^ i < 4294967296 := Nat.lt_of_lt_of_le (Nat.pow_lt_pow_right (by decide) hi) (by decide)
  have h0 : 0 < 3 ^ i := Nat.pow_pos (by decide)
  unfold bWalk
  simp only [getB_0, getB_s, getV_0, Option.bind_some, i3, e, fdivP]
  rw [if_pos (by omega)]
  simp only [Option.bind_some, fmodP]
  rw [if_pos (by decide)]
  simp only [Option.map_some]
  have : ((d3 : Int) / ((3 ^ i : Nat) : Int) % 3) = ((tr d3 i : Nat) : Int) := by unfold tr; omega
  rw [this]
theorem st14 (d0 d1 d2 d3 : Nat) (s0 s2 s3 s4 s5 s6 s7 s8 s9 s10 s11 s12 s13 s14 s15 s16 : Slot) :
    law14.1 [s0, .val (itP [d0, d1, d2, d3]), s2, s3, s4, s5, s6, s7, s8, s9, s10, s11, s12, s13, s14, s15, s16] =
      some (.next, [s0, .val (itP [d0, d1, d2, d3]), s2, s3, s4, s5, s6, s7, s8, s9, s10, s11, s12, s13, s14, s15, .val (itP ((List.range 6).map (tr d3)))]) := by
  obtain ⟨y, hy⟩ := foldC_flat (e := fun i : Nat => PV.int (0 + (i : Int) * 1)) (List.range 6) .unb (bWalk_at d0 d1 d2 d3)
  unfold law14
  simp only [Option.bind_some, List.map_cons, List.map_nil, capS_n, capS_s, capS_0]
  rw [if_pos (by decide)]
  simp only [Option.bind_some]
  show (foldC 0 bWalk ((List.range 6).map (fun i : Nat => PV.int (0 + (i : Int) * 1))) [.unb, .val (itP [d0, d1, d2, d3])]).bind _ = _
  rw [hy]
  rfl
theorem addK_nat : ∀ (l acc : List Nat), (l.map Int.ofNat).foldl addK (acc.map Int.ofNat) = (l.foldl adN acc).map Int.ofNat
  | [], acc => rfl
  | x :: l, acc => by
    rw [List.map_cons, List.foldl_cons, List.foldl_cons, ← addK_nat l]
    congr 1
    unfold addK adN
    by_cases h : x ∈ acc
    · rw [if_pos h, if_pos (List.mem_map_of_mem h)]
    · rw [if_neg h, if_neg (fun q => h (by obtain ⟨y, hy, e⟩ := List.mem_map.mp q; exact Int.ofNat.inj e ▸ hy))]
      simp
theorem adN_len : ∀ (l acc : List Nat), (l.foldl adN acc).length ≤ acc.length + l.length
  | [], acc => by simp
  | x :: l, acc => by
    rw [List.foldl_cons]
    refine Nat.le_trans (adN_len l _) ?_
    unfold adN
    split <;> simp <;> omega
theorem adN_mem {n : Nat} : ∀ (l acc : List Nat), n ∈ l.foldl adN acc → n ∈ acc ∨ n ∈ l
  | [], acc, h => .inl h
  | x :: l, acc, h => by
    rcases adN_mem l _ h with h | h
    · unfold adN at h
      split at h
      · exact .inl h
      · rcases List.mem_append.mp h with h | h
        · exact .inl h
        · exact .inr (by rw [List.mem_singleton.mp h]; exact .head _)
    · exact .inr (.tail _ h)
theorem intsOf_itP (l : List Nat) : intsOf (l.map fun k : Nat => PV.int k) = some (l.map Int.ofNat) := by
  have := intsOf_map (l.map Int.ofNat)
  rw [List.map_map] at this
  exact this
theorem dd_call {l : List Nat} (h : l.length ≤ 1000) : callP den6.1 sc6 [.val (itP l)] [false] = some (.keys ((l.foldl adN []).map Int.ofNat)) := by
  have e : fkP (itP l) = some (.keys ((l.foldl adN []).map Int.ofNat)) := by
    unfold itP
    simp only [fkP, intsOf_itP, Option.bind_some]
    rw [if_pos (by rw [List.length_map]; omega)]
    have := addK_nat l []
    rw [List.map_nil] at this
    rw [this]
  unfold callP den6
  have e0 : slotsOf sc6 [.val (itP l)] [false] = [.val (itP l), .val (.bool false)] := rfl
  rw [e0]
  simp only [seqP, tryP, getV_0, Option.bind_some, Option.map_some, e]
theorem walk_ends {a b c : Nat} {W : List Nat} (hW : ∀ w ∈ W, w < 3) (hl : W.length ≤ 100) : callP den12.1 sc12 [.val (itP W), .val (gts a b c)] [] = some (itP (gtN (pr (pk a b c) W))) := by
  refine ends_all (p := pk a b c) ?_ (by omega) (fun k hk => ?_) fun j hj => gts_at (hW j hj)
  · unfold itP
    simp only [lenP]
    rw [if_pos (by rw [List.length_map]; omega), List.length_map]
  · refine item_itP (v := W.getD k 0) ?_ (by omega)
    rw [List.getD_eq_getElem?_getD, List.getElem?_eq_getElem hk]; rfl
theorem t_same : (List.range 27).all (fun m => eqP (itP (gtN m)) (itP (gtN m)) == some true) = true := by decide +kernel
theorem st15 {a b c : Nat} {W : List Nat} (hW : ∀ w ∈ W, w < 3) (hl : W.length ≤ 100) (s0 s1 s2 s3 s4 s5 s7 s8 s9 s10 s11 s12 s13 s14 s15 : Slot) :
    ∃ ρ', law15.1 [s0, s1, s2, s3, s4, s5, .val (gts a b c), s7, s8, s9, s10, s11, s12, s13, s14, s15, .val (itP W)] = some (.ret (.bool true), ρ') := by
  obtain ⟨r1, e1⟩ := callP_ret (walk_ends (a := a) (b := b) (c := c) hW hl)
  obtain ⟨r2, e2⟩ := callP_ret (dd_call (l := W) (by omega))
  have hd := adN_len W []
  rw [List.length_nil, Nat.zero_add] at hd
  obtain ⟨r3, e3⟩ := callP_ret (walk_ends (a := a) (b := b) (c := c) (W := W.foldl adN []) (fun w hw => (adN_mem W [] hw).elim (fun h => by cases h) (hW w)) (by omega))
  rw [pr_dd] at e3
  have es : eqP (itP (gtN (pr (pk a b c) W))) (itP (gtN (pr (pk a b c) W))) = some true := by simpa using all_lt t_same (pr_lt (pk a b c) W)
  have ei : PV.list ((List.map Int.ofNat (W.foldl adN [])).map PV.int) = itP (W.foldl adN []) := by unfold itP; rw [List.map_map]; rfl
  refine ⟨[s0, s1, s2, s3, s4, s5, .val (gts a b c), s7, s8, s9, s10, s11, s12, s13, s14, s15, .val (itP W)], ?_⟩
  unfold law15
  simp only [frz_s, frz_v, getV_0, getV_s, getB_0, getB_o, getB_s, Option.bind_some, Option.map_some, List.length_cons, List.length_nil, Nat.zero_add, Nat.reduceAdd, if_true, e1, e2]
  rw [if_pos (by rw [List.length_map]; omega)]
  simp only [Option.bind_some, Option.map_some, ei, e3, es, List.length_cons, List.length_nil, Nat.zero_add, Nat.reduceAdd, if_true]
end Mine
end

section
set_option maxRecDepth 100000
namespace Mine
theorem seqP_next {f g : List Slot → Option (Out × List Slot)} {ρ ρ₁ : List Slot} (h : f ρ = some (.next, ρ₁)) : seqP f g ρ = g ρ₁ := by
  unfold seqP; rw [h]; rfl
theorem seqP_ret {f g : List Slot → Option (Out × List Slot)} {ρ ρ₁ : List Slot} {p : PV} (h : f ρ = some (.ret p, ρ₁)) : seqP f g ρ = some (.ret p, ρ₁) := by
  unfold seqP; rw [h]; rfl
/-- the plain law -/
theorem plain {ns : List Int} (h : ns.length ≤ 1000000) : ∃ ρ', den13.1 (slotsOf sc13 [.val (.list (ns.map .int))] []) = some (.ret (.bool true), ρ') := by
  have l : ∀ n, n % 26 < 26 := fun n => Nat.mod_lt _ (by decide)
  obtain ⟨ρ', e⟩ := st15 (a := drN ns 0 % 26) (b := drN ns 1 % 26) (c := drN ns 2 % 26) (W := (List.range 6).map (tr (drN ns 3))) (fun w hw => by obtain ⟨i, _, rfl⟩ := List.mem_map.mp hw; exact tr_lt _ _) (by simp)
    (.val (.list (ns.map .int))) (.val (itP [drN ns 0, drN ns 1, drN ns 2, drN ns 3])) (.val (pts (drN ns 0 % 26) (drN ns 1 % 26) (drN ns 2 % 26))) (.val namesP) (.val codesP) (.val (sps (drN ns 0 % 26) (drN ns 1 % 26) (drN ns 2 % 26)))
    (.val (patP (drN ns 2 % 26))) (.val (tkP (f3 (drN ns 2 % 26) (drN ns 1 % 26) (drN ns 0 % 26)))) (.val (.list (rests (drN ns 0 % 26) (drN ns 1 % 26) (drN ns 2 % 26)))) (.val (ord 2 1 0)) (.val (patP (f3 (drN ns 2 % 26) (drN ns 1 % 26) (drN ns 0 % 26))))
    (.val (.bool (fr (drN ns 0 % 26) (drN ns 1 % 26) (drN ns 2 % 26)))) (.val (.int 1)) (.val (.int 2)) (.val (itP (shN (drN ns 0 % 26) (drN ns 1 % 26) (drN ns 2 % 26))))
  refine ⟨ρ', ?_⟩
  show seqP law0.1 (seqP law1.1 (seqP law2.1 (seqP law3.1 (seqP law4.1 (seqP law5.1 (seqP law6.1 (seqP law7.1 (seqP law8.1 (seqP law9.1 (seqP law10.1 (seqP law11.1 (seqP law12.1 (seqP law13.1 (seqP law14.1 (seqP law15.1 fun ρ => some (.next, ρ)))))))))))))))) [.val (.list (ns.map .int)), .unb, .unb, .unb, .unb, .unb, .unb, .unb, .unb, .unb, .unb, .unb, .unb, .unb, .unb, .unb, .unb] = _
  rw [seqP_next (st0 h ..), seqP_next (st1 ..), seqP_next (st2 ..), seqP_next (st3 ..), seqP_next (st4 ..), seqP_next (st5 ..), seqP_next (st6 (l _) (l _) (l _) ..), seqP_next (st7 ..)]
  rw [show PV.list [patP (drN ns 0 % 26), patP (drN ns 1 % 26), patP (drN ns 2 % 26)] = pts (drN ns 0 % 26) (drN ns 1 % 26) (drN ns 2 % 26) from rfl]
  rw [seqP_next (st8 (l _) (l _) (l _) ..), seqP_next (st9 ..), seqP_next (st10 (l _) (l _) (l _) ..), seqP_next (st11 (l _) (l _) ..), seqP_next (st12 (l _) (l _) (l _) ..), seqP_next (st13 (l _) ..), seqP_next (st14 ..)]
  exact seqP_ret e
end Mine
end

section
namespace Mine

/-! ## the law called from outside -/
noncomputable def cfgT (A : Around) (mg mb : Str → Option Value) (env : Env) (h : Heap) : Cfg :=
  { g := h, mg := mg, mb := mb, base := h, A := A.deeper env, fenv := env, outer := [], env := env, F := env.locals :: env.cells.filterMap (fun p => env.cells.lookup p.1) }

section
variable {prog : Program} {w : World}

theorem top_enter {d : DefRec} {sc' : Sc} {names : List Str} {A : Around} {mg mb : Str → Option Value} {s s₁ : Shared} {avs : List AV} {vals : List Value} {env : Env} (ok : FnOk d sc' names []) (G : Glo s.heap mg mb) (hh : A.handled = none) (hdp : A.depth + 1 + sc'.lv < 990) (hun : A.units + 3 + 10 * sc'.lv < 9000) (hfm : A.frames = some [])
    (hA : ArgsAre [] s.heap vals avs []) (hlen : vals.length = names.length) (ev : EnvOk d s.heap env)
    (x : InCallC s env.locals (bindL env.kindOf (names.zip (vals ++ ([] : List Bool).map .bool)) fun _ => none) env.cells (bindC env.kindOf (names.zip (vals ++ ([] : List Bool).map .bool)) fun _ => none) s₁) :
    FSt (cfgT A mg mb env s.heap) sc' (slotsOf sc' avs []) s₁.heap ∧ Fn (cfgT A mg mb env s.heap) := by
  have kO : ∀ y, env.kindOf y = d.scope.names.lookup y := fun y => by unfold Env.kindOf; rw [ev.scope]
  have keep : ∀ b o, s.heap.get? b = some o → s₁.heap.get? b = some o := x.toInCall.keep
  have newb : ∀ a : Nat, s.heap.objs.size ≤ a → s.heap.get? a = none := fun a ha => Heap.get?_none_of_le ha
  have hL : @Eq Nat env.locals s.heap.objs.size := ev.loc
  have cellgt : ∀ y (a : Nat), env.cells.lookup y = some a → env.locals < a := fun y a h => x.above y a (mem_of_lookup h)
  obtain ⟨oL, esL, epL, hoL, hdL, hmL⟩ := id x.toInCall.ns
  have hfr : ∀ a, a ∈ (cfgT A mg mb env s.heap).fr ↔ a = env.locals := fun a => by
    show a ∈ [env].filterMap (·.frame) ↔ _
    rw [List.filterMap_cons, ev.frame]; simp
  have ldAt : ∀ (i : Nat) (y : Str) (v : Value), sc'.vars[i]? = some y → (vals ++ ([] : List Bool).map Value.bool)[i]? = some v → Ld env s₁.heap y v := by
    intro i y v hy hv
    have hi : i < names.length := by
      have := (List.getElem?_eq_some_iff.mp hv).1
      simp only [List.length_append, List.length_map, List.length_nil] at this; omega
    have hy' := ok.par i _ (List.getElem?_eq_getElem hi)
    rw [hy] at hy'; cases hy'
    obtain ⟨b1, b2⟩ := bind_at (k := env.kindOf) (m := fun _ => none) (m' := fun _ => none) ok.nnd (List.getElem?_eq_getElem hi) hv
    rcases ok.parK names[i] (List.getElem_mem hi) with hk | hk
    · exact .inl ⟨(kO _).trans hk, _, x.toInCall.ns, b1 ((kO _).trans hk)⟩
    · have hc := cellsFrom_has (y := names[i]) d.scope.names (s.heap.objs.size + 1) [] (.inl (mem_of_lookup' hk))
      rw [← ev.cells] at hc
      obtain ⟨b, hb⟩ := hc
      refine .inr ⟨.inl ((kO _).trans hk), b, hb, ?_⟩
      have := x.cell _ b hb
      rw [b2 (by rw [kO, hk]; decide)] at this
      exact this
  have sl := fun i => slot_at hA ([] : List Bool) (sc'.vars.length - avs.length - 0) i
  have noOwn : ∀ i xs, (slotsOf sc' avs []).getD i .unb ≠ .own xs := by
    intro i xs e
    have := sl i
    unfold slotsOf at e
    simp only [List.length_nil] at e
    rw [e] at this
    obtain ⟨a', ws, h1, h2, _⟩ := this
    cases h2
  have memF : ∀ a, a ∈ (cfgT A mg mb env s.heap).F ↔ a = env.locals ∨ (∃ y, env.cells.lookup y = some a) := by
    intro a
    show a ∈ env.locals :: env.cells.filterMap (fun p => env.cells.lookup p.1) ↔ _
    rw [List.mem_cons, List.mem_filterMap]
    constructor
    · rintro (h | ⟨p, _, h⟩)
      · exact .inl h
      · exact .inr ⟨_, h⟩
    · rintro (h | ⟨y, h⟩)
      · exact .inl h
      · exact .inr ⟨(y, a), mem_of_lookup h, h⟩
  have repF : ∀ b, b ∉ ([] : List Addr) → (∃ o, s.heap.get? b = some o) → b ∉ (cfgT A mg mb env s.heap).F := by
    rintro b hb ⟨o, ho⟩ q
    have hlt : @LT.lt Nat _ b s.heap.objs.size := Heap.lt_size ho
    rcases (memF b).mp q with e | ⟨y, e⟩
    · rw [e, hL] at hlt; exact Nat.lt_irrefl _ hlt
    · have h1 := cellgt y b e
      have h2 : @LT.lt Nat _ env.locals b := h1
      rw [hL] at h2; exact Nat.lt_asymm h2 hlt
  refine ⟨⟨⟨?_, ?_, ev.glob, ev.blt, fun _ => hh, fun q => (by rw [ok.hot] at q; cases q), hdp, hun, ?_, ?_, ?_, ?_, ?_, G, fun b o e => e, keep, ?_, ?_, ?_, ?_, ?_⟩, ⟨_, x.toInCall.ns⟩, .head _, ?_, ok.nd, fun i y xs a _ e => absurd e (noOwn i xs), fun i j y z xs ys a _ _ e => absurd e (noOwn i xs), ?_, fun i y xs a _ e => absurd e (noOwn i xs), ?_⟩, ⟨rfl, ev.frame, ?_⟩⟩
  · show env.scope.kind = _; rw [ev.scope]; exact ok.kind
  · intro y hy; exact (kO y).trans (ok.globs y hy)
  · show A.frames.map (env :: ·) = _
    rw [hfm]; rfl
  · refine ⟨?_, ⟨env.locals, oL, ev.frame, newb _ (Nat.le_of_eq hL.symm), hoL, fun vs q => by rw [hdL] at q; cases q⟩, trivial⟩
    show env.scope.kind ≠ _; rw [ev.scope, ok.kind]; decide
  · intro a ha
    exact (memF a).mpr (.inl ((hfr a).mp ha))
  · intro a ha
    rcases (memF a).mp ha with e | ⟨y, e⟩
    · exact ⟨oL, e ▸ hoL⟩
    · obtain ⟨o, ho, _⟩ := x.cell y a e; exact ⟨o, ho⟩
  · intro y a e
    refine newb a ?_
    have h2 : @LT.lt Nat _ env.locals a := cellgt y a e
    rw [hL] at h2; exact Nat.le_of_lt h2
  · intro y a e
    have h2 : @LT.lt Nat _ env.locals a := cellgt y a e
    refine ⟨(memF a).mpr (.inr ⟨y, e⟩), fun q => ?_, _, x.cell y a e⟩
    have e' := (hfr a).mp q
    rw [e'] at h2; exact Nat.lt_irrefl _ h2
  · intro y z a hy hz; exact name_of_addr x.apart (mem_of_lookup hy) (mem_of_lookup hz)
  · intro y hy
    refine ⟨.inl ((kO y).trans (ok.cells y hy)), ?_⟩
    have hc := cellsFrom_has (y := y) d.scope.names (s.heap.objs.size + 1) [] (.inl (mem_of_lookup' (ok.cells y hy)))
    rw [← ev.cells] at hc
    exact hc
  · intro y hy
    rcases ok.sto y hy with h | ⟨h, hc⟩
    · exact .inl ((kO y).trans h)
    · exact .inr ⟨(kO y).trans h, hc⟩
  · intro i y hy
    have := sl i
    unfold slotsOf
    simp only [List.length_nil] at this ⊢
    generalize ((avs.map AV.slot ++ ([] : List Bool).map (fun b => Slot.val (.bool b)) ++ List.replicate (sc'.vars.length - avs.length - 0) Slot.unb).getD i .unb) = slt at this ⊢
    cases slt with
    | unb => trivial
    | app _ => exact this.elim
    | val p =>
      obtain ⟨v, hv, r⟩ := this
      exact ⟨v, ldAt i y v hy hv, (rep_live repF r).mono fun b o _ e => keep b o e⟩
    | own xs => obtain ⟨a, ws, hv, h2, _⟩ := this; cases h2
  · intro y a h e
    have h2 : @LT.lt Nat _ env.locals a := cellgt y a h
    have e' : @Eq Nat a env.locals := e
    omega
  · intro i y j hy e
    have := sl i
    unfold slotsOf at e
    simp only [List.length_nil] at e
    rw [e] at this
    exact this.elim
  · exact newb _ (Nat.le_of_eq hL.symm)
  · intro q
    cases q

theorem top_call {d : DefRec} {sc' : Sc} {names : List Str} {A : Around} {mg mb : Str → Option Value} {s : Shared} {avs : List AV} {vals : List Value} {f : List Slot → Option (Out × List Slot)} {p : PV} {ρ' : List Slot} {E : Value → Shared → Prop} {fa : Addr}
    (hd : d ∈ allDefs) (ok : FnOk d sc' names []) (hb : ExR prog w sc' d.body f) (G : Glo s.heap mg mb) (hh : A.handled = none) (hdp : A.depth + 1 + sc'.lv < 990) (hun : A.units + 3 + 10 * sc'.lv < 9000) (hfm : A.frames = some []) (hfa : mg d.name = some (.ref fa))
    (hA : ArgsAre [] s.heap vals avs []) (hlen : vals.length = names.length) (e : f (slotsOf sc' avs []) = some (.ret p, ρ')) :
    wpAny (model prog w) A (call (.ref fa) vals) (fun v s' => (∃ F, Rep F s'.heap v p) ∧ (∀ b o, s.heap.get? b = some o → s'.heap.get? b = some o) ∧ ∃ h' tk, s' = { s with heap := h', toks := tk }) E s := by
  obtain ⟨a, o, dV, kV, doc, pm, an, cdv, ct, hmg, ho, hdata, hcd, rfl, hkw⟩ := G.defs d hd
  rw [hfa] at hmg; cases hmg
  refine wpAny_call (codeAny_call_function (body := d.body) ?_ ho hdata ok.co ok.gen rfl hcd ?_)
  · show A.depth < 1000; omega
  refine ok.bind kV doc pm an cdv ct vals s hkw (by simpa using hlen) _ _ _ _ ?_
  refine wpAny_newFunctionEnv_cells ok.kind (fun y hy => ?_) fun env he s₁ x => ?_
  · have hy1 := (List.of_mem_zip (show (y.1, y.2) ∈ _ from hy)).1
    rcases ok.parK y.1 hy1 with h | h
    · exact .inl h
    · refine .inr ⟨h, ?_⟩
      obtain ⟨b, hb⟩ := cellsFrom_has (y := y.1) d.scope.names (s.heap.objs.size + 1) [] (.inl (mem_of_lookup' h))
      rw [hb]; rfl
  have ev : EnvOk d s.heap env := by subst he; exact ⟨rfl, rfl, rfl, rfl, rfl, rfl⟩
  clear he
  obtain ⟨S₁, fn₁⟩ := top_enter ok G hh hdp hun hfm hA hlen ev x
  have keep : ∀ b o, s.heap.get? b = some o → s₁.heap.get? b = some o := x.toInCall.keep
  refine ⟨G.nolimit.keeps keep, codeAny_func ?_⟩
  refine wpAny_mono (hb (cfgT A mg mb env s.heap) _ ρ' (.ret p) s₁ fn₁ S₁ e) (fun fl s₂ q => ?_) fun x s₂ q => ?_
  · obtain ⟨F₂, g, S₂, k₂, fi⟩ := q
    cases fl with
    | ret v =>
      obtain ⟨h₂, t₂, hs₂⟩ := k₂.same
      obtain ⟨h₃, t₃, hs₃⟩ := x.toInCall.same
      exact ⟨⟨F₂, fi⟩, S₂.st.stays, s₂.heap, s₂.toks, by rw [hs₂, hs₃]⟩
    | _ => exact fi.elim
  · obtain ⟨_, _, _, _, _, h, _⟩ := q
    cases h
end
end Mine
end

section
set_option maxRecDepth 100000
namespace Mine

/-! ## the top: the head, by one run of the top in the kernel -/
noncomputable abbrev pw : Program := PySem.Challenge.pw_rt0015_01
noncomputable def keepS : Stmt → Bool
  | .Assign [.Name x _] _ _ => x != "__name__"
  | .FunctionDef name _ _ _ _ _ _ _ _ _ => name != "_deduplicate"
  | _ => true
noncomputable def vw : Program := { pw with main := { pw.main with body := pw.main.body.filter keepS } }
noncomputable def loose : List PySem.Str := [Str.ofString "_twin_re_1", Str.ofString "_special_chars_map", Str.ofString "_deduplicate"]

noncomputable def fdOf (h : Heap) (a : Addr) : Option FuncData := match h.get? a with
  | some o => (match o.data with | .func fd => some fd | _ => none)
  | none => none
noncomputable def bare (fd : FuncData) : FuncData := { fd with doc := .none, pyModule := .none, annotations := none, code := .none, closureTuple := .none, kwdefaults := .none }
noncomputable def cdOk (h : Heap) (cd : Value) (q : Str) : Bool := match cd with
  | .ref c => (match h.get? c with
    | some o => (match o.data with
      | .fields vs => (match (vs[1]? : Option Value) with | some (.str s _) => s == q | _ => false)
      | _ => false)
    | none => false)
  | _ => false
noncomputable def kwOk (h : Heap) (d : DefRec) (kV : Value) : Bool := match kV with
  | .none => d.params.kwonlyargs.isEmpty
  | .ref k => h.isNs k && (match h.nsMap k "unhashable_fallback" with | some (.bool false) => true | _ => false)
  | _ => false
noncomputable def chkMap (h : Heap) (d : Addr) : Bool := (d != sysModules) && (match h.get? d with
  | some o => (match o.cls with | .type c => c == "dict" | _ => false) && o.dict.isNone && o.slots.size == 0 && (match o.data with
    | .dict es _ => es.toList.all fun e => match e.key with | .int n _ => (e.hash == hashInt n) && ((n != 97) && (n != 98)) | _ => false
    | _ => false)
  | none => false)
noncomputable def obsFn (h : Heap) (d : DefRec) : Option FuncData × Bool := match h.nsMap mainGlobals d.name with
  | some (.ref a) => (match fdOf h a with
    | some fd => (some (bare fd), cdOk h fd.code d.name && kwOk h d fd.kwdefaults)
    | none => (none, false))
  | _ => (none, false)
noncomputable def obsH (s : Shared) : List (Option FuncData × Bool) × Bool :=
  (allDefs.map (obsFn s.heap), s.heap.isNs mainGlobals && ((bNames.all fun x => (s.heap.nsMap mainGlobals x).isNone) && (match s.heap.nsMap mainGlobals "_special_chars_map" with | some (.ref d) => chkMap s.heap d | _ => false)))
noncomputable def valH : List (Option FuncData × Bool) × Bool :=
  (allDefs.map fun d => (some (bare (fnOf d.name d.name d.params d.body d.scope .none .none .none .none none .none .none)), true), true)

noncomputable def SpecM (h : Heap) (m : Str → Option Value) : Prop := ∃ d : Addr, m "_special_chars_map" = some (.ref d) ∧ (d == sysModules) = false ∧ ∀ (prog : Program) (w : World), ∃ f, Heap.MapOf (intKind prog w) h d f ∧ f 97 = none ∧ f 98 = none
noncomputable def says (h : Heap) : Prop := ∃ m, h.Ns mainGlobals m ∧ (∀ d ∈ allDefs, FnAt h m d) ∧ (∀ x ∈ bNames, m x = none) ∧ SpecM h m

theorem says_keeps {h h' : Heap} (x : says h) (k : ∀ b o, h.get? b = some o → h'.get? b = some o) : says h' := by
  obtain ⟨m, h1, h2, h3, d, h4, h5, h6⟩ := x
  refine ⟨m, h1.keeps k, fun d hd => ?_, h3, d, h4, h5, fun prog w => ?_⟩
  · obtain ⟨a, o, dV, kV, doc, pm, an, cdv, ct, g1, g2, g3, g4, g5, g6⟩ := h2 d hd
    exact ⟨a, o, dV, kV, doc, pm, an, cdv, ct, g1, k _ _ g2, g3, g4.keeps k, g5, g6.imp id fun ⟨q, e, mk, hm, hv⟩ => ⟨q, e, mk, hm.keeps k, hv⟩⟩
  · obtain ⟨f, ⟨o, es, ep, g1, r⟩, g2⟩ := h6 prog w
    exact ⟨f, ⟨o, es, ep, k _ _ g1, r⟩, g2⟩

theorem codeRec_ok {h : Heap} {cd : Value} {q : Str} (e : cdOk h cd q = true) : h.CodeRec cd q := by
  unfold cdOk at e
  split at e
  · rename_i c
    split at e
    · rename_i o ho
      split at e
      · rename_i vs hd
        split at e
        · rename_i s t hv
          rw [beq_iff_eq] at e
          subst e
          exact ⟨c, o, vs, t, rfl, ho, hd, hv⟩
        · cases e
      · cases e
    · cases e
  · cases e
theorem fn_ok {h : Heap} {d : DefRec} (e : obsFn h d = (some (bare (fnOf d.name d.name d.params d.body d.scope .none .none .none .none none .none .none)), true)) : FnAt h (h.nsMap mainGlobals) d := by
  unfold obsFn at e
  split at e
  · rename_i a ha
    split at e
    · rename_i fd hfd
      obtain ⟨e1, e2⟩ := Prod.mk.inj e
      obtain ⟨e2, e3⟩ := Bool.and_eq_true_iff.mp e2
      have e1 := Option.some.inj e1
      unfold fdOf at hfd
      split at hfd
      · rename_i o ho
        split at hfd
        · rename_i fd' hd
          cases hfd
          refine ⟨a, o, .none, fd.kwdefaults, fd.doc, fd.pyModule, fd.annotations, fd.code, fd.closureTuple, ha, ho, ?_, codeRec_ok e2, rfl, ?_⟩
          · rw [hd]
            unfold bare at e1
            obtain ⟨n, q, ps, b, sc, g, cl, dv, kv, dc, pm, an, c, ct, bl⟩ := fd
            simp only [FuncData.mk.injEq] at e1
            obtain ⟨rfl, rfl, rfl, rfl, rfl, rfl, rfl, rfl, _, _, _, _, _, _, rfl⟩ := e1
            rfl
          · unfold kwOk at e3
            split at e3
            · rename_i hk
              exact .inl ⟨by simpa using e3, hk⟩
            · rename_i k hk
              obtain ⟨q1, q2⟩ := Bool.and_eq_true_iff.mp e3
              refine .inr ⟨k, hk, _, .of_isNs q1, ?_⟩
              split at q2
              · rename_i hv; exact hv
              · cases q2
            · cases e3
        · cases hfd
      · cases hfd
    · cases (Prod.mk.inj e).1
  · cases (Prod.mk.inj e).1
theorem map_ok {h : Heap} {d : Addr} (e : chkMap h d = true) (prog : Program) (w : World) : ∃ f, Heap.MapOf (intKind prog w) h d f ∧ f 97 = none ∧ f 98 = none := by
  unfold chkMap at e
  obtain ⟨e0, e⟩ := Bool.and_eq_true_iff.mp e
  split at e
  · rename_i o ho
    simp only [Bool.and_eq_true] at e
    obtain ⟨⟨⟨e1, e2⟩, e3⟩, e4⟩ := e
    split at e4
    · rename_i es ep hd
      have hall : ∀ x ∈ es, ∃ n t, x.key = .int n t ∧ x.hash = hashInt n ∧ n ≠ 97 ∧ n ≠ 98 := by
        intro x hx
        have := List.all_eq_true.mp e4 x (Array.mem_toList_iff.mpr hx)
        split at this
        · rename_i n t hk
          simp only [Bool.and_eq_true, beq_iff_eq, bne_iff_ne] at this
          exact ⟨n, t, hk, this.1, this.2.1, this.2.2⟩
        · cases this
      have no : ∀ k : Int, (∀ x ∈ es, ∀ n t, x.key = .int n t → n ≠ k) → findBy (intKind prog w).is es k = none := by
        intro k hk
        unfold findBy
        have : es.find? (fun x => (intKind prog w).is k x.key) = none := by
          rw [Array.find?_eq_none]
          intro x hx hq
          obtain ⟨n, t, hn, _⟩ := hall x hx
          have hq' : Value.isInt k x.key = true := hq
          rw [hn] at hq'
          refine hk x hx n t hn ?_
          obtain ⟨u, hu⟩ := Value.isInt_shape hq'
          cases hu; rfl
        rw [this]; rfl
      refine ⟨fun k => findBy (intKind prog w).is es k, ⟨o, es, ep, ho, ⟨?_, Option.isNone_iff_eq_none.mp e2, Array.eq_empty_of_size_eq_zero (beq_iff_eq.mp e3)⟩, hd, fun x hx => ?_, fun _ => rfl⟩, no 97 fun x hx n t hk => ?_, no 98 fun x hx n t hk => ?_⟩
      · split at e1
        · rename_i c hc; rw [hc, beq_iff_eq.mp e1]
        · cases e1
      · obtain ⟨n, t, hn, hh, _⟩ := hall x hx
        exact ⟨n, by rw [hn]; exact beq_self_eq_true n, hh⟩
      · obtain ⟨n', t', hn, _, h1, _⟩ := hall x hx
        rw [hn] at hk; cases hk; exact h1
      · obtain ⟨n', t', hn, _, _, h2⟩ := hall x hx
        rw [hn] at hk; cases hk; exact h2
    · cases e4
  · cases e
theorem map_ne {h : Heap} {d : Addr} (e : chkMap h d = true) : (d == sysModules) = false := by
  unfold chkMap at e
  simpa using (Bool.and_eq_true_iff.mp e).1
theorem says_of {s : Shared} (e : obsH s = valH) : says s.heap := by
  obtain ⟨e1, e2⟩ := Prod.mk.inj e
  simp only [Bool.and_eq_true] at e2
  obtain ⟨e2, e3, e4⟩ := e2
  refine ⟨_, .of_isNs e2, fun d hd => fn_ok (List.map_inj_left.mp e1 d hd), fun x hx => Option.isNone_iff_eq_none.mp (List.all_eq_true.mp e3 x hx), ?_⟩
  split at e4
  · rename_i d hd
    exact ⟨d, hd, map_ne e4, fun prog w => map_ok e4 prog w⟩
  · cases e4
noncomputable def hook : Hook := ⟨_, obsH, fun _ => valH, fun _ h => says h, fun _ _ e => says_of e, fun _ _ _ x k => says_keeps x k⟩

end Mine
end

section
set_option maxRecDepth 100000
set_option maxHeartbeats 8000000
namespace Mine
abbrev rowO : OpenRow := PySem.Challenge.rw_rt0015_01.row
noncomputable abbrev XtM : Shared → Bool := fun s => xlAt vw [] s && recOk (RowW.records rowO.toRowW) s
noncomputable def Came (w : World) : Prop := (openEnds treeTable rowO.prog w 3768).map (fun s => (openSeen vw loose (importedModules rowO.prog.main.body) XtM true s, obsH s)) = some (openGood vw loose, valH)
theorem left_ff (w : World) : Came ((w.withFollow "comprehension-iter-twice" false).withFollow "special-get-raises" false) := by
  unfold Came openEnds topFrom fencedOpening
  rw [PySem.W.Fast.te14364793385576792824, PySem.W.Fast.te4187177175401517315, PySem.W.Fast.te5923862056798008813, PySem.W.Fast.te14082659384304107361, PySem.W.Fast.te10274390034422433532]
  kernel_rfl
theorem left_ft (w : World) : Came ((w.withFollow "comprehension-iter-twice" false).withFollow "special-get-raises" true) := by
  unfold Came openEnds topFrom fencedOpening
  rw [PySem.W.Fast.te14364793385576792824, PySem.W.Fast.te4187177175401517315, PySem.W.Fast.te5923862056798008813, PySem.W.Fast.te14082659384304107361, PySem.W.Fast.te10274390034422433532]
  kernel_rfl
theorem left_tf (w : World) : Came ((w.withFollow "comprehension-iter-twice" true).withFollow "special-get-raises" false) := by
  unfold Came openEnds topFrom fencedOpening
  rw [PySem.W.Fast.te14364793385576792824, PySem.W.Fast.te4187177175401517315, PySem.W.Fast.te5923862056798008813, PySem.W.Fast.te14082659384304107361, PySem.W.Fast.te10274390034422433532]
  kernel_rfl
theorem left_tt (w : World) : Came ((w.withFollow "comprehension-iter-twice" true).withFollow "special-get-raises" true) := by
  unfold Came openEnds topFrom fencedOpening
  rw [PySem.W.Fast.te14364793385576792824, PySem.W.Fast.te4187177175401517315, PySem.W.Fast.te5923862056798008813, PySem.W.Fast.te14082659384304107361, PySem.W.Fast.te10274390034422433532]
  kernel_rfl
theorem came (w : World) : Came w := by
  have e := World.withFollow_self w "comprehension-iter-twice"
  have e' := World.withFollow_self w "special-get-raises"
  cases hb : w.params.followText "comprehension-iter-twice" <;> cases hb' : w.params.followText "special-get-raises" <;> rw [hb] at e <;> rw [hb'] at e'
  · have := left_ff w; rwa [e, e'] at this
  · have := left_ft w; rwa [e, e'] at this
  · have := left_tf w; rwa [e, e'] at this
  · have := left_tt w; rwa [e, e'] at this
theorem left : LeftO rowO.prog vw loose XtM obsH (fun _ => valH) 3768 := came
end Mine
end

section
set_option maxRecDepth 100000
set_option maxHeartbeats 8000000
namespace Mine
theorem glo_of {w : World} {s₀ : Shared} {mg mb : Str → Option Value} {h : Heap} (G : Ground vw loose (RowW.records rowO.toRowW) (XL vw []) w s₀ mg mb h) (Y : says h) : Glo h mg mb := by
  obtain ⟨m, h1, h2, h3, h4⟩ := Y
  have e : m = mg := Ns.unique h1 G.T.g
  subst e
  exact ⟨G.T.g, G.T.b, G.T.nolimit, G.T.nodigits, G.T.builtins, h3, h2, h4⟩
theorem well_nodict {P : Params} {h : Heap} {l : Addr} {xs : List WData} (x : Well P h (.ref l) (.list xs)) : ∃ o, h.get? l = some o ∧ o.dict = none := by
  cases x with
  | list ho _ => exact ⟨_, ho, rfl⟩
theorem reps_ints {F : List Addr} {h : Heap} {vs : List Value} {ns : List Int} (x : IntsAre vs ns) : Reps F h vs (ns.map .int) := by
  induction x with
  | nil => exact .nil
  | cons i t _ ih => exact .cons (.int i t) ih

theorem walk (w : World) (s₀ s₁ : Shared) (mg mb : Str → Option Value) (G : Ground vw loose (RowW.records rowO.toRowW) (XL vw []) w s₀ mg mb s₁.heap) (Y : says s₁.heap) (a : Addr) (hmg : mg "law" = some (.ref a)) (hg : s₁.gens = #[])
    (args : List WData) (vals : List Value) (as : List Addr) (hpre : rowO.toRowW.claim.pre args = true) (hlay : WData.layableAll args = true) (hrd : ReadsAllW (RowW.records rowO.toRowW) (classAt s₀.heap) s₁.heap vals args as) (hwl : WellAll w.params s₁.heap vals args) (hlo : ∀ a ∈ as, (a == sysModules) = false) :
      wpAny (model rowO.prog w) callerA (call (.ref a) vals) (fun v s' => GoodWG rowO.toRowW.claim (classAt s₀.heap) (ExcName.means s₀.heap) args s₁ (.ok (.ret v)) s')
        (fun e s' => GoodWG rowO.toRowW.claim (classAt s₀.heap) (ExcName.means s₀.heap) args s₁ (.error e) s') s₁ := by
  have GL := glo_of G Y
  wrow_args hpre hlay hrd hwl hlo
  rename_i ns hs hlay0 hL1 hr1 hl2 as1 as2 l vs as3 hL ra w1 r0 hI hr hc1 hc2
  have hlen : ns.length ≤ 1000000 := by omega
  obtain ⟨ρ', e⟩ := plain hlen
  have hA : ArgsAre [] s₁.heap [.ref l] [.val (.list (ns.map .int))] [] := .val (.list ⟨hL, well_nodict w1⟩ (fun h => by cases h) (reps_ints hI)) .nil
  refine wpAny_mono (top_call (prog := rowO.prog) (w := w) (dAt_mem (n := 13) (by decide)) ok13 ((den13.2 rowO.prog w).h) GL rfl (by decide) (by decide) rfl hmg hA rfl e) (fun v s' q => ?_) fun _ _ x => x
  obtain ⟨⟨F, r⟩, k, h', tk, rfl⟩ := q
  cases r
  exact ⟨.inl ⟨_, .bool true, [], rfl, fun _ => rfl, .bool true, by wrow_post, fun _ => ⟨.nil, fun _ h => by cases h⟩⟩, .of_keep k, rfl, .of_eq hg⟩
end Mine
end

end

set_option maxRecDepth 100000 in
set_option maxHeartbeats 8000000 in
theorem PySem.Challenge.cw_rt0015_01_holds : PySem.Challenge.rw_rt0015_01.Holds := by
  refine holds_law (by kernel_rfl) fun said => ?_
  refine holds_open (r := Mine.rowO) (q := Mine.vw) (loose := Mine.loose) (Xt := Mine.XtM) (XP := XL Mine.vw []) (Yf := Hook.obs Mine.hook) (Ya := Hook.val Mine.hook) (YP := Hook.says Mine.hook) (N := 3768) (d := Mine.dAt 13) (kwd := []) Mine.left (Hook.of Mine.hook) (Hook.keeps Mine.hook)
    (fun s e => xl_of s (Bool.and_eq_true_iff.mp e).1) XL.keeps (by kernel_rfl) (by kernel_rfl) (by kernel_rfl) (fun s e => recFacts_of (Bool.and_eq_true_iff.mp e).2) (by kernel_rfl) said (by decide +kernel) ⟨rfl, rfl, rfl, rfl, rfl, by decide +kernel⟩ ?hw ?hc
  case hw => w_witness2
  case hc =>
    intro w s₀ s₁ mg mb G Y a o pm cd doc dV kV ho hd hcd hD hmg hg args vals as hpre hlay hrd hwl hlo
    exact Mine.walk w s₀ s₁ mg mb G Y a hmg hg args vals as hpre hlay hrd hwl hlo
