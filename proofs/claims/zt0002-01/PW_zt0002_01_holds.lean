import PyProof.Rows.All
import Wide.All
import OpenK.AllK
import Wide.FinOn
import Lean
import PySem.Challenge.RW_zt0002_01
set_option Elab.async false
section
open PySem PySem.W PyProof.Rows
namespace Mine
set_option maxRecDepth 100000 in
set_option maxHeartbeats 8000000 in
open_top hd for PySem.Challenge.rw_zt0002_01
end Mine
end
section
open PyProof.Rows
namespace Mine
/-! the plain mathematics of the edit distance -/
noncomputable def lo (c : Nat) : Nat := if c = 65 then 97 else c
noncomputable def sb (c d : Nat) : Nat := if c = d then 0 else if lo c = lo d then 1 else 2
theorem sb_self (c : Nat) : sb c c = 0 := by simp [sb]
theorem sb_comm (c d : Nat) : sb c d = sb d c := by
  unfold sb
  by_cases h : c = d
  · subst h; rfl
  · have h' : ¬ d = c := fun e => h e.symm
    rw [if_neg h, if_neg h']
    by_cases h2 : lo c = lo d
    · rw [if_pos h2, if_pos h2.symm]
    · rw [if_neg h2, if_neg fun e => h2 e.symm]
theorem sb_le (c d : Nat) : sb c d ≤ 2 := by
  unfold sb; split
  · omega
  · split <;> omega
theorem sb_zero {c d : Nat} (h : sb c d = 0) : c = d := by
  unfold sb at h; split at h
  · assumption
  · split at h <;> omega
theorem sb_tri (c d e : Nat) : sb c e ≤ sb c d + sb d e := by
  unfold sb
  by_cases h1 : c = d
  · subst h1; simp
  · by_cases h2 : d = e
    · subst h2; simp
    · by_cases h3 : c = e
      · subst h3; simp
      · rw [if_neg h1, if_neg h2, if_neg h3]
        by_cases l1 : lo c = lo d
        · by_cases l2 : lo d = lo e
          · rw [if_pos (l1.trans l2)]; simp [l1, l2]
          · rw [if_neg l2]; repeat' split
            all_goals omega
        · rw [if_neg l1]; repeat' split
          all_goals omega

inductive Al : List Nat → List Nat → Nat → Prop
  | nil : Al [] [] 0
  | sub (c d : Nat) {x y : List Nat} {n : Nat} : Al x y n → Al (c :: x) (d :: y) (n + sb c d)
  | del (c : Nat) {x y : List Nat} {n : Nat} : Al x y n → Al (c :: x) y (n + 2)
  | ins (d : Nat) {x y : List Nat} {n : Nat} : Al x y n → Al x (d :: y) (n + 2)

noncomputable def ed : List Nat → List Nat → Nat
  | [], y => 2 * y.length
  | c :: x, [] => 2 * (c :: x).length
  | c :: x, d :: y => min (min (ed x (d :: y)) (ed (c :: x) y) + 2) (ed x y + sb c d)
termination_by x y => x.length + y.length

theorem ed_nil_left (y : List Nat) : ed [] y = 2 * y.length := by rw [ed]
theorem ed_nil_right (x : List Nat) : ed x [] = 2 * x.length := by
  cases x with
  | nil => rw [ed]
  | cons c x => rw [ed]
theorem ed_cons (c d : Nat) (x y : List Nat) : ed (c :: x) (d :: y) = min (min (ed x (d :: y)) (ed (c :: x) y) + 2) (ed x y + sb c d) := by rw [ed]

theorem al_insAll : ∀ y : List Nat, Al [] y (2 * y.length)
  | [] => .nil
  | d :: y => by
    have h := Al.ins d (al_insAll y)
    have e : 2 * (d :: y).length = 2 * y.length + 2 := by rw [List.length_cons]; omega
    rw [e]; exact h
theorem al_delAll : ∀ x : List Nat, Al x [] (2 * x.length)
  | [] => .nil
  | c :: x => by
    have h := Al.del c (al_delAll x)
    have e : 2 * (c :: x).length = 2 * x.length + 2 := by rw [List.length_cons]; omega
    rw [e]; exact h
theorem al_ed (x y : List Nat) : Al x y (ed x y) := by
  induction x generalizing y with
  | nil => rw [ed_nil_left]; exact al_insAll y
  | cons c x ihx =>
    induction y with
    | nil => rw [ed_nil_right]; exact al_delAll _
    | cons d y ihy =>
      rw [ed_cons]
      rcases Nat.le_total (min (ed x (d :: y)) (ed (c :: x) y) + 2) (ed x y + sb c d) with h | h
      · rw [Nat.min_eq_left h]
        rcases Nat.le_total (ed x (d :: y)) (ed (c :: x) y) with h2 | h2
        · rw [Nat.min_eq_left h2]; exact .del c (ihx _)
        · rw [Nat.min_eq_right h2]; exact .ins d ihy
      · rw [Nat.min_eq_right h]; exact .sub c d (ihx y)
theorem al_nil_left {y : List Nat} {n : Nat} (h : Al [] y n) : 2 * y.length ≤ n := by
  generalize hx : ([] : List Nat) = x at h
  induction h with
  | nil => simp
  | sub => cases hx
  | del => cases hx
  | ins d _ ih => have := ih hx; rw [List.length_cons]; omega
theorem al_nil_right {x : List Nat} {n : Nat} (h : Al x [] n) : 2 * x.length ≤ n := by
  generalize hy : ([] : List Nat) = y at h
  induction h with
  | nil => simp
  | sub => cases hy
  | del c _ ih => have := ih hy; rw [List.length_cons]; omega
  | ins => cases hy
theorem ed_le_of_al {x y : List Nat} {n : Nat} (h : Al x y n) : ed x y ≤ n := by
  induction h with
  | nil => rw [ed_nil_left]; exact Nat.le_refl _
  | sub c d _ ih => rw [ed_cons]; omega
  | @del c x y n h ih =>
    cases y with
    | nil => rw [ed_nil_right] at ih ⊢; rw [List.length_cons]; omega
    | cons d y => rw [ed_cons]; omega
  | @ins d x y n h ih =>
    cases x with
    | nil => rw [ed_nil_left] at ih ⊢; rw [List.length_cons]; omega
    | cons c x => rw [ed_cons]; omega
theorem al_comm {x y : List Nat} {n : Nat} (h : Al x y n) : Al y x n := by
  induction h with
  | nil => exact .nil
  | sub c d _ ih => rw [sb_comm]; exact .sub d c ih
  | del c _ ih => exact .ins c ih
  | ins d _ ih => exact .del d ih
theorem ed_comm (x y : List Nat) : ed x y = ed y x := Nat.le_antisymm (ed_le_of_al (al_comm (al_ed y x))) (ed_le_of_al (al_comm (al_ed x y)))
theorem al_self : ∀ x : List Nat, Al x x 0
  | [] => .nil
  | c :: x => by have h := Al.sub c c (al_self x); rw [sb_self] at h; exact h
theorem ed_self (x : List Nat) : ed x x = 0 := Nat.le_zero.mp (ed_le_of_al (al_self x))
theorem al_zero {x y : List Nat} {n : Nat} (h : Al x y n) : n = 0 → x = y := by
  induction h with
  | nil => intro _; rfl
  | sub c d _ ih => intro e; rw [ih (by omega), sb_zero (c := c) (d := d) (by omega)]
  | del c _ _ => intro e; omega
  | ins d _ _ => intro e; omega
theorem ed_zero {x y : List Nat} : ed x y = 0 ↔ x = y := ⟨al_zero (al_ed x y), fun e => e ▸ ed_self x⟩
theorem al_tri : ∀ (k : Nat) {x y z : List Nat} {n m : Nat}, x.length + y.length + z.length ≤ k → Al x y n → Al y z m → ∃ l, l ≤ n + m ∧ Al x z l := by
  intro k
  induction k with
  | zero =>
    intro x y z n m hk h1 h2
    have hx : x = [] := List.eq_nil_of_length_eq_zero (by omega)
    have hz : z = [] := List.eq_nil_of_length_eq_zero (by omega)
    subst hx; subst hz
    exact ⟨0, Nat.zero_le _, .nil⟩
  | succ k ih =>
    intro x y z n m hk h1 h2
    cases h1 with
    | nil => exact ⟨m, by omega, h2⟩
    | @del c x' _ n' h1' =>
      simp only [List.length_cons] at hk
      obtain ⟨l, hl, h⟩ := ih (by omega) h1' h2
      exact ⟨l + 2, by omega, .del c h⟩
    | @ins d _ y' n' h1' =>
      simp only [List.length_cons] at hk
      cases h2 with
      | @sub _ e _ z' m' h2' =>
        simp only [List.length_cons] at hk
        obtain ⟨l, hl, h⟩ := ih (by omega) h1' h2'
        exact ⟨l + 2, by omega, .ins e h⟩
      | @del _ _ _ m' h2' =>
        obtain ⟨l, hl, h⟩ := ih (by omega) h1' h2'
        exact ⟨l, by omega, h⟩
      | @ins e _ z' m' h2' =>
        simp only [List.length_cons] at hk
        obtain ⟨l, hl, h⟩ := ih (by simp only [List.length_cons]; omega) (Al.ins d h1') h2'
        exact ⟨l + 2, by omega, .ins e h⟩
    | @sub c d x' y' n' h1' =>
      simp only [List.length_cons] at hk
      cases h2 with
      | @sub _ e _ z' m' h2' =>
        simp only [List.length_cons] at hk
        obtain ⟨l, hl, h⟩ := ih (by omega) h1' h2'
        have := sb_tri c d e
        exact ⟨l + sb c e, by omega, .sub c e h⟩
      | @del _ _ _ m' h2' =>
        obtain ⟨l, hl, h⟩ := ih (by omega) h1' h2'
        exact ⟨l + 2, by omega, .del c h⟩
      | @ins e _ z' m' h2' =>
        simp only [List.length_cons] at hk
        obtain ⟨l, hl, h⟩ := ih (by simp only [List.length_cons]; omega) (Al.sub c d h1') h2'
        exact ⟨l + 2, by omega, .ins e h⟩
theorem ed_tri (x y z : List Nat) : ed x z ≤ ed x y + ed y z := by
  obtain ⟨l, hl, h⟩ := al_tri _ (Nat.le_refl _) (al_ed x y) (al_ed y z)
  exact Nat.le_trans (ed_le_of_al h) hl
theorem ed_drop1 (c : Nat) (x : List Nat) : ed (c :: x) x ≤ 2 := by
  have h := ed_le_of_al (Al.del c (al_self x))
  omega
theorem ed_head (c : Nat) (x y : List Nat) : ed (c :: x) (c :: y) = ed x y := by
  apply Nat.le_antisymm
  · have h := ed_le_of_al (Al.sub c c (al_ed x y))
    rw [sb_self] at h; exact h
  · rw [ed_cons, sb_self]
    have h1 := ed_tri x (c :: y) y
    have h2 := ed_drop1 c y
    have h3 := ed_tri x (c :: x) y
    have h4 := ed_drop1 c x
    rw [ed_comm] at h4
    omega
theorem ed_pre (p x y : List Nat) : ed (p ++ x) (p ++ y) = ed x y := by
  induction p with
  | nil => rfl
  | cons c p ih => rw [List.cons_append, List.cons_append, ed_head, ih]
theorem al_append {x y x' y' : List Nat} {n m : Nat} (h : Al x y n) (h' : Al x' y' m) : Al (x ++ x') (y ++ y') (n + m) := by
  induction h with
  | nil => simpa using h'
  | sub c d _ ih => have := Al.sub c d ih; rw [List.cons_append, List.cons_append]; rwa [Nat.add_right_comm] at this
  | del c _ ih => have := Al.del c ih; rw [List.cons_append]; rwa [Nat.add_right_comm] at this
  | ins d _ ih => have := Al.ins d ih; rw [List.cons_append]; rwa [Nat.add_right_comm] at this
theorem al_rev {x y : List Nat} {n : Nat} (h : Al x y n) : Al x.reverse y.reverse n := by
  induction h with
  | nil => exact .nil
  | sub c d _ ih =>
    have h1 := Al.sub c d Al.nil
    rw [Nat.zero_add] at h1
    rw [List.reverse_cons, List.reverse_cons]; exact al_append ih h1
  | del c _ ih =>
    have h1 := al_append ih (Al.del c Al.nil)
    rw [List.reverse_cons]; simpa using h1
  | ins d _ ih =>
    have h1 := al_append ih (Al.ins d Al.nil)
    rw [List.reverse_cons]; simpa using h1
theorem ed_rev (x y : List Nat) : ed x.reverse y.reverse = ed x y := by
  apply Nat.le_antisymm
  · exact ed_le_of_al (al_rev (al_ed x y))
  · have h := ed_le_of_al (al_rev (al_ed x.reverse y.reverse))
    rwa [List.reverse_reverse, List.reverse_reverse] at h
theorem ed_suf (x y q : List Nat) : ed (x ++ q) (y ++ q) = ed x y := by
  rw [← ed_rev, List.reverse_append, List.reverse_append, ed_pre, ed_rev]
theorem ed_snoc (c d : Nat) (x y : List Nat) : ed (x ++ [c]) (y ++ [d]) = min (min (ed x (y ++ [d])) (ed (x ++ [c]) y) + 2) (ed x y + sb c d) := by
  rw [← ed_rev, List.reverse_append, List.reverse_append]
  simp only [List.reverse_cons, List.reverse_nil, List.nil_append, List.singleton_append]
  rw [ed_cons, ed_rev]
  have e1 : ed x.reverse (d :: y.reverse) = ed x (y ++ [d]) := by rw [← ed_rev x (y ++ [d]), List.reverse_append]; simp
  have e2 : ed (c :: x.reverse) y.reverse = ed (x ++ [c]) y := by rw [← ed_rev (x ++ [c]) y, List.reverse_append]; simp
  rw [e1, e2]
theorem ed_le (x y : List Nat) : ed x y ≤ 2 * (x.length + y.length) := by
  have h := ed_tri x [] y
  rw [ed_nil_right, ed_nil_left] at h
  omega
theorem ed_small {x y : List Nat} (hx : x.length ≤ 4) (hy : y.length ≤ 4) : ((ed x y : Nat) : Int) ≤ 16 := by
  have := ed_le x y
  omega
theorem ed_trim {X Y A1 B1 A2 B2 : List Nat} {k n m : Nat} (hp : X.take k = Y.take k) (hA : A1 = X.drop k) (hB : B1 = Y.drop k) (hs : A1.drop n = B1.drop m) (hA2 : A2 = A1.take n) (hB2 : B2 = B1.take m) : ed X Y = ed A2 B2 := by
  have e1 : X = X.take k ++ (A1.take n ++ A1.drop n) := by rw [List.take_append_drop, hA, List.take_append_drop]
  have e2 : Y = X.take k ++ (B1.take m ++ A1.drop n) := by rw [hs, List.take_append_drop, hB, hp, List.take_append_drop]
  calc ed X Y = ed (X.take k ++ (A1.take n ++ A1.drop n)) (X.take k ++ (B1.take m ++ A1.drop n)) := by rw [← e1, ← e2]
    _ = ed (A1.take n) (B1.take m) := by rw [ed_pre, ed_suf]
    _ = ed A2 B2 := by rw [hA2, hB2]

noncomputable def rowOf (A B : List Nat) (i : Nat) : List Int := (List.range A.length).map fun j => ((ed (A.take (j + 1)) (B.take i) : Nat) : Int)
theorem row_zero (A B : List Nat) : rangeInts 2 2 A.length = rowOf A B 0 := by
  unfold rangeInts rowOf
  apply List.map_congr_left
  intro j hj
  have hj' : j < A.length := List.mem_range.mp hj
  rw [List.take_zero, ed_nil_right, List.length_take]
  omega
noncomputable def mixRow (A B : List Nat) (i k : Nat) : List Int := (List.range A.length).map fun j => if j < k then ((ed (A.take (j + 1)) (B.take (i + 1)) : Nat) : Int) else ((ed (A.take (j + 1)) (B.take i) : Nat) : Int)
noncomputable def rrOf (A B : List Nat) (i k : Nat) : Int := if k = 0 then 2 * i else ((ed (A.take k) (B.take (i + 1)) : Nat) : Int)
theorem mixRow_length (A B : List Nat) (i k : Nat) : (mixRow A B i k).length = A.length := by simp [mixRow]
theorem mix_zero (A B : List Nat) (i : Nat) : mixRow A B i 0 = rowOf A B i := by
  unfold mixRow rowOf
  apply List.map_congr_left
  intro j _
  rw [if_neg (Nat.not_lt_zero _)]
theorem dp_old {A B : List Nat} {i k : Nat} {ns : List Int} (hns : mixRow A B i k = ns) (hk : k < A.length) : ns.getD (k : Int).toNat 0 = ((ed (A.take (k + 1)) (B.take i) : Nat) : Int) := by
  rw [← hns, Int.toNat_natCast, List.getD_eq_getElem?_getD]
  unfold mixRow
  rw [List.getElem?_map, List.getElem?_range hk]
  simp
theorem dp_val {A B : List Nat} {i k : Nat} {dd rr old c : Int} (hk : k < A.length) (hi : i < B.length) (hdd : dd = ((ed (A.take k) (B.take i) : Nat) : Int)) (hrr : rr = rrOf A B i k) (hold : old = ((ed (A.take (k + 1)) (B.take i) : Nat) : Int)) (hc : c = (sb (B.getD i 0) (A.getD k 0) : Nat)) :
    (if dd + c < (if old < rr then old else rr) + 2 then dd + c else (if old < rr then old else rr) + 2) = ((ed (A.take (k + 1)) (B.take (i + 1)) : Nat) : Int) := by
  have eA : A.take (k + 1) = A.take k ++ [A.getD k 0] := by
    rw [List.take_succ_eq_append_getElem hk, List.getD_eq_getElem?_getD, List.getElem?_eq_getElem hk]; rfl
  have eB : B.take (i + 1) = B.take i ++ [B.getD i 0] := by
    rw [List.take_succ_eq_append_getElem hi, List.getD_eq_getElem?_getD, List.getElem?_eq_getElem hi]; rfl
  have key := ed_snoc (A.getD k 0) (B.getD i 0) (A.take k) (B.take i)
  rw [← eA, ← eB, sb_comm] at key
  have hle := sb_le (B.getD i 0) (A.getD k 0)
  have hrr' : (k = 0 ∧ rr = 2 * i ∧ ((ed (A.take k) (B.take (i + 1)) : Nat) : Int) = 2 * i + 2 ∧ dd = 2 * i) ∨ rr = ((ed (A.take k) (B.take (i + 1)) : Nat) : Int) := by
    unfold rrOf at hrr
    by_cases h0 : k = 0
    · subst h0
      left
      rw [if_pos rfl] at hrr
      refine ⟨rfl, hrr, ?_, ?_⟩
      · rw [List.take_zero, ed_nil_left, List.length_take]; omega
      · rw [hdd, List.take_zero, ed_nil_left, List.length_take]; omega
    · right
      rw [if_neg h0] at hrr; exact hrr
  rcases hrr' with ⟨h0, h1, h2, h3⟩ | h1
  · split <;> split <;> omega
  · split <;> split <;> omega
theorem mix_set {A B : List Nat} {i k : Nat} : (mixRow A B i k).set k ((ed (A.take (k + 1)) (B.take (i + 1)) : Nat) : Int) = mixRow A B i (k + 1) := by
  unfold mixRow
  apply List.ext_getElem
  · simp
  · intro j h1 h2
    rw [List.getElem_set, List.getElem_map, List.getElem_map]
    simp only [List.getElem_range]
    by_cases h : k = j
    · subst h; simp
    · rw [if_neg h]
      by_cases h3 : j < k
      · rw [if_pos h3, if_pos (by omega)]
      · rw [if_neg h3, if_neg (by omega)]
theorem dp_ints {A B : List Nat} {i k : Nat} {ns : List Int} {V : Int} {vs : List PySem.Value} (hns : mixRow A B i k = ns) (hV : V = ((ed (A.take (k + 1)) (B.take (i + 1)) : Nat) : Int)) (h : IntsAre vs (ns.set (k : Int).toNat V)) : IntsAre vs (mixRow A B i (k + 1)) := by
  rw [← hns, Int.toNat_natCast, hV, mix_set] at h
  exact h
theorem rr_succ {A B : List Nat} {i k : Nat} : rrOf A B i (k + 1) = ((ed (A.take (k + 1)) (B.take (i + 1)) : Nat) : Int) := by
  unfold rrOf
  rw [if_neg (Nat.succ_ne_zero k)]
theorem row_succ {A B : List Nat} {i n : Nat} {vs : List PySem.Value} (hn : A.length = n) (h : IntsAre vs (mixRow A B i n)) : IntsAre vs (rowOf A B (i + 1)) := by
  have e : mixRow A B i n = rowOf A B (i + 1) := by
    unfold mixRow rowOf
    apply List.map_congr_left
    intro j hj
    rw [if_pos (by rw [← hn]; exact List.mem_range.mp hj)]
  rw [← e]; exact h
theorem row_last {A B : List Nat} {i n : Nat} {rr : Int} (h1 : 1 ≤ n) (hn : A.length = n) (hr : rr = rrOf A B i n) : rr = ((ed A (B.take (i + 1)) : Nat) : Int) := by
  rw [hr]
  unfold rrOf
  rw [if_neg (by omega), List.take_of_length_le (Nat.le_of_eq hn)]
end Mine
end
section
namespace Mine
/-! the tree in plain: a forest of kids, each under its distance -/
inductive Fo (W : Type) where
  | nil
  | cons (d : Int) (w : W) (sub rest : Fo W)

section
variable {W : Type} (D : W → W → Int)
noncomputable def Fo.kids : Fo W → List (Int × W)
  | .nil => []
  | .cons e w _ r => (e, w) :: r.kids
noncomputable def Fo.words : Fo W → List W
  | .nil => []
  | .cons _ w s r => w :: (s.words ++ r.words)
noncomputable def Fo.size : Fo W → Nat
  | .nil => 0
  | .cons _ _ s r => s.size + r.size + 1
noncomputable def Fo.look : Fo W → Int → Option (W × Fo W)
  | .nil, _ => none
  | .cons e w s r, d => if e = d then some (w, s) else r.look d
noncomputable def Fo.ins (x : W) : Fo W → Int → Fo W
  | .nil, d => .cons d x .nil .nil
  | .cons e w s r, d => if e = d then .cons e w (Fo.ins x s (D w x)) r else .cons e w s (Fo.ins x r d)
noncomputable def RepF (T : W → List (Int × W)) : Fo W → Prop
  | .nil => True
  | .cons _ w s r => T w = s.kids ∧ RepF T s ∧ RepF T r
noncomputable def RepT (T : W → List (Int × W)) (h : W) (f : Fo W) : Prop := T h = f.kids ∧ RepF T f
noncomputable def OkF : W → Fo W → Prop
  | _, .nil => True
  | w0, .cons e w s r => D w0 w = e ∧ (∀ v ∈ s.words, D w0 v = e) ∧ OkF w s ∧ OkF w0 r ∧ r.look e = none

theorem kids_ins_none {x : W} : ∀ {f : Fo W} {d : Int}, f.look d = none → (f.ins D x d).kids = f.kids ++ [(d, x)]
  | .nil, d, _ => rfl
  | .cons e w s r, d, h => by
    unfold Fo.look at h
    by_cases he : e = d
    · rw [if_pos he] at h; cases h
    · rw [if_neg he] at h
      rw [Fo.ins, if_neg he, Fo.kids, Fo.kids, kids_ins_none h, List.cons_append]
theorem kids_ins_some {x : W} : ∀ {f : Fo W} {d : Int} {p : W × Fo W}, f.look d = some p → (f.ins D x d).kids = f.kids
  | .nil, d, p, h => by cases h
  | .cons e w s r, d, p, h => by
    unfold Fo.look at h
    by_cases he : e = d
    · rw [Fo.ins, if_pos he, Fo.kids, Fo.kids]
    · rw [if_neg he] at h
      rw [Fo.ins, if_neg he, Fo.kids, Fo.kids, kids_ins_some h]
theorem look_find : ∀ (f : Fo W) (d : Int), (f.kids.find? fun p => p.1 = d) = (f.look d).map fun p => (d, p.1)
  | .nil, d => rfl
  | .cons e w s r, d => by
    unfold Fo.look Fo.kids
    by_cases he : e = d
    · subst he; simp
    · rw [if_neg he, List.find?_cons]
      simp [he]
      simpa using look_find r d
theorem rep_congr {T T' : W → List (Int × W)} : ∀ {f : Fo W}, (∀ w ∈ f.words, T' w = T w) → RepF T f → RepF T' f
  | .nil, _, _ => trivial
  | .cons e w s r, h, ⟨a, b, c⟩ =>
    ⟨(h w (by simp [Fo.words])).trans a, rep_congr (fun v hv => h v (by simp [Fo.words, hv])) b, rep_congr (fun v hv => h v (by simp [Fo.words, hv])) c⟩
theorem rep_ins_none {T : W → List (Int × W)} {x : W} : ∀ {f : Fo W} {d : Int}, f.look d = none → RepF T f → T x = [] → RepF T (f.ins D x d)
  | .nil, d, _, _, hx => ⟨hx, trivial, trivial⟩
  | .cons e w s r, d, h, ⟨a, b, c⟩, hx => by
    unfold Fo.look at h
    by_cases he : e = d
    · rw [if_pos he] at h; cases h
    · rw [if_neg he] at h
      rw [Fo.ins, if_neg he]
      exact ⟨a, b, rep_ins_none h c hx⟩
theorem rep_ins_some {T T' : W → List (Int × W)} {x : W} : ∀ {f : Fo W} {d : Int} {w : W} {s : Fo W}, f.look d = some (w, s) → f.words.Nodup → (∀ v ∈ f.words, v ∉ w :: s.words → T' v = T v) → RepF T f → RepT T' w (s.ins D x (D w x)) → RepF T' (f.ins D x d)
  | .nil, d, w, s, h, _, _, _, _ => by cases h
  | .cons e w1 s1 r, d, w, s, h, hn, hT, ⟨a, b, c⟩, hR => by
    unfold Fo.look at h
    simp only [Fo.words, List.nodup_cons, List.nodup_append, List.mem_append] at hn
    obtain ⟨h1, h2, h3, h4⟩ := hn
    by_cases he : e = d
    · rw [if_pos he] at h
      cases h
      rw [Fo.ins, if_pos he]
      refine ⟨hR.1, hR.2, rep_congr (fun v hv => hT v (by simp [Fo.words, hv]) fun hm => ?_) c⟩
      rcases List.mem_cons.mp hm with e | hm
      · subst e; exact h1 (.inr hv)
      · exact h4 _ hm _ hv rfl
    · rw [if_neg he] at h
      rw [Fo.ins, if_neg he]
      have hsub : ∀ v ∈ w :: s.words, v ∈ r.words := by
        clear hT hR a b c h1 h2 h3 h4 he
        induction r with
        | nil => cases h
        | cons e2 w2 s2 r2 _ ih =>
          unfold Fo.look at h
          intro v hv
          by_cases he2 : e2 = d
          · rw [if_pos he2] at h
            cases h
            rcases List.mem_cons.mp hv with e | hv
            · subst e; simp [Fo.words]
            · simp [Fo.words, hv]
          · rw [if_neg he2] at h
            have := ih h v hv
            simp [Fo.words, this]
      refine ⟨(hT w1 (by simp [Fo.words]) fun hm => h1 (.inr (hsub _ hm))).trans a, rep_congr (fun v hv => hT v (by simp [Fo.words, hv]) fun hm => h4 _ hv _ (hsub _ hm) rfl) b, ?_⟩
      exact rep_ins_some h h3 (fun v hv hm => hT v (by simp [Fo.words, hv]) hm) c hR
theorem words_ins {x : W} : ∀ (f : Fo W) (d : Int), (f.ins D x d).words.Perm (x :: f.words)
  | .nil, d => by rw [Fo.ins]; exact List.Perm.refl _
  | .cons e w s r, d => by
    rw [Fo.ins]
    by_cases he : e = d
    · rw [if_pos he, Fo.words, Fo.words]
      refine (List.Perm.cons w ((words_ins s (D w x)).append_right _)).trans ?_
      exact List.Perm.swap _ _ _
    · rw [if_neg he, Fo.words, Fo.words]
      refine (List.Perm.cons w ((words_ins r d).append_left _)).trans ?_
      refine (List.Perm.cons w List.perm_middle).trans ?_
      exact List.Perm.swap _ _ _
theorem look_sub : ∀ {f : Fo W} {d : Int} {w : W} {s : Fo W}, f.look d = some (w, s) → (∀ v ∈ w :: s.words, v ∈ f.words) ∧ (f.words.Nodup → (w :: s.words).Nodup) ∧ s.size < f.size
  | .nil, d, w, s, h => by cases h
  | .cons e w1 s1 r, d, w, s, h => by
    unfold Fo.look at h
    by_cases he : e = d
    · rw [if_pos he] at h
      cases h
      refine ⟨fun v hv => ?_, fun hn => ?_, by simp only [Fo.size]; omega⟩
      · rcases List.mem_cons.mp hv with e | hv
        · subst e; simp [Fo.words]
        · simp [Fo.words, hv]
      · simp only [Fo.words, List.nodup_cons, List.nodup_append, List.mem_append] at hn
        exact List.nodup_cons.mpr ⟨fun hm => hn.1 (.inl hm), hn.2.1⟩
    · rw [if_neg he] at h
      obtain ⟨a, b, c⟩ := look_sub h
      refine ⟨fun v hv => by simp [Fo.words, a v hv], fun hn => ?_, by simp only [Fo.size]; omega⟩
      simp only [Fo.words, List.nodup_cons, List.nodup_append, List.mem_append] at hn
      exact b hn.2.2.1
theorem rep_look {T : W → List (Int × W)} : ∀ {f : Fo W} {d : Int} {w : W} {s : Fo W}, RepF T f → f.look d = some (w, s) → RepT T w s
  | .nil, d, w, s, _, h => by cases h
  | .cons e w1 s1 r, d, w, s, ⟨a, b, c⟩, h => by
    unfold Fo.look at h
    by_cases he : e = d
    · rw [if_pos he] at h
      cases h
      exact ⟨a, b⟩
    · rw [if_neg he] at h
      exact rep_look c h
theorem look_ins_ne {x : W} : ∀ {f : Fo W} {d e : Int}, e ≠ d → f.look e = none → (f.ins D x d).look e = none
  | .nil, d, e, h, _ => by rw [Fo.ins, Fo.look, if_neg fun q => h q.symm]; rfl
  | .cons e1 w s r, d, e, h, hl => by
    unfold Fo.look at hl
    by_cases h1 : e1 = e
    · rw [if_pos h1] at hl; cases hl
    · rw [if_neg h1] at hl
      rw [Fo.ins]
      by_cases h2 : e1 = d
      · rw [if_pos h2, Fo.look, if_neg h1]; exact hl
      · rw [if_neg h2, Fo.look, if_neg h1]; exact look_ins_ne h hl
theorem ok_ins {x : W} : ∀ {f : Fo W} {w0 : W}, OkF D w0 f → OkF D w0 (f.ins D x (D w0 x))
  | .nil, w0, _ => ⟨rfl, (fun _ h => nomatch h), trivial, trivial, rfl⟩
  | .cons e w s r, w0, ⟨a, b, c, d, g⟩ => by
    rw [Fo.ins]
    by_cases he : e = D w0 x
    · rw [if_pos he]
      refine ⟨a, fun v hv => ?_, ok_ins c, d, g⟩
      rcases List.mem_cons.mp ((words_ins D s _).mem_iff.mp hv) with e1 | hv
      · rw [e1]; exact he.symm
      · exact b v hv
    · rw [if_neg he]
      exact ⟨a, b, c, ok_ins d, look_ins_ne D he g⟩

noncomputable def Cont (tab : W → List (Int × W)) (r : W) (f : Fo W) (x : W) (h : W) (fh : Fo W) : Prop :=
  ∀ T' : W → List (Int × W), (∀ v, v ≠ x → v ∉ h :: fh.words → T' v = tab v) → RepT T' h (fh.ins D x (D h x)) → RepT T' r (f.ins D x (D r x))
theorem Cont.start {tab : W → List (Int × W)} {r : W} {f : Fo W} {x : W} : Cont D tab r f x r f := fun _ _ h => h
theorem Cont.down {tab : W → List (Int × W)} {r : W} {f : Fo W} {x h : W} {fh : Fo W} {w : W} {s : Fo W} (C : Cont D tab r f x h fh) (hr : RepT tab h fh) (hn : (h :: fh.words).Nodup) (hx : x ∉ h :: fh.words) (hl : fh.look (D h x) = some (w, s)) : Cont D tab r f x w s := by
  intro T' hT hR
  obtain ⟨hsub, _, _⟩ := look_sub hl
  refine C T' (fun v h1 h2 => hT v h1 fun hm => h2 (.tail _ (hsub v hm))) ⟨?_, ?_⟩
  · rw [kids_ins_some D hl, ← hr.1]
    refine hT h (fun e => hx (by rw [← e]; exact .head _)) fun hm => ?_
    exact (List.nodup_cons.mp hn).1 (hsub h hm)
  · exact rep_ins_some D hl (List.nodup_cons.mp hn).2 (fun v hv hm => hT v (fun e => hx (by rw [← e]; exact .tail _ hv)) hm) hr.2 hR
theorem Cont.done {tab T' : W → List (Int × W)} {r : W} {f : Fo W} {x h : W} {fh : Fo W} (C : Cont D tab r f x h fh) (hr : RepT tab h fh) (hn : (h :: fh.words).Nodup) (hx : x ∉ h :: fh.words) (hl : fh.look (D h x) = none)
    (h1 : T' h = tab h ++ [(D h x, x)]) (h2 : T' x = []) (h3 : ∀ v, v ≠ h → v ≠ x → T' v = tab v) : RepT T' r (f.ins D x (D r x)) := by
  refine C T' (fun v hv hm => h3 v (fun e => hm (by rw [e]; exact .head _)) hv) ⟨?_, ?_⟩
  · rw [h1, kids_ins_none D hl, hr.1]
  · refine rep_ins_none D hl (rep_congr (fun v hv => h3 v (fun e => ?_) fun e => hx (by rw [← e]; exact .tail _ hv)) hr.2) h2
    subst e
    exact (List.nodup_cons.mp hn).1 hv
end
end Mine
end
namespace Mine
open PySem PySem.W PyProof.Rows PySem.Calls PySem.Spec PyProof.V
section
open PySem PySem.W PyProof.Rows PySem.Calls
set_option maxRecDepth 100000

noncomputable abbrev Led := List (Addr × Obj)
noncomputable abbrev PR := PySem.Challenge.rw_zt0002_01.row.prog
noncomputable abbrev KK (w : World) : Frag := hd.heap_39 w.params
noncomputable abbrev LL : List Str := looseW hd.view_39 [Str.ofString "bisect_right", Str.ofString "insort_left", Str.ofString "bisect_left"]

noncomputable def Kept (H h' : Heap) (news : Led) : Prop := ∀ b o, H.get? b = some o → b ∉ news.map (·.1) → h'.get? b = some o
theorem kept_of {H g h' : Heap} {news : Led} {L' : Addr} {m' : Str → Option Value} (G : GSub H g (news.map (·.1))) (F : Fr g L' h' m') : Kept H h' news := fun b o e hb => F.keep b o (G b o e hb)
noncomputable def Spec (w : World) (f : Addr) (d u : Nat) (news : Led) (vs : List Value) (post : Value → Led → Prop) : Prop :=
  ∀ (mean : ExcName → Option Value) (mg mb : Str → Option Value) (dp un : Nat) (gd : Option (List Code)) (cn : Str) (cs : Scope) (a : Addr) (ccd : Value) (cl : List (Str × Addr)) (outer : List Env) (A₀ : Around) (base h₀ : Heap) (L : Addr) (m : Str → Option Value) (s : Shared) (Q E : Value → Shared → Prop),
    Below A₀ base outer h₀ → Fr h₀ L s.heap m → (KK w).In h₀ → News h₀ L s.heap news → Top hd.view_39 LL mean mg mb h₀ → cs.kind = .function → dp + d < recursionLimit → un + u < cLine →
    (∀ (v : Value) (news' : Led) (h' : Heap) (tk' : Nat), post v news' → Fr h₀ L h' m → News h₀ L h' news' → Kept s.heap h' news → Q v { s with heap := h', toks := tk' }) →
    wpAny (model PR w) (ktrTop dp un gd cn cs L a ccd cl outer) (call (.ref f) vs) Q E s

theorem Spec.use {w : World} {f : Addr} {d u : Nat} {news : Led} {vs : List Value} {post : Value → Led → Prop} (S : Spec w f d u news vs post)
    {mean : ExcName → Option Value} {mg mb : Str → Option Value} {dp un : Nat} {gd : Option (List Code)} {cn : Str} {cs : Scope} {a : Addr} {ccd : Value} {cl : List (Str × Addr)} {outer : List Env} {A₀ : Around} {base h₀ : Heap} {L : Addr} {m : Str → Option Value} {s : Shared} {Q E : Value → Shared → Prop}
    (B : Below A₀ base outer h₀) (F : Fr h₀ L s.heap m) (X : (hd.heap_39 w.params).In h₀) (N : News h₀ L s.heap news) (T : Top hd.view_39 LL mean mg mb h₀) (hk : cs.kind = .function) (hd : dp + d < recursionLimit) (hu : un + u < cLine)
    (ret : ∀ (v : Value) (news' : Led) (h' : Heap) (tk' : Nat), post v news' → Fr h₀ L h' m → News h₀ L h' news' → Kept s.heap h' news → Q v { s with heap := h', toks := tk' }) :
    wpAny (model PySem.Challenge.rw_zt0002_01.row.prog w) (ktrTop dp un gd cn cs L a ccd cl outer) (call (.ref f) vs) Q E s := S mean mg mb dp un gd cn cs a ccd cl outer A₀ base h₀ L m s Q E B F X N T hk hd hu ret

theorem Spec.goI {w : World} {f : Addr} {d u : Nat} {news : Led} {vs : List Value}
    {mean : ExcName → Option Value} {mg mb : Str → Option Value} {dp un : Nat} {gd : Option (List Code)} {cn : Str} {cs : Scope} {a : Addr} {ccd : Value} {cl : List (Str × Addr)} {outer : List Env} {A₀ : Around} {base h₀ : Heap} {L : Addr} {m : Str → Option Value} {s : Shared} {Q E : Value → Shared → Prop} {k : Int}
    (B : Below A₀ base outer h₀ := by k_asm) (F : Fr h₀ L s.heap m := by k_asm) (X : (hd.heap_39 w.params).In h₀ := by k_asm) (N : News h₀ L s.heap news := by k_asm) (T : Top hd.view_39 LL mean mg mb h₀ := by k_asm) (hk : cs.kind = .function := by exact rfl) (hd : dp + d < recursionLimit := by ktr_room) (hu : un + u < cLine := by ktr_units)
    (S : Spec w f d u news vs (fun v n => n = news ∧ ∃ t, v = .int k t))
    (ret : ∀ (h' : Heap) (tk' : Nat), Fr h₀ L h' m → News h₀ L h' news → ∀ t, Q (.int k t) { s with heap := h', toks := tk' }) :
    wpAny (model PySem.Challenge.rw_zt0002_01.row.prog w) (ktrTop dp un gd cn cs L a ccd cl outer) (call (.ref f) vs) Q E s :=
  S.use B F X N T hk hd hu fun v n h' tk' ⟨e1, t, e2⟩ F' N' _ => by subst e1; subst e2; exact ret h' tk' F' N' t
theorem Spec.goS {w : World} {f : Addr} {d u : Nat} {news : Led} {vs : List Value}
    {mean : ExcName → Option Value} {mg mb : Str → Option Value} {dp un : Nat} {gd : Option (List Code)} {cn : Str} {cs : Scope} {a : Addr} {ccd : Value} {cl : List (Str × Addr)} {outer : List Env} {A₀ : Around} {base h₀ : Heap} {L : Addr} {m : Str → Option Value} {s : Shared} {Q E : Value → Shared → Prop} {P : Str → Prop}
    (B : Below A₀ base outer h₀ := by k_asm) (F : Fr h₀ L s.heap m := by k_asm) (X : (hd.heap_39 w.params).In h₀ := by k_asm) (N : News h₀ L s.heap news := by k_asm) (T : Top hd.view_39 LL mean mg mb h₀ := by k_asm) (hk : cs.kind = .function := by exact rfl) (hd : dp + d < recursionLimit := by ktr_room) (hu : un + u < cLine := by ktr_units)
    (S : Spec w f d u news vs (fun v n => n = news ∧ ∃ x t, v = .str x t ∧ P x))
    (ret : ∀ (h' : Heap) (tk' : Nat), Fr h₀ L h' m → News h₀ L h' news → ∀ x t, P x → Q (.str x t) { s with heap := h', toks := tk' }) :
    wpAny (model PySem.Challenge.rw_zt0002_01.row.prog w) (ktrTop dp un gd cn cs L a ccd cl outer) (call (.ref f) vs) Q E s :=
  S.use B F X N T hk hd hu fun v n h' tk' ⟨e1, x, t, e2, hp⟩ F' N' _ => by subst e1; subst e2; exact ret h' tk' F' N' x t hp
theorem Spec.goB {w : World} {f : Addr} {d u : Nat} {news : Led} {vs : List Value}
    {mean : ExcName → Option Value} {mg mb : Str → Option Value} {dp un : Nat} {gd : Option (List Code)} {cn : Str} {cs : Scope} {a : Addr} {ccd : Value} {cl : List (Str × Addr)} {outer : List Env} {A₀ : Around} {base h₀ : Heap} {L : Addr} {m : Str → Option Value} {s : Shared} {Q E : Value → Shared → Prop} {P : Nat → Prop}
    (B : Below A₀ base outer h₀ := by k_asm) (F : Fr h₀ L s.heap m := by k_asm) (X : (hd.heap_39 w.params).In h₀ := by k_asm) (N : News h₀ L s.heap news := by k_asm) (T : Top hd.view_39 LL mean mg mb h₀ := by k_asm) (hk : cs.kind = .function := by exact rfl) (hd : dp + d < recursionLimit := by ktr_room) (hu : un + u < cLine := by ktr_units)
    (S : Spec w f d u news vs (fun v n => n = news ∧ ∃ (z : Int) (i : Nat) (t : Tok), v = .int z t ∧ z = i ∧ P i))
    (ret : ∀ (h' : Heap) (tk' : Nat), Fr h₀ L h' m → News h₀ L h' news → ∀ (i : Nat) t, P i → Q (.int i t) { s with heap := h', toks := tk' }) :
    wpAny (model PySem.Challenge.rw_zt0002_01.row.prog w) (ktrTop dp un gd cn cs L a ccd cl outer) (call (.ref f) vs) Q E s :=
  S.use B F X N T hk hd hu fun v n h' tk' ⟨e1, z, i, t, e2, e3, hp⟩ F' N' _ => by subst e1; subst e3; subst e2; exact ret h' tk' F' N' i t hp

noncomputable def subC (x y : Str) : Int := if x == y then 0 else if Txt.lower x == Txt.lower y then 1 else 2

noncomputable def Stop (P : Prop) : Prop := P
theorem Stop.of {P : Prop} (h : Stop P) : P := h
theorem Stop.go {P : Prop} (h : P) : Stop P := h

theorem ex_int {a b : Int} {tk : Tok} (h : a = b) : ∃ t, Value.int a tk = Value.int b t := ⟨tk, by rw [h]⟩

set_option maxHeartbeats 8000000 in
theorem sub_spec (w : World) (news : Led) (x y : Str) (tx ty : Tok) (hx : x.length = 1) (hy : y.length = 1) : Spec w 21 2 8 news [.str x tx, .str y ty] (fun v n => n = news ∧ ∃ t, v = .int (subC x y) t) := by
  unfold Spec KK PR; k_fill; intro mean mg mb dp un gd cn cs a ccd cl outer A₀ base h₀ L m s Q E B F X N T hk hd hu hret
  (refine wpAny_call ?_; k_dflt (refine' code_defG ?e1k1 ?e1k2 ?e1k3 ?e1k4 ?e1k5 ?e1kA ?e1kF ?e1kK ?e1k6 ?e1k7 ?e1k8 ?e1k9 ?e1kB ?_ ?e1c2 ?e1c3 ?e1c4 ?e1c5; (case e1kA => exact rfl); (case e1kF => exact rfl); (case e1kK => assumption); (case e1k1 => k_asm); (case e1k2 => k_asm); (case e1k3 => k_asm); (case e1k4 => k_asm); (case e1k5 => k_asm); (case e1k6 => k_is); (case e1k7 => k_is); (case e1k8 => ktr_room); (case e1k9 => first | exact BindsTo.of_eq rfl | (refine' kp_binds ?e1kx ?e1ke; (case e1kx => k_in); (case e1ke => exact fun _ => rfl))); (case e1c5 => decide); (case e1kB => exact locs rfl); (case e1c2 => exact rfl); (case e1c3 => exact rfl); (case e1c4 => exact rfl); k_whole; intro g' L' h' FG' F' N' B' X' T' kG'; (try dsimp only); (try k_lift B'); (try k_fold)))
  k_steps
  all_goals refine hret _ _ _ _ ⟨rfl, ex_int ?_⟩ (by assumption) (by assumption) (kept_of (by assumption) (by assumption))
  all_goals simp_all [subC]
end
section
open PySem PySem.W PyProof.Rows PySem.Calls PySem.Spec PyProof.V
set_option maxRecDepth 100000

noncomputable abbrev Map := Str → Option Value
noncomputable abbrev Nm := List (Str × Value)

noncomputable def At (m : Map) : Nm → Prop
  | [] => True
  | p :: r => m p.1 = some p.2 ∧ At m r
theorem At.all {m : Map} {ps : Nm} : At m ps → ∀ p ∈ ps, m p.1 = some p.2 := by
  induction ps with
  | nil => intro _ p hp; cases hp
  | cons q r ih =>
    intro h p hp
    rcases List.mem_cons.mp hp with e | hp
    · rw [e]; exact h.1
    · exact ih h.2 p hp
theorem norm {m : Map} {ps : Nm} (h : At m ps) : m = kstB m ps := funext fun _ => (kstB_eq h.all fun _ => rfl).symm
noncomputable def Sub : Led → Led → Prop
  | [], _ => True
  | p :: r, all => p ∈ all ∧ Sub r all
theorem Sub.mem {l all : Led} : Sub l all → ∀ p ∈ l, p ∈ all := by
  induction l with
  | nil => intro _ p hp; cases hp
  | cons q r ih =>
    intro h p hp
    rcases List.mem_cons.mp hp with e | hp
    · rw [e]; exact h.1
    · exact ih h.2 p hp
theorem News.sub {h₀ h : Heap} {L : Addr} {l l' : Led} (N : News h₀ L h l) (hs : ∀ p ∈ l', p ∈ l) : News h₀ L h l' := fun p hp => N p (hs p hp)

section
variable {prog : Program} {w : World} {A : Around} {E : Value → Shared → Prop} {s : Shared} {env : Env} {h₀ : Heap} {x : Str} {body : List Stmt} {Q : Flow → Shared → Prop}

theorem rangeRest_inv {I : Addr} {a : Int} {n : Nat} (J : Nat → Map → Led → Prop)
    (turn : ∀ i m₁ news₁ t h tk, i < n → J i m₁ news₁ → (∀ p ∈ news₁, p.1 ≠ I) → Fr h₀ env.locals h (fun y => if y = x then some (.int (a + (i : Int)) t) else m₁ y) →
      News h₀ env.locals h ((I, itR (a + ((i + 1 : Nat) : Int)) ((n : Int) - ((i + 1 : Nat) : Int))) :: news₁) →
      wpAny (model prog w) A (execs body env) (UnrPost h₀ env.locals { s with heap := h, toks := tk } I (itR (a + ((i + 1 : Nat) : Int)) ((n : Int) - ((i + 1 : Nat) : Int))) (J (i + 1)) Q) E { s with heap := h, toks := tk })
    (done : ∀ m₁ news₁ h tk, J n m₁ news₁ → Fr h₀ env.locals h m₁ → News h₀ env.locals h news₁ → Q .next { s with heap := h, toks := tk }) :
    ∀ k i m news, i + k = n → J i m news → (∀ p ∈ news, p.1 ≠ I) → RangeRest prog w A E h₀ env x body Q s I a n k i m news := by
  intro k
  induction k with
  | zero =>
    intro i m news hi hJ _
    obtain rfl : i = n := by omega
    exact RangeRest.zero fun h tk F N => done m news h tk hJ F N
  | succ k ih =>
    intro i m news hi hJ hI
    refine RangeRest.succ fun t h tk F N => ?_
    refine wpAny_mono (turn i m news t h tk (by omega) hJ hI F N) (fun f s₂ q => ?_) fun _ _ e => e
    have up : UnrEnd h₀ env.locals { s with heap := h, toks := tk } I (itR (a + ((i + 1 : Nat) : Int)) ((n : Int) - ((i + 1 : Nat) : Int))) (J (i + 1)) s₂ →
        UnrEnd h₀ env.locals { s with heap := h, toks := tk } I (itR (a + ((i + 1 : Nat) : Int)) ((n : Int) - ((i + 1 : Nat) : Int))) (RangeRest prog w A E h₀ env x body Q s I a n k (i + 1)) s₂ := by
      rintro ⟨h', tk', m', news', e, F', N', off, hJ'⟩
      exact ⟨h', tk', m', news', e, F', N', off, ih (i + 1) m' news' (by omega) hJ' off⟩
    cases f with
    | ret v => exact q
    | brk => exact q
    | next => exact up q
    | cont => exact up q

theorem for_range {r : Addr} {a₀ b₀ : Int} {t₀ u₀ v₀ : Tok} {n : Nat} {m₀ : Map} {news : Led} (J : Nat → Map → Led → Prop)
    (hh : A.handled = none) (hr : IsRange s.heap r a₀ b₀ 1 t₀ u₀ v₀) (hsmall : Builtin.Range.small a₀ b₀ 1 = true) (hn : Builtin.Range.rangeSize a₀ b₀ 1 = (n : Int)) (F : Fr h₀ env.locals s.heap m₀) (N : News h₀ env.locals s.heap news)
    (h0 : J 0 m₀ news)
    (turn : ∀ I i m₁ news₁ t h tk, (∀ p ∈ news, p.1 < I) → i < n → J i m₁ news₁ → (∀ p ∈ news₁, p.1 ≠ I) → Fr h₀ env.locals h (fun y => if y = x then some (.int (a₀ + (i : Int)) t) else m₁ y) →
      News h₀ env.locals h ((I, itR (a₀ + ((i + 1 : Nat) : Int)) ((n : Int) - ((i + 1 : Nat) : Int))) :: news₁) →
      wpAny (model prog w) A (execs body env) (UnrPost h₀ env.locals { s with heap := h, toks := tk } I (itR (a₀ + ((i + 1 : Nat) : Int)) ((n : Int) - ((i + 1 : Nat) : Int))) (J (i + 1)) Q) E { s with heap := h, toks := tk })
    (done : ∀ m₁ news₁ h tk, J n m₁ news₁ → Fr h₀ env.locals h m₁ → News h₀ env.locals h news₁ → Q .next { s with heap := h, toks := tk }) :
    wpAny (model prog w) A (pyIter (.ref r)) (fun it s₂ => LoopAtV prog w A h₀ env x body Q E it s₂) E s :=
  iter_rangeUnr hh hr hsmall hn F N fun I hI => rangeRest_inv J (fun i m₁ news₁ t h tk hi hJ ho F N => turn I i m₁ news₁ t h tk hI hi hJ ho F N) done n 0 m₀ news (Nat.zero_add n) h0 fun p hp => Nat.ne_of_lt (hI p hp)

theorem listRest_inv {I : Addr} {lp : Addr × Obj} {vs : List Value} (J : Nat → Map → Led → Prop)
    (turn : ∀ i v m₁ news₁ it h tk, vs[i]? = some v → J i m₁ news₁ → lp ∈ news₁ → (∀ p ∈ news₁, p.1 ≠ I) → it.cls = .type "list_iterator" → Fr h₀ env.locals h (fun y => if y = x then some v else m₁ y) →
      News h₀ env.locals h ((I, it) :: news₁) →
      wpAny (model prog w) A (execs body env) (UnrPost h₀ env.locals { s with heap := h, toks := tk } I it (fun m' n' => lp ∈ n' ∧ J (i + 1) m' n') Q) E { s with heap := h, toks := tk })
    (done : ∀ m₁ news₁ h tk, J vs.length m₁ news₁ → Fr h₀ env.locals h m₁ → News h₀ env.locals h news₁ → Q .next { s with heap := h, toks := tk }) :
    ∀ r i m news, vs.drop i = r → i ≤ vs.length → J i m news → lp ∈ news → (∀ p ∈ news, p.1 ≠ I) → ListRest prog w A E h₀ env x body Q s I lp r m news := by
  intro r
  induction r with
  | nil =>
    intro i m news hi hle hJ _ _
    obtain rfl : i = vs.length := by
      have := congrArg List.length hi
      rw [List.length_drop, List.length_nil] at this
      omega
    exact ListRest.zero fun h tk F N => done m news h tk hJ F N
  | cons v r ih =>
    intro i m news hi hle hJ hl hI
    have hlt : i < vs.length := by
      have := congrArg List.length hi
      rw [List.length_drop, List.length_cons] at this
      omega
    have hv : vs[i]? = some v := by
      have := congrArg List.head? hi
      simpa using this
    have hr : vs.drop (i + 1) = r := by
      have := congrArg List.tail hi
      simpa using this
    refine ListRest.succ fun it h tk hc F N => ?_
    refine wpAny_mono (turn i v m news it h tk hv hJ hl hI hc F N) (fun f s₂ q => ?_) fun _ _ e => e
    have up : UnrEnd h₀ env.locals { s with heap := h, toks := tk } I it (fun m' n' => lp ∈ n' ∧ J (i + 1) m' n') s₂ →
        UnrEnd h₀ env.locals { s with heap := h, toks := tk } I it (fun m' n' => lp ∈ n' ∧ ListRest prog w A E h₀ env x body Q s I lp r m' n') s₂ := by
      rintro ⟨h', tk', m', news', e, F', N', off, hl', hJ'⟩
      exact ⟨h', tk', m', news', e, F', N', off, hl', ih (i + 1) m' news' hr hlt hJ' hl' off⟩
    cases f with
    | ret v => exact q
    | brk => exact q
    | next => exact up q
    | cont => exact up q

theorem for_list {ax : Addr} {lo : Obj} {vs : List Value} {n : Nat} {m₀ : Map} {news : Led} (J : Nat → Map → Led → Prop)
    (hh : A.handled = none) (F : Fr h₀ env.locals s.heap m₀) (N : News h₀ env.locals s.heap news) (hm : (ax, lo) ∈ news) (hc : lo.cls = .type "list") (hd : lo.data = .seq vs.toArray n)
    (h0 : J 0 m₀ news)
    (turn : ∀ I i v m₁ news₁ it h tk, (∀ p ∈ news, p.1 < I) → vs[i]? = some v → J i m₁ news₁ → (ax, lo) ∈ news₁ → (∀ p ∈ news₁, p.1 ≠ I) → it.cls = .type "list_iterator" → Fr h₀ env.locals h (fun y => if y = x then some v else m₁ y) →
      News h₀ env.locals h ((I, it) :: news₁) →
      wpAny (model prog w) A (execs body env) (UnrPost h₀ env.locals { s with heap := h, toks := tk } I it (fun m' n' => (ax, lo) ∈ n' ∧ J (i + 1) m' n') Q) E { s with heap := h, toks := tk })
    (done : ∀ m₁ news₁ h tk, J vs.length m₁ news₁ → Fr h₀ env.locals h m₁ → News h₀ env.locals h news₁ → Q .next { s with heap := h, toks := tk }) :
    wpAny (model prog w) A (pyIter (.ref ax)) (fun it s₂ => LoopAtV prog w A h₀ env x body Q E it s₂) E s :=
  iter_listUnr hh F N hm hc hd fun I hI => listRest_inv J (fun i v m₁ news₁ it h tk hv hJ hl ho hc F N => turn I i v m₁ news₁ it h tk hI hv hJ hl ho hc F N) done vs 0 m₀ news rfl (Nat.zero_le _) h0 hm fun p hp => Nat.ne_of_lt (hI p hp)

noncomputable def CutQ (h₀ : Heap) (L : Addr) (s : Shared) (R : Map → Led → Prop) (Q : Flow → Shared → Prop) (f : Flow) (s₂ : Shared) : Prop :=
  match f with
  | .next => ∃ h tk m nw, s₂ = { s with heap := h, toks := tk } ∧ Fr h₀ L h m ∧ News h₀ L h nw ∧ R m nw
  | f => Q f s₂
theorem CutQ.intro {h₀ : Heap} {L : Addr} {s : Shared} {R : Map → Led → Prop} {Q : Flow → Shared → Prop} {h : Heap} {tk : Nat} {m : Map} {nw : Led} (F : Fr h₀ L h m) (N : News h₀ L h nw) (r : R m nw) : CutQ h₀ L s R Q .next { s with heap := h, toks := tk } :=
  ⟨h, tk, m, nw, rfl, F, N, r⟩

theorem exec_cut {L : Addr} {st : Stmt} {m₀ : Map} (_F : Fr h₀ L s.heap m₀) (R : Map → Led → Prop) (h : wpAny (model prog w) A (exec st env) (CutQ h₀ L s R Q) E s)
    (done : ∀ m nw h tk, R m nw → Fr h₀ L h m → News h₀ L h nw → Q .next { s with heap := h, toks := tk }) : wpAny (model prog w) A (exec st env) Q E s :=
  wpAny_mono h (fun f s₂ q => by
    cases f with
    | next => obtain ⟨h, tk, m, nw, rfl, F, N, r⟩ := q; exact done m nw h tk r F N
    | _ => exact q) fun _ _ e => e

theorem while_cut {L : Addr} {test : Expr} {pos : Pos} {m : Map} {news : Led} (J : Nat → Map → Led → Prop) (R : Map → Led → Prop) {n₀ : Nat}
    (F : Fr h₀ L s.heap m) (N : News h₀ L s.heap news) (hJ : J n₀ m news)
    (turn : ∀ n m₁ news₁ h₁ tk₁, Fr h₀ L h₁ m₁ → News h₀ L h₁ news₁ → J n m₁ news₁ →
      wpAny (model prog w) A (isTrue test env (eval test env)) (fun b s₂ =>
        if b = true then wpAny (model prog w) A (execs body env) (WhileStep2 h₀ L s J (CutQ h₀ L s R Q) n) E s₂ else CutQ h₀ L s R Q .next s₂) E { s with heap := h₁, toks := tk₁ })
    (done : ∀ m nw h tk, R m nw → Fr h₀ L h m → News h₀ L h nw → Q .next { s with heap := h, toks := tk })
    (hE : PassesOwn (model prog w) A env E := by passes_own) :
    wpAny (model prog w) A (exec (.While test body [] pos) env) Q E s :=
  exec_cut F R (While_inv2 J F N hJ turn hE) done
theorem whileEnd {L : Addr} {J : Nat → Map → Led → Prop} {n n' : Nat} {h : Heap} {tk : Nat} {m : Map} {nw : Led} (F : Fr h₀ L h m) (N : News h₀ L h nw) (hn : n' < n) (hJ : J n' m nw) : WhileStep2 h₀ L s J Q n .next { s with heap := h, toks := tk } :=
  ⟨h, tk, m, nw, n', rfl, F, N, hn, hJ⟩
theorem unrEnd {L I : Addr} {it : Obj} {J : Map → Led → Prop} {h : Heap} {tk : Nat} {m : Map} {all : Led} (nw : Led) (F : Fr h₀ L h m) (N : News h₀ L h all) (hI : (I, it) ∈ all) (hs : ∀ p ∈ nw, p ∈ all) (ho : ∀ p ∈ nw, p.1 ≠ I) (hJ : J m nw) :
    UnrEnd h₀ L s I it J { s with heap := h, toks := tk } :=
  ⟨h, tk, m, nw, rfl, F, fun p hp => (List.mem_cons.mp hp).elim (fun e => N p (by rw [e]; exact hI)) fun hp => N p (hs p hp), ho, hJ⟩

theorem off1 {a I : Addr} {o : Obj} {l : Led} (h1 : a ≠ I) (h3 : ∀ p ∈ l, p.1 ≠ I) : ∀ p ∈ (a, o) :: l, p.1 ≠ I := fun p hp => by
  rcases List.mem_cons.mp hp with e | hp
  · rw [e]; exact h1
  · exact h3 p hp
theorem off2 {a b I : Addr} {o o' : Obj} {l : Led} (h1 : a ≠ I) (h2 : b ≠ I) (h3 : ∀ p ∈ l, p.1 ≠ I) : ∀ p ∈ (a, o) :: (b, o') :: l, p.1 ≠ I := fun p hp => by
  rcases List.mem_cons.mp hp with e | hp
  · rw [e]; exact h1
  · rcases List.mem_cons.mp hp with e | hp
    · rw [e]; exact h2
    · exact h3 p hp
theorem small_row {n : Nat} (h0 : 1 ≤ n) (h1 : n ≤ 4) : Builtin.Range.small 2 (2 * ((n : Int) + 1)) 2 = true := by
  have : n = 1 ∨ n = 2 ∨ n = 3 ∨ n = 4 := by omega
  rcases this with rfl | rfl | rfl | rfl <;> decide +kernel
theorem size_row {n : Nat} (h0 : 1 ≤ n) (h1 : n ≤ 4) : Builtin.Range.rangeSize 2 (2 * ((n : Int) + 1)) 2 = (n : Int) := by
  have : n = 1 ∨ n = 2 ∨ n = 3 ∨ n = 4 := by omega
  rcases this with rfl | rfl | rfl | rfl <;> decide +kernel
theorem small_len {n : Nat} (h1 : n ≤ 4) : Builtin.Range.small 0 (n : Int) 1 = true := by
  have : n = 0 ∨ n = 1 ∨ n = 2 ∨ n = 3 ∨ n = 4 := by omega
  rcases this with rfl | rfl | rfl | rfl | rfl <;> decide +kernel
theorem size_len {n : Nat} (h1 : n ≤ 4) : Builtin.Range.rangeSize 0 (n : Int) 1 = (n : Int) := by
  have : n = 0 ∨ n = 1 ∨ n = 2 ∨ n = 3 ∨ n = 4 := by omega
  rcases this with rfl | rfl | rfl | rfl | rfl <;> decide +kernel
theorem ints_of_get {ns : List Int} : ∀ {us : List Value}, us.length = ns.length → (∀ (j : Nat) (v : Value), us[j]? = some v → ∃ t, v = .int (ns.getD j 0) t) → IntsAre us ns := by
  induction ns with
  | nil =>
    intro us hl _
    obtain rfl := List.eq_nil_of_length_eq_zero hl
    exact .nil
  | cons n r ih =>
    intro us hl h
    cases us with
    | nil => cases hl
    | cons v us =>
      obtain ⟨t, ht⟩ := h 0 v rfl
      have hv : v = .int n t := ht
      subst hv
      exact .cons _ _ (ih (by simpa using hl) fun j v hj => by
        obtain ⟨t, e⟩ := h (j + 1) v (by simpa using hj)
        exact ⟨t, by simpa using e⟩)
theorem list_rangeAny {L r : Addr} {m : Map} {news : Led} {a b c : Int} {t₀ u₀ v₀ : Tok} {n : Nat} {Q : Value → Shared → Prop} (hh : A.handled = none) (F : Fr h₀ L s.heap m) (N : News h₀ L s.heap news) (hr : IsRange s.heap r a b c t₀ u₀ v₀) (hsmall : Builtin.Range.small a b c = true) (hn : Builtin.Range.rangeSize a b c = (n : Int)) (hz : n ≤ 2 ^ 24)
    (h : ∀ D us c' h' tk, Fr h₀ L h' m → News h₀ L h' ((D, listOf (List.toArray us) c') :: news) → (∀ p ∈ news, p.1 < D) → IntsAre us (rangeInts a c n) → Q (.ref D) { s with heap := h', toks := tk }) :
    wpAny (model prog w) A (call (.type "list") [.ref r]) Q E s := by
  refine call_list_range hh hr hsmall hn hz fun h' tk acc c' hk hD hI => ?_
  have hD' : h'.get? s.heap.objs.size = some (listOf (List.toArray acc.toList) c') := by
    rw [Array.toArray_toList]
    exact hD
  refine h _ acc.toList c' h' tk (F.keeps hk) (news_pushed F N hk hD' rfl) (fun p hp => Heap.lt_size (N p hp).1) (ints_of_get (by rw [Array.length_toList, rangeInts_length]; exact hI.1) fun j v hj => ?_)
  have hj' : acc[j]? = some v := by rw [← hj, Array.getElem?_toList]
  obtain ⟨t, ht⟩ := hI.2 j v hj'
  refine ⟨t, ?_⟩
  have hlt : j < n := by
    have := (Array.getElem?_eq_some_iff.mp hj').1
    have e := hI.1
    omega
  rw [ht, List.getD_eq_getElem?_getD, rangeInts_get hlt]
  rfl

end
end
local macro_rules | `(tactic| walk_at "pyIter ref") => `(tactic| refine Stop.of ?_)
section
open PySem PySem.W PyProof.Rows PySem.Calls PySem.Spec PyProof.V
set_option maxRecDepth 100000

noncomputable def Lets (x : Str) : Prop := ∀ c ∈ x.cps.toList, c = 97 ∨ c = 98 ∨ c = 65
noncomputable def Good (x : Str) : Prop := Lets x ∧ 1 ≤ x.length ∧ x.length ≤ 4

theorem small_word {b : Int} (h0 : 1 ≤ b) (h1 : b ≤ 4) : Builtin.Range.small 0 b 1 = true := by
  have : b = 1 ∨ b = 2 ∨ b = 3 ∨ b = 4 := by omega
  rcases this with rfl | rfl | rfl | rfl <;> decide +kernel
theorem size_word {b : Int} (h0 : 1 ≤ b) (h1 : b ≤ 4) : Builtin.Range.rangeSize 0 b 1 = (b.toNat : Int) := by
  have : b = 1 ∨ b = 2 ∨ b = 3 ∨ b = 4 := by omega
  rcases this with rfl | rfl | rfl | rfl <;> decide +kernel

theorem app_cps (x y : Str) : (x ++ y).cps.toList = x.cps.toList ++ y.cps.toList := by
  show (Str.append x y).cps.toList = _
  simp [Str.append]
theorem lets_append {x y : Str} (hx : Lets x) (hy : Lets y) : Lets (x ++ y) := fun c hc => by
  rw [app_cps] at hc
  exact (List.mem_append.mp hc).elim (hx c) (hy c)
theorem lets_item (k : Int) : Lets (Txt.item (Str.ofString "abA") (k.fmod 3)) := by
  have h0 := Int.fmod_nonneg_of_pos k (show (0 : Int) < 3 by decide)
  have h1 := Int.fmod_lt_of_pos k (show (0 : Int) < 3 by decide)
  have : k.fmod 3 = 0 ∨ k.fmod 3 = 1 ∨ k.fmod 3 = 2 := by omega
  unfold Lets
  rcases this with e | e | e <;> rw [e] <;> decide +kernel

set_option maxHeartbeats 8000000 in
theorem word_spec (w : World) (news : Led) (n : Int) (tn : Tok) : Spec w 62 2 8 news [.int n tn] (fun v n => n = news ∧ ∃ x t, v = .str x t ∧ Good x) := by
  unfold Spec KK PR; k_fill; intro mean mg mb dp un gd cn cs a ccd cl outer A₀ base h₀ L m s Q E B F X N T hk hd hu hret
  (refine wpAny_call ?_; k_dflt (refine' code_defG ?e2k1 ?e2k2 ?e2k3 ?e2k4 ?e2k5 ?e2kA ?e2kF ?e2kK ?e2k6 ?e2k7 ?e2k8 ?e2k9 ?e2kB ?_ ?e2c2 ?e2c3 ?e2c4 ?e2c5; (case e2kA => exact rfl); (case e2kF => exact rfl); (case e2kK => assumption); (case e2k1 => k_asm); (case e2k2 => k_asm); (case e2k3 => k_asm); (case e2k4 => k_asm); (case e2k5 => k_asm); (case e2k6 => k_is); (case e2k7 => k_is); (case e2k8 => ktr_room); (case e2k9 => first | exact BindsTo.of_eq rfl | (refine' kp_binds ?e2kx ?e2ke; (case e2kx => k_in); (case e2ke => exact fun _ => rfl))); (case e2c5 => decide); (case e2kB => exact locs rfl); (case e2c2 => exact rfl); (case e2c3 => exact rfl); (case e2c4 => exact rfl); k_whole; intro g' L' h' FG' F' N' B' X' T' kG'; (try dsimp only); (try k_lift B'); (try k_fold)))
  k_steps
  rename_i hR F1 N1 _
  refine Stop.go ?_
  have hb0 := Int.fmod_nonneg_of_pos (if n < 0 then -n else n) (show (0 : Int) < 4 by decide)
  have hb1 := Int.fmod_lt_of_pos (if n < 0 then -n else n) (show (0 : Int) < 4 by decide)
  refine for_range (fun i m nw => ∃ r x tr tx u, m = kstB u [(Str.ofString "word", .str x tx), (Str.ofString "rest", .int r tr)] ∧ (∀ p ∈ news, p ∈ nw) ∧ Lets x ∧ x.length = i) (by rfl) hR (small_word (by omega) (by omega)) (size_word (by omega) (by omega)) F1 N1 ?_ ?_ ?_
  · refine ⟨_, _, _, _, _, norm ⟨rfl, rfl, trivial⟩, ?_, ?_, ?_⟩
    · intro p hp; exact List.mem_cons_of_mem _ hp
    · have e : (Str.ofString "").cps.toList = [] := by decide
      intro c hc; rw [e] at hc; cases hc
    · rfl
  · rintro I i m₁ news₁ t h tk hI hi ⟨r, x, tr, tx, u, rfl, hn, hx, hl⟩ ho F2 N2
    dsimp only [kstB] at F2
    k_steps
    with_reducible rename Fr _ _ _ _ => F3
    with_reducible rename News _ _ _ _ => N3
    with_reducible rename _ ∧ (_ ++ _ : Str).length ≤ _ => hlen
    refine ⟨_, _, _, news₁, rfl, F3, News.sub N3 (fun p hp => .tail _ hp), ho, _, _, _, _, _, norm ⟨rfl, rfl, trivial⟩, hn, ?_, ?_⟩
    · exact lets_append hx (lets_item _)
    · omega
  · rintro m₁ news₁ h tk ⟨r, x, tr, tx, u, rfl, hn, hx, hl⟩ F2 N2
    dsimp only [kstB] at F2
    k_steps
    with_reducible rename Fr _ _ _ _ => F3
    with_reducible rename News _ _ _ _ => N3
    exact hret _ _ _ _ ⟨rfl, _, _, rfl, hx, by omega, by omega⟩ F3 (News.sub N3 hn) (kept_of (by assumption) (by assumption))
end
section
open PySem PySem.W PyProof.Rows PySem.Calls
noncomputable def codes (x : Str) : List Nat := x.cps.toList
theorem codes_length (x : Str) : (codes x).length = x.length := by simp [codes, Str.length]
theorem item_pos {x : Str} {k : Nat} (h : k < x.length) : codes (Txt.item x (k : Int)) = [(codes x)[k]'(by rw [codes_length]; exact h)] := by
  unfold Txt.item Txt.charAt
  have e : seqIndex? (k : Int) x.length = some k := by
    unfold seqIndex?
    simp only [show ¬ ((k : Int) < 0) by omega, if_false]
    have : (decide (0 ≤ (k : Int)) && decide ((k : Int) < (x.length : Int))) = true := by
      simp only [Bool.and_eq_true, decide_eq_true_eq]; omega
    rw [if_pos this]; simp
  rw [e]
  have hk : k < x.cps.size := h
  simp [codes, hk]
theorem item_neg {x : Str} {j : Nat} (h : j < x.length) : codes (Txt.item x (-(j : Int) - 1)) = [(codes x)[x.length - 1 - j]'(by rw [codes_length]; omega)] := by
  unfold Txt.item Txt.charAt
  have e : seqIndex? (-(j : Int) - 1) x.length = some (x.length - 1 - j) := by
    unfold seqIndex?
    simp only [show (-(j : Int) - 1 < 0) by omega, if_true]
    have : (decide (0 ≤ -(j : Int) - 1 + (x.length : Int)) && decide (-(j : Int) - 1 + (x.length : Int) < (x.length : Int))) = true := by
      simp only [Bool.and_eq_true, decide_eq_true_eq]; omega
    rw [if_pos this]; congr 1; omega
  rw [e]
  have hk : x.length - 1 - j < x.cps.size := by show _ < x.length; omega
  simp [codes, hk]
theorem slice_from_codes {x : Str} {k : Nat} (h : k ≤ x.length) : codes (Txt.slice x (some (k : Int)) none) = (codes x).drop k := by
  have e := PyProof.Rows.slice_from_eq (x := x) (i := (k : Int)) (b := (x.length : Int)) (by omega) (by omega) rfl
  rw [e]
  unfold codes
  simp only [Int.toNat_natCast]
  rw [List.take_of_length_le]
  simp [Str.length] at h ⊢
theorem slice_from_len {x : Str} {k : Nat} (h : k ≤ x.length) : (Txt.slice x (some (k : Int)) none).length = x.length - k := by
  rw [← codes_length, slice_from_codes h, List.length_drop, codes_length]
theorem slice_neg_eq {x : Str} {j : Nat} (h0 : 0 < j) (h : j ≤ x.length) : Txt.slice x none (some (-(j : Int))) = Txt.slice x none (some ((x.length - j : Nat) : Int)) := by
  have e : Builtin.Str.strSliceIndices none (some (-(j : Int))) 1 x.length = Builtin.Str.strSliceIndices none (some ((x.length - j : Nat) : Int)) 1 x.length := by
    unfold Builtin.Str.strSliceIndices
    simp only [show (1 : Int) > 0 by decide, if_true, show (-(j : Int) < 0) by omega, show ¬ (((x.length - j : Nat) : Int) < 0) by omega, if_false]
    congr 1
    omega
  unfold Txt.slice
  rw [e]
theorem slice_to_codes {x : Str} {k : Nat} (h : k ≤ x.length) : codes (Txt.slice x none (some (k : Int))) = (codes x).take k := by
  have e := eq_of_beq (PyProof.Rows.slice_closes_toL (x := x) (j := (k : Int)) (by omega) (by omega))
  rw [e]
  unfold codes
  simp
theorem slice_neg_codes {x : Str} {j : Nat} (h0 : 0 < j) (h : j ≤ x.length) : codes (Txt.slice x none (some (-(j : Int)))) = (codes x).take (x.length - j) := by
  rw [slice_neg_eq h0 h, slice_to_codes (Nat.sub_le _ _)]
theorem slice_none_codes (x : Str) : codes (Txt.slice x none none) = codes x := by
  have e : Txt.slice x none none = Txt.slice x (some ((0 : Nat) : Int)) none := by
    have : Builtin.Str.strSliceIndices none none 1 x.length = Builtin.Str.strSliceIndices (some ((0 : Nat) : Int)) none 1 x.length := by
      unfold Builtin.Str.strSliceIndices
      simp only [show (1 : Int) > 0 by decide, if_true]
      congr 1
    unfold Txt.slice
    rw [this]
  rw [e, slice_from_codes (Nat.zero_le _), List.drop_zero]
theorem slice_none_len (x : Str) : (Txt.slice x none none).length = x.length := by
  rw [← codes_length, slice_none_codes, codes_length]
theorem slice_neg_len {x : Str} {j : Nat} (h0 : 0 < j) (h : j ≤ x.length) : (Txt.slice x none (some (-(j : Int)))).length = x.length - j := by
  rw [← codes_length, slice_neg_codes h0 h, List.length_take, codes_length]; omega
theorem take_succ_of_item {x y : Str} {k : Nat} (hx : k < x.length) (hy : k < y.length) (he : (Txt.item x (k : Int) == Txt.item y (k : Int)) = true) (hp : (codes x).take k = (codes y).take k) : (codes x).take (k + 1) = (codes y).take (k + 1) := by
  have e := congrArg codes (eq_of_beq he)
  rw [item_pos hx, item_pos hy] at e
  have hx' : k < (codes x).length := by rw [codes_length]; exact hx
  have hy' : k < (codes y).length := by rw [codes_length]; exact hy
  rw [List.take_succ_eq_append_getElem hx', List.take_succ_eq_append_getElem hy', hp, e]
theorem drop_succ_of_item {x y : Str} {j : Nat} {z : Int} (hz : z = -(j : Int)) (hx : j < x.length) (hy : j < y.length) (he : (Txt.item x (z - 1) == Txt.item y (z - 1)) = true) (hp : (codes x).drop (x.length - j) = (codes y).drop (y.length - j)) :
    (codes x).drop (x.length - (j + 1)) = (codes y).drop (y.length - (j + 1)) := by
  have e := congrArg codes (eq_of_beq he)
  rw [hz, item_neg hx, item_neg hy] at e
  have hx' : x.length - 1 - j < (codes x).length := by rw [codes_length]; omega
  have hy' : y.length - 1 - j < (codes y).length := by rw [codes_length]; omega
  have e1 : x.length - (j + 1) = x.length - 1 - j := by omega
  have e2 : y.length - (j + 1) = y.length - 1 - j := by omega
  rw [e1, e2, List.drop_eq_getElem_cons hx', List.drop_eq_getElem_cons hy']
  have e3 : x.length - 1 - j + 1 = x.length - j := by omega
  have e4 : y.length - 1 - j + 1 = y.length - j := by omega
  rw [e3, e4, hp]
  congr 1
  simpa using e
theorem str_ext {x y : Str} (h : codes x = codes y) : x = y := by
  obtain ⟨⟨a⟩⟩ := x
  obtain ⟨⟨b⟩⟩ := y
  simp only [codes] at h
  subst h
  rfl
theorem item_is {x : Str} {k : Nat} (h : k < x.length) : Txt.item x (k : Int) = ⟨#[(codes x).getD k 0]⟩ := by
  apply str_ext
  rw [item_pos h, List.getD_eq_getElem?_getD, List.getElem?_eq_getElem (by rw [codes_length]; exact h)]
  rfl
theorem subC_letters : ∀ c ∈ [97, 98, 65], ∀ d ∈ [97, 98, 65], subC ⟨#[c]⟩ ⟨#[d]⟩ = ((sb c d : Nat) : Int) := by decide +kernel
theorem lets_at {x : Str} {k : Nat} (h : Lets x) (hk : k < x.length) : (codes x).getD k 0 ∈ [97, 98, 65] := by
  have hk' : k < (codes x).length := by rw [codes_length]; exact hk
  rw [List.getD_eq_getElem?_getD, List.getElem?_eq_getElem hk']
  rcases h _ (List.getElem_mem hk') with e | e | e <;> simp only [codes] at e ⊢ <;> simp [e]
theorem lets_sub {x a b : Str} {k n : Nat} (h : Lets x) (ha : codes a = (codes x).drop k) (hb : codes b = (codes a).take n) : Lets b := fun c hc => by
  have h1 : c ∈ codes b := hc
  rw [hb] at h1
  have h2 := List.mem_of_mem_take h1
  rw [ha] at h2
  exact h c (List.mem_of_mem_drop h2)
theorem subC_item {a b : Str} {k i : Nat} (ha : Lets a) (hb : Lets b) (hk : k < a.length) (hi : i < b.length) : subC (Txt.item b (i : Int)) (Txt.item a (k : Int)) = ((sb ((codes b).getD i 0) ((codes a).getD k 0) : Nat) : Int) := by
  rw [item_is hi, item_is hk]
  exact subC_letters _ (lets_at hb hi) _ (lets_at ha hk)
end
local macro_rules | `(tactic| walk_at "w") => `(tactic| repeat' (first | (k_unfold; (try dsimp only)) | (walk1; (try dsimp only)) | (dsimp only; walk1) | fail "no step"))
local macro_rules | `(tactic| walk_at "exec While") => `(tactic| refine Stop.of ?_)
section
open PySem PySem.W PyProof.Rows PySem.Calls PySem.Spec PyProof.V
set_option maxRecDepth 100000

local macro_rules | `(tactic| walk_at "subscriptTail Name Slice str ref") => `(tactic| ((with_reducible show wpAny _ _ (subscriptTail _ (Expr.Slice none (some (Expr.BoolOp _ _ _)) none _) _ _) _ _ (Shared.mk (Heap.push _ (Obj.mk _ _ (Data.fields #[Value.none, Value.none, Value.none]) _)) _ _ _ _)); (with_reducible rename Fr _ _ _ _ => F'); (with_reducible rename News _ _ _ _ => N'); refine slice_strN_nn_len (s := ⟨_, _, _, _, _⟩) F' N' ?_; intro _ _ _ _ _ _))
local macro_rules | `(tactic| walk_at "call type:list") => `(tactic| refine Stop.of ?_)
local macro_rules | `(tactic| walk_at "exec If") => `(tactic| ((fail_if_success (with_reducible show wpAny _ _ _ (CutQ _ _ _ _ _) _ _)); (with_reducible show wpAny _ _ (exec (Stmt.If _ [Stmt.Assign [Expr.Tuple _ _ _] _ _] _ _) _) _ _ _); refine Stop.of ?_))
local macro_rules | `(tactic| walk_at "exec Assign") => `(tactic| ((fail_if_success (with_reducible show wpAny _ _ _ (CutQ _ _ _ _ _) _ _)); (with_reducible show wpAny _ _ (exec (Stmt.Assign _ (Expr.Subscript _ (Expr.Slice none (some (Expr.BoolOp _ _ _)) none _) _) _) _) _ _ _); refine Stop.of ?_))
local macro_rules | `(tactic| walk_at "call ref") => `(tactic| ((with_reducible show wpAny _ _ (call (Value.ref 21) _) _ _ _); k_dflt (refine' Spec.goI (S := sub_spec _ _ _ _ _ _ (by omega) (by omega)) (ret := ?_)); intro h' tk' F' N' t'; (try dsimp only)))
local macro_rules | `(tactic| k_all) => `(tactic| assumption)
set_option maxHeartbeats 4000000 in
theorem lev_spec (w : World) (news : Led) (x y : Str) (tx ty tm : Tok) (hx : x.length ≤ 4) (hy : y.length ≤ 4) (hLx : Lets x) (hLy : Lets y) : Spec w 28 3 24 news [.str x tx, .str y ty, .int 1000 tm] (fun v n => n = news ∧ ∃ t, v = .int (ed (codes x) (codes y)) t) := by
  unfold Spec KK PR; k_fill; intro mean mg mb dp un gd cn cs a ccd cl outer A₀ base h₀ L m s Q E B F X N T hk hd hu hret
  (refine wpAny_call ?_; k_dflt (refine' code_defG ?e3k1 ?e3k2 ?e3k3 ?e3k4 ?e3k5 ?e3kA ?e3kF ?e3kK ?e3k6 ?e3k7 ?e3k8 ?e3k9 ?e3kB ?_ ?e3c2 ?e3c3 ?e3c4 ?e3c5; (case e3kA => exact rfl); (case e3kF => exact rfl); (case e3kK => assumption); (case e3k1 => k_asm); (case e3k2 => k_asm); (case e3k3 => k_asm); (case e3k4 => k_asm); (case e3k5 => k_asm); (case e3k6 => k_is); (case e3k7 => k_is); (case e3k8 => ktr_room); (case e3k9 => first | exact BindsTo.of_eq rfl | (refine' kp_binds ?e3kx ?e3ke; (case e3kx => k_in); (case e3ke => exact fun _ => rfl))); (case e3c5 => decide); (case e3kB => exact locs rfl); (case e3c2 => exact rfl); (case e3c3 => exact rfl); (case e3c4 => exact rfl); k_whole; intro g' L' h' FG' F' N' B' X' T' kG'; (try dsimp only); (try k_lift B'); (try k_fold)))
  clear F N
  walk_at "w"
  · have e : x = y := eq_of_beq (by assumption)
    exact hret _ _ _ _ ⟨rfl, ex_int (by rw [e, ed_self]; rfl)⟩ (by assumption) (by assumption) (kept_of (by assumption) (by assumption))
  with_reducible rename Fr _ _ _ _ => F1
  with_reducible rename News _ _ _ _ => N1
  refine Stop.go (while_cut (n₀ := x.length) (fun n m nw => ∃ (k : Nat) (t : Tok) (u : Map), m = kstB u [(Str.ofString "a", .str x tx), (Str.ofString "b", .str y ty), (Str.ofString "max_cost", .int 1000 tm), (Str.ofString "pre", .int (k : Nat) t)] ∧ news = nw ∧ n + k = x.length ∧ k ≤ y.length ∧ (codes x).take k = (codes y).take k) 
    (fun m nw => ∃ (k : Nat) (t : Tok) (u : Map), m = kstB u [(Str.ofString "a", .str x tx), (Str.ofString "b", .str y ty), (Str.ofString "max_cost", .int 1000 tm), (Str.ofString "pre", .int (k : Nat) t)] ∧ news = nw ∧ k ≤ x.length ∧ k ≤ y.length ∧ (codes x).take k = (codes y).take k) F1 N1 ?_ ?_ ?_)
  · exact ⟨0, _, _, norm ⟨rfl, rfl, rfl, rfl, trivial⟩, rfl, rfl, Nat.zero_le _, rfl⟩
  · rintro n m₁ nw h₁ tk₁ F2 N2 ⟨k, t, u, rfl, rfl, hn, hky, hpre⟩
    dsimp only [kstB] at F2
    clear F1 N1
    walk_at "w"
    · refine whileEnd (n' := n - 1) (by assumption) (by assumption) (by omega) ⟨k + 1, _, _, norm ⟨rfl, rfl, rfl, rfl, trivial⟩, rfl, by omega, by omega, ?_⟩
      exact take_succ_of_item (by omega) (by omega) (by assumption) hpre
    all_goals exact CutQ.intro (by assumption) (by assumption) ⟨k, _, _, norm ⟨rfl, rfl, rfl, rfl, trivial⟩, rfl, by omega, by omega, hpre⟩
  rintro m₁ nw h₁ tk₁ ⟨k, t, u, rfl, rfl, hkx, hky, hpre⟩ F2 N2
  dsimp only [kstB] at F2
  clear F1 N1
  walk_at "w"
  with_reducible rename Fr _ _ _ _ => F3
  with_reducible rename News _ _ _ _ => N3
  have hax : (Txt.slice x (some (k : Int)) none).length = x.length - k := slice_from_len hkx
  have hby : (Txt.slice y (some (k : Int)) none).length = y.length - k := slice_from_len hky
  have hcx := slice_from_codes hkx
  have hcy := slice_from_codes hky
  generalize Txt.slice x (some (k : Int)) none = a1 at *
  generalize Txt.slice y (some (k : Int)) none = b1 at *
  refine Stop.go (while_cut (n₀ := a1.length) (fun n m nw => ∃ (j : Nat) (z : Int) (t ta tb : Tok) (u : Map), m = kstB u [(Str.ofString "a", .str a1 ta), (Str.ofString "b", .str b1 tb), (Str.ofString "max_cost", .int 1000 tm), (Str.ofString "post", .int z t)] ∧ news = nw ∧ z = -(j : Int) ∧ n + j = a1.length ∧ j ≤ b1.length ∧ (codes a1).drop (a1.length - j) = (codes b1).drop (b1.length - j)) 
    (fun m nw => ∃ (j : Nat) (z : Int) (t ta tb : Tok) (u : Map), m = kstB u [(Str.ofString "a", .str a1 ta), (Str.ofString "b", .str b1 tb), (Str.ofString "max_cost", .int 1000 tm), (Str.ofString "post", .int z t)] ∧ news = nw ∧ z = -(j : Int) ∧ j ≤ a1.length ∧ j ≤ b1.length ∧ (codes a1).drop (a1.length - j) = (codes b1).drop (b1.length - j)) F3 N3 ?_ ?_ ?_)
  · exact ⟨0, _, _, _, _, _, norm ⟨rfl, rfl, rfl, rfl, trivial⟩, rfl, rfl, rfl, Nat.zero_le _, by simp [← codes_length]⟩
  · rintro n m₁ nw h₁ tk₁ F2 N2 ⟨j, z, t, ta, tb, u, rfl, rfl, hz, hn, hjb, hsuf⟩
    dsimp only [kstB] at F2
    clear F3 N3
    by_cases hz0 : z = 0
    · subst hz0
      have hs1 := slice_none_len a1
      have hs2 := slice_none_len b1
      walk_at "w"
      all_goals first
        | (exfalso; omega)
        | exact CutQ.intro (by assumption) (by assumption) ⟨j, _, _, _, _, _, norm ⟨rfl, rfl, rfl, rfl, trivial⟩, rfl, hz, by omega, hjb, hsuf⟩
        | (refine whileEnd (n' := n - 1) (by assumption) (by assumption) (by omega) ⟨j + 1, _, _, _, _, _, norm ⟨rfl, rfl, rfl, rfl, trivial⟩, rfl, by omega, by omega, by omega, ?_⟩
           exact drop_succ_of_item hz (by omega) (by omega) (by assumption) hsuf)
    · have hs1 : ((Txt.slice a1 none (some z)).length : Int) = a1.length + z := by rw [hz, slice_neg_len (by omega) (by omega)]; omega
      have hs2 : ((Txt.slice b1 none (some z)).length : Int) = b1.length + z := by rw [hz, slice_neg_len (by omega) (by omega)]; omega
      walk_at "w"
      all_goals first
        | (exfalso; omega)
        | exact CutQ.intro (by assumption) (by assumption) ⟨j, _, _, _, _, _, norm ⟨rfl, rfl, rfl, rfl, trivial⟩, rfl, hz, by omega, hjb, hsuf⟩
        | (refine whileEnd (n' := n - 1) (by assumption) (by assumption) (by omega) ⟨j + 1, _, _, _, _, _, norm ⟨rfl, rfl, rfl, rfl, trivial⟩, rfl, by omega, by omega, by omega, ?_⟩
           exact drop_succ_of_item hz (by omega) (by omega) (by assumption) hsuf)
  rintro m₁ nw h₁ tk₁ ⟨j, z, t, ta, tb, u, rfl, rfl, hz, hja, hjb, hsuf⟩ F2 N2
  dsimp only [kstB] at F2
  clear F3 N3
  walk_at "w"
  refine Stop.go (exec_cut F2 (fun m nw => ∃ (a2 : Str) (t ta tb : Tok) (u : Map), m = kstB u [(Str.ofString "a", .str a2 ta), (Str.ofString "b", .str b1 tb), (Str.ofString "max_cost", .int 1000 tm), (Str.ofString "post", .int z t)] ∧ news = nw ∧ codes a2 = (codes a1).take (a1.length - j)) ?_ ?_)
  · by_cases hz0 : z = 0
    · subst hz0
      walk_at "w"
      all_goals first
        | (exfalso; omega)
        | exact CutQ.intro (by assumption) (by assumption) ⟨_, _, _, _, _, norm ⟨rfl, rfl, rfl, rfl, trivial⟩, rfl, by rw [slice_none_codes, List.take_of_length_le]; rw [codes_length]; omega⟩
    · walk_at "w"
      all_goals first
        | (exfalso; omega)
        | exact CutQ.intro (by assumption) (by assumption) ⟨_, _, _, _, _, norm ⟨rfl, rfl, rfl, rfl, trivial⟩, rfl, by rw [hz]; exact slice_neg_codes (by omega) (by omega)⟩
  rintro m₂ nw h₂ tk₂ ⟨a2, t2, ta2, tb2, u2, rfl, rfl, hca2⟩ F4 N4
  dsimp only [kstB] at F4
  clear F2 N2
  walk_at "w"
  refine Stop.go (exec_cut F4 (fun m nw => ∃ (b2 : Str) (t ta tb : Tok) (u : Map), m = kstB u [(Str.ofString "a", .str a2 ta), (Str.ofString "b", .str b2 tb), (Str.ofString "max_cost", .int 1000 tm), (Str.ofString "post", .int z t)] ∧ news = nw ∧ codes b2 = (codes b1).take (b1.length - j)) ?_ ?_)
  · by_cases hz0 : z = 0
    · subst hz0
      walk_at "w"
      all_goals first
        | (exfalso; omega)
        | exact CutQ.intro (by assumption) (by assumption) ⟨_, _, _, _, _, norm ⟨rfl, rfl, rfl, rfl, trivial⟩, rfl, by rw [slice_none_codes, List.take_of_length_le]; rw [codes_length]; omega⟩
    · walk_at "w"
      all_goals first
        | (exfalso; omega)
        | exact CutQ.intro (by assumption) (by assumption) ⟨_, _, _, _, _, norm ⟨rfl, rfl, rfl, rfl, trivial⟩, rfl, by rw [hz]; exact slice_neg_codes (by omega) (by omega)⟩
  rintro m₃ nw h₃ tk₃ ⟨b2, t3, ta3, tb3, u3, rfl, rfl, hcb2⟩ F5 N5
  dsimp only [kstB] at F5
  clear F4 N4
  have hed : ed (codes x) (codes y) = ed (codes a2) (codes b2) := ed_trim hpre hcx hcy hsuf hca2 hcb2
  have hl2 : a2.length ≤ 4 := by rw [← codes_length, hca2, List.length_take, codes_length]; omega
  have hl3 : b2.length ≤ 4 := by rw [← codes_length, hcb2, List.length_take, codes_length]; omega
  have hL2 : Lets a2 := lets_sub hLx hcx hca2
  have hL3 : Lets b2 := lets_sub hLy hcy hcb2
  walk_at "w"
  rotate_left
  · have e : codes b2 = [] := List.eq_nil_of_length_eq_zero (by rw [codes_length]; omega)
    exact hret _ _ _ _ ⟨rfl, ex_int (by rw [hed, e, ed_nil_right, codes_length]; omega)⟩ (by assumption) (by assumption) (kept_of (by assumption) (by assumption))
  · have e : codes a2 = [] := List.eq_nil_of_length_eq_zero (by rw [codes_length]; omega)
    exact hret _ _ _ _ ⟨rfl, ex_int (by rw [hed, e, ed_nil_left, codes_length]; omega)⟩ (by assumption) (by assumption) (kept_of (by assumption) (by assumption))
  refine Stop.go (exec_cut F5 (fun m nw => ∃ (a3 b3 : Str) (ta tb : Tok) (u : Map), m = kstB u [(Str.ofString "a", .str a3 ta), (Str.ofString "b", .str b3 tb), (Str.ofString "max_cost", .int 1000 tm)] ∧ news = nw ∧ ed (codes x) (codes y) = ed (codes a3) (codes b3) ∧ 1 ≤ a3.length ∧ a3.length ≤ b3.length ∧ b3.length ≤ 4 ∧ Lets a3 ∧ Lets b3) ?_ ?_)
  · walk_at "w"
    · exact CutQ.intro (by assumption) (News.sub (by assumption) (fun p hp => .tail _ hp)) ⟨_, _, _, _, _, norm ⟨rfl, rfl, rfl, trivial⟩, rfl, by rw [hed, ed_comm], by omega, by omega, by omega, hL3, hL2⟩
    · exact CutQ.intro (by assumption) (by assumption) ⟨_, _, _, _, _, norm ⟨rfl, rfl, rfl, trivial⟩, rfl, hed, by omega, by omega, by omega, hL2, hL3⟩
  rintro m₄ nw h₄ tk₄ ⟨a3, b3, ta4, tb4, u4, rfl, rfl, hed4, hl4, hl5, hl6, hLa3, hLb3⟩ F6 N6
  dsimp only [kstB] at F6
  clear F5 N5
  walk_at "w"
  with_reducible rename IsRange _ _ _ _ _ _ _ _ => hR
  with_reducible rename Fr _ _ _ _ => F7
  with_reducible rename News _ _ _ _ => N7
  refine Stop.go (list_rangeAny (n := a3.length) (by rfl) F7 N7 hR (small_row hl4 (by omega)) (size_row hl4 (by omega)) (by omega) ?_)
  intro D us c' h₅ tk₅ F8 N8 lt8 hI8
  clear F7 N7
  walk_at "w"
  with_reducible rename IsRange _ _ _ _ _ _ _ _ => hR2
  with_reducible rename Fr _ _ _ _ => F9
  with_reducible rename News _ _ _ _ => N9
  refine Stop.go (for_range (n := b3.length) (fun i m nw => ∃ (vs : List Value) (r : Int) (tr ta tb : Tok) (u : Map), m = kstB u [(Str.ofString "a", .str a3 ta), (Str.ofString "b", .str b3 tb), (Str.ofString "max_cost", .int 1000 tm), (Str.ofString "row", .ref D), (Str.ofString "result", .int r tr)] ∧ nw = (D, W.listOf vs.toArray c') :: news ∧ IntsAre vs (rowOf (codes a3) (codes b3) i) ∧ (i ≠ 0 → r = (ed (codes a3) ((codes b3).take i) : Nat))) (by rfl) hR2 (small_len (by omega)) (size_len (by omega)) F9 N9 ?_ ?_ ?_)
  · exact ⟨_, _, _, _, _, _, norm ⟨rfl, rfl, rfl, rfl, rfl, trivial⟩, rfl, by rw [← row_zero (codes a3) (codes b3), codes_length] ; exact hI8, fun h => absurd rfl h⟩
  · rintro I i m₁ news₁ t h tk hI hi ⟨vs, r, tr, ta5, tb5, u5, rfl, rfl, hV, hr⟩ ho F10 N10
    dsimp only [kstB] at F10
    rw [Int.zero_add] at F10
    clear F9 N9 hR2
    walk_at "w"
    with_reducible rename IsRange _ _ _ _ _ _ _ _ => hR3
    with_reducible rename Fr _ _ _ _ => F11
    with_reducible rename News _ _ _ _ => N11
    refine Stop.go (for_range (n := a3.length) (fun k m nw => ∃ (vs : List Value) (dd rr mn : Int) (t1 t2 t3 t4 t5 ta tb : Tok) (u : Map), m = kstB u [(Str.ofString "a", .str a3 ta), (Str.ofString "b", .str b3 tb), (Str.ofString "max_cost", .int 1000 tm), (Str.ofString "row", .ref D), (Str.ofString "bindex", .int i t1), (Str.ofString "bchar", .str (Txt.item b3 i) t2), (Str.ofString "distance", .int dd t3), (Str.ofString "result", .int rr t4), (Str.ofString "minimum", .int mn t5)] ∧ nw = (I, itR (0 + ((i + 1 : Nat) : Int)) ((b3.length : Int) - ((i + 1 : Nat) : Int))) :: (D, W.listOf vs.toArray c') :: news ∧ IntsAre vs (mixRow (codes a3) (codes b3) i k) ∧ dd = (ed ((codes a3).take k) ((codes b3).take i) : Nat) ∧ rr = rrOf (codes a3) (codes b3) i k ∧ (k ≠ 0 → mn ≤ 16)) (by rfl) hR3 (small_len (by omega)) (size_len (by omega)) F11 N11 ?_ ?_ ?_)
    · refine ⟨vs, _, _, _, _, _, _, _, _, _, _, _, norm ⟨rfl, rfl, rfl, rfl, rfl, rfl, rfl, rfl, rfl, trivial⟩, rfl, by rw [mix_zero]; exact hV, by rw [List.take_zero, ed_nil_left, List.length_take, codes_length]; omega, by simp only [rrOf, if_true]; omega, fun h => absurd rfl h⟩
    · rintro I2 k2 m₂ news₂ t2 h2 tk2 hI2 hk2 ⟨vs2, dd, rr, mn, t3, t4, t5, t6, t7, ta6, tb6, u6, rfl, rfl, hV2, hdd, hrr, hmn⟩ ho2 F12 N12
      dsimp only [kstB] at F12
      rw [Int.zero_add] at F12
      clear F11 N11 hR3
      have hne1 : I2 ≠ D := fun e => ho2 _ (.tail _ (.head _)) e.symm
      have hne2 : I ≠ D := fun e => ho _ (.head _) e.symm
      have hnD : ∀ p ∈ news, p.1 ≠ D := fun p hp => Nat.ne_of_lt (lt8 p hp)
      have hnl : (mixRow (codes a3) (codes b3) i k2).length = a3.length := by rw [mixRow_length, codes_length]
      generalize hns : mixRow (codes a3) (codes b3) i k2 = ns at *
      have hold := dp_old (B := codes b3) (i := i) hns (by rw [codes_length]; exact hk2)
      have hval := dp_val (A := codes a3) (B := codes b3) (by rw [codes_length]; exact hk2) (by rw [codes_length]; exact hi) hdd hrr hold (subC_item hLa3 hLb3 hk2 hi)
      have hle : (ed ((codes a3).take (k2 + 1)) ((codes b3).take (i + 1)) : Int) ≤ 16 := ed_small (by rw [List.length_take, codes_length]; omega) (by rw [List.length_take, codes_length]; omega)
      walk_at "w"
      all_goals
        with_reducible rename IntsAre (List.set _ _ _) _ => hi9
        refine unrEnd ((I, itR (0 + ((i + 1 : Nat) : Int)) ((b3.length : Int) - ((i + 1 : Nat) : Int))) :: (D, _) :: news) (by assumption) (by assumption) (.head _) (fun p hp => .tail _ hp) (off2 (ho2 _ (.head _)) (ho2 _ (.tail _ (.head _))) fun p hp => ho2 p (.tail _ (.tail _ hp))) ⟨_, _, _, _, _, _, _, _, _, _, _, _, norm ⟨rfl, rfl, rfl, rfl, rfl, rfl, rfl, rfl, rfl, trivial⟩, rfl, dp_ints hns hval hi9, hold, hval.trans rr_succ.symm, fun _ => ?_⟩
        rw [hval] at *
        omega
    · rintro m₅ news₅ h₅ tk₅ ⟨vs5, dd, rr, mn, t3, t4, t5, t6, t7, ta6, tb6, u6, rfl, rfl, hV5, hdd, hrr, hmn⟩ F13 N13
      dsimp only [kstB] at F13
      have hmn' : mn ≤ 16 := hmn (by omega)
      clear F11 N11 hR3
      walk_at "w"
      exact unrEnd ((D, W.listOf vs5.toArray c') :: news) F13 N13 (.head _) (fun p hp => .tail _ hp) (off1 (ho _ (.head _)) fun p hp => ho p (.tail _ hp)) ⟨vs5, _, _, _, _, _, norm ⟨rfl, rfl, rfl, rfl, rfl, trivial⟩, rfl, row_succ (codes_length a3) hV5, fun _ => row_last hl4 (codes_length a3) hrr⟩
  · rintro m₅ news₅ h₅ tk₅ ⟨vs5, r5, t3, t4, t5, u6, rfl, rfl, hV5, hr5⟩ F13 N13
    dsimp only [kstB] at F13
    clear F9 N9 hR2
    walk_at "w"
    exact hret _ _ _ _ ⟨rfl, ex_int (by rw [hr5 (by omega), hed4, List.take_of_length_le (by rw [codes_length]; omega)])⟩ (by assumption) (News.sub (by assumption) fun p hp => .tail _ hp) (kept_of (by assumption) (by assumption))
end
section
open PySem PySem.W PyProof.Rows PySem.Calls PySem.Spec PyProof.V
set_option maxRecDepth 100000
local macro_rules | `(tactic| walk_at "call ref") => `(tactic| ((with_reducible show wpAny _ _ (call (Value.ref 28) _) _ _ _); k_dflt (refine' Spec.goI (S := lev_spec _ _ _ _ _ _ _ (by omega) (by omega) (by assumption) (by assumption)) (ret := ?_)); intro h' tk' F' N' t'; (try dsimp only)))

noncomputable def dist (x y : Str) : Nat := ed (codes x) (codes y)
set_option maxHeartbeats 4000000 in
theorem far_spec (w : World) (news : Led) (x y : Str) (tx ty : Tok) (hx : Good x) (hy : Good y) : Spec w 69 4 32 news [.str x tx, .str y ty] (fun v n => n = news ∧ ∃ t, v = .int (dist x y) t) := by
  unfold Spec KK PR; k_fill; intro mean mg mb dp un gd cn cs a ccd cl outer A₀ base h₀ L m s Q E B F X N T hk hd hu hret
  (refine wpAny_call ?_; k_dflt (refine' code_defG ?e4k1 ?e4k2 ?e4k3 ?e4k4 ?e4k5 ?e4kA ?e4kF ?e4kK ?e4k6 ?e4k7 ?e4k8 ?e4k9 ?e4kB ?_ ?e4c2 ?e4c3 ?e4c4 ?e4c5; (case e4kA => exact rfl); (case e4kF => exact rfl); (case e4kK => assumption); (case e4k1 => k_asm); (case e4k2 => k_asm); (case e4k3 => k_asm); (case e4k4 => k_asm); (case e4k5 => k_asm); (case e4k6 => k_is); (case e4k7 => k_is); (case e4k8 => ktr_room); (case e4k9 => first | exact BindsTo.of_eq rfl | (refine' kp_binds ?e4kx ?e4ke; (case e4kx => k_in); (case e4ke => exact fun _ => rfl))); (case e4c5 => decide); (case e4kB => exact locs rfl); (case e4c2 => exact rfl); (case e4c3 => exact rfl); (case e4c4 => exact rfl); k_whole; intro g' L' h' FG' F' N' B' X' T' kG'; (try dsimp only); (try k_lift B'); (try k_fold)))
  clear F N
  have hLx := hx.1
  have hLy := hy.1
  have hlx := hx.2.2
  have hly := hy.2.2
  walk_at "w"
  exact hret _ _ _ _ ⟨rfl, _, rfl⟩ (by assumption) (by assumption) (kept_of (by assumption) (by assumption))

theorem isL {h₀ h : Heap} {L l : Addr} {its : Array Value} {c : Nat} {news : Led} (N : News h₀ L h news) (hm : (l, W.listOf its c) ∈ news) : h.IsList l its := PySem.IsL.isList (n := c) (N _ hm).1
local macro_rules | `(tactic| walk_at "call builtin:len") => `(tactic| k_dflt (refine' len_ints_fit (by exact isL (by k_asm) (by assumption)) (by assumption) (by omega) ?_))
local macro_rules | `(tactic| walk_at "subscriptTail Name Name ref int") => `(tactic| ((with_unfolding_all refine' item_anyK (by exact isL (by k_asm) (by assumption)) (by assumption) (by omega) (by omega) (by omega) ?_ (by with_unfolding_all rfl)); intro _))

noncomputable def Srt (ns : List Int) : Prop := ns.Pairwise (· ≤ ·)
theorem mid_facts {lo hi : Int} (h : lo < hi) : lo ≤ (lo + hi).fdiv 2 ∧ (lo + hi).fdiv 2 < hi := by
  have e : (lo + hi).fdiv 2 = (lo + hi) / 2 := Int.fdiv_eq_ediv_of_nonneg _ (by decide)
  omega
theorem srt_take {ns : List Int} {q : Nat} {x : Int} (hs : Srt ns) (hq : q < ns.length) (h : ns.getD q 0 < x) : ∀ y ∈ ns.take (q + 1), y < x := by
  intro y hy
  obtain ⟨j, hj, rfl⟩ := List.getElem_of_mem hy
  rw [List.length_take] at hj
  rw [List.getElem_take]
  rw [List.getD_eq_getElem?_getD, List.getElem?_eq_getElem hq] at h
  have h' : ns[q] < x := h
  rcases Nat.lt_or_ge j q with h1 | h1
  · have := (List.pairwise_iff_getElem.mp hs) j q (by omega) hq h1
    omega
  · have e : j = q := by omega
    subst e; omega
theorem srt_drop {ns : List Int} {q : Nat} {x : Int} (hs : Srt ns) (hq : q < ns.length) (h : ¬ ns.getD q 0 < x) : ∀ y ∈ ns.drop q, x ≤ y := by
  intro y hy
  obtain ⟨j, hj, rfl⟩ := List.getElem_of_mem hy
  rw [List.length_drop] at hj
  rw [List.getElem_drop]
  rw [List.getD_eq_getElem?_getD, List.getElem?_eq_getElem hq] at h
  have h' : ¬ ns[q] < x := h
  rcases Nat.eq_zero_or_pos j with h1 | h1
  · subst h1; simp only [Nat.add_zero]; omega
  · have := (List.pairwise_iff_getElem.mp hs) q (q + j) hq (by omega) (by omega)
    omega
theorem srt_takeR {ns : List Int} {q : Nat} {x : Int} (hs : Srt ns) (hq : q < ns.length) (h : ¬ x < ns.getD q 0) : ∀ y ∈ ns.take (q + 1), y ≤ x := by
  intro y hy
  obtain ⟨j, hj, rfl⟩ := List.getElem_of_mem hy
  rw [List.length_take] at hj
  rw [List.getElem_take]
  rw [List.getD_eq_getElem?_getD, List.getElem?_eq_getElem hq] at h
  have h' : ¬ x < ns[q] := h
  rcases Nat.lt_or_ge j q with h1 | h1
  · have := (List.pairwise_iff_getElem.mp hs) j q (by omega) hq h1
    omega
  · have e : j = q := by omega
    subst e; omega
theorem srt_dropR {ns : List Int} {q : Nat} {x : Int} (hs : Srt ns) (hq : q < ns.length) (h : x < ns.getD q 0) : ∀ y ∈ ns.drop q, x < y := by
  intro y hy
  obtain ⟨j, hj, rfl⟩ := List.getElem_of_mem hy
  rw [List.length_drop] at hj
  rw [List.getElem_drop]
  rw [List.getD_eq_getElem?_getD, List.getElem?_eq_getElem hq] at h
  have h' : x < ns[q] := h
  rcases Nat.eq_zero_or_pos j with h1 | h1
  · subst h1; simp only [Nat.add_zero]; omega
  · have := (List.pairwise_iff_getElem.mp hs) q (q + j) hq (by omega) (by omega)
    omega

set_option maxHeartbeats 4000000 in
theorem bl_spec (w : World) (news : Led) (l : Addr) (vs : List Value) (c : Nat) (ns : List Int) (x : Int) (tx : Tok) (args : List Value) (ha : args = [] ∨ ∃ t, args = [.int 0 t, .none]) (hm : (l, W.listOf vs.toArray c) ∈ news) (hV : IntsAre vs ns) (hl : ns.length ≤ 64) (hs : Srt ns) : Spec w 55 2 16 news (.ref l :: .int x tx :: args) (fun v n => n = news ∧ ∃ (z : Int) (i : Nat) (t : Tok), v = .int z t ∧ z = i ∧ i ≤ ns.length ∧ (∀ y ∈ ns.take i, y < x) ∧ ∀ y ∈ ns.drop i, x ≤ y) := by
  unfold Spec KK PR; k_fill; intro mean mg mb dp un gd cn cs a ccd cl outer A₀ base h₀ L m s Q E B F X N T hk hd hu hret
  rcases ha with rfl | ⟨t0, rfl⟩
  all_goals
    (refine wpAny_call ?_; k_dflt (refine' code_defG ?e5k1 ?e5k2 ?e5k3 ?e5k4 ?e5k5 ?e5kA ?e5kF ?e5kK ?e5k6 ?e5k7 ?e5k8 ?e5k9 ?e5kB ?_ ?e5c2 ?e5c3 ?e5c4 ?e5c5; (case e5kA => exact rfl); (case e5kF => exact rfl); (case e5kK => assumption); (case e5k1 => k_asm); (case e5k2 => k_asm); (case e5k3 => k_asm); (case e5k4 => k_asm); (case e5k5 => k_asm); (case e5k6 => k_is); (case e5k7 => k_is); (case e5k8 => ktr_room); (case e5k9 => first | exact BindsTo.of_eq rfl | (refine' kp_binds ?e5kx ?e5ke; (case e5kx => k_in); (case e5ke => exact fun _ => rfl))); (case e5c5 => decide); (case e5kB => exact locs rfl); (case e5c2 => exact rfl); (case e5c3 => exact rfl); (case e5c4 => exact rfl); k_whole; intro g' L' h' FG' F' N' B' X' T' kG'; (try dsimp only); (try k_lift B'); (try k_fold)))
    clear F N
    walk_at "w"
    with_reducible rename Fr _ _ _ _ => F1
    with_reducible rename News _ _ _ _ => N1
    refine Stop.go (while_cut (n₀ := ns.length) (fun n m nw => ∃ (lo hi : Int) (t1 t2 tx : Tok) (u : Map), m = kstB u [(Str.ofString "a", .ref l), (Str.ofString "x", .int x tx), (Str.ofString "lo", .int lo t1), (Str.ofString "hi", .int hi t2)] ∧ news = nw ∧ 0 ≤ lo ∧ lo ≤ hi ∧ hi ≤ ns.length ∧ (n : Int) = hi - lo ∧ (∀ y ∈ ns.take lo.toNat, y < x) ∧ ∀ y ∈ ns.drop hi.toNat, x ≤ y)
      (fun m nw => ∃ (z : Int) (i : Nat) (t1 : Tok) (u : Map), m = kstB u [(Str.ofString "lo", .int z t1)] ∧ news = nw ∧ z = i ∧ i ≤ ns.length ∧ (∀ y ∈ ns.take i, y < x) ∧ ∀ y ∈ ns.drop i, x ≤ y) F1 N1 ?_ ?_ ?_)
    · refine ⟨0, ns.length, _, _, _, _, norm ⟨rfl, rfl, rfl, rfl, trivial⟩, rfl, by omega, by omega, by omega, by omega, ?_, ?_⟩
      · intro y hy; simp at hy
      · intro y hy; simp at hy
    · rintro n m₁ nw h₁ tk₁ F2 N2 ⟨lo, hi, t1, t2, tx, u, rfl, rfl, h0, h1, h2, hn, ha, hb⟩
      dsimp only [kstB] at F2
      clear F1 N1
      have hq := mid_facts (lo := lo) (hi := hi)
      walk_at "w"
      · have hq' := hq (by omega)
        refine whileEnd (n' := (hi - ((lo + hi).fdiv 2 + 1)).toNat) (by assumption) (by assumption) (by omega) ⟨(lo + hi).fdiv 2 + 1, hi, _, _, _, _, norm ⟨rfl, rfl, rfl, rfl, trivial⟩, rfl, by omega, by omega, by omega, by omega, ?_, hb⟩
        have e : ((lo + hi).fdiv 2 + 1).toNat = ((lo + hi).fdiv 2).toNat + 1 := by omega
        rw [e]
        exact srt_take hs (by omega) (by assumption)
      · have hq' := hq (by omega)
        refine whileEnd (n' := ((lo + hi).fdiv 2 - lo).toNat) (by assumption) (by assumption) (by omega) ⟨lo, (lo + hi).fdiv 2, _, _, _, _, norm ⟨rfl, rfl, rfl, rfl, trivial⟩, rfl, by omega, by omega, by omega, by omega, ha, ?_⟩
        exact srt_drop hs (by omega) (by assumption)
      · have e : hi = lo := by omega
        rw [e] at hb
        exact CutQ.intro (by assumption) (by assumption) ⟨lo, lo.toNat, _, _, norm ⟨rfl, trivial⟩, rfl, by omega, by omega, ha, hb⟩
    · rintro m₁ nw h₁ tk₁ ⟨z, i, t1, u, rfl, rfl, hz, hi, ha, hb⟩ F2 N2
      dsimp only [kstB] at F2
      clear F1 N1
      walk_at "w"
      exact hret _ _ _ _ ⟨rfl, z, i, _, rfl, hz, hi, ha, hb⟩ (by assumption) (by assumption) (kept_of (by assumption) (by assumption))

set_option maxHeartbeats 4000000 in
theorem br_spec (w : World) (news : Led) (l : Addr) (vs : List Value) (c : Nat) (ns : List Int) (x : Int) (tx : Tok) (args : List Value) (ha : args = []) (hm : (l, W.listOf vs.toArray c) ∈ news) (hV : IntsAre vs ns) (hl : ns.length ≤ 64) (hs : Srt ns) : Spec w 37 2 16 news (.ref l :: .int x tx :: args) (fun v n => n = news ∧ ∃ (z : Int) (i : Nat) (t : Tok), v = .int z t ∧ z = i ∧ i ≤ ns.length ∧ (∀ y ∈ ns.take i, y ≤ x) ∧ ∀ y ∈ ns.drop i, x < y) := by
  unfold Spec KK PR; k_fill; intro mean mg mb dp un gd cn cs a ccd cl outer A₀ base h₀ L m s Q E B F X N T hk hd hu hret
  subst ha
  · skip
    (refine wpAny_call ?_; k_dflt (refine' code_defG ?e6k1 ?e6k2 ?e6k3 ?e6k4 ?e6k5 ?e6kA ?e6kF ?e6kK ?e6k6 ?e6k7 ?e6k8 ?e6k9 ?e6kB ?_ ?e6c2 ?e6c3 ?e6c4 ?e6c5; (case e6kA => exact rfl); (case e6kF => exact rfl); (case e6kK => assumption); (case e6k1 => k_asm); (case e6k2 => k_asm); (case e6k3 => k_asm); (case e6k4 => k_asm); (case e6k5 => k_asm); (case e6k6 => k_is); (case e6k7 => k_is); (case e6k8 => ktr_room); (case e6k9 => first | exact BindsTo.of_eq rfl | (refine' kp_binds ?e6kx ?e6ke; (case e6kx => k_in); (case e6ke => exact fun _ => rfl))); (case e6c5 => decide); (case e6kB => exact locs rfl); (case e6c2 => exact rfl); (case e6c3 => exact rfl); (case e6c4 => exact rfl); k_whole; intro g' L' h' FG' F' N' B' X' T' kG'; (try dsimp only); (try k_lift B'); (try k_fold)))
    clear F N
    walk_at "w"
    with_reducible rename Fr _ _ _ _ => F1
    with_reducible rename News _ _ _ _ => N1
    refine Stop.go (while_cut (n₀ := ns.length) (fun n m nw => ∃ (lo hi : Int) (t1 t2 tx : Tok) (u : Map), m = kstB u [(Str.ofString "a", .ref l), (Str.ofString "x", .int x tx), (Str.ofString "lo", .int lo t1), (Str.ofString "hi", .int hi t2)] ∧ news = nw ∧ 0 ≤ lo ∧ lo ≤ hi ∧ hi ≤ ns.length ∧ (n : Int) = hi - lo ∧ (∀ y ∈ ns.take lo.toNat, y ≤ x) ∧ ∀ y ∈ ns.drop hi.toNat, x < y)
      (fun m nw => ∃ (z : Int) (i : Nat) (t1 : Tok) (u : Map), m = kstB u [(Str.ofString "lo", .int z t1)] ∧ news = nw ∧ z = i ∧ i ≤ ns.length ∧ (∀ y ∈ ns.take i, y ≤ x) ∧ ∀ y ∈ ns.drop i, x < y) F1 N1 ?_ ?_ ?_)
    · refine ⟨0, ns.length, _, _, _, _, norm ⟨rfl, rfl, rfl, rfl, trivial⟩, rfl, by omega, by omega, by omega, by omega, ?_, ?_⟩
      · intro y hy; simp at hy
      · intro y hy; simp at hy
    · rintro n m₁ nw h₁ tk₁ F2 N2 ⟨lo, hi, t1, t2, tx, u, rfl, rfl, h0, h1, h2, hn, ha, hb⟩
      dsimp only [kstB] at F2
      clear F1 N1
      have hq := mid_facts (lo := lo) (hi := hi)
      walk_at "w"
      · have hq' := hq (by omega)
        refine whileEnd (n' := ((lo + hi).fdiv 2 - lo).toNat) (by assumption) (by assumption) (by omega) ⟨lo, (lo + hi).fdiv 2, _, _, _, _, norm ⟨rfl, rfl, rfl, rfl, trivial⟩, rfl, by omega, by omega, by omega, by omega, ha, ?_⟩
        exact srt_dropR hs (by omega) (by assumption)
      · have hq' := hq (by omega)
        refine whileEnd (n' := (hi - ((lo + hi).fdiv 2 + 1)).toNat) (by assumption) (by assumption) (by omega) ⟨(lo + hi).fdiv 2 + 1, hi, _, _, _, _, norm ⟨rfl, rfl, rfl, rfl, trivial⟩, rfl, by omega, by omega, by omega, by omega, ?_, hb⟩
        have e : ((lo + hi).fdiv 2 + 1).toNat = ((lo + hi).fdiv 2).toNat + 1 := by omega
        rw [e]
        exact srt_takeR hs (by omega) (by assumption)
      · have e : hi = lo := by omega
        rw [e] at hb
        exact CutQ.intro (by assumption) (by assumption) ⟨lo, lo.toNat, _, _, norm ⟨rfl, trivial⟩, rfl, by omega, by omega, ha, hb⟩
    · rintro m₁ nw h₁ tk₁ ⟨z, i, t1, u, rfl, rfl, hz, hi, ha, hb⟩ F2 N2
      dsimp only [kstB] at F2
      clear F1 N1
      walk_at "w"
      exact hret _ _ _ _ ⟨rfl, z, i, _, rfl, hz, hi, ha, hb⟩ (by assumption) (by assumption) (kept_of (by assumption) (by assumption))
end
section
open PySem PySem.W PyProof.Rows PySem.Calls PySem.Spec PyProof.V
set_option maxRecDepth 100000
local macro_rules | `(tactic| walk_at "call builtin:list.insert") => `(tactic| refine Stop.of ?_)
local macro_rules | `(tactic| walk_at "call ref") => `(tactic| ((with_reducible show wpAny _ _ (call (Value.ref 55) _) _ _ _); k_dflt (refine' Spec.goB (S := bl_spec _ _ _ _ _ _ _ _ _ (by exact Or.inr ⟨_, rfl⟩) (by assumption) (by assumption) (by omega) (by assumption)) (ret := ?_)); intro h' tk' F' N' i' t' hp'; obtain ⟨hi', hA', hB'⟩ := hp'; (try dsimp only)))

theorem Upd.mem {d : Addr} {o o' : Obj} {l l' : Led} (U : Upd d o o' l l') : (d, o) ∈ l := by
  obtain ⟨pre, post, rfl, _, _, _⟩ := U.split
  exact List.mem_append.mpr (.inr (.head _))
theorem fits_index {i : Nat} (h : i ≤ 64) : Builtin.List.listFitsIndex (i : Int) = true := by
  unfold Builtin.List.listFitsIndex
  simp
  omega
theorem ins_nat (vs : List Value) (y : Value) {i : Nat} (h : i ≤ vs.length) : kl_ins vs (i : Int) y = vs.take i ++ y :: vs.drop i := by
  unfold kl_ins
  rw [if_neg (by omega)]
  have e : min ((i : Int)).toNat vs.length = i := by omega
  rw [e]
set_option maxHeartbeats 4000000 in
theorem il_spec (w : World) (news : Led) (g : Obj → Led) (l : Addr) (vs : List Value) (c : Nat) (ns : List Int) (x : Int) (tx : Tok) (hU : ∀ o', Upd l (W.listOf vs.toArray c) o' news (g o')) (hV : IntsAre vs ns) (hl : ns.length ≤ 60) (hs : Srt ns) :
    Spec w 46 3 24 news [.ref l, .int x tx] (fun v n => v = .none ∧ ∃ i : Nat, n = g (W.listOf (vs.take i ++ .int x tx :: vs.drop i).toArray (c + 1)) ∧ i ≤ ns.length ∧ (∀ y ∈ ns.take i, y < x) ∧ ∀ y ∈ ns.drop i, x ≤ y) := by
  unfold Spec KK PR; k_fill; intro mean mg mb dp un gd cn cs a ccd cl outer A₀ base h₀ L m s Q E B F X N T hk hd hu hret
  have hm := Upd.mem (hU default)
  (refine wpAny_call ?_; k_dflt (refine' code_defG ?e7k1 ?e7k2 ?e7k3 ?e7k4 ?e7k5 ?e7kA ?e7kF ?e7kK ?e7k6 ?e7k7 ?e7k8 ?e7k9 ?e7kB ?_ ?e7c2 ?e7c3 ?e7c4 ?e7c5; (case e7kA => exact rfl); (case e7kF => exact rfl); (case e7kK => assumption); (case e7k1 => k_asm); (case e7k2 => k_asm); (case e7k3 => k_asm); (case e7k4 => k_asm); (case e7k5 => k_asm); (case e7k6 => k_is); (case e7k7 => k_is); (case e7k8 => ktr_room); (case e7k9 => first | exact BindsTo.of_eq rfl | (refine' kp_binds ?e7kx ?e7ke; (case e7kx => k_in); (case e7ke => exact fun _ => rfl))); (case e7c5 => decide); (case e7kB => exact locs rfl); (case e7c2 => exact rfl); (case e7c3 => exact rfl); (case e7c4 => exact rfl); k_whole; intro g' L' h' FG' F' N' B' X' T' kG'; (try dsimp only); (try k_lift B'); (try k_fold)))
  clear F N
  walk_at "w"
  with_reducible rename Fr _ _ _ _ => F1
  with_reducible rename News _ _ _ _ => N1
  with_reducible rename ∀ y ∈ List.take _ _, y < _ => hA
  with_reducible rename ∀ y ∈ List.drop _ _, _ ≤ y => hB
  rename_i i' t' hi' _
  refine Stop.go ?_
  k_dflt refine kl_insert (l := vs.take i' ++ .int x tx :: vs.drop i') F1 N1 (fits_index (by omega)) (ins_nat vs _ (by rw [hV.length]; exact hi')) (hU _) (by rw [List.toList_toArray, hV.length, sizeLine_eq]; omega) ?_
  intro h2 F2 N2
  clear F1 N1
  walk_at "w"
  exact hret _ _ _ _ ⟨rfl, i', rfl, hi', hA, hB⟩ (by assumption) (by assumption) (kept_of (by assumption) (by assumption))
end
section
open PySem PySem.W PyProof.Rows PySem.Calls PySem.Spec PyProof.V

structure Nd where
  wd : Str
  tp : Addr
  ol : Addr
  dl : Addr
  kids : List (Int × Str)
noncomputable abbrev tupO (a b : Addr) : Obj := { cls := .type "tuple", data := .seq [Value.ref a, Value.ref b].toArray }
inductive KV : List (Int × Value) → List (Int × Str) → Prop
  | nil : KV [] []
  | cons (e : Int) (w : Str) (t : Tok) {r : List (Int × Value)} {r' : List (Int × Str)} : KV r r' → KV ((e, .str w t) :: r) ((e, w) :: r')
noncomputable def NdAt (w : World) (led : Led) (n : Nd) (vs : List Value) (c : Nat) (ns : List Int) (ob : Obj) (kv : List (Int × Value)) : Prop :=
  (n.ol, W.listOf vs.toArray c) ∈ led ∧ IntsAre vs ns ∧ Srt ns ∧ ns.Perm (n.kids.map (·.1)) ∧ (n.dl, ob) ∈ led ∧ ob.IsDictOf (PySem.intKind PySem.Challenge.rw_zt0002_01.row.prog w) kv ∧ KV kv n.kids
noncomputable def NdIn (w : World) (led : Led) (n : Nd) : Prop :=
  (n.tp, tupO n.ol n.dl) ∈ led ∧ (n.dl == sysModules) = false ∧ ∃ vs c ns ob kv, NdAt w led n vs c ns ob kv
noncomputable def TrIn (w : World) (led : Led) (ta : Addr) (nds : List Nd) : Prop :=
  (ta == sysModules) = false ∧ (∃ oT, (ta, oT) ∈ led ∧ oT.IsDictOf (PySem.strKind PySem.Challenge.rw_zt0002_01.row.prog w) (nds.map fun n => (n.wd, Value.ref n.tp))) ∧ (∀ n ∈ nds, NdIn w led n) ∧ (nds.map (·.ol)).Nodup ∧ (nds.map (·.dl)).Nodup ∧ (∀ n ∈ nds, n.dl ≠ ta) ∧ (led.map (·.1)).Nodup

noncomputable def tabOf (nds : List Nd) (v : Str) : List (Int × Str) := match nds.find? fun n => n.wd = v with
  | some n => n.kids
  | none => []
noncomputable def put (d : Addr) (o : Obj) (l : Led) : Led := l.map fun p => if p.1 = d then (d, o) else p
theorem put_addr (d : Addr) (o : Obj) (l : Led) : (put d o l).map (·.1) = l.map (·.1) := by
  unfold put
  rw [List.map_map]
  apply List.map_congr_left
  intro p _
  simp only [Function.comp]
  split
  · rename_i h; exact h.symm
  · rfl
theorem put_off {d : Addr} {o : Obj} {l : Led} (h : ∀ p ∈ l, p.1 ≠ d) : put d o l = l := by
  unfold put
  have : ∀ p ∈ l, (fun p : Addr × Obj => if p.1 = d then (d, o) else p) p = p := fun p hp => if_neg (h p hp)
  exact (List.map_congr_left this).trans (List.map_id _)
theorem put_mem {d : Addr} {o o' : Obj} {l : Led} (h : (d, o) ∈ l) : (d, o') ∈ put d o' l := List.mem_map.mpr ⟨_, h, if_pos rfl⟩
theorem put_ne {d x : Addr} {o' ox : Obj} {l : Led} (h : (x, ox) ∈ l) (hx : x ≠ d) : (x, ox) ∈ put d o' l := List.mem_map.mpr ⟨_, h, if_neg hx⟩
theorem updF_put {d : Addr} {o : Obj} : ∀ {l : Led}, (l.map (·.1)).Nodup → (d, o) ∈ l → UpdF d o l fun o' => put d o' l
  | [], _, h => by cases h
  | p :: r, hn, h => by
    rw [List.map_cons, List.nodup_cons] at hn
    rcases List.mem_cons.mp h with e | h
    · subst e
      have hr : ∀ p ∈ r, p.1 ≠ d := fun p hp e => hn.1 (e ▸ List.mem_map_of_mem (f := (·.1)) hp)
      have : (fun o' => put d o' ((d, o) :: r)) = fun o' => (d, o') :: r := funext fun o' => by
        show (if d = d then (d, o') else (d, o)) :: put d o' r = _
        rw [if_pos rfl, put_off hr]
      rw [this]
      exact .head hr
    · have hp : p.1 ≠ d := fun e => hn.1 (e ▸ List.mem_map_of_mem (f := (·.1)) h)
      have : (fun o' => put d o' (p :: r)) = fun o' => p :: put d o' r := funext fun o' => by
        show (if p.1 = d then (d, o') else p) :: put d o' r = _
        rw [if_neg hp]
      rw [this]
      exact .tail hp (updF_put hn.2 h)
theorem updF_append {d : Addr} {o : Obj} {l m : Led} {g : Obj → Led} (h : UpdF d o l g) (hm : ∀ p ∈ m, p.1 ≠ d) : UpdF d o (l ++ m) fun o' => g o' ++ m := by
  induction h with
  | head hr => exact .head fun p hp => (List.mem_append.mp hp).elim (hr p) (hm p)
  | tail hp _ ih => exact .tail hp ih
theorem UpdF.upd {d : Addr} {o : Obj} {l : Led} {g : Obj → Led} (h : UpdF d o l g) (o' : Obj) : Upd d o o' l (g o') := by
  induction h with
  | head hr => exact .head hr
  | tail hp _ ih => exact .tail hp ih
theorem nodup_fun {l : Led} (hn : (l.map (·.1)).Nodup) {a : Addr} {o o' : Obj} (h : (a, o) ∈ l) (h' : (a, o') ∈ l) : o = o' := by
  induction l with
  | nil => cases h
  | cons p r ih =>
    rw [List.map_cons, List.nodup_cons] at hn
    rcases List.mem_cons.mp h with e | h1
    · rcases List.mem_cons.mp h' with e' | h2
      · rw [← e] at e'; exact (congrArg Prod.snd e').symm
      · exact (hn.1 (List.mem_map.mpr ⟨_, h2, by rw [← e]⟩)).elim
    · rcases List.mem_cons.mp h' with e' | h2
      · exact (hn.1 (List.mem_map.mpr ⟨_, h1, by rw [← e']⟩)).elim
      · exact ih hn.2 h1 h2
theorem dict_cls {K : Type} [DecidableEq K] {prog : Program} {w : World} {knd : PySem.KeyKind prog w K} {o : Obj} {kvs : List (K × Value)} (h : o.IsDictOf knd kvs) : o.cls = .type "dict" := by
  obtain ⟨_, _, h1, _⟩ := h
  exact h1.1
theorem KV.keys {kv : List (Int × Value)} {kids : List (Int × Str)} (h : KV kv kids) : kv.map (·.1) = kids.map (·.1) := by
  induction h with
  | nil => rfl
  | cons e w t _ ih => rw [List.map_cons, List.map_cons, ih]
theorem KV.at {kv : List (Int × Value)} {kids : List (Int × Str)} (h : KV kv kids) (d : Int) : (∃ s t, kids.find? (fun p => p.1 = d) = some (d, s) ∧ valueAt kv d = some (.str s t)) ∨ (kids.find? (fun p => p.1 = d) = none ∧ valueAt kv d = none) := by
  induction h with
  | nil => exact .inr ⟨rfl, rfl⟩
  | cons e w t _ ih =>
    by_cases he : e = d
    · subst he
      exact .inl ⟨w, t, by simp, by simp [valueAt]⟩
    · rcases ih with ⟨s, t', h1, h2⟩ | ⟨h1, h2⟩
      · exact .inl ⟨s, t', by rw [List.find?_cons]; simp [he]; simpa using h1, by unfold valueAt at h2 ⊢; rw [List.find?_cons]; simp [he]; simpa using h2⟩
      · exact .inr ⟨by rw [List.find?_cons]; simp [he]; simpa using h1, by unfold valueAt at h2 ⊢; rw [List.find?_cons]; simp [he]; simpa using h2⟩
theorem KV.snoc {kv : List (Int × Value)} {kids : List (Int × Str)} (h : KV kv kids) (d : Int) (s : Str) (t : Tok) : KV (kv ++ [(d, .str s t)]) (kids ++ [(d, s)]) := by
  induction h with
  | nil => exact .cons _ _ _ .nil
  | cons e w t _ ih => exact .cons _ _ _ ih
theorem stored_new {kv : List (Int × Value)} {d : Int} {v : Value} (h : valueAt kv d = none) : stored kv d v = kv ++ [(d, v)] := by
  unfold stored
  rw [if_neg]
  intro hany
  obtain ⟨p, hp, he⟩ := List.any_eq_true.mp hany
  unfold valueAt at h
  have : (kv.find? fun q => q.1 = d) = none := by simpa using h
  exact absurd he (by simpa using List.find?_eq_none.mp this p hp)
theorem nodup_key {α β : Type} {f : α → β} {l : List α} (hn : (l.map f).Nodup) {a b : α} (ha : a ∈ l) (hb : b ∈ l) (h : f a = f b) : a = b := by
  induction l with
  | nil => cases ha
  | cons x r ih =>
    rw [List.map_cons, List.nodup_cons] at hn
    rcases List.mem_cons.mp ha with e | h1
    · rcases List.mem_cons.mp hb with e' | h2
      · rw [e, e']
      · exact (hn.1 (List.mem_map.mpr ⟨_, h2, by rw [← h, e]⟩)).elim
    · rcases List.mem_cons.mp hb with e' | h2
      · exact (hn.1 (List.mem_map.mpr ⟨_, h1, by rw [h, e']⟩)).elim
      · exact ih hn.2 h1 h2
theorem cls_ne {l : Led} (hn : (l.map (·.1)).Nodup) {a b : Addr} {o o' : Obj} (h : (a, o) ∈ l) (h' : (b, o') ∈ l) (hc : o.cls ≠ o'.cls) : a ≠ b := fun e => by
  subst e
  exact hc (congrArg Obj.cls (nodup_fun hn h h'))
theorem words_nodup {w : World} {led : Led} {ta : Addr} {nds : List Nd} (T : TrIn w led ta nds) : (nds.map (·.wd)).Nodup := by
  obtain ⟨_, ⟨oT, _, hd⟩, _⟩ := T
  obtain ⟨_, _, _, _, _, _, h⟩ := hd
  rw [List.map_map] at h
  exact h
theorem cls_td : (tupO 0 0).cls ≠ .type "dict" := by decide
theorem cls_tl : (tupO 0 0).cls ≠ (W.listOf #[] 0).cls := by decide
theorem cls_ld : (W.listOf #[] 0).cls ≠ .type "dict" := by decide

noncomputable def addKid (v : Str) (d : Int) (s : Str) (nds : List Nd) : List Nd := nds.map fun m => if m.wd = v then { m with kids := m.kids ++ [(d, s)] } else m
theorem addKid_map {β : Type} (f : Nd → β) (hf : ∀ (m : Nd) k, f { m with kids := k } = f m) (v : Str) (d : Int) (s : Str) (nds : List Nd) : (addKid v d s nds).map f = nds.map f := by
  unfold addKid
  rw [List.map_map]
  apply List.map_congr_left
  intro m _
  simp only [Function.comp]
  split
  · exact hf m _
  · rfl
theorem tr_kid {w : World} {led : Led} {ta : Addr} {nds : List Nd} {n : Nd} {vs vs' : List Value} {c c' : Nat} {ns ns' : List Int} {ob o' : Obj} {kv : List (Int × Value)} {d : Int} {s : Str} {t : Tok} (T : TrIn w led ta nds) (hn : n ∈ nds) (A : NdAt w led n vs c ns ob kv)
    (hI : IntsAre vs' ns') (hS : Srt ns') (hP : ns'.Perm ((n.kids ++ [(d, s)]).map (·.1))) (hd : o'.IsDictOf (PySem.intKind PySem.Challenge.rw_zt0002_01.row.prog w) (kv ++ [(d, .str s t)])) :
    TrIn w (put n.dl o' (put n.ol (W.listOf vs'.toArray c') led)) ta (addKid n.wd d s nds) := by
  have hw := words_nodup T
  obtain ⟨h1, ⟨oT, h2, h3⟩, h4, h5, h6, h7, h8⟩ := T
  obtain ⟨a1, a2, a3, a4, a5, a6, a7⟩ := A
  have e1 : n.ol ≠ n.dl := cls_ne h8 a1 a5 (by rw [dict_cls a6]; exact cls_ld)
  refine ⟨h1, ⟨oT, put_ne (put_ne h2 ?_) (h7 n hn).symm, ?_⟩, ?_, ?_, ?_, ?_, ?_⟩
  · exact (cls_ne h8 a1 h2 (by rw [dict_cls h3]; exact cls_ld)).symm
  · rw [addKid_map (fun n => (n.wd, Value.ref n.tp)) (fun _ _ => rfl)]; exact h3
  · intro m hm
    obtain ⟨m0, hm0, rfl⟩ := List.mem_map.mp hm
    obtain ⟨b1, b2, vs0, c0, ns0, ob0, kv0, b3, b4, b5, b6, b7, b8, b9⟩ := h4 m0 hm0
    have q1 : m0.tp ≠ n.ol := cls_ne h8 b1 a1 cls_tl
    have q2 : m0.tp ≠ n.dl := cls_ne h8 b1 a5 (by rw [dict_cls a6]; exact cls_td)
    by_cases he : m0.wd = n.wd
    · have e : m0 = n := nodup_key hw hm0 hn he
      subst e
      rw [if_pos rfl]
      exact ⟨put_ne (put_ne b1 q1) q2, b2, vs', c', ns', o', kv ++ [(d, .str s t)], put_ne (put_mem a1) e1, hI, hS, hP, put_mem (put_ne a5 e1.symm), hd, a7.snoc d s t⟩
    · rw [if_neg he]
      have r1 : m0.ol ≠ n.ol := fun e => he (by rw [nodup_key h5 hm0 hn e])
      have r2 : m0.dl ≠ n.dl := fun e => he (by rw [nodup_key h6 hm0 hn e])
      have r3 : m0.ol ≠ n.dl := cls_ne h8 b3 a5 (by rw [dict_cls a6]; exact cls_ld)
      have r4 : m0.dl ≠ n.ol := (cls_ne h8 a1 b7 (by rw [dict_cls b8]; exact cls_ld)).symm
      exact ⟨put_ne (put_ne b1 q1) q2, b2, vs0, c0, ns0, ob0, kv0, put_ne (put_ne b3 r1) r3, b4, b5, b6, put_ne (put_ne b7 r4) r2, b8, b9⟩
  · rw [addKid_map (·.ol) (fun _ _ => rfl)]; exact h5
  · rw [addKid_map (·.dl) (fun _ _ => rfl)]; exact h6
  · intro m hm
    obtain ⟨m0, hm0, rfl⟩ := List.mem_map.mp hm
    have := h7 m0 hm0
    split <;> exact this
  · rw [put_addr, put_addr]; exact h8
theorem tr_start {w : World} {ta : Addr} {oT : Obj} (h1 : (ta == sysModules) = false) (h : oT.IsDictOf (PySem.strKind PySem.Challenge.rw_zt0002_01.row.prog w) ([] : List (Str × Value))) : TrIn w [(ta, oT)] ta [] :=
  ⟨h1, ⟨oT, .head _, h⟩, (fun _ h => nomatch h), .nil, .nil, (fun _ h => nomatch h), List.nodup_cons.mpr ⟨(fun h => nomatch h), .nil⟩⟩
theorem tr_add {w : World} {led : Led} {ta : Addr} {nds : List Nd} {oT oT' o2 : Obj} {D1 D2 D3 : Addr} {wd : Str} (T : TrIn w led ta nds) (h12 : D1 < D2) (h23 : D2 < D3) (hlt : ∀ p ∈ led, p.1 < D1) (hm : (ta, oT) ∈ led)
    (hd : oT'.IsDictOf (PySem.strKind PySem.Challenge.rw_zt0002_01.row.prog w) ((nds.map fun n => (n.wd, Value.ref n.tp)) ++ [(wd, .ref D3)])) (h2 : o2.IsDictOf (PySem.intKind PySem.Challenge.rw_zt0002_01.row.prog w) ([] : List (Int × Value))) (hlo : (D2 == sysModules) = false) :
    TrIn w (put ta oT' ((D3, tupO D1 D2) :: (D2, o2) :: (D1, W.listOf #[] 0) :: led)) ta (nds ++ [⟨wd, D3, D1, D2, []⟩]) := by
  obtain ⟨g1, ⟨oT0, g2, g3⟩, g4, g5, g6, g7, g8⟩ := T
  have hta : @LT.lt Nat _ ta D1 := hlt _ hm
  replace h12 : @LT.lt Nat _ D1 D2 := h12
  replace h23 : @LT.lt Nat _ D2 D3 := h23
  replace hlt : ∀ p ∈ led, @LT.lt Nat _ p.1 D1 := hlt
  have up : ∀ {x : Addr} {ox : Obj}, (x, ox) ∈ led → x ≠ ta → (x, ox) ∈ put ta oT' ((D3, tupO D1 D2) :: (D2, o2) :: (D1, W.listOf #[] 0) :: led) := fun h hx => put_ne (.tail _ (.tail _ (.tail _ h))) hx
  have lt : ∀ n ∈ nds, @LT.lt Nat _ n.ol D1 ∧ @LT.lt Nat _ n.dl D1 := fun n hn => by
    obtain ⟨b1, b2, vs0, c0, ns0, ob0, kv0, b3, b4, b5, b6, b7, b8, b9⟩ := g4 n hn
    exact ⟨hlt _ b3, hlt _ b7⟩
  refine ⟨g1, ⟨oT', put_mem (.tail _ (.tail _ (.tail _ hm))), ?_⟩, ?_, ?_, ?_, ?_, ?_⟩
  · rw [List.map_append]; exact hd
  · intro m hm'
    rcases List.mem_append.mp hm' with hm' | hm'
    · obtain ⟨b1, b2, vs0, c0, ns0, ob0, kv0, b3, b4, b5, b6, b7, b8, b9⟩ := g4 m hm'
      have q1 : m.tp ≠ ta := cls_ne g8 b1 g2 (by rw [dict_cls g3]; exact cls_td)
      have q2 : m.ol ≠ ta := cls_ne g8 b3 g2 (by rw [dict_cls g3]; exact cls_ld)
      exact ⟨up b1 q1, b2, vs0, c0, ns0, ob0, kv0, up b3 q2, b4, b5, b6, up b7 (g7 m hm'), b8, b9⟩
    · obtain rfl := List.mem_singleton.mp hm'
      exact ⟨put_ne (.head _) (by show @Ne Nat D3 ta; omega), hlo, [], 0, [], o2, [], put_ne (.tail _ (.tail _ (.head _))) (by show @Ne Nat D1 ta; omega), .nil, List.Pairwise.nil, List.Perm.refl _, put_ne (.tail _ (.head _)) (by show @Ne Nat D2 ta; omega), h2, .nil⟩
  · rw [List.map_append]
    refine List.nodup_append.mpr ⟨g5, by simp, ?_⟩
    intro a ha b hb e
    obtain ⟨n, hn, rfl⟩ := List.mem_map.mp ha
    have hb' := List.mem_singleton.mp hb
    rw [hb'] at e
    exact absurd (lt n hn).1 (by rw [show n.ol = D1 from e]; exact Nat.lt_irrefl _)
  · rw [List.map_append]
    refine List.nodup_append.mpr ⟨g6, by simp, ?_⟩
    intro a ha b hb e
    obtain ⟨n, hn, rfl⟩ := List.mem_map.mp ha
    have hb' := List.mem_singleton.mp hb
    rw [hb'] at e
    exact absurd (lt n hn).2 (by rw [show n.dl = D2 from e]; exact Nat.lt_asymm h12)
  · intro m hm'
    rcases List.mem_append.mp hm' with hm' | hm'
    · exact g7 m hm'
    · obtain rfl := List.mem_singleton.mp hm'
      show @Ne Nat D2 ta
      omega
  · rw [put_addr]
    have hd1 : D1 ∉ led.map (·.1) := fun h => by obtain ⟨p, hp, e⟩ := List.mem_map.mp h; have := hlt p hp; replace e : @Eq Nat p.1 _ := e; omega
    have hd2 : D2 ∉ led.map (·.1) := fun h => by obtain ⟨p, hp, e⟩ := List.mem_map.mp h; have := hlt p hp; replace e : @Eq Nat p.1 _ := e; omega
    have hd3 : D3 ∉ led.map (·.1) := fun h => by obtain ⟨p, hp, e⟩ := List.mem_map.mp h; have := hlt p hp; replace e : @Eq Nat p.1 _ := e; omega
    simp only [List.map_cons, List.nodup_cons, List.mem_cons]
    refine ⟨?_, ?_, hd1, g8⟩
    · rintro (h | h | h)
      · replace h : @Eq Nat D3 D2 := h; omega
      · replace h : @Eq Nat D3 D1 := h; omega
      · exact hd3 h
    · rintro (h | h)
      · replace h : @Eq Nat D2 D1 := h; omega
      · exact hd2 h
theorem tab_find {nds : List Nd} (hw : (nds.map (·.wd)).Nodup) {n : Nd} (hn : n ∈ nds) {v : Str} (hv : n.wd = v) : (nds.find? fun m => m.wd = v) = some n := by
  cases h : nds.find? fun m => m.wd = v with
  | none => exact absurd hv (by simpa using List.find?_eq_none.mp h n hn)
  | some m =>
    have h1 := List.mem_of_find?_eq_some h
    have h2 : m.wd = v := by simpa using List.find?_some h
    rw [nodup_key hw h1 hn (h2.trans hv.symm)]
theorem tab_at {nds : List Nd} (hw : (nds.map (·.wd)).Nodup) {n : Nd} (hn : n ∈ nds) : tabOf nds n.wd = n.kids := by
  unfold tabOf
  rw [tab_find hw hn rfl]
theorem tab_new {nds : List Nd} {v : Str} (h : v ∉ nds.map (·.wd)) : tabOf nds v = [] := by
  unfold tabOf
  have : (nds.find? fun m => m.wd = v) = none := List.find?_eq_none.mpr fun m hm => by
    simp only [decide_eq_true_eq]
    exact fun e => h (List.mem_map.mpr ⟨m, hm, e⟩)
  rw [this]
theorem tab_kid {nds : List Nd} (hw : (nds.map (·.wd)).Nodup) {n : Nd} (hn : n ∈ nds) (d : Int) (s : Str) (v : Str) : tabOf (addKid n.wd d s nds) v = if v = n.wd then tabOf nds v ++ [(d, s)] else tabOf nds v := by
  have hw' : ((addKid n.wd d s nds).map (·.wd)).Nodup := by rw [addKid_map (·.wd) (fun _ _ => rfl)]; exact hw
  by_cases hv : v ∈ nds.map (·.wd)
  · obtain ⟨m, hm, rfl⟩ := List.mem_map.mp hv
    by_cases he : m.wd = n.wd
    · have e : m = n := nodup_key hw hm hn he
      subst e
      have hm' : ({ m with kids := m.kids ++ [(d, s)] } : Nd) ∈ addKid m.wd d s nds := List.mem_map.mpr ⟨m, hm, if_pos rfl⟩
      have := tab_at hw' hm'
      rw [if_pos rfl, tab_at hw hm]
      exact this
    · have hm' : m ∈ addKid n.wd d s nds := List.mem_map.mpr ⟨m, hm, if_neg he⟩
      rw [if_neg he, tab_at hw hm, tab_at hw' hm']
  · have hv' : v ∉ (addKid n.wd d s nds).map (·.wd) := by rw [addKid_map (·.wd) (fun _ _ => rfl)]; exact hv
    rw [tab_new hv, tab_new hv', if_neg fun e => hv (by rw [e]; exact List.mem_map.mpr ⟨n, hn, rfl⟩)]
theorem tab_add {nds : List Nd} {wd : Str} {a b c : Addr} (v : Str) (hW : wd ∉ nds.map (·.wd)) : tabOf (nds ++ [⟨wd, a, b, c, []⟩]) v = tabOf nds v := by
  unfold tabOf
  rw [List.find?_append]
  cases h : nds.find? fun m => m.wd = v with
  | some m => rfl
  | none =>
    by_cases he : wd = v
    · simp [he]
    · simp [he]
end
local macro_rules | `(tactic| walk_at "compareOp NotEq ref ref") => `(tactic| refine Stop.of ?_)
local macro_rules | `(tactic| walk_at "mem") => `(tactic| first | assumption | exact List.mem_cons_self | (refine List.mem_cons_of_mem _ ?_; walk_at "mem"))
local macro_rules | `(tactic| walk_at "subscriptTail Name Name ref str") => `(tactic| k_dflt (refine kda_item (knd := PySem.strKind _ _) (by k_asm) (by walk_at "mem") (by assumption) (strKind_is _ _ _ _) (by assumption) ?_))
section
local macro_rules | `(tactic| walk_at "setItem ref int") => `(tactic| refine Stop.of ?_)
local macro_rules | `(tactic| walk_at "setItem ref str") => `(tactic| refine Stop.of ?_)
local macro_rules | `(tactic| walk_at "exec For") => `(tactic| ((with_reducible rename Fr _ _ _ _ => lF'); (with_unfolding_all refine' For_invVF lF' (by exact rfl) (by exact rfl) ?_)))
local macro_rules | `(tactic| walk_at "exec For Name Name cons nil") => `(tactic| walk_at "exec For")
local macro_rules | `(tactic| walk_at "subscriptTail Name Constant ref int") => `(tactic| refine Stop.of ?_)
local macro_rules | `(tactic| walk_at "subscriptTail Name Name ref int") => `(tactic| k_dflt (refine kda_item (knd := PySem.intKind _ _) (by k_asm) (by walk_at "mem") (by assumption) (intKind_is _ _ _ _) (by assumption) ?_))
local macro_rules | `(tactic| walk_at "compareOp NotIn int ref") => `(tactic| k_dflt (first | refine kdg_notin (knd := PySem.intKind _ _) (by k_asm) (by walk_at "mem") (by assumption) (by assumption) (intKind_is _ _ _ _) true (by assumption) ?_ | refine kdg_notin (knd := PySem.intKind _ _) (by k_asm) (by walk_at "mem") (by assumption) (by assumption) (intKind_is _ _ _ _) false (by assumption) ?_))
section
open PySem PySem.W PyProof.Rows PySem.Calls PySem.Spec PyProof.V
set_option maxRecDepth 100000
local macro_rules | `(tactic| walk_at "exec If") => `(tactic| ((fail_if_success (with_reducible show wpAny _ _ _ (CutQ _ _ _ _ _) _ _)); (with_reducible show wpAny _ _ (exec (Stmt.If (Expr.Compare _ [CmpOp.NotEq] _ _) _ _ _) _) _ _ _); refine Stop.of ?_))
local macro_rules | `(tactic| walk_at "call ref") => `(tactic| ((with_reducible show wpAny _ _ (call (Value.ref 46) _) _ _ _); refine Stop.of ?_))
local macro_rules | `(tactic| walk_at "call ref") => `(tactic| ((with_reducible show wpAny _ _ (call (Value.ref 69) _) _ _ _); k_dflt (refine' Spec.goI (S := far_spec _ _ _ _ _ _ (by assumption) (by assumption)) (ret := ?_)); intro h' tk' F' N' t'; (try dsimp only)))
theorem item_strK {prog : Program} {w : World} {A : Around} {E : Value → Shared → Prop} {s : Shared} {value slice : PySem.Expr} {l : Addr} {vs : List Value} {ys : List Str} {k : Nat} {y : Str} {u : Tok} {Q : Value → Shared → Prop} (hl : s.heap.IsList l vs.toArray) (hi : StrsAre vs ys)
    (hy : ys[k]? = some y) (hk : (k : Int) < 2 ^ 63) (h : ∀ t, Q (.str y t) s)
    (hs : subscripted slice false (.ref l) (.int (k : Int) u) = operate [.ref l, .int (k : Int) u] (getItem (.ref l) (.int (k : Int) u)) := by with_unfolding_all rfl) :
    wpAny (model prog w) A (subscriptTail value slice (.ref l) (.int (k : Int) u)) Q E s := by
  obtain ⟨t, hx⟩ := hi.get k y hy
  exact tail_any hl.typeIs slot_list_getitem.lookup (wpAny_getItem_list hl (by omega) hk (by simpa using hx) (h t)) hs
theorem ne_empty {prog : Program} {w : World} {A : Around} {E : Value → Shared → Prop} {s : Shared} {K : Type} [DecidableEq K] {knd : PySem.KeyKind prog w K} {a b : Addr} {ka : List (K × Value)} {h₀ : Heap} {L : Addr} {news : Led} {oa ob : Obj} {Q : Value → Shared → Prop} (N : News h₀ L s.heap news) (pa : (a, oa) ∈ news) (pb : (b, ob) ∈ news) (da : oa.IsDictOf knd ka) (db : ob.IsDictOf knd [])
    (ha : (a == sysModules) = false) (hb : (b == sysModules) = false) (hu : A.units < cLine) (e : Bool) (he : ka.isEmpty = e) (h : Q (.bool (!e)) s) : wpAny (model prog w) A (compareOp .NotEq (.ref a) (.ref b)) Q E s := by
  refine keq_ne (r := true) ha hb (kda_dict N pa da) (kda_dict N pb db) hu (fun hl => ?_) ?_
  · obtain rfl : ka = [] := List.eq_nil_of_length_eq_zero hl
    exact .nil
  · cases ka with
    | nil => subst he; exact h
    | cons p r => subst he; exact h
theorem mem_sub {x : Addr × Obj} {p : Addr × Obj} {l m : Led} (h : x ∈ l) : x ∈ p :: (l ++ m) := .tail _ (List.mem_append_left _ h)
noncomputable abbrev DI (x y : Str) : Int := (dist x y : Int)
noncomputable def bld (r : Str) (rest : List Str) : Fo Str := rest.foldl (fun f x => f.ins DI x (DI r x)) .nil

theorem bld_snoc (r : Str) (l : List Str) (x : Str) : bld r (l ++ [x]) = (bld r l).ins DI x (DI r x) := by simp [bld]
theorem bld_words (r : Str) (l : List Str) : (bld r l).words.Perm l := by
  have key : ∀ (l : List Str) (f : Fo Str), (l.foldl (fun f x => f.ins DI x (DI r x)) f).words.Perm (f.words ++ l) := by
    intro l
    induction l with
    | nil => intro f; simp
    | cons x l ih =>
      intro f
      rw [List.foldl_cons]
      refine (ih _).trans ?_
      refine ((words_ins DI f _).append_right l).trans ?_
      exact List.perm_middle.symm
  have h := key l .nil
  simpa [bld, Fo.words] using h
theorem size_words {W : Type} : ∀ f : Fo W, f.words.length = f.size
  | .nil => rfl
  | .cons e w s r => by simp only [Fo.words, Fo.size, List.length_cons, List.length_append, size_words s, size_words r]
theorem kids_size {W : Type} : ∀ f : Fo W, f.kids.length ≤ f.size
  | .nil => Nat.le_refl _
  | .cons e w s r => by have := kids_size r; simp only [Fo.kids, Fo.size, List.length_cons]; omega
theorem tree_val {nds : List Nd} (hw : (nds.map (·.wd)).Nodup) {n : Nd} (hn : n ∈ nds) : valueAt (nds.map fun n => (n.wd, Value.ref n.tp)) n.wd = some (.ref n.tp) := by
  have := tab_find hw hn (v := n.wd) rfl
  unfold valueAt
  rw [List.find?_map]
  have e : ((fun kv : Str × Value => decide (kv.1 = n.wd)) ∘ fun n : Nd => (n.wd, Value.ref n.tp)) = fun m : Nd => decide (m.wd = n.wd) := rfl
  rw [e, this]
  rfl
theorem ints_ins {x : Int} {t : Tok} : ∀ {vs : List Value} {ns : List Int} (i : Nat), IntsAre vs ns → IntsAre (vs.take i ++ .int x t :: vs.drop i) (ns.take i ++ x :: ns.drop i)
  | _, _, 0, h => by simpa using IntsAre.cons x t h
  | _, _, _ + 1, .nil => by simpa using IntsAre.cons x t .nil
  | _, _, i + 1, .cons n u h => by simpa using IntsAre.cons n u (ints_ins i h)
theorem srt_ins {ns : List Int} {x : Int} {i : Nat} (h : Srt ns) (ha : ∀ y ∈ ns.take i, y < x) (hb : ∀ y ∈ ns.drop i, x ≤ y) : Srt (ns.take i ++ x :: ns.drop i) := by
  have hs : (ns.take i ++ ns.drop i).Pairwise (· ≤ ·) := by rw [List.take_append_drop]; exact h
  rw [List.pairwise_append] at hs
  refine List.pairwise_append.mpr ⟨hs.1, List.pairwise_cons.mpr ⟨hb, hs.2.1⟩, fun a ha' b hb' => ?_⟩
  rcases List.mem_cons.mp hb' with e | hb'
  · have := ha a ha'; omega
  · exact hs.2.2 a ha' b hb'
theorem perm_ins {ns : List Int} {x : Int} {i : Nat} {ks : List Int} (h : ns.Perm ks) : (ns.take i ++ x :: ns.drop i).Perm (ks ++ [x]) := by
  refine List.perm_middle.trans ?_
  rw [List.take_append_drop]
  exact (List.Perm.cons x h).trans (List.perm_append_singleton x ks).symm

theorem put_all {P : Addr → Prop} {d : Addr} {o : Obj} {l : Led} (h : ∀ p ∈ l, P p.1) : ∀ p ∈ put d o l, P p.1 := fun p hp => by
  have : p.1 ∈ (put d o l).map (·.1) := List.mem_map_of_mem hp
  rw [put_addr] at this
  obtain ⟨q, hq, e⟩ := List.mem_map.mp this
  rw [← e]; exact h q hq
theorem stored_newS {K : Type} [DecidableEq K] {kv : List (K × Value)} {d : K} {v : Value} (h : valueAt kv d = none) : stored kv d v = kv ++ [(d, v)] := by
  unfold stored
  rw [if_neg]
  intro hany
  obtain ⟨p, hp, he⟩ := List.any_eq_true.mp hany
  unfold valueAt at h
  have : (kv.find? fun q => q.1 = d) = none := by simpa using h
  exact absurd he (by simpa using List.find?_eq_none.mp this p hp)
theorem tree_none {nds : List Nd} {W : Str} (h : W ∉ nds.map (·.wd)) : valueAt (nds.map fun n => (n.wd, Value.ref n.tp)) W = none := by
  unfold valueAt
  rw [List.find?_map]
  have : (nds.find? ((fun kv : Str × Value => decide (kv.1 = W)) ∘ fun n : Nd => (n.wd, Value.ref n.tp))) = none := List.find?_eq_none.mpr fun m hm => by
    simp only [Function.comp, decide_eq_true_eq]
    exact fun e => h (List.mem_map.mpr ⟨m, hm, e⟩)
  rw [this]
  rfl
theorem not_take {l : List Str} {i : Nat} {x : Str} (hn : l.Nodup) (h : l[i]? = some x) : x ∉ l.take i := fun hx => by
  obtain ⟨j, hj, e⟩ := List.getElem_of_mem hx
  rw [List.length_take] at hj
  rw [List.getElem_take] at e
  have e2 := List.getElem?_eq_some_iff.mp h
  exact (List.pairwise_iff_getElem.mp hn) j i (by omega) e2.1 (by omega) (e.trans e2.2.symm)
theorem allLt {d : Addr} : ∀ {l : Led}, AllLt d l → ∀ p ∈ l, p.1 < d
  | [], _, _, h => nomatch h
  | q :: _, h, p, hp => by
    rcases List.mem_cons.mp hp with e | hp
    · rw [e]; exact h.1
    · exact allLt h.2 p hp
theorem put_cons {d x : Addr} {o ox : Obj} {l : Led} (h : x ≠ d) : put d o ((x, ox) :: l) = (x, ox) :: put d o l := by
  unfold put
  rw [List.map_cons, if_neg h]

set_option maxHeartbeats 0 in
theorem laid_spec (w : World) (news : Led) (wl : Addr) (wvs : List Value) (c : Nat) (words : List Str) (hm : (wl, W.listOf wvs.toArray c) ∈ news) (hW : StrsAre wvs words) (hg : ∀ x ∈ words, Good x) (hn : words.Nodup) (hl : words.length ≤ 9) :
    Spec w 76 6 48 news [.ref wl] (fun v n => ∃ (ta : Addr) (tl : Led) (nds : List Nd), v = .ref ta ∧ n = tl ++ news ∧ TrIn w tl ta nds ∧ (∀ p ∈ tl, ∀ q ∈ news, q.1 < p.1) ∧ nds.map (·.wd) = words ∧ ∀ r rest, words = r :: rest → RepT (tabOf nds) r (bld r rest)) := by
  unfold Spec KK PR; k_fill; intro mean mg mb dp un gd cn cs a ccd cl outer A₀ base h₀ L m s Q E B F X N T hk hd hu hret
  (refine wpAny_call ?_; k_dflt (refine' code_defG ?e8k1 ?e8k2 ?e8k3 ?e8k4 ?e8k5 ?e8kA ?e8kF ?e8kK ?e8k6 ?e8k7 ?e8k8 ?e8k9 ?e8kB ?_ ?e8c2 ?e8c3 ?e8c4 ?e8c5; (case e8kA => exact rfl); (case e8kF => exact rfl); (case e8kK => assumption); (case e8k1 => k_asm); (case e8k2 => k_asm); (case e8k3 => k_asm); (case e8k4 => k_asm); (case e8k5 => k_asm); (case e8k6 => k_is); (case e8k7 => k_is); (case e8k8 => ktr_room); (case e8k9 => first | exact BindsTo.of_eq rfl | (refine' kp_binds ?e8kx ?e8ke; (case e8kx => k_in); (case e8ke => exact fun _ => rfl))); (case e8c5 => decide); (case e8kB => exact locs rfl); (case e8c2 => exact rfl); (case e8c3 => exact rfl); (case e8c4 => exact rfl); k_whole; intro g' L' h' FG' F' N' B' X' T' kG'; (try dsimp only); (try k_lift B'); (try k_fold)))
  clear F N
  walk_at "w"
  with_reducible rename Fr _ _ _ _ => F1
  with_reducible rename News _ _ _ _ => N1
  rename_i _ ta _ oT l1 lo hsd _ _ _ _
  have T0 : TrIn w [(ta, oT)] ta [] := tr_start lo hsd
  refine Stop.go (for_list (fun i m nw => ∃ (tl : Led) (nds : List Nd) (u : Map), m = kstB u [(Str.ofString "words", .ref wl), (Str.ofString "tree", .ref ta)] ∧ nw = tl ++ news ∧ TrIn w tl ta nds ∧ (∀ p ∈ tl, ∀ q ∈ news, q.1 < p.1) ∧ nds.map (·.wd) = words.take i ∧ ∀ r rest, words = r :: rest → 0 < i → RepT (tabOf nds) r (bld r (rest.take (i - 1)))) (by rfl) F1 N1 (.tail _ hm) rfl rfl ?_ ?_ ?_)
  · exact ⟨[(ta, oT)], [], _, norm ⟨rfl, rfl, trivial⟩, rfl, T0, fun p hp q hq => by rw [List.mem_singleton.mp hp]; exact l1 q hq, rfl, fun _ _ _ h => absurd h (Nat.lt_irrefl _)⟩
  · rintro I i v m₁ news₁ it h tk hI hv ⟨tl, nds, u, rfl, rfl, hT, hlt, hwd, hrep⟩ hml ho hit F2 N2
    obtain ⟨W, tW, rfl, hWi⟩ := StrsAre.item hW i v hv
    have hGW : Good W := hg W (List.mem_of_getElem? hWi)
    dsimp only [kstB] at F2
    clear F1 N1
    walk_at "w"
    refine Stop.go (exec_cut F2 (fun m nw => ∃ (tl' : Led) (nds' : List Nd) (tW : Tok) (u : Map), m = kstB u [(Str.ofString "words", .ref wl), (Str.ofString "tree", .ref ta), (Str.ofString "word", .str W tW)] ∧ nw = (I, it) :: (tl' ++ news) ∧ TrIn w tl' ta nds' ∧ (∀ p ∈ tl', ∀ q ∈ news, q.1 < p.1) ∧ (∀ p ∈ tl', p.1 ≠ I) ∧ nds'.map (·.wd) = words.take i ∧ ∀ r rest, words = r :: rest → 0 < i → RepT (tabOf nds') r ((bld r (rest.take (i - 1))).ins DI W (DI r W))) ?_ ?_)
    · obtain ⟨hlo, ⟨oT2, hmT, hdT⟩, hT3⟩ := id hT
      have hmT' : (ta, oT2) ∈ (I, it) :: (tl ++ news) := mem_sub hmT
      have hmW : (wl, PySem.W.listOf wvs.toArray c) ∈ (I, it) :: (tl ++ news) := .tail _ (List.mem_append_right _ hm)
      walk_at "w"
      with_reducible rename Fr _ _ _ _ => F3
      with_reducible rename News _ _ _ _ => N3
      with_reducible rename Obj.IsDictOf (PySem.strKind _ _) _ [] => hsN
      with_reducible rename (_ == sysModules) = false => loN
      by_cases hi0 : i = 0
      · subst hi0
        obtain rfl : nds = [] := by simpa using hwd
        refine Stop.go (ne_empty N3 (.tail _ hmT') (.head _) hdT hsN hlo loN (by ktr_units) true rfl ?_)
        (try k_unmd); (try dsimp only)
        walk_at "w"
        exact CutQ.intro (by assumption) (News.sub N3 fun p hp => .tail _ hp) ⟨tl, [], _, _, norm ⟨rfl, rfl, rfl, trivial⟩, rfl, hT, hlt, fun p hp => ho p (List.mem_append_left _ hp), hwd, fun _ _ _ h => absurd h (Nat.lt_irrefl _)⟩
      · have hne : nds ≠ [] := by
          intro e
          subst e
          have := congrArg List.length hwd
          have hlt := (List.getElem?_eq_some_iff.mp hWi).1
          simp at this
          omega
        obtain ⟨r, rest, rfl⟩ : ∃ r rest, words = r :: rest := by
          cases words with
          | nil => simp at hWi
          | cons r rest => exact ⟨r, rest, rfl⟩
        have hr0 : (r :: rest)[0]? = some r := rfl
        have hGr : Good r := hg r (.head _)
        refine Stop.go (ne_empty N3 (.tail _ hmT') (.head _) hdT hsN hlo loN (by ktr_units) false (by cases nds with | nil => exact absurd rfl hne | cons => rfl) ?_)
        (try k_unmd); (try dsimp only)
        walk_at "w"
        refine Stop.go ?_
        with_unfolding_all refine' item_strK (k := 0) (ys := r :: rest) (vs := wvs) ?k1 ?k2 ?k3 ?k4 ?kZ ?k6
        case k1 => exact isL (by k_asm) (.tail _ hmW)
        case k2 => exact hW
        case k3 => rfl
        case k4 => decide
        case k6 => with_unfolding_all rfl
        intro tk3
        walk_at "w"
        with_reducible rename Fr _ _ _ _ => F4
        with_reducible rename News _ _ _ _ => N4
        have hwN := words_nodup hT
        have hf : RepT (tabOf nds) r (bld r (rest.take (i - 1))) := hrep r rest rfl (by omega)
        have htk : (r :: rest).take i = r :: rest.take (i - 1) := by
          obtain ⟨j, rfl⟩ : ∃ j, i = j + 1 := ⟨i - 1, by omega⟩
          simp
        have hpw := bld_words r (rest.take (i - 1))
        have hfn : (r :: (bld r (rest.take (i - 1))).words).Nodup := by
          refine (List.Perm.nodup_iff (List.Perm.cons r hpw)).mpr ?_
          rw [← htk]
          exact hn.sublist (List.take_sublist _ _)
        have hfm : ∀ v ∈ r :: (bld r (rest.take (i - 1))).words, v ∈ nds.map (·.wd) := fun v hv => by
          rw [hwd, htk]
          exact (List.Perm.cons r hpw).mem_iff.mp hv
        have hfx : W ∉ r :: (bld r (rest.take (i - 1))).words := fun hx => by
          have h1 := (List.Perm.cons r hpw).mem_iff.mp hx
          rw [← htk] at h1
          obtain ⟨j, hj, e⟩ := List.getElem_of_mem h1
          rw [List.length_take] at hj
          rw [List.getElem_take] at e
          have e2 := List.getElem?_eq_some_iff.mp hWi
          exact (List.pairwise_iff_getElem.mp hn) j i (by omega) e2.1 (by omega) (e.trans e2.2.symm)
        have hsz : (bld r (rest.take (i - 1))).size ≤ 9 := by
          rw [← size_words, hpw.length_eq, List.length_take]
          simp only [List.length_cons] at hl
          omega
        generalize hfe : bld r (rest.take (i - 1)) = f at hf hpw hfn hfm hfx hsz
        refine Stop.go (while_cut (n₀ := f.size) (fun n m nw => ∃ (H : Str) (fH : Fo Str) (tH tW : Tok) (u : Map), m = kstB u [(Str.ofString "words", .ref wl), (Str.ofString "tree", .ref ta), (Str.ofString "word", .str W tW), (Str.ofString "here", .str H tH)] ∧ nw = (I, it) :: (tl ++ news) ∧ RepT (tabOf nds) H fH ∧ (H :: fH.words).Nodup ∧ W ∉ H :: fH.words ∧ (∀ v ∈ H :: fH.words, v ∈ nds.map (·.wd)) ∧ Cont DI (tabOf nds) r f W H fH ∧ n = fH.size ∧ fH.size ≤ 9)
          (fun m nw => ∃ (tl' : Led) (nds' : List Nd) (tW : Tok) (u : Map), m = kstB u [(Str.ofString "words", .ref wl), (Str.ofString "tree", .ref ta), (Str.ofString "word", .str W tW)] ∧ nw = (I, it) :: (tl' ++ news) ∧ TrIn w tl' ta nds' ∧ (∀ p ∈ tl', ∀ q ∈ news, q.1 < p.1) ∧ (∀ p ∈ tl', p.1 ≠ I) ∧ nds'.map (·.wd) = nds.map (·.wd) ∧ RepT (tabOf nds') r (f.ins DI W (DI r W))) F4 (News.sub N4 fun p hp => .tail _ hp) ?_ ?_ ?_)
        · exact ⟨r, f, _, _, _, norm ⟨rfl, rfl, rfl, rfl, trivial⟩, rfl, hf, hfn, hfx, hfm, Cont.start DI, rfl, hsz⟩
        · rintro n m₁ nw h₁ tk₁ F5 N5 ⟨H, fH, tH, tW, u, rfl, rfl, hRH, hnH, hxH, hmH, hC, hnz, hsH⟩
          dsimp only [kstB] at F5
          clear F4 N4 F3 N3
          obtain ⟨n, hnn, rfl⟩ := List.mem_map.mp (hmH H (.head _))
          obtain ⟨hA1, hloD, vs, cc, ns, ob, kv, hA⟩ := hT3.1 n hnn
          have hA0 := hA
          obtain ⟨hAo, hAi, hAs, hAp, hAd, hAk, hAv⟩ := hA
          have hkids : n.kids = fH.kids := by rw [← tab_at hwN hnn]; exact hRH.1
          have hGH : Good n.wd := hg n.wd (List.mem_of_mem_take (by rw [← hwd]; exact hmH _ (.head _)))
          have hval := tree_val hwN hnn
          have mTp : (n.tp, tupO n.ol n.dl) ∈ (I, it) :: (tl ++ news) := mem_sub hA1
          have mD : (n.dl, ob) ∈ (I, it) :: (tl ++ news) := mem_sub hAd
          rcases hAv.at (DI n.wd W) with ⟨cw, ct, hk1, hk2⟩ | ⟨hk1, hk2⟩
          · have hin : (valueAt kv (DI n.wd W)).isSome = true := by rw [hk2]; rfl
            walk_at "w"
            have hlk : ∃ s', fH.look (DI n.wd W) = some (cw, s') := by
              have h1 := look_find fH (DI n.wd W)
              rw [← hkids, hk1] at h1
              cases h2 : fH.look (DI n.wd W) with
              | none => rw [h2] at h1; cases h1
              | some p => rw [h2] at h1; obtain ⟨c', s'⟩ := p; cases h1; exact ⟨s', rfl⟩
            obtain ⟨s', hlk⟩ := hlk
            obtain ⟨hs1, hs2, hs3⟩ := look_sub hlk
            exact whileEnd (by assumption) (by assumption) (by omega) ⟨cw, s', ct, _, _, norm ⟨rfl, rfl, rfl, rfl, trivial⟩, rfl, rep_look hRH.2 hlk, hs2 (List.nodup_cons.mp hnH).2, (fun hx => hxH (.tail _ (hs1 _ hx))), (fun v hv => hmH v (.tail _ (hs1 v hv))), hC.down DI hRH hnH hxH hlk, rfl, by omega⟩
          · have hin : (valueAt kv (DI n.wd W)).isSome = false := by rw [hk2]; rfl
            walk_at "w"
            try walk_at "call ref"
            walk_at "w"
            have hlk : fH.look (DI n.wd W) = none := by
              have h1 := look_find fH (DI n.wd W)
              rw [← hkids, hk1] at h1
              cases h2 : fH.look (DI n.wd W) with
              | none => rfl
              | some p => rw [h2] at h1; cases h1
            have h8 := hT3.2.2.2.2
            have hdl : n.ol ≠ n.dl := cls_ne h8 hAo hAd (by rw [dict_cls hAk]; exact cls_ld)
            have hIo : ∀ p ∈ tl, I ≠ p.1 := fun p hp e => ho p (List.mem_append_left _ hp) e.symm
            have hks : n.kids.length ≤ 9 := by rw [hkids]; exact Nat.le_trans (kids_size fH) hsH
            have hnsl : ns.length ≤ 9 := by rw [hAp.length_eq, List.length_map]; exact hks
            have hkvl : kv.length ≤ 9 := by have := congrArg List.length hAv.keys; rw [List.length_map, List.length_map] at this; omega
            have hdis : ∀ x, (∃ o, (x, o) ∈ tl) → ∀ p ∈ news, p.1 ≠ x := fun x hx p hp e => by
              obtain ⟨o, hx⟩ := hx
              have := hlt _ hx p hp
              rw [e] at this
              exact absurd this (Nat.lt_irrefl _)
            refine Stop.go ?_
            k_dflt (refine' Spec.use (il_spec _ _ (fun o => (I, it) :: (put n.ol o tl ++ news)) n.ol vs cc ns _ _ (UpdF.upd (.tail (hIo _ hAo) (updF_append (updF_put h8 hAo) (hdis _ ⟨_, hAo⟩)))) hAi (by omega) hAs) ?k1 ?k2 ?k3 ?k4 ?k5 ?k6 ?k7 ?k8 ?kR; (case k1 => k_asm); (case k2 => k_asm); (case k3 => k_asm); (case k4 => k_asm); (case k5 => k_asm); (case k6 => exact rfl); (case k7 => ktr_room); (case k8 => ktr_units))
            intro v' n' h' tk' hp' F' N' K'
            obtain ⟨rfl, j, rfl, hj, hja, hjb⟩ := hp'
            dsimp only at N' K' ⊢
            walk_at "w"
            with_reducible rename Fr _ _ _ _ => F6
            with_reducible rename News _ _ _ _ => N6
            have h8' : ∀ o, ((put n.ol o tl).map (·.1)).Nodup := fun o => by rw [put_addr]; exact h8
            have hAd' : ∀ o, (n.dl, ob) ∈ put n.ol o tl := fun o => put_ne hAd hdl.symm
            refine Stop.go (kda_set (knd := PySem.intKind _ _) F6 N6 (.tail (hIo _ hAd) (updF_append (updF_put (h8' _) (hAd' _)) (hdis _ ⟨_, hAd⟩))) hAk (intKind_is _ _ _ _) (by rw [sizeLine_eq]; omega) ?_)
            intro h7 o7 F7 N7 hd7
            rw [stored_new hk2] at hd7
            clear F6 N6
            walk_at "w"
            have hWn : W ∉ nds.map (·.wd) := by rw [hwd]; exact not_take hn hWi
            refine CutQ.intro (Q := fun _ _ => True) (by assumption) (by assumption) ⟨_, addKid n.wd (DI n.wd W) W nds, _, _, norm ⟨rfl, rfl, rfl, trivial⟩, rfl, tr_kid hT hnn hA0 (ints_ins j hAi) (srt_ins hAs hja hjb) (by rw [List.map_append]; exact perm_ins hAp) hd7, ?_, ?_, addKid_map (·.wd) (fun _ _ => rfl) _ _ _ _, ?_⟩
            · exact put_all (P := fun a => ∀ q ∈ news, q.1 < a) (put_all (P := fun a => ∀ q ∈ news, q.1 < a) hlt)
            · exact put_all (P := fun a => a ≠ I) (put_all (P := fun a => a ≠ I) fun p hp => ho p (List.mem_append_left _ hp))
            · refine hC.done DI hRH hnH hxH hlk ?_ ?_ ?_
              · rw [tab_kid hwN hnn, if_pos rfl]
              · rw [tab_kid hwN hnn, if_neg fun e => hxH (by rw [e]; exact .head _), tab_new hWn]
              · intro v hv _
                rw [tab_kid hwN hnn, if_neg hv]
        · rintro m nw h2 tk2 ⟨tl', nds', tW', u', rfl, rfl, hT', hlt', ho', hw', hR'⟩ F5 N5
          walk_at "w"
          exact CutQ.intro F5 N5 ⟨tl', nds', tW', u', rfl, rfl, hT', hlt', ho', hw'.trans hwd, fun r' rest' e _ => by cases e; rw [hfe]; exact hR'⟩
    · rintro m nw h2 tk2 ⟨tl', nds', tW', u', rfl, rfl, hT', hlt', ho', hw', hrep'⟩ F3 N3
      dsimp only [kstB] at F3
      clear F2 N2
      walk_at "w"
      rename_i D1 _ lA D2 _ oN loN hsN fsN hiN fiN lB D3 _ FX NX lD
      replace lA := And.intro lA.1 (allLt lA.2)
      replace lB := And.intro lB.1 (And.intro lB.2.1 (allLt lB.2.2))
      replace lD := And.intro lD.1 (And.intro lD.2.1 (And.intro lD.2.2.1 (allLt lD.2.2.2)))
      obtain ⟨hlo', ⟨oT', hmT2, hdT2⟩, hT3'⟩ := id hT'
      have h8 := hT3'.2.2.2.2
      have hWn : W ∉ nds'.map (·.wd) := by rw [hw']; exact not_take hn hWi
      have hlen : nds'.length ≤ 9 := by
        have := congrArg List.length hw'
        rw [List.length_map, List.length_take] at this
        omega
      have hta : ∀ D, (∀ p ∈ tl' ++ news, p.1 < D) → D ≠ ta := fun D h => Nat.ne_of_gt (h _ (List.mem_append_left _ hmT2))
      have hdis : ∀ p ∈ news, p.1 ≠ ta := fun p hp => Nat.ne_of_lt (hlt' _ hmT2 p hp)
      refine Stop.go (kda_set (knd := PySem.strKind _ _) FX NX (.tail (hta _ lD.2.2.2) (.tail (hta _ lB.2.2) (.tail (hta _ lA.2) (.tail (ho' _ hmT2).symm (updF_append (updF_put h8 hmT2) hdis))))) hdT2 (strKind_is _ _ _ _) (by rw [sizeLine_eq, List.length_map]; omega) ?_)
      intro h7 o7 F7 N7 hd7
      rw [stored_newS (tree_none hWn)] at hd7
      clear FX NX
      walk_at "w"
      with_reducible rename Fr _ _ _ _ => F8
      with_reducible rename News _ _ _ _ => N8
      have hT9 := tr_add hT' lB.1 lD.1 (fun p hp => lA.2 p (List.mem_append_left _ hp)) hmT2 hd7 hiN loN
      rw [put_cons (hta _ lD.2.2.2), put_cons (hta _ lB.2.2), put_cons (hta _ lA.2)] at hT9
      refine unrEnd ((D3, tupO D1 D2) :: (D2, oN) :: (D1, PySem.W.listOf #[] 0) :: (put ta o7 tl' ++ news)) F8 N8 (.tail _ (.tail _ (.tail _ (.head _)))) ?_ ?_ ?_
      · intro p hp
        rcases List.mem_cons.mp hp with e | hp
        · rw [e]; exact .head _
        · rcases List.mem_cons.mp hp with e | hp
          · rw [e]; exact .tail _ (.head _)
          · rcases List.mem_cons.mp hp with e | hp
            · rw [e]; exact .tail _ (.tail _ (.head _))
            · exact .tail _ (.tail _ (.tail _ (.tail _ hp)))
      · have h1 : ∀ p ∈ put ta o7 tl' ++ news, p.1 ≠ I := fun p hp => (List.mem_append.mp hp).elim (fun hp => put_all (P := fun a => a ≠ I) ho' p hp) fun hp => ho p (List.mem_append_right _ hp)
        exact off1 (Nat.ne_of_gt lD.2.2.1) (off2 (Nat.ne_of_gt lB.2.1) (Nat.ne_of_gt lA.1) h1)
      refine ⟨.tail _ (.tail _ (.tail _ (List.mem_append_right _ hm))), _, _, _, norm ⟨rfl, rfl, trivial⟩, rfl, hT9, ?_, ?_, ?_⟩
      · intro p hp q hq
        rcases List.mem_cons.mp hp with e | hp
        · rw [e]; exact lD.2.2.2 q (List.mem_append_right _ hq)
        · rcases List.mem_cons.mp hp with e | hp
          · rw [e]; exact lB.2.2 q (List.mem_append_right _ hq)
          · rcases List.mem_cons.mp hp with e | hp
            · rw [e]; exact lA.2 q (List.mem_append_right _ hq)
            · exact put_all (P := fun a => ∀ q ∈ news, q.1 < a) hlt' p hp q hq
      · rw [List.map_append, hw', List.take_add_one, hWi]
        rfl
      · intro r rest e _
        subst e
        have htab : tabOf (nds' ++ [⟨W, D3, D1, D2, []⟩]) = tabOf nds' := funext fun v => tab_add v hWn
        rw [htab]
        cases i with
        | zero =>
          have hz : nds' = [] := by simpa using hw'
          subst hz
          exact ⟨rfl, trivial⟩
        | succ k =>
          have h2 := hrep' r rest rfl (Nat.succ_pos k)
          simp only [Nat.add_sub_cancel] at h2 ⊢
          have h3 : rest[k]? = some W := by simpa using hWi
          rw [List.take_add_one, h3]
          exact (bld_snoc r _ W) ▸ h2
  · rintro m₁ news₁ h tk ⟨tl, nds, u, rfl, rfl, hT, hlt, hwd, hrep⟩ F2 N2
    dsimp only [kstB] at F2
    clear F1 N1
    walk_at "w"
    have hlen : wvs.length = words.length := hW.length
    exact hret _ _ _ _ ⟨ta, tl, nds, rfl, rfl, hT, hlt, by rw [hwd, hlen, List.take_length], fun r rest e => by
      subst e
      have := hrep r rest rfl (by rw [hlen]; simp)
      rw [hlen] at this
      simpa using this⟩ (by assumption) (by assumption) (kept_of (by assumption) (by assumption))
end
section
open PySem PySem.W PyProof.Rows PySem.Calls PySem.Spec PyProof.V
set_option maxRecDepth 100000
noncomputable abbrev Td := List (Str × Fo Str)
noncomputable def clo (a : Str) (b : Int) (l : List Str) : List Str := l.filter fun v => decide (DI v a ≤ b)
noncomputable def flt (l : Td) : List Str := l.flatMap fun p => p.1 :: p.2.words
noncomputable def sub (f : Fo Str) (e : Int) : Str × Fo Str := (f.look e).getD (Str.ofString "", .nil)
noncomputable def inr (lo hi e : Int) : Bool := decide (lo ≤ e ∧ e ≤ hi)
theorem clo_append (a : Str) (b : Int) (l m : List Str) : clo a b (l ++ m) = clo a b l ++ clo a b m := by simp [clo]
theorem flt_append (l m : Td) : flt (l ++ m) = flt l ++ flt m := by simp [flt]
theorem look_key {W : Type} : ∀ {f : Fo W} {e : Int}, e ∈ f.kids.map (·.1) → ∃ p, f.look e = some p
  | .nil, _, h => by cases h
  | .cons d w s r, e, h => by
    rw [Fo.look]
    by_cases he : d = e
    · rw [if_pos he]; exact ⟨_, rfl⟩
    · rw [if_neg he]
      refine look_key ?_
      rw [Fo.kids, List.map_cons] at h
      rcases List.mem_cons.mp h with q | q
      · exact absurd q.symm he
      · exact q
theorem look_sub' {f : Fo Str} {e : Int} (h : e ∈ f.kids.map (·.1)) : f.look e = some (sub f e) := by
  obtain ⟨p, hp⟩ := look_key h
  rw [sub, hp]; rfl
theorem sub_cons {d e : Int} {w : Str} {s r : Fo Str} (h : r.look d = none) (he : e ∈ r.kids.map (·.1)) : sub (.cons d w s r) e = sub r e := by
  have : d ≠ e := fun q => by
    obtain ⟨p, hp⟩ := look_key he
    rw [← q, h] at hp; cases hp
  rw [sub, Fo.look, if_neg this]; rfl
theorem subs_cons {d : Int} {w : Str} {s r : Fo Str} (h : r.look d = none) (p : Int → Bool) : (((Fo.cons d w s r).kids.map (·.1)).filter p).map (sub (.cons d w s r)) = if p d then (w, s) :: ((r.kids.map (·.1)).filter p).map (sub r) else ((r.kids.map (·.1)).filter p).map (sub r) := by
  have e : ((r.kids.map (·.1)).filter p).map (sub (.cons d w s r)) = ((r.kids.map (·.1)).filter p).map (sub r) :=
    List.map_congr_left fun x hx => sub_cons h (List.mem_filter.mp hx).1
  rw [Fo.kids, List.map_cons, List.filter_cons]
  by_cases hp : p d = true
  · rw [if_pos hp, if_pos hp, List.map_cons, e]
    congr 1
    rw [sub, Fo.look, if_pos rfl]; rfl
  · rw [if_neg hp, if_neg hp, e]
theorem DI_comm (x y : Str) : DI x y = DI y x := congrArg Int.ofNat (ed_comm _ _)
theorem DI_tri (x y z : Str) : DI x z ≤ DI x y + DI y z := by
  have : dist x z ≤ dist x y + dist y z := ed_tri (codes x) (codes y) (codes z)
  show ((dist x z : Nat) : Int) ≤ (dist x y : Int) + (dist y z : Int)
  omega
theorem clo_kids {H a : Str} {b : Int} : ∀ {f : Fo Str}, OkF DI H f → clo a b (flt (((f.kids.map (·.1)).filter (inr (DI H a - b) (DI H a + b))).map (sub f))) = clo a b f.words
  | .nil, _ => rfl
  | .cons d w s r, ⟨h1, h2, h3, h4, h5⟩ => by
    rw [subs_cons h5, Fo.words]
    have ih := clo_kids (a := a) (b := b) h4
    have e : w :: (s.words ++ r.words) = (w :: s.words) ++ r.words := rfl
    rw [e, clo_append, ← ih]
    by_cases hp : inr (DI H a - b) (DI H a + b) d = true
    · rw [if_pos hp]
      show clo a b (flt ([(w, s)] ++ _)) = _
      rw [flt_append, clo_append]
      simp [flt]
    · rw [if_neg hp]
      have : clo a b (w :: s.words) = [] := by
        refine List.filter_eq_nil_iff.mpr fun v hv hc => hp ?_
        have hd : DI H v = d := by
          rcases List.mem_cons.mp hv with q | q
          · rw [q]; exact h1
          · exact h2 v q
        have hc' : DI v a ≤ b := of_decide_eq_true hc
        have t1 := DI_tri H v a
        have t2 := DI_tri H a v
        have t3 := DI_comm a v
        exact decide_eq_true ⟨by omega, by omega⟩
      rw [this, List.nil_append]
theorem len_kids {H : Str} {p : Int → Bool} : ∀ {f : Fo Str}, OkF DI H f → (flt (((f.kids.map (·.1)).filter p).map (sub f))).length ≤ f.words.length
  | .nil, _ => Nat.le_refl _
  | .cons d w s r, ⟨h1, h2, h3, h4, h5⟩ => by
    rw [subs_cons h5, Fo.words]
    have ih := len_kids (p := p) h4
    by_cases hp : p d = true
    · rw [if_pos hp]
      show (flt ([(w, s)] ++ _)).length ≤ _
      rw [flt_append, List.length_append]
      simp only [flt, List.flatMap_cons, List.flatMap_nil, List.append_nil, List.length_cons, List.length_append] at ih ⊢
      omega
    · rw [if_neg hp]
      simp only [List.length_cons, List.length_append]
      omega
theorem flt_perm {l m : Td} (h : l.Perm m) : (flt l).Perm (flt m) := h.flatMap_right _
theorem clo_perm {a : Str} {b : Int} {l m : List Str} (h : l.Perm m) : (clo a b l).Perm (clo a b m) := h.filter _
theorem ok_look : ∀ {f : Fo Str} {H : Str} {e : Int} {p : Str × Fo Str}, OkF DI H f → f.look e = some p → OkF DI p.1 p.2
  | .nil, _, _, _, _, h => by cases h
  | .cons d w s r, H, e, p, ⟨h1, h2, h3, h4, h5⟩, h => by
    rw [Fo.look] at h
    by_cases he : d = e
    · rw [if_pos he] at h; cases h; exact h3
    · rw [if_neg he] at h; exact ok_look h4 h
theorem run_filter {ns : List Int} {i j : Nat} {lo hi : Int} (hlh : lo ≤ hi) (hi' : i ≤ ns.length) (hj : j ≤ ns.length) (h1 : ∀ y ∈ ns.take i, y < lo) (h2 : ∀ y ∈ ns.drop i, lo ≤ y) (h3 : ∀ y ∈ ns.take j, y ≤ hi) (h4 : ∀ y ∈ ns.drop j, hi < y) :
    (ns.drop i).take (min j ns.length - i) = ns.filter (inr lo hi) := by
  have hij : i ≤ j := by
    rcases Nat.lt_or_ge j i with h | h
    · have hjl : j < ns.length := by omega
      have a1 : ns[j] ∈ ns.take i := by
        rw [List.mem_take_iff_getElem]
        exact ⟨j, by omega, rfl⟩
      have a2 : ns[j] ∈ ns.drop j := by
        rw [List.mem_drop_iff_getElem]
        exact ⟨0, by omega, by simp⟩
      have := h1 _ a1
      have := h4 _ a2
      omega
    · exact h
  have e : ns = ns.take i ++ ((ns.drop i).take (j - i) ++ ns.drop j) := by
    have : ns.drop j = (ns.drop i).drop (j - i) := by rw [List.drop_drop]; congr 1; omega
    rw [this, List.take_append_drop, List.take_append_drop]
  rw [Nat.min_eq_left hj]
  conv => rhs; rw [e]
  rw [List.filter_append, List.filter_append]
  have f1 : (ns.take i).filter (inr lo hi) = [] := List.filter_eq_nil_iff.mpr fun y hy hc => by
    have := h1 y hy
    have := (of_decide_eq_true hc : lo ≤ y ∧ y ≤ hi)
    omega
  have f3 : (ns.drop j).filter (inr lo hi) = [] := List.filter_eq_nil_iff.mpr fun y hy hc => by
    have := h4 y hy
    have := (of_decide_eq_true hc : lo ≤ y ∧ y ≤ hi)
    omega
  have f2 : ((ns.drop i).take (j - i)).filter (inr lo hi) = (ns.drop i).take (j - i) := List.filter_eq_self.mpr fun y hy => by
    refine decide_eq_true ⟨h2 y (List.mem_of_mem_take hy), h3 y ?_⟩
    have : (ns.drop i).take (j - i) = (ns.take j).drop i := by rw [List.drop_take]
    rw [this] at hy
    exact List.mem_of_mem_drop hy
  rw [f1, f2, f3, List.nil_append, List.append_nil]
theorem found_step {fs : List Str} {H a : Str} {b : Int} {fH : Fo Str} {rest : Td} {ways : List Int} {all : List Str} (hO : OkF DI H fH) (hw : ways.Perm ((fH.kids.map (·.1)).filter (inr (DI H a - b) (DI H a + b)))) (h : (fs ++ clo a b (flt ((H, fH) :: rest))).Perm all) :
    ((fs ++ clo a b [H]) ++ clo a b (flt (rest ++ ways.map (sub fH)))).Perm all := by
  refine List.Perm.trans ?_ h
  have e : flt ((H, fH) :: rest) = [H] ++ (fH.words ++ flt rest) := by simp [flt]
  rw [e, flt_append, clo_append, clo_append, clo_append, List.append_assoc]
  refine List.Perm.append_left _ (List.Perm.append_left _ ?_)
  refine List.perm_append_comm.trans (List.Perm.append_right _ ?_)
  rw [← clo_kids (a := a) (b := b) hO]
  exact clo_perm (flt_perm (hw.map _))
theorem found_len {H : Str} {p : Int → Bool} {fH : Fo Str} {rest : Td} {ways : List Int} (hO : OkF DI H fH) (hw : ways.Perm ((fH.kids.map (·.1)).filter p)) : (flt (rest ++ ways.map (sub fH))).length < (flt ((H, fH) :: rest)).length := by
  have e : flt ((H, fH) :: rest) = [H] ++ (fH.words ++ flt rest) := by simp [flt]
  have h1 := (flt_perm (hw.map (sub fH))).length_eq
  have h2 := len_kids (p := p) hO
  rw [e, flt_append]
  simp only [List.length_append, List.length_cons, List.length_nil]
  omega
end
section
open PySem PySem.W PyProof.Rows PySem.Calls PySem.Spec PyProof.V
set_option maxRecDepth 100000
local macro_rules | `(tactic| walk_at "w") => `(tactic| repeat' (first | (k_unfold; (try dsimp only)) | (walk1; (try dsimp only)) | (dsimp only; walk1) | (walk_at "call ref"; (try dsimp only)) | fail "no step"))
local macro_rules | `(tactic| walk_at "exec If") => `(tactic| ((fail_if_success (with_reducible show wpAny _ _ _ (CutQ _ _ _ _ _) _ _)); (with_reducible show wpAny _ _ (exec (Stmt.If (Expr.Compare _ [CmpOp.LtE] _ _) _ _ _) _) _ _ _); refine Stop.of ?_))
local macro_rules | `(tactic| walk_at "subscriptTail Name Slice ref ref") => `(tactic| refine Stop.of ?_)
local macro_rules | `(tactic| walk_at "call builtin:list.append") => `(tactic| refine Stop.of ?_)
local macro_rules | `(tactic| walk_at "call ref") => `(tactic| ((with_reducible show wpAny _ _ (call (Value.ref 69) _) _ _ _); k_dflt (refine' Spec.goI (S := far_spec _ _ _ _ _ _ (by assumption) (by assumption)) (ret := ?_)); intro h' tk' F' N' t'; (try dsimp only)))
local macro_rules | `(tactic| walk_at "call ref") => `(tactic| ((with_reducible show wpAny _ _ (call (Value.ref 55) _) _ _ _); k_dflt (refine' Spec.goB (S := bl_spec _ _ _ _ _ _ _ _ _ (by exact Or.inl rfl) (by assumption) (by assumption) (by omega) (by assumption)) (ret := ?_)); intro h' tk' F' N' i' t' hp'; obtain ⟨hi', hA', hB'⟩ := hp'; (try dsimp only)))
local macro_rules | `(tactic| walk_at "call ref") => `(tactic| ((with_reducible show wpAny _ _ (call (Value.ref 37) _) _ _ _); k_dflt (refine' Spec.goB (S := br_spec _ _ _ _ _ _ _ _ _ (by exact rfl) (by assumption) (by assumption) (by omega) (by assumption)) (ret := ?_)); intro h' tk' F' N' i' t' hp'; obtain ⟨hi', hA', hB'⟩ := hp'; (try dsimp only)))

theorem lets_ok {x : Str} (h : Lets x) : PyData.strOk x = true := by
  unfold PyData.strOk
  rw [Array.all_eq_true]
  intro i hi
  have h1 := h x.cps[i] (by simp)
  rcases h1 with e | e | e <;> rw [e] <;> decide
theorem str_canLay : ∀ ns : List Str, (∀ x ∈ ns, Lets x) → PyData.canLayAll0 (ns.map PyData.str) = true
  | [], _ => rfl
  | x :: r, h => by simp [PyData.canLayAll0, PyData.canLay0, lets_ok (h x (.head _)), str_canLay r fun y hy => h y (.tail _ hy)]
theorem str_depth : ∀ ns : List Str, PyData.depthAll (ns.map PyData.str) = 0
  | [] => rfl
  | _ :: r => by simp [PyData.depthAll, PyData.depth, str_depth r]
theorem str_shaped {ns : List Str} (h : ∀ x ∈ ns, Lets x) : SeqAt.shaped (.list (ns.map PyData.str)) = true := by
  simp [SeqAt.shaped, PyData.canLay0, PyData.depth, str_canLay ns h, str_depth]
theorem str_sameAll : ∀ ns ms : List Str, PySem.Spec.sameAll (ns.map PyData.str) (ms.map PyData.str) = decide (ns = ms)
  | [], [] => by simp [PySem.Spec.sameAll]
  | [], _ :: _ => by simp [PySem.Spec.sameAll]
  | _ :: _, [] => by simp [PySem.Spec.sameAll]
  | a :: r, b :: t => by
    simp only [List.map_cons, PySem.Spec.sameAll, PySem.Spec.same, str_sameAll r t]
    by_cases h : a = b <;> by_cases h' : r = t <;> simp [h, h']
theorem str_same (ns ms : List Str) : PySem.Spec.same (.list (ns.map PyData.str)) (.list (ms.map PyData.str)) = decide (ns = ms) := by
  simp only [PySem.Spec.same]; exact str_sameAll ns ms
theorem str_carried : ∀ {vs : List Value} {ns : List Str}, StrsAre vs ns → CarriedAll vs (ns.map PyData.str)
  | _, _, .nil => .nil
  | _, _, .cons _ t r => .cons (.str _ t) (str_carried r)
theorem ne_strs {prog : Program} {w : World} {A : Around} {E : Value → Shared → Prop} {s : Shared} {a b : Addr} {xs ys : List Value} {ns ms : List Str} {Q : Value → Shared → Prop} (ha : s.heap.IsList a xs.toArray) (hb : s.heap.IsList b ys.toArray) (hi : StrsAre xs ns) (hj : StrsAre ys ms) (hx : ∀ x ∈ ns, Lets x) (hy : ∀ x ∈ ms, Lets x) (hu : A.units + 64 < cLine) (e : Bool) (he : (!decide (ns = ms)) = e) (h : Q (.bool e) s) :
    wpAny (model prog w) A (compareOp .NotEq (.ref a) (.ref b)) Q E s :=
  ne_dataH_same (reads_newData ha (str_carried hi)) (reads_newData hb (str_carried hj)) (str_shaped hx) (str_shaped hy) hu (SeqAt.noMix_of_shape (.list .str) rfl _ _ (list_map_has fun _ => rfl) (list_map_has fun _ => rfl)) (by rw [str_same, he]; exact h)
theorem pick_tail (v : Value) (vs : List Value) : slicePick (v :: vs).toArray (some 1) none none = vs.toArray := by
  have e : sliceBounds (some 1) none none (v :: vs).toArray.size = (((1 : Nat) : Int), (((vs.length + 1 : Nat)) : Int), 1) := by
    simp only [sliceBounds, Option.getD_none, show (1 : Int) > 0 by decide, if_true, if_neg (show ¬ ((1 : Int) < 0) by omega), List.size_toArray, List.length_cons]
    congr 1
    omega
  rw [kmk_pick_nat _ e]
  simp
theorem ints_item : ∀ {vs : List Value} {ns : List Int}, IntsAre vs ns → ∀ (i : Nat) (v : Value), vs[i]? = some v → ∃ y t, v = .int y t ∧ ns[i]? = some y
  | _, _, .nil, i, v, h => by cases h
  | _, _, .cons n t r, 0, v, h => by cases h; exact ⟨n, t, rfl, rfl⟩
  | _, _, .cons n t r, i + 1, v, h => ints_item r i v h
theorem append_L {prog : Program} {w : World} {A : Around} {E : Value → Shared → Prop} {s : Shared} {h₀ : Heap} {L D : Addr} {m : Map} {news news' : Led} {vs : List Value} {n : Nat} {x : Value} {Q : Value → Shared → Prop} (F : Fr h₀ L s.heap m) (N : News h₀ L s.heap news) (U : Upd D (W.listOf vs.toArray n) (W.listOf (vs ++ [x]).toArray (n + 1)) news news') (hsz : vs.length ≤ 100)
    (h : ∀ h', Fr h₀ L h' m → News h₀ L h' news' → Q .none { s with heap := h' }) : wpAny (model prog w) A (call (.builtin "list.append") [.ref D, x]) Q E s :=
  append_K F N (by rw [List.push_toArray]; exact U) h (by rw [List.size_toArray, sizeLine_eq]; omega)
theorem slice_rows {vs : List Value} {ns : List Int} {i j : Nat} {lo hi : Int} (hI : IntsAre vs ns) (hlh : lo ≤ hi) (h1 : ∀ y ∈ ns.take i, y < lo) (h2 : ∀ y ∈ ns.drop i, lo ≤ y) (h3 : ∀ y ∈ ns.take j, y ≤ hi) (h4 : ∀ y ∈ ns.drop j, hi < y) (hi' : i ≤ ns.length) (hj : j ≤ ns.length) :
    IntsAre (slicePick vs.toArray (some (i : Int)) (some (j : Int)) none).toList (ns.filter (inr lo hi)) := by
  have h := kmk_run hI (x := (i : Int)) (y := (j : Int)) (Int.natCast_nonneg i) (Int.natCast_nonneg j)
  rw [Int.toNat_natCast, Int.toNat_natCast, run_filter hlh hi' hj h1 h2 h3 h4] at h
  exact h
theorem td_len (td : Td) : td.length ≤ (flt td).length := by
  induction td with
  | nil => exact Nat.le_refl _
  | cons p r ih => simp only [flt, List.flatMap_cons, List.length_append, List.length_cons] at ih ⊢; omega

set_option maxHeartbeats 0 in
theorem found_spec (w : World) (news : Led) (tl : Led) (ta : Addr) (nds : List Nd) (r a : Str) (tr tq tb : Tok) (b : Int) (f : Fo Str) (hT : TrIn w tl ta nds) (hS : ∀ p ∈ tl, p ∈ news) (hR : RepT (tabOf nds) r f) (hO : OkF DI r f) (hm : ∀ v ∈ r :: f.words, v ∈ nds.map (·.wd)) (hg : ∀ v ∈ nds.map (·.wd), Good v) (hA : Good a) (hb : 0 ≤ b) (hb8 : b ≤ 8) (hsz : f.size ≤ 8) :
    Spec w 83 5 80 news [.ref ta, .str r tr, .str a tq, .int b tb] (fun v n => ∃ (l : Addr) (fvs : List Value) (c : Nat) (fs : List Str), v = .ref l ∧ n = (l, W.listOf fvs.toArray c) :: news ∧ StrsAre fvs fs ∧ fs.Perm (clo a b (r :: f.words)) ∧ ∀ p ∈ news, p.1 < l) := by
  unfold Spec KK PR; k_fill; intro mean mg mb dp un gd cn cs a₀ ccd cl outer A₀ base h₀ L m s Q E B F X N T hk hd hu hret
  (refine wpAny_call ?_; k_dflt (refine' code_defG ?e9k1 ?e9k2 ?e9k3 ?e9k4 ?e9k5 ?e9kA ?e9kF ?e9kK ?e9k6 ?e9k7 ?e9k8 ?e9k9 ?e9kB ?_ ?e9c2 ?e9c3 ?e9c4 ?e9c5; (case e9kA => exact rfl); (case e9kF => exact rfl); (case e9kK => assumption); (case e9k1 => k_asm); (case e9k2 => k_asm); (case e9k3 => k_asm); (case e9k4 => k_asm); (case e9k5 => k_asm); (case e9k6 => k_is); (case e9k7 => k_is); (case e9k8 => ktr_room); (case e9k9 => first | exact BindsTo.of_eq rfl | (refine' kp_binds ?e9kx ?e9ke; (case e9kx => k_in); (case e9ke => exact fun _ => rfl))); (case e9c5 => decide); (case e9kB => exact locs rfl); (case e9c2 => exact rfl); (case e9c3 => exact rfl); (case e9c4 => exact rfl); k_whole; intro g' L' h' FG' F' N' B' X' T' kG'; (try dsimp only); (try k_lift B'); (try k_fold)))
  clear F N
  walk_at "w"
  rename_i fl _ lA wl0 _ lB D0 _ lD _ _ _ F1 N1
  have lB2 := allLt lB.2
  have hall9 : (clo a b (r :: f.words)).length ≤ 9 := Nat.le_trans (List.length_filter_le _ _) (by rw [List.length_cons, size_words]; omega)
  have hfl : ∀ p ∈ news, p.1 ≠ fl := fun p hp => Nat.ne_of_lt (lA p hp)
  refine Stop.go (while_cut (n₀ := (flt [(r, f)]).length) (fun n m nw => ∃ (wl : Addr) (wvs : List Value) (wc : Nat) (td : Td) (fvs : List Value) (fc : Nat) (fs : List Str) (t1 t2 : Tok) (u : Map), m = kstB u [(Str.ofString "tree", .ref ta), (Str.ofString "asked", .str a t1), (Str.ofString "bound", .int b t2), (Str.ofString "found", .ref fl), (Str.ofString "waiting", .ref wl)] ∧ nw = (wl, W.listOf wvs.toArray wc) :: (fl, W.listOf fvs.toArray fc) :: news ∧ StrsAre wvs (td.map (·.1)) ∧ StrsAre fvs fs ∧ (∀ p ∈ td, RepT (tabOf nds) p.1 p.2 ∧ OkF DI p.1 p.2 ∧ ∀ v ∈ p.1 :: p.2.words, v ∈ nds.map (·.wd)) ∧ (fs ++ clo a b (flt td)).Perm (clo a b (r :: f.words)) ∧ n = (flt td).length ∧ wl ≠ fl ∧ (∀ p ∈ news, p.1 ≠ wl) ∧ (flt td).length ≤ 9)
    (fun m nw => ∃ (fvs : List Value) (fc : Nat) (fs : List Str) (u : Map), m = kstB u [(Str.ofString "found", .ref fl)] ∧ nw = (fl, W.listOf fvs.toArray fc) :: news ∧ StrsAre fvs fs ∧ fs.Perm (clo a b (r :: f.words))) F1 (News.sub N1 fun p hp => .tail _ hp) ?_ ?_ ?_)
  · refine ⟨wl0, [.str r tr], 0, [(r, f)], [], 0, [], _, _, _, norm ⟨rfl, rfl, rfl, rfl, rfl, trivial⟩, rfl, .cons _ _ .nil, .nil, ?_, ?_, rfl, Nat.ne_of_gt lB.1, fun p hp => Nat.ne_of_lt (lB2 p hp), ?_⟩
    · intro p hp
      obtain rfl := List.mem_singleton.mp hp
      exact ⟨hR, hO, hm⟩
    · simp [flt]
    · have e : flt [(r, f)] = r :: f.words := by simp [flt]
      rw [e, List.length_cons, size_words]; omega
  · rintro n m₁ nw h₁ tk₁ F2 N2 ⟨wl, wvs, wc, td, fvs, fc, fs, t1, t2, u, rfl, rfl, hW, hFs, hP, hPm, hn, hw1, hw2, hb9⟩
    dsimp only [kstB] at F2
    clear F1 N1
    have hfs9 : fs.length ≤ 9 := by
      have := hPm.length_eq
      rw [List.length_append] at this
      omega
    walk_at "w"
    with_reducible rename Fr _ _ _ _ => F3
    with_reducible rename News _ _ _ _ => N3
    have hLt : ∀ x ∈ td.map (·.1), Lets x := fun x hx => by
      obtain ⟨p, hp, rfl⟩ := List.mem_map.mp hx
      exact (hg _ ((hP p hp).2.2 _ (.head _))).1
    cases td with
    | nil =>
      refine Stop.go (ne_strs (ys := []) (isL N3 (.tail _ (.head _))) (isL N3 (.head _)) hW .nil hLt (fun _ h => nomatch h) (by ktr_units) false rfl ?_)
      (try k_unmd); (try dsimp only)
      walk_at "w"
      with_reducible rename News _ _ _ _ => N4
      exact CutQ.intro (by assumption) (News.sub N4 fun p hp => .tail _ (.tail _ hp)) ⟨fvs, fc, fs, _, norm ⟨rfl, trivial⟩, rfl, hFs, by simpa [flt, clo] using hPm⟩
    | cons p rest =>
      obtain ⟨H, fH⟩ := p
      rw [List.map_cons] at hW
      dsimp only at hW
      cases hW with
      | cons _ tH hW' =>
      rename_i wvs
      refine Stop.go (ne_strs (ys := []) (isL N3 (.tail _ (.head _))) (isL N3 (.head _)) (.cons _ tH hW') .nil hLt (fun _ h => nomatch h) (by ktr_units) true rfl ?_)
      (try k_unmd); (try dsimp only)
      walk_at "w"
      with_reducible rename Fr _ _ _ _ => F4
      with_reducible rename News _ _ _ _ => N4
      refine Stop.go ?_
      with_unfolding_all refine' item_strK (k := 0) (ys := H :: rest.map (·.1)) (vs := Value.str H tH :: wvs) ?k1 ?k2 ?k3 ?k4 ?kZ ?k6
      case k1 => exact isL N4 (.tail _ (.head _))
      case k2 => exact .cons _ tH hW'
      case k3 => rfl
      case k4 => decide
      case k6 => with_unfolding_all rfl
      intro tk3
      walk_at "w"
      have hwl9 : (Value.str H tH :: wvs).toArray.size ≤ sizeLine := by
        have h1 := hW'.len_eq
        have h2 := td_len ((H, fH) :: rest)
        rw [sizeLine_eq]
        simp only [List.size_toArray, List.length_cons, List.length_map] at h1 h2 ⊢
        omega
      with_reducible rename Fr _ _ _ _ => F5
      with_reducible rename News _ _ _ _ => N5
      refine Stop.go ?_
      k_dflt (refine' kmk_slice (s := PySem.Shared.mk _ _ _ _ _) ?kF ?kN ?kl ?kp ?kq ?_ ?ks ?kt ?kz; (case kF => exact F5); (case kN => exact N5); (case kl => exact isL N5 (.tail _ (.head _))); (case kp => exact IsPart.int _ _); (case kq => exact IsPart.none); (case kz => exact hwl9); (case ks => with_unfolding_all rfl); (case kt => (intro _; with_unfolding_all rfl)))
      intro wl2 h7 F7 N7 l7
      rw [pick_tail] at N7
      clear F5 N5
      have hGH : Good H := hg _ ((hP (H, fH) (.head _)).2.2 _ (.head _))
      have hw3 : wl2 ≠ fl := Nat.ne_of_gt (l7 _ (.tail _ (.tail _ (.head _))))
      have hw4 : ∀ p ∈ news, p.1 ≠ wl2 := fun p hp => Nat.ne_of_lt (l7 p (.tail _ (.tail _ (.tail _ hp))))
      clear l7
      walk_at "w"
      with_reducible rename Fr _ _ _ _ => F8
      refine Stop.go (exec_cut F8 (fun m nw => ∃ (fvs' : List Value) (fc' : Nat) (t1 t2 t3 tH : Tok) (u : Map), m = kstB u [(Str.ofString "tree", .ref ta), (Str.ofString "asked", .str a t1), (Str.ofString "bound", .int b t2), (Str.ofString "found", .ref fl), (Str.ofString "waiting", .ref wl2), (Str.ofString "here", .str H tH), (Str.ofString "far", .int (DI H a) t3)] ∧ nw = (wl2, W.listOf wvs.toArray 0) :: (fl, W.listOf fvs'.toArray fc') :: news ∧ StrsAre fvs' (fs ++ clo a b [H])) ?_ ?_)
      · walk_at "w"
        · with_reducible rename Fr _ _ _ _ => F9
          with_reducible rename News _ _ _ _ => N9
          with_reducible rename _ ≤ b => hc
          have e : clo a b [H] = [H] := by unfold clo; rw [List.filter_cons, if_pos (decide_eq_true hc)]; rfl
          refine Stop.go (append_L (news' := (wl2, W.listOf wvs.toArray 0) :: (fl, W.listOf (fvs ++ [Value.str H tk3]).toArray (fc + 1)) :: news) F9 (News.sub (l' := (wl2, W.listOf wvs.toArray 0) :: (fl, W.listOf fvs.toArray fc) :: news) N9 (by (intro q hq; simp only [List.mem_cons] at hq ⊢; rcases hq with e | e | e <;> simp [e]))) (.tail hw3 (.head hfl)) (by have := hFs.len_eq; omega) ?_)
          intro h9 F10 N10
          clear F9 N9
          walk_at "w"
          exact CutQ.intro (by assumption) (by assumption) ⟨_, _, _, _, _, _, _, norm ⟨rfl, rfl, rfl, rfl, rfl, rfl, rfl, trivial⟩, rfl, by rw [e]; exact StrsAre.append' hFs (.cons _ _ .nil)⟩
        · with_reducible rename Fr _ _ _ _ => F9
          with_reducible rename News _ _ _ _ => N9
          with_reducible rename ¬ (_ ≤ b) => hc
          have e : clo a b [H] = [] := by unfold clo; rw [List.filter_cons, if_neg fun q => hc (of_decide_eq_true q)]; rfl
          exact CutQ.intro F9 (News.sub (l' := (wl2, W.listOf wvs.toArray 0) :: (fl, W.listOf fvs.toArray fc) :: news) N9 (by (intro q hq; simp only [List.mem_cons] at hq ⊢; rcases hq with e | e | e <;> simp [e]))) ⟨_, _, _, _, _, _, _, norm ⟨rfl, rfl, rfl, rfl, rfl, rfl, rfl, trivial⟩, rfl, by rw [e, List.append_nil]; exact hFs⟩
      · rintro m₂ nw h₂ tk₂ ⟨fvs', fc', t1', t2', t3', tH', u', rfl, rfl, hFs'⟩ F9 N9
        dsimp only [kstB] at F9
        clear F8
        obtain ⟨hRH, hOH, hmH⟩ := hP (H, fH) (.head _)
        dsimp only at hRH hOH hmH
        obtain ⟨n, hnn, rfl⟩ := List.mem_map.mp (hmH H (.head _))
        obtain ⟨hlo, ⟨oT2, hmT, hdT⟩, hT3⟩ := id hT
        obtain ⟨hA1, hloD, vs, cc, ns, ob, kv, hA0⟩ := hT3.1 n hnn
        obtain ⟨hAo, hAi, hAs, hAp, hAd, hAk, hAv⟩ := hA0
        have hwN := words_nodup hT
        have hkids : n.kids = fH.kids := by rw [← tab_at hwN hnn]; exact hRH.1
        have hval := tree_val hwN hnn
        have up : ∀ p ∈ news, p ∈ (wl2, W.listOf wvs.toArray 0) :: (fl, W.listOf fvs'.toArray fc') :: news := fun p hp => .tail _ (.tail _ hp)
        have mT := up _ (hS _ hmT)
        have mTp := up _ (hS _ hA1)
        have mD := up _ (hS _ hAd)
        have mO := up _ (hS _ hAo)
        have hfw : fH.size ≤ 9 := by
          have e : flt ((n.wd, fH) :: rest) = (n.wd :: fH.words) ++ flt rest := by simp [flt]
          rw [e, List.length_append, List.length_cons, size_words] at hb9
          omega
        have hnsl : ns.length ≤ 9 := by rw [hAp.length_eq, List.length_map, hkids]; exact Nat.le_trans (kids_size fH) hfw
        walk_at "w"
        with_reducible rename ∀ y ∈ List.take _ _, y < _ => hA1
        with_reducible rename ∀ y ∈ List.drop _ _, _ ≤ y => hB1
        with_reducible rename ∀ y ∈ List.take _ _, y ≤ _ => hA2
        with_reducible rename ∀ y ∈ List.drop _ _, _ < y => hB2
        with_reducible rename Fr _ _ _ _ => F10
        with_reducible rename News _ _ _ _ => N10
        have hrun := slice_rows hAi (by omega) hA1 hB1 hA2 hB2 (by assumption) (by assumption)
        refine Stop.go ?_
        k_dflt (refine' kmk_slice_ints (s := PySem.Shared.mk _ _ _ _ _) ?kF ?kN ?kl ?kp ?kq ?ki ?km ?kc ?_ ?ks ?kt ?kz; (case kF => exact F10); (case kN => exact N10); (case kl => exact isL N10 mO); (case kp => exact IsPart.int _ _); (case kq => exact IsPart.int _ _); (case ki => exact hAi); (case km => exact hrun); (case kc => rfl); (case kz => rw [List.size_toArray, sizeLine_eq, hAi.length]; omega); (case ks => with_unfolding_all rfl); (case kt => (intro _; with_unfolding_all rfl)))
        intro sl ws h11 F11 N11 l11 hWs _ _
        clear F10 N10
        have hsl1 : sl ≠ wl2 := Nat.ne_of_gt (l11 _ (.head _))
        have hsl2 : sl ≠ fl := Nat.ne_of_gt (l11 _ (.tail _ (.head _)))
        have hsl3 : ∀ p ∈ news, p.1 ≠ sl := fun p hp => Nat.ne_of_lt (l11 p (.tail _ (.tail _ hp)))
        clear l11
        have hwp : (ns.filter (inr (DI n.wd a - b) (DI n.wd a + b))).Perm ((fH.kids.map (·.1)).filter (inr (DI n.wd a - b) (DI n.wd a + b))) := by rw [← hkids]; exact hAp.filter _
        have hwl : (ns.filter (inr (DI n.wd a - b) (DI n.wd a + b))).length ≤ 9 := Nat.le_trans (List.length_filter_le _ _) hnsl
        generalize ns.filter (inr (DI n.wd a - b) (DI n.wd a + b)) = ways at hWs hwp hwl
        have hwsl := hWs.length
        have hlen9 : (flt (rest ++ ways.map (sub fH))).length < (flt ((n.wd, fH) :: rest)).length := found_len hOH hwp
        have hlook : ∀ e ∈ ways, fH.look e = some (sub fH e) := fun e he => look_sub' (List.mem_filter.mp (hwp.mem_iff.mp he)).1
        walk_at "w"
        with_reducible rename Fr _ _ _ _ => F12
        with_reducible rename News _ _ _ _ => N12
        refine Stop.go (for_list (fun i m nw => ∃ (wv : List Value) (wc' : Nat) (t1 t2 : Tok) (u : Map), m = kstB u [(Str.ofString "tree", .ref ta), (Str.ofString "asked", .str a t1), (Str.ofString "bound", .int b t2), (Str.ofString "found", .ref fl), (Str.ofString "waiting", .ref wl2), (Str.ofString "there", .ref n.dl)] ∧ nw = (wl2, W.listOf wv.toArray wc') :: (sl, W.listOf ws.toArray 0) :: (fl, W.listOf fvs'.toArray fc') :: news ∧ StrsAre wv (rest.map (·.1) ++ ((ways.take i).map (sub fH)).map (·.1))) (by rfl) F12 (News.sub (l' := (wl2, W.listOf wvs.toArray 0) :: (sl, W.listOf ws.toArray 0) :: (fl, W.listOf fvs'.toArray fc') :: news) N12 (by (intro q hq; simp only [List.mem_cons] at hq ⊢; rcases hq with e | e | e | e <;> simp [e]))) (.tail _ (.head _)) rfl rfl ?_ ?_ ?_)
        · exact ⟨_, _, _, _, _, norm ⟨rfl, rfl, rfl, rfl, rfl, rfl, trivial⟩, rfl, by simpa using hW'⟩
        · rintro I i v m₁ news₁ it h tk hI hv ⟨wv, wc', t1'', t2'', u'', rfl, rfl, hwv⟩ hml ho hit F13 N13
          dsimp only [kstB] at F13
          clear F12 N12
          obtain ⟨e, te, rfl, hwe⟩ := ints_item hWs i v hv
          have hek := List.mem_of_getElem? hwe
          have hlk := hlook e hek
          have hk : n.kids.find? (fun p => p.1 = e) = some (e, (sub fH e).1) := by rw [hkids, look_find, hlk]; rfl
          obtain ⟨ts, hk2⟩ : ∃ ts, valueAt kv e = some (.str (sub fH e).1 ts) := by
            rcases hAv.at e with ⟨s1, t1, q1, q2⟩ | ⟨q1, _⟩
            · rw [hk] at q1
              cases q1
              exact ⟨t1, q2⟩
            · rw [hk] at q1; cases q1
          have mD' : (n.dl, ob) ∈ (I, it) :: (wl2, W.listOf wv.toArray wc') :: (sl, W.listOf ws.toArray 0) :: (fl, W.listOf fvs'.toArray fc') :: news := .tail _ (.tail _ (.tail _ (.tail _ (hS _ hAd))))
          walk_at "w"
          with_reducible rename Fr _ _ _ _ => F14
          with_reducible rename News _ _ _ _ => N14
          have hwv9 : wv.length ≤ 100 := by
            rw [hwv.len_eq, List.length_append, List.length_map, List.length_map, List.length_map, List.length_take]
            have := td_len ((n.wd, fH) :: rest)
            rw [List.length_cons] at this
            omega
          have hIw := ho _ (.head _)
          dsimp only at hIw
          refine Stop.go (append_L (vs := wv) (n := wc') (news' := (I, it) :: (wl2, W.listOf (wv ++ [Value.str (sub fH e).1 ts]).toArray (wc' + 1)) :: (sl, W.listOf ws.toArray 0) :: (fl, W.listOf fvs'.toArray fc') :: news) F14 N14 (.tail hIw.symm (.head (fun p hp => ?_))) hwv9 ?_)
          · rcases List.mem_cons.mp hp with q | hp
            · rw [q]; exact hsl1
            · rcases List.mem_cons.mp hp with q | hp
              · rw [q]; exact hw3.symm
              · exact hw4 p hp
          intro h14 F15 N15
          clear F14 N14
          walk_at "w"
          with_reducible rename Fr _ _ _ _ => F16
          with_reducible rename News _ _ _ _ => N16
          refine unrEnd ((wl2, W.listOf (wv ++ [Value.str (sub fH e).1 ts]).toArray (wc' + 1)) :: (sl, W.listOf ws.toArray 0) :: (fl, W.listOf fvs'.toArray fc') :: news) F16 N16 (.head _) (fun p hp => .tail _ hp) (off1 hIw fun p hp => ho p (.tail _ hp)) ⟨.tail _ (.head _), _, _, _, _, _, norm ⟨rfl, rfl, rfl, rfl, rfl, rfl, trivial⟩, rfl, ?_⟩
          rw [List.take_add_one, hwe, List.map_append, List.map_append, ← List.append_assoc]
          exact StrsAre.append' hwv (.cons _ _ .nil)
        · rintro m₁ news₁ h tk ⟨wv, wc', t1'', t2'', u'', rfl, rfl, hwv⟩ F13 N13
          dsimp only [kstB] at F13
          clear F12 N12
          walk_at "w"
          with_reducible rename Fr _ _ _ _ => F14
          with_reducible rename News _ _ _ _ => N14
          rw [hwsl, List.take_length] at hwv
          refine whileEnd F14 (News.sub (l' := (wl2, W.listOf wv.toArray wc') :: (fl, W.listOf fvs'.toArray fc') :: news) N14 (by (intro q hq; simp only [List.mem_cons] at hq ⊢; rcases hq with e | e | e <;> simp [e]))) (n' := (flt (rest ++ ways.map (sub fH))).length) (by omega) ⟨wl2, wv, wc', rest ++ ways.map (sub fH), fvs', fc', _, _, _, _, norm ⟨rfl, rfl, rfl, rfl, rfl, trivial⟩, rfl, by rw [List.map_append]; exact hwv, hFs', ?_, found_step hOH hwp hPm, rfl, hw3, hw4, by omega⟩
          intro p hp
          rcases List.mem_append.mp hp with hp | hp
          · exact hP p (.tail _ hp)
          · obtain ⟨e, he, rfl⟩ := List.mem_map.mp hp
            have hlk := hlook e he
            exact ⟨rep_look hRH.2 hlk, ok_look hOH hlk, fun v hv => hmH v (.tail _ ((look_sub hlk).1 v hv))⟩
  · rintro m₁ nw h₁ tk₁ ⟨fvs, fc, fs, u, rfl, rfl, hFs, hPm⟩ F2 N2
    dsimp only [kstB] at F2
    clear F1 N1
    walk_at "w"
    exact hret _ _ _ _ ⟨fl, fvs, fc, fs, rfl, rfl, hFs, hPm, lA⟩ (by assumption) (by assumption) (kept_of (by assumption) (by assumption))
end
end
section
open PySem PySem.W PyProof.Rows PySem.Calls PySem.Spec PyProof.V
set_option maxRecDepth 100000
noncomputable def StepT (h₀ : Heap) (L : Addr) (s : Shared) (I : Addr) (it : Obj) (J : Map → Led → Prop) (f : Flow) (s₂ : Shared) : Prop := f = .next ∧ UnrEnd h₀ L s I it J s₂
section
variable {prog : Program} {w : World} {A : Around} {E : Value → Shared → Prop} {s : Shared} {env : Env} {h₀ : Heap} {target : Expr} {body : List Stmt} {Q : Flow → Shared → Prop}
theorem for_listT {ax : Addr} {lo : Obj} {vs : List Value} {n : Nat} {m₀ : Map} {news : Led} (J : Nat → Map → Led → Prop)
    (hh : A.handled = none) (F : Fr h₀ env.locals s.heap m₀) (N : News h₀ env.locals s.heap news) (hm : (ax, lo) ∈ news) (hc : lo.cls = .type "list") (hd : lo.data = .seq vs.toArray n)
    (h0 : J 0 m₀ news)
    (turn : ∀ I i v m₁ news₁ it (s' : Shared) h tk, (∀ p ∈ news, p.1 < I) → vs[i]? = some v → J i m₁ news₁ → (ax, lo) ∈ news₁ → (∀ p ∈ news₁, p.1 ≠ I) → Fr h₀ env.locals h m₁ → News h₀ env.locals h ((I, it) :: news₁) →
      wpAny (model prog w) A (assign target env v) (fun _ s₃ => wpAny (model prog w) A (execs body env) (StepT h₀ env.locals { s' with heap := h, toks := tk } I it (fun m' n' => (ax, lo) ∈ n' ∧ J (i + 1) m' n')) E s₃) E { s' with heap := h, toks := tk })
    (done : ∀ m₁ news₁ h tk, J vs.length m₁ news₁ → Fr h₀ env.locals h m₁ → News h₀ env.locals h news₁ → Q .next { s with heap := h, toks := tk }) :
    wpAny (model prog w) A (pyIter (.ref ax)) (fun it s₂ => LoopAtT prog w A h₀ env target body Q E it s₂) E s := by
  have hax := N _ hm
  have hl : s.heap.IsList ax vs.toArray := ⟨lo, hax.1, hc, n, hd⟩
  have hlt : ax < s.heap.objs.size := Heap.lt_size hax.1
  have hne : ax ≠ s.heap.objs.size := Nat.ne_of_lt hlt
  refine wpAny_pyIter_list hl ?_
  have W := Walks.list (prog := prog) (w := w) hh s.heap.objs.size ax hne vs.toArray
  have hnew := next_is_new F
  have hlen : vs.toArray.size = vs.length := by simp
  rw [hlen] at W
  have hlow : ∀ p ∈ news, p.1 < s.heap.objs.size := fun p hp => Heap.lt_size (N p hp).1
  refine ⟨s.heap.objs.size, _, _, vs.length, _, _, m₀, news, fun i m₁ n₁ => (ax, lo) ∈ n₁ ∧ J i m₁ n₁, rfl, W, ?_, ?_, ?_, ⟨⟨_, Heap.get?_push_size _ rfl, rfl, rfl⟩, hl.at fun o e => Heap.get?_push_of_some _ e⟩, F.push _, (fun p hp => ⟨Heap.get?_push_of_some _ (N p hp).1, (N p hp).2⟩), (fun i s' v Q' st hQ' => letGo_listiter st.1 hQ'), ⟨hm, h0⟩, ?_, ?_⟩
  · intro hmm
    rcases List.mem_cons.mp hmm with e | hmm
    · exact absurd F.ns.lt (e ▸ Nat.lt_irrefl _)
    · exact hax.2.1 (List.mem_singleton.mp hmm).symm
  · intro b hb
    rw [List.mem_singleton.mp hb]
    exact hnew
  · intro p hp hI
    exact absurd (Heap.lt_size (N p hp).1) ((List.mem_singleton.mp hI) ▸ Nat.lt_irrefl _)
  · rintro i v m₁ news₁ s₁ own hin hP ⟨hmem₁, hJ⟩ hoff hown hget hall hst F₁ N₁
    obtain ⟨it, hit, hic, hid⟩ := hst.1
    have hmemI := hall s.heap.objs.size (List.mem_cons_self ..) hnew _ hit
    have hv : vs[i]? = some v := by simpa using hP
    have N₂ : News h₀ env.locals s₁.heap ((s.heap.objs.size, it) :: news₁) := fun p hp => by
      rcases List.mem_cons.mp hp with e | hp
      · rw [e]; exact N₁ _ (List.mem_append_left _ hmemI)
      · exact N₁ _ (List.mem_append_right _ hp)
    have hax1 : s₁.heap.get? ax = some lo := (N₂ _ (.tail _ hmem₁)).1
    refine wpAny_mono (turn s.heap.objs.size i v m₁ news₁ it s₁ s₁.heap s₁.toks hlow hv hJ hmem₁ (fun p hp e => hoff p hp (by rw [e]; exact List.mem_singleton.mpr rfl)) F₁ N₂) (fun _ s₂ h₂ => wpAny_mono h₂ (fun f s₃ h₃ => ?_) fun _ _ e => e) fun _ _ e => e
    obtain ⟨rfl, h₃', tk₃, m₂, news₂, rfl, F₃, N₃, off, hmem₂, hJ₃⟩ := h₃
    refine ⟨rfl, h₃', tk₃, m₂, news₂, rfl, F₃, fun p hp => ?_, fun p hp e => off p hp (List.mem_singleton.mp e), hmem₂, hJ₃⟩
    rcases List.mem_append.mp hp with hp | hp
    · have h1 := hown p hp
      have h2 := hget p hp
      rcases List.mem_cons.mp h1 with e | e
      · rw [e] at h2
        have : p = (s.heap.objs.size, it) := Prod.ext e (Option.some.inj (h2.symm.trans hit))
        rw [this]; exact N₃ _ (.head _)
      · have e := List.mem_singleton.mp e
        rw [e] at h2
        have : p = (ax, lo) := Prod.ext e (Option.some.inj (h2.symm.trans hax1))
        rw [this]; exact N₃ _ (.tail _ hmem₂)
    · exact N₃ _ (.tail _ hp)
  · rintro h' tk m' news' F' N' _ ⟨_, hJ⟩
    exact done m' news' h' tk hJ F' N'
theorem stepEnd {L I : Addr} {it : Obj} {J : Map → Led → Prop} {h : Heap} {tk : Nat} {m : Map} {all : Led} (nw : Led) (F : Fr h₀ L h m) (N : News h₀ L h all) (hI : (I, it) ∈ all) (hs : ∀ p ∈ nw, p ∈ all) (ho : ∀ p ∈ nw, p.1 ≠ I) (hJ : J m nw) :
    StepT h₀ L s I it J .next { s with heap := h, toks := tk } := ⟨rfl, unrEnd nw F N hI hs ho hJ⟩
end
end
section
open PySem PySem.W PyProof.Rows PySem.Calls PySem.Spec PyProof.V
set_option maxRecDepth 100000
section
variable {prog : Program} {w : World} {A : Around} {s : Shared} {env : Env} {h₀ : Heap} {L : Addr} {m : Map} {ct elt : PySem.Expr} {x : Str} {scope : Scope} {cl : List (Str × Addr)} {S : Led → Prop} {P : Nat → Value → Prop} {Fin : List Value → Led → Prop} {n : Nat} {news : Led}
theorem compEnd_mono {s₁ s₂ : Shared} {I C D : Addr} {oI oC oD : Obj} {r r' : Value → Led → Prop} {y : Value} (h : LCg.CompEnd h₀ L m s₁ I oI C oC D oD S r y s₂) (hr : ∀ y n, r y n → r' y n) : LCg.CompEnd h₀ L m s₁ I oI C oC D oD S r' y s₂ := by
  obtain ⟨h', tk, n', e, F, N, o, hs, q⟩ := h
  exact ⟨h', tk, n', e, F, N, o, hs, hr _ _ q⟩
theorem restT_inv (J : Nat → List Value → Prop) (h0 : J 0 [])
    (turn : ∀ i v ys I oI C oC D m₂ h tk (E' : Value → Shared → Prop), i < n → P i v → J i ys → LCg.NsObj oC m₂ → m₂ x = some v → Fr h₀ L h m → News h₀ L h ((I, oI) :: (C, oC) :: (D, LCg.lst ys) :: news) → LCg.Off3 I C D news → ((@Ne Nat I C) ∧ (@Ne Nat I D) ∧ (@Ne Nat C D)) →
      wpAny (model prog w) A (isTrue ct (compEnvC scope cl C env) (eval ct (compEnvC scope cl C env))) (fun ok s' => if ok = true then
        wpAny (model prog w) A (eval elt (compEnvC scope cl C env)) (LCg.CompEnd h₀ L m { s with heap := h, toks := tk } I oI C oC D (LCg.lst ys) S (fun y news' => news' = news ∧ J (i + 1) (ys ++ [y]))) E' s'
        else LCg.CompEnd h₀ L m { s with heap := h, toks := tk } I oI C oC D (LCg.lst ys) S (fun _ news' => news' = news ∧ J (i + 1) ys) Value.none s') E' { s with heap := h, toks := tk })
    (fin : ∀ ys, J n ys → Fin ys news) : LCt.CompRestT prog w A h₀ L m env ct elt x scope cl s S P Fin n 0 [] news := by
  have key : ∀ k i ys, i + k = n → J i ys → LCt.CompRestT prog w A h₀ L m env ct elt x scope cl s S P Fin k i ys news := by
    intro k
    induction k with
    | zero =>
      intro i ys hi hJ
      obtain rfl : i = n := by omega
      exact LCt.CompRestT.zero (fin ys hJ)
    | succ k ih =>
      intro i ys hi hJ
      refine LCt.CompRestT.succ fun v I oI C oC D m₂ h tk E' hP hC hx F N off ne => ?_
      refine wpAny_mono (turn i v ys I oI C oC D m₂ h tk E' (by omega) hP hJ hC hx F N off ne) (fun ok s' q => ?_) fun _ _ e => e
      cases ok with
      | true =>
        simp only [if_true] at q ⊢
        refine wpAny_mono q (fun y s₂ q => compEnd_mono q fun y n' r => ?_) fun _ _ e => e
        rw [r.1]
        exact ih (i + 1) _ (by omega) r.2
      | false =>
        simp only [Bool.false_eq_true, if_false] at q ⊢
        refine compEnd_mono q fun y n' r => ?_
        rw [r.1]
        exact ih (i + 1) _ (by omega) r.2
  exact key n 0 [] (Nat.zero_add n) h0
theorem rest_inv (J : Nat → List Value → Prop) (h0 : J 0 [])
    (turn : ∀ i v ys I oI C oC D m₂ h tk (E' : Value → Shared → Prop), i < n → P i v → J i ys → LCg.NsObj oC m₂ → m₂ x = some v → Fr h₀ L h m → News h₀ L h ((I, oI) :: (C, oC) :: (D, LCg.lst ys) :: news) → LCg.Off3 I C D news → ((@Ne Nat I C) ∧ (@Ne Nat I D) ∧ (@Ne Nat C D)) →
      wpAny (model prog w) A (eval elt (compEnvC scope cl C env)) (LCg.CompEnd h₀ L m { s with heap := h, toks := tk } I oI C oC D (LCg.lst ys) S (fun y news' => news' = news ∧ J (i + 1) (ys ++ [y]))) E' { s with heap := h, toks := tk })
    (fin : ∀ ys, J n ys → Fin ys news) : LCg.CompRest prog w A h₀ L m env elt x scope cl s S P Fin n 0 [] news := by
  have key : ∀ k i ys, i + k = n → J i ys → LCg.CompRest prog w A h₀ L m env elt x scope cl s S P Fin k i ys news := by
    intro k
    induction k with
    | zero =>
      intro i ys hi hJ
      obtain rfl : i = n := by omega
      exact LCg.CompRest.zero (fin ys hJ)
    | succ k ih =>
      intro i ys hi hJ
      refine LCg.CompRest.succ fun v I oI C oC D m₂ h tk E' hP hC hx F N off ne => ?_
      refine wpAny_mono (turn i v ys I oI C oC D m₂ h tk E' (by omega) hP hJ hC hx F N off ne) (fun y s₂ q => compEnd_mono q fun y n' r => ?_) fun _ _ e => e
      rw [r.1]
      exact ih (i + 1) _ (by omega) r.2
  exact key n 0 [] (Nat.zero_add n) h0
end
theorem dist_zero {x y : Str} : dist x y = 0 ↔ x = y := by
  refine Iff.trans ed_zero ⟨fun h => ?_, fun h => by rw [h]⟩
  exact str_ext h
theorem dead1 (x y : Str) : (((dist x y : Int) == 0) != (x == y)) = false := by
  by_cases h : x = y
  · have h0 := dist_zero.mpr h
    subst h
    rw [h0]
    simp
  · have h0 : dist x y ≠ 0 := fun e => h (dist_zero.mp e)
    have h1 : ((dist x y : Int) == 0) = false := by
      rw [beq_eq_false_iff_ne]
      intro e
      exact h0 (by omega)
    have h2 : (x == y) = false := beq_eq_false_iff_ne.mpr h
    rw [h1, h2]
    rfl
end
section
open PySem PySem.W PyProof.Rows PySem.Calls PySem.Spec PyProof.V
set_option maxRecDepth 100000
section
variable {prog : Program} {w : World} {A : Around} {E : Value → Shared → Prop} {s : Shared} {h₀ : Heap} {L : Addr} {m : Map} {env : Env} {K : Type} [DecidableEq K] {knd : PySem.KeyKind prog w K}
noncomputable def SrcTD (prog : Program) (w : World) (A : Around) (knd : PySem.KeyKind prog w K) (h₀ : Heap) (L : Addr) (m : Map) (env : Env) (ct elt : PySem.Expr) (x : Str) (scope : Scope) (cl : List (Str × Addr)) (Q : Value → Shared → Prop) (xv : Value) (s₁ : Shared) : Prop :=
  ∃ (d : Addr) (oT : Obj) (kvs : List (K × Value)) (news : Led), xv = .ref d ∧ A.handled = none ∧ Fr h₀ L s₁.heap m ∧ News h₀ L s₁.heap news ∧ (d, oT) ∈ news ∧ oT.IsDictOf knd kvs ∧ (d == sysModules) = false ∧ kvs.length ≤ sizeLine ∧
    ∀ g, LCt.CompRestT prog w A h₀ L m env ct elt x scope cl { s₁ with heap := g } (fun nw => (d, oT) ∈ nw) (fun i v => ∃ k x, kvs[i]? = some (k, x) ∧ knd.is k v = true) (LCg.FinE h₀ L m { s₁ with heap := g } Q) kvs.length 0 [] news
theorem ListComp_TD {ct elt iter : PySem.Expr} {x : Str} {px : Pos} {scope : Scope} {cl : List (Str × Addr)} {pos : Pos} {Q : Value → Shared → Prop} (F₁₀ : Fr h₀ L s.heap m)
    (hclos : closureFor scope env = pure cl) (hcell : ∀ y ∈ scope.names, y.2 ≠ .cell) (hkind : scope.kind = .function)
    (hnames : ∀ y ∈ scope.names, y.2 = .local → scope.names.lookup y.1 = some .local) (hx : scope.names.lookup x = some .local)
    (h : wpAny (model prog w) A (eval iter env) (SrcTD prog w A knd h₀ L m env ct elt x scope cl Q) E s)
    (hs : ∀ x, foldedSetIterable iter env x = pure x := by intro _; rfl) :
    wpAny (model prog w) A (eval (.ListComp elt [⟨.Name x px, iter, [ct], 0⟩] scope pos) env) Q E s := by
  rw [eval_ListComp]
  refine wpAny_comprehension_free (use := none) rfl hs hclos hkind hnames (wpAny_mono h (fun xv s₁ h₁ => ?_) fun _ _ e => e)
  obtain ⟨d, oT, kvs, news, rfl, hh, F, N, hm, hd, lo, hsz, R⟩ := h₁
  obtain ⟨ep, ha⟩ := KdkAt.of hd
  have hat := ha.dictAt (N _ hm).1
  have hlt : d < s₁.heap.objs.size := hat.lt_size
  refine wpAny_pyIter_dict lo hat ?_
  refine LCt.block_T (S := fun nw => (d, oT) ∈ nw) (Walks.dictKeys (knd := knd) hh s₁.heap.objs.size d (Nat.ne_of_lt hlt) kvs ep) hsz (fun i h st => by obtain ⟨o, e, _⟩ := st.1; exact ⟨o, e⟩)
    (fun i h h' o nw st e e' k N S => ⟨by obtain ⟨o', q, r⟩ := st.1; rw [e] at q; cases q; exact ⟨o, e', r⟩, ha.dictAt (N _ S).1⟩) hcell hkind hx ⟨⟨_, Heap.get?_push_size _ rfl, rfl, rfl⟩, hat.push _⟩ (fun b hb => ?_)
      (F.push _) (fun p hp => ⟨Heap.get?_push_of_some _ (N p hp).1, (N p hp).2⟩) (Nat.ne_of_lt F.ns.lt) (next_is_new F) (fun p hp => Nat.ne_of_lt (Heap.lt_size (N p hp).1)) hm (R _) ?_
  · show b < (s₁.heap.push _).objs.size
    rw [Heap.size_push]
    rcases List.mem_cons.mp hb with rfl | hb
    · exact Nat.lt_succ_self _
    · rw [List.mem_singleton.mp hb]; exact Nat.lt_succ_of_lt hlt
  · intro D C h tk m' ys news' F' N' o1 hn hC₀ hD₀ hCL hDL hCD offC fin
    refine ⟨m', hn, fun h'' hs'' => fin D h'' tk (F'.change hs'' hCL hC₀) (fun p hp => ?_) o1⟩
    refine ⟨hs''.extBut _ _ ?_ (N' p hp).1, (N' p hp).2⟩
    rcases List.mem_cons.mp hp with rfl | hp
    · exact Ne.symm hCD
    · exact offC p hp
end
end
section
open PySem PySem.W PyProof.Rows PySem.Calls PySem.Spec PyProof.V
set_option maxRecDepth 100000
theorem sorted_dict {prog : Program} {w : World} {A : Around} {E : Value → Shared → Prop} {s : Shared} {h₀ : Heap} {L d : Addr} {m : Map} {news : Led} {ob : Obj} {kv : List (Int × Value)} {Q : Value → Shared → Prop} (hh : A.handled = none) (F : Fr h₀ L s.heap m) (N : News h₀ L s.heap news) (hm : (d, ob) ∈ news) (hd : ob.IsDictOf (PySem.intKind prog w) kv) (lo : (d == sysModules) = false) (hn : kv.length < 64)
    (h : ∀ D vs' ns' c h' tk, Fr h₀ L h' m → News h₀ L h' ((D, W.listOf (List.toArray vs') c) :: news) → (∀ q ∈ news, q.1 < D) → IntsAre vs' ns' → ns'.Perm (kv.map (·.1)) → ns'.Pairwise (· ≤ ·) → Q (.ref D) { s with heap := h', toks := tk }) :
    wpAny (model prog w) A (call (.builtin "sorted") [.ref d]) Q E s := by
  obtain ⟨ep, ha⟩ := KdkAt.of hd
  have hat := ha.dictAt (N _ hm).1
  refine kdu_sorted (kdl_dict (knd := PySem.intKind prog w) lo) hh F N hat (by rw [sizeLine_eq]; omega) fun D h' tk vs F' N' l1 hl hv => ?_
  have hI : IntsAre vs (kv.map (·.1)) := ints_of_get (by rw [List.length_map]; exact hl) fun j v hj => by
    obtain ⟨k, x, hk, hi⟩ := hv j v hj
    obtain ⟨t, rfl⟩ := Value.isInt_shape hi
    exact ⟨t, by rw [List.getD_eq_getElem?_getD, List.getElem?_map, hk]; rfl⟩
  exact ksk_lsort (A := A.in1) (s := { s with heap := h', toks := tk }) F' N' (news' := fun o => (D, o) :: news) (fun o => .head fun p hp => Nat.ne_of_lt (l1 p hp)) rfl hI (by rw [List.length_map]; exact hn) fun vs' ns' c h'' F'' N'' hI' _ hp hs _ => h D vs' ns' c h'' tk F'' N'' l1 hI' hp hs
theorem rep_len {T : Str → List (Int × Str)} : ∀ {f : Fo Str}, RepF T f → ∀ v ∈ f.words, (T v).length ≤ f.size
  | .nil, _, _, h => nomatch h
  | .cons e w s r, ⟨a, b, c⟩, v, hv => by
    rw [Fo.size]
    rcases List.mem_cons.mp hv with q | q
    · rw [q, a]
      have := kids_size s
      omega
    · rcases List.mem_append.mp q with q | q
      · have := rep_len b v q
        omega
      · have := rep_len c v q
        omega
theorem kids_le {nds : List Nd} {ws : List Str} (hw : (nds.map (·.wd)).Nodup) (hwd : nds.map (·.wd) = ws) (hrep : ∀ r rest, ws = r :: rest → RepT (tabOf nds) r (bld r rest)) {n : Nd} (hn : n ∈ nds) : n.kids.length ≤ ws.length := by
  have hm : n.wd ∈ ws := by rw [← hwd]; exact List.mem_map_of_mem (f := (·.wd)) hn
  cases hws : ws with
  | nil => rw [hws] at hm; cases hm
  | cons r rest =>
    obtain ⟨h1, h2⟩ := hrep r rest hws
    have hp := bld_words r rest
    have hs : (bld r rest).size = rest.length := by rw [← size_words]; exact hp.length_eq
    rw [← tab_at hw hn, List.length_cons]
    rw [hws] at hm
    rcases List.mem_cons.mp hm with q | q
    · rw [q, h1]
      have := kids_size (bld r rest)
      omega
    · have := rep_len h2 n.wd (hp.mem_iff.mpr q)
      omega
end
section
open PySem PySem.W PyProof.Rows PySem.Calls PySem.Spec PyProof.V
set_option maxRecDepth 100000
section
variable {prog : Program} {w : World} {A : Around} {E : Value → Shared → Prop} {s : Shared} {env : Env} {h₀ : Heap} {target : PySem.Expr} {body : List Stmt} {Q : Flow → Shared → Prop}
theorem for_rangeT {r : Addr} {a₀ b₀ : Int} {t₀ u₀ v₀ : Tok} {n : Nat} {m₀ : Map} {news : Led} (J : Nat → Map → Led → Prop)
    (hgo : ∀ (it v : Value), letOwnedTupleGo target it v = pure ())
    (hh : A.handled = none) (hr : IsRange s.heap r a₀ b₀ 1 t₀ u₀ v₀) (hsmall : Builtin.Range.small a₀ b₀ 1 = true) (hn : Builtin.Range.rangeSize a₀ b₀ 1 = (n : Int)) (F : Fr h₀ env.locals s.heap m₀) (N : News h₀ env.locals s.heap news)
    (h0 : J 0 m₀ news)
    (turn : ∀ I i t m₁ news₁ it (s' : Shared) h tk, (∀ p ∈ news, p.1 < I) → i < n → J i m₁ news₁ → (∀ p ∈ news₁, p.1 ≠ I) → Fr h₀ env.locals h m₁ → News h₀ env.locals h ((I, it) :: news₁) →
      wpAny (model prog w) A (assign target env (.int (a₀ + (i : Int)) t)) (fun _ s₃ => wpAny (model prog w) A (execs body env) (StepT h₀ env.locals { s' with heap := h, toks := tk } I it (J (i + 1))) E s₃) E { s' with heap := h, toks := tk })
    (done : ∀ m₁ news₁ h tk, J n m₁ news₁ → Fr h₀ env.locals h m₁ → News h₀ env.locals h news₁ → Q .next { s with heap := h, toks := tk }) :
    wpAny (model prog w) A (pyIter (.ref r)) (fun it s₂ => LoopAtT prog w A h₀ env target body Q E it s₂) E s := by
  refine wpAny_pyIter_range hr hsmall ?_
  have W : Walks prog w A s.heap.objs.size [s.heap.objs.size] [s.heap.objs.size] n (fun i v => i < n ∧ ∃ t, v = .int (a₀ + i * 1) t)
      (fun i h => IsRangeIter h s.heap.objs.size (a₀ + (i : Nat) * 1) ((n : Int) - (i : Nat)) 1) := (Walks.range hh _ a₀ 1 n).bound
  have hnew := next_is_new F
  have hlow : ∀ p ∈ news, p.1 < s.heap.objs.size := fun p hp => Heap.lt_size (N p hp).1
  refine ⟨s.heap.objs.size, _, _, n, _, _, m₀, news, J, rfl, W, ?_, ?_, ?_, (by show IsRangeIter _ _ _ _ _; rw [hn]; simpa using Heap.get?_push_size _ rfl), F.push _, (fun p hp => ⟨Heap.get?_push_of_some _ (N p hp).1, (N p hp).2⟩), (fun i s' v Q' _ hQ' => by rw [hgo]; exact wpAny_pure hQ'), h0, ?_, ?_⟩
  · intro hm
    exact absurd F.ns.lt ((List.mem_singleton.mp hm) ▸ Nat.lt_irrefl _)
  · intro b hb
    rw [List.mem_singleton.mp hb]
    exact hnew
  · intro p hp hI
    exact absurd (Heap.lt_size (N p hp).1) ((List.mem_singleton.mp hI) ▸ Nat.lt_irrefl _)
  · rintro i v m₁ news₁ s₁ own hin ⟨_, t, rfl⟩ hJ hoff hown hget hall hst F₁ N₁
    obtain ⟨it, hit⟩ : ∃ o, s₁.heap.get? s.heap.objs.size = some o := ⟨_, hst⟩
    have hmem := hall s.heap.objs.size (List.mem_singleton.mpr rfl) hnew _ hit
    have N₂ : News h₀ env.locals s₁.heap ((s.heap.objs.size, it) :: news₁) := fun p hp => by
      rcases List.mem_cons.mp hp with e | hp
      · rw [e]; exact N₁ _ (List.mem_append_left _ hmem)
      · exact N₁ _ (List.mem_append_right _ hp)
    have e1 : a₀ + (i : Int) * 1 = a₀ + (i : Int) := by rw [Int.mul_one]
    rw [e1]
    refine wpAny_mono (turn s.heap.objs.size i t m₁ news₁ it s₁ s₁.heap s₁.toks hlow hin hJ (fun p hp e => hoff p hp (by rw [e]; exact List.mem_singleton.mpr rfl)) F₁ N₂) (fun _ s₂ h₂ => wpAny_mono h₂ (fun f s₃ h₃ => ?_) fun _ _ e => e) fun _ _ e => e
    obtain ⟨rfl, h₃', tk₃, m₂, news₂, rfl, F₃, N₃, off, hJ₃⟩ := h₃
    refine ⟨rfl, h₃', tk₃, m₂, news₂, rfl, F₃, fun p hp => ?_, fun p hp e => off p hp (List.mem_singleton.mp e), hJ₃⟩
    rcases List.mem_append.mp hp with hp | hp
    · have e := List.mem_singleton.mp (hown p hp)
      have h2 := hget p hp
      rw [e] at h2
      have : p = (s.heap.objs.size, it) := Prod.ext e (Option.some.inj (h2.symm.trans hit))
      rw [this]; exact N₃ _ (.head _)
    · exact N₃ _ (.tail _ hp)
  · rintro h' tk m' news' F' N' _ hJ
    exact done m' news' h' tk hJ F' N'
end
end
section
open PySem PySem.W PyProof.Rows PySem.Calls PySem.Spec PyProof.V
theorem le_of_lt {x y : Str} (h : ltCps y.cps.toList x.cps.toList = false) : x.cps.toList ≤ y.cps.toList := by
  rw [ltCps_eq, decide_eq_false_iff_not] at h
  exact List.not_lt.mp h
theorem rising_pair : ∀ (l : List Str) (p : Str), risingS p l = true → (p :: l).Pairwise fun x y => x.cps.toList ≤ y.cps.toList
  | [], p, _ => by simp
  | x :: r, p, h => by
    rw [risingS, Bool.and_eq_true] at h
    have h1 : p.cps.toList ≤ x.cps.toList := le_of_lt (by simpa using h.1)
    have h2 := rising_pair r x h.2
    refine List.pairwise_cons.mpr ⟨fun y hy => ?_, h2⟩
    rcases List.mem_cons.mp hy with e | hy
    · rw [e]; exact h1
    · exact List.le_trans h1 ((List.pairwise_cons.mp h2).1 y hy)
theorem sorted_pair {l : List Str} (h : sortedS l = true) : l.Pairwise fun x y => x.cps.toList ≤ y.cps.toList := by
  cases l with
  | nil => exact .nil
  | cons x r => exact rising_pair r x h
theorem sorted_uniq : ∀ {l m : List Str}, l.Perm m → (l.Pairwise fun x y => x.cps.toList ≤ y.cps.toList) → (m.Pairwise fun x y => x.cps.toList ≤ y.cps.toList) → l = m
  | [], m, p, _, _ => (List.nil_perm.mp p).symm
  | x :: r, [], p, _, _ => absurd p.length_eq (by simp)
  | x :: r, y :: t, p, ha, hb => by
    have e : x = y := by
      have hx := p.mem_iff.mp (List.mem_cons_self (a := x) (l := r))
      have hy := p.mem_iff.mpr (List.mem_cons_self (a := y) (l := t))
      rcases List.mem_cons.mp hx with h | h
      · exact h
      · rcases List.mem_cons.mp hy with h' | h'
        · exact h'.symm
        · exact str_ext (List.le_antisymm ((List.pairwise_cons.mp ha).1 y h') ((List.pairwise_cons.mp hb).1 x h))
    subst e
    rw [sorted_uniq (List.Perm.cons_inv p) (List.pairwise_cons.mp ha).2 (List.pairwise_cons.mp hb).2]
end
section
open PySem PySem.W PyProof.Rows PySem.Calls PySem.Spec PyProof.V
set_option maxRecDepth 100000
def Mk9 : Prop := True
local macro_rules | `(tactic| walk_at "exec For") => `(tactic| refine Stop.of ?_)
local macro_rules | `(tactic| walk_at "w") => `(tactic| repeat' (first | ((with_reducible show wpAny _ _ (call (Value.ref _) _) _ _ _); walk_at "call ref"; (try dsimp only)) | (k_unfold; (try dsimp only)) | (walk1; (try dsimp only)) | (dsimp only; walk1) | fail "no step"))
local macro_rules | `(tactic| walk_at "subscriptTail Name Slice ref ref") => `(tactic| refine Stop.of ?_)
local macro_rules | `(tactic| walk_at "call builtin:list.append") => `(tactic| refine Stop.of ?_)
local macro_rules | `(tactic| walk_at "compareOp NotIn str ref") => `(tactic| refine Stop.of ?_)
local macro_rules | `(tactic| walk_at "UnrEnd") => `(tactic| refine Stop.of ?_)
local macro_rules | `(tactic| walk_at "call ref") => `(tactic| ((with_reducible show wpAny _ _ (call (Value.ref _) _) _ _ _); refine Stop.of ?_))
local macro_rules | `(tactic| walk_at "call ref") => `(tactic| ((with_reducible show wpAny _ _ (call (Value.ref 69) _) _ _ _); k_dflt (refine' Spec.goI (S := far_spec _ _ _ _ _ _ (by assumption) (by assumption)) (ret := ?_)); intro h' tk' F' N' t'; (try dsimp only)))
local macro_rules | `(tactic| walk_at "call ref") => `(tactic| ((with_reducible show wpAny _ _ (call (Value.ref 62) _) _ _ _); k_dflt (refine' Spec.goS (S := word_spec _ _ _ _) (ret := ?_)); intro h' tk' F' N' x' t' hg'; (try dsimp only)))
local macro_rules | `(tactic| walk_at "eval Name") => `(tactic| ((with_reducible show wpAny _ _ (eval (Expr.Name _ _) (envOfC _ _ _ _ _)) _ _ _); (with_reducible rename Fr _ _ _ _ => kF); k_dflt (refine' nameG_K (K := Mine.hd.heap_39 _) kF (by k_asm) (by k_asm) (by k_is) ?_ rfl rfl rfl (by decide)); k_whole))
local macro_rules | `(tactic| walk_at "binaryOp Add ref ref") => `(tactic| refine Stop.of ?_)
local macro_rules | `(tactic| walk_at "exec If") => `(tactic| ((with_reducible rename Mk9 => hM9x); clear hM9x; refine Stop.of ?_))
local macro_rules | `(tactic| walk_at "eval ListComp") => `(tactic| refine Stop.of ?_)
local macro_rules | `(tactic| walk_at "CompEnd") => `(tactic| refine Stop.of ?_)
local macro_rules | `(tactic| walk_at "compareOp Eq ref ref") => `(tactic| refine Stop.of ?_)
local macro_rules | `(tactic| walk_at "call builtin:sorted") => `(tactic| refine Stop.of ?_)
local macro_rules | `(tactic| walk_at "call builtin:min") => `(tactic| refine Stop.of ?_)
local macro_rules | `(tactic| walk_at "exec For Name Call") => `(tactic| refine Stop.of ?_)
local macro_rules | `(tactic| walk_at "exec Assign cons ListComp") => `(tactic| refine Stop.of ?_)
theorem good_snoc {ws : List Str} {x : Str} (h : ∀ y ∈ ws, Good y) (hx : Good x) : ∀ y ∈ ws ++ [x], Good y := fun y hy => (List.mem_append.mp hy).elim (h y) fun e => by rw [List.mem_singleton.mp e]; exact hx
theorem nodup_snoc {ws : List Str} {x : Str} (h : ws.Nodup) (hb : ws.any (· == x) = false) : (ws ++ [x]).Nodup := by
  refine List.nodup_append.mpr ⟨h, by simp, fun a ha b hb' e => ?_⟩
  rw [List.mem_singleton.mp hb'] at e
  have := List.any_eq_false.mp hb a ha
  exact this (by rw [e]; exact beq_self_eq_true x)
theorem allLt_addr {d : Addr} {l l' : Led} (h : AllLt d l) (e : l.map (·.1) = l'.map (·.1)) : ∀ p ∈ l', p.1 < d := fun p hp => by
  have h1 : p.1 ∈ l'.map (·.1) := List.mem_map_of_mem hp
  rw [← e] at h1
  obtain ⟨q, hq, eq⟩ := List.mem_map.mp h1
  rw [← eq]
  exact allLt h q hq
theorem pick_take5 (vs : List Value) : slicePick vs.toArray none (some 5) none = (vs.take 5).toArray := by
  have e : sliceBounds none (some 5) none vs.toArray.size = (((0 : Nat) : Int), ((min 5 vs.toArray.size : Nat) : Int), 1) := by
    simp only [sliceBounds, Option.getD_none, show (1 : Int) > 0 by decide, if_true, if_neg (show ¬ ((5 : Int) < 0) by omega)]
    congr 1
    congr 1
    omega
  rw [kmk_pick_nat _ e]
  show ((vs.drop 0).take (min 5 vs.toArray.size - 0)).toArray = _
  rw [List.drop_zero, Nat.sub_zero, List.size_toArray, kmk_take_min]
theorem eq_strs {prog : Program} {w : World} {A : Around} {E : Value → Shared → Prop} {s : Shared} {a b : Addr} {xs ys : List Value} {ns ms : List Str} {Q : Value → Shared → Prop} (ha : s.heap.IsList a xs.toArray) (hb : s.heap.IsList b ys.toArray) (hi : StrsAre xs ns) (hj : StrsAre ys ms) (hx : ∀ x ∈ ns, Lets x) (hy : ∀ x ∈ ms, Lets x) (hu : A.units + 64 < cLine) (e : Bool) (he : decide (ns = ms) = e) (h : Q (.bool e) s) :
    wpAny (model prog w) A (compareOp .Eq (.ref a) (.ref b)) Q E s :=
  eq_dataH_same (reads_newData ha (str_carried hi)) (reads_newData hb (str_carried hj)) (str_shaped hx) (str_shaped hy) hu (SeqAt.noMix_of_shape (.list .str) rfl _ _ (list_map_has fun _ => rfl) (list_map_has fun _ => rfl)) (by rw [str_same, he]; exact h)
theorem ints_app : ∀ {vs us : List Value} {ns ms : List Int}, IntsAre vs ns → IntsAre us ms → IntsAre (vs ++ us) (ns ++ ms)
  | _, _, _, _, .nil, h => h
  | _, _, _, _, .cons n t r, h => .cons n t (ints_app r h)
theorem clo_snoc (a : Str) (b : Int) (l : List Str) (x : Str) : clo a b (l ++ [x]) = if DI x a ≤ b then clo a b l ++ [x] else clo a b l := by
  rw [clo_append]
  by_cases h : DI x a ≤ b
  · rw [if_pos h]; simp [clo, h]
  · rw [if_neg h]; simp [clo, h]
theorem bld_ok (r : Str) (l : List Str) : OkF DI r (bld r l) := by
  have key : ∀ (l : List Str) (f : Fo Str), OkF DI r f → OkF DI r (l.foldl (fun f x => f.ins DI x (DI r x)) f) := by
    intro l
    induction l with
    | nil => exact fun f h => h
    | cons x l ih => exact fun f h => ih _ (ok_ins DI h)
  exact key l .nil trivial
set_option maxHeartbeats 0 in
theorem law0 : PySem.Challenge.rw_zt0002_01.Holds := hd (by
  k_go0
  (all_goals try k_fold)
  walk_at "w"
  rename_i w s₀ s₁ mg mb G Y fa o pm doc ho hg KX X V GL T B TE TW wM oM M wQ wC hcd sns hs hlay0 hLay hr hl2 wa wb sc svs wcs hLs ra w1 r0 hIs hr2 hcn hcn2 K0 hD h1 tk1 c6 c5 c4 c3 c2 c1 e6 e5 e4 e3 e2 e1 X0 wl hh1 lA hh2 F1 N1
  have TR := topRead_of T
  replace e6 := e6.trans (b := Data.cell none) (by rfl)
  replace e5 := e5.trans (b := Data.cell none) (by rfl)
  replace e4 := e4.trans (b := Data.cell none) (by rfl)
  replace e3 := e3.trans (b := Data.cell none) (by rfl)
  replace e2 := e2.trans (b := Data.cell none) (by rfl)
  replace e1 := e1.trans (b := Data.cell none) (by rfl)
  refine Stop.go (exec_cut F1 (fun m nw => ∃ (wvs : List Value) (c : Nat) (ws : List Str) (u : Map), m = kstB u [(Str.ofString "script", .ref sc), (Str.ofString "words", .ref wl)] ∧ nw = (wl, PySem.W.listOf wvs.toArray c) :: [(s₁.heap.objs.size + 1 + 1 + 1 + 1 + 1 + 1, c6), (s₁.heap.objs.size + 1 + 1 + 1 + 1 + 1, c5), (s₁.heap.objs.size + 1 + 1 + 1 + 1, c4), (s₁.heap.objs.size + 1 + 1 + 1, c3), (s₁.heap.objs.size + 1 + 1, c2), (s₁.heap.objs.size + 1, c1)] ∧ StrsAre wvs ws ∧ (∀ x ∈ ws, Good x) ∧ ws.Nodup ∧ ws.length ≤ 9) ?_ ?_)
  · with_unfolding_all refine' For_invVF F1 ?k1G0 ?k2G0 ?_
    case k1G0 => exact rfl
    case k2G0 => exact rfl
    walk_at "w"
    with_reducible rename Fr _ _ _ _ => F3
    with_reducible rename News _ _ _ _ => N3
    refine Stop.go ?_
    k_dflt (refine' kmk_slice_ints (s := PySem.Shared.mk _ _ _ _ _) ?kFG0 ?kNG0 ?klG0 ?kpG0 ?kqG0 ?kiG0 ?kmG0 ?kcG0 ?_ ?ksG0 ?ktG0 ?kzG0; (case kFG0 => exact F3); (case kNG0 => exact N3); (case klG0 => kmk_list); (case kpG0 => exact IsPart.none); (case kqG0 => exact IsPart.int _ _); (case kiG0 => exact hIs); (case kmG0 => exact kmk_upto hIs (by decide)); (case kcG0 => rfl); (case kzG0 => rw [List.size_toArray, sizeLine_eq, hIs.length]; omega); (case ksG0 => with_unfolding_all rfl); (case ktG0 => (intro _; with_unfolding_all rfl)))
    intro sl ivs h11 F11 N11 l11 hIv _ _
    clear F3 N3
    have hlen := hIv.length
    have h9 : (List.take (Int.toNat 9) sns).length ≤ 9 := by rw [List.length_take]; exact Nat.min_le_left _ _
    generalize List.take (Int.toNat 9) sns = ins at hIv hlen h9
    have hslw : sl ≠ wl := Nat.ne_of_gt (l11 _ (.head _))
    have hwlC : ∀ p ∈ [(s₁.heap.objs.size + 1 + 1 + 1 + 1 + 1 + 1, c6), (s₁.heap.objs.size + 1 + 1 + 1 + 1 + 1, c5), (s₁.heap.objs.size + 1 + 1 + 1 + 1, c4), (s₁.heap.objs.size + 1 + 1 + 1, c3), (s₁.heap.objs.size + 1 + 1, c2), (s₁.heap.objs.size + 1, c1)], p.1 ≠ wl := fun p hp => Nat.ne_of_lt (allLt (show AllLt wl [(s₁.heap.objs.size + 1 + 1 + 1 + 1 + 1 + 1, c6), (s₁.heap.objs.size + 1 + 1 + 1 + 1 + 1, c5), (s₁.heap.objs.size + 1 + 1 + 1 + 1, c4), (s₁.heap.objs.size + 1 + 1 + 1, c3), (s₁.heap.objs.size + 1 + 1, c2), (s₁.heap.objs.size + 1, c1)] from ⟨lA.1, lA.2.1, lA.2.2.1, lA.2.2.2.1, lA.2.2.2.2.1, lA.2.2.2.2.2, trivial⟩) p hp)
    have hslC : ∀ p ∈ [(s₁.heap.objs.size + 1 + 1 + 1 + 1 + 1 + 1, c6), (s₁.heap.objs.size + 1 + 1 + 1 + 1 + 1, c5), (s₁.heap.objs.size + 1 + 1 + 1 + 1, c4), (s₁.heap.objs.size + 1 + 1 + 1, c3), (s₁.heap.objs.size + 1 + 1, c2), (s₁.heap.objs.size + 1, c1)], p.1 ≠ sl := fun p hp => Nat.ne_of_lt (l11 p (.tail _ hp))
    clear l11
    walk_at "w"
    with_reducible rename Fr _ _ _ _ => F12
    with_reducible rename News _ _ _ _ => N12
    refine Stop.go (for_list (fun i m nw => ∃ (wvs : List Value) (c : Nat) (ws : List Str) (u : Map), m = kstB u [(Str.ofString "script", .ref sc), (Str.ofString "words", .ref wl)] ∧ nw = (wl, PySem.W.listOf wvs.toArray c) :: (sl, PySem.W.listOf ivs.toArray 0) :: [(s₁.heap.objs.size + 1 + 1 + 1 + 1 + 1 + 1, c6), (s₁.heap.objs.size + 1 + 1 + 1 + 1 + 1, c5), (s₁.heap.objs.size + 1 + 1 + 1 + 1, c4), (s₁.heap.objs.size + 1 + 1 + 1, c3), (s₁.heap.objs.size + 1 + 1, c2), (s₁.heap.objs.size + 1, c1)] ∧ StrsAre wvs ws ∧ (∀ x ∈ ws, Good x) ∧ ws.Nodup ∧ ws.length ≤ i) (by rfl) F12 (News.sub (l' := (wl, PySem.W.listOf ([] : List Value).toArray 0) :: (sl, PySem.W.listOf ivs.toArray 0) :: [(s₁.heap.objs.size + 1 + 1 + 1 + 1 + 1 + 1, c6), (s₁.heap.objs.size + 1 + 1 + 1 + 1 + 1, c5), (s₁.heap.objs.size + 1 + 1 + 1 + 1, c4), (s₁.heap.objs.size + 1 + 1 + 1, c3), (s₁.heap.objs.size + 1 + 1, c2), (s₁.heap.objs.size + 1, c1)]) N12 (by (intro q hq; rcases List.mem_cons.mp hq with e | hq; (rw [e]; exact .tail _ (.head _)); (rcases List.mem_cons.mp hq with e | hq; (rw [e]; exact .head _); exact .tail _ (.tail _ hq))))) (.tail _ (.head _)) rfl rfl ?_ ?_ ?_)
    · exact ⟨[], 0, [], _, norm ⟨rfl, rfl, trivial⟩, rfl, .nil, (fun _ h => nomatch h), .nil, Nat.le_refl _⟩
    · rintro I i v m₁ news₁ it h tk hI hv ⟨wvs, c, ws, u, rfl, rfl, hW, hG, hN, hL⟩ hml ho hit F13 N13
      dsimp only [kstB] at F13
      clear F12 N12
      obtain ⟨k, tn, rfl, hik⟩ := ints_item hIv i v hv
      walk_at "w"
      with_reducible rename Good _ => hGx
      with_reducible rename Fr _ _ _ _ => F14
      with_reducible rename News _ _ _ _ => N14
      have hIw := ho _ (.head _)
      dsimp only at hIw
      refine Stop.go (notin_list_strs (isL N14 (.tail _ (.head _))) hW ?_)
      generalize hb : List.any ws _ = bb
      cases bb with
      | true =>
        (try k_unmd); (try dsimp only)
        walk_at "w"
        with_reducible rename Fr _ _ _ _ => F15
        with_reducible rename News _ _ _ _ => N15
        refine Stop.go ?_
        refine unrEnd ((wl, PySem.W.listOf wvs.toArray c) :: (sl, PySem.W.listOf ivs.toArray 0) :: [(s₁.heap.objs.size + 1 + 1 + 1 + 1 + 1 + 1, c6), (s₁.heap.objs.size + 1 + 1 + 1 + 1 + 1, c5), (s₁.heap.objs.size + 1 + 1 + 1 + 1, c4), (s₁.heap.objs.size + 1 + 1 + 1, c3), (s₁.heap.objs.size + 1 + 1, c2), (s₁.heap.objs.size + 1, c1)]) F15 N15 (.head _) (fun p hp => .tail _ hp) (off1 hIw fun p hp => ho p (.tail _ hp)) ?_
        exact ⟨.tail _ (.head _), _, _, _, _, norm ⟨rfl, rfl, trivial⟩, rfl, hW, hG, hN, Nat.le_succ_of_le hL⟩
      | false =>
        (try k_unmd); (try dsimp only)
        walk_at "w"
        with_reducible rename Fr _ _ _ _ => F15
        with_reducible rename News _ _ _ _ => N15
        refine Stop.go (append_L (vs := wvs) (n := c) (news' := (I, it) :: (wl, PySem.W.listOf (wvs ++ [_]).toArray (c + 1)) :: (sl, PySem.W.listOf ivs.toArray 0) :: [(s₁.heap.objs.size + 1 + 1 + 1 + 1 + 1 + 1, c6), (s₁.heap.objs.size + 1 + 1 + 1 + 1 + 1, c5), (s₁.heap.objs.size + 1 + 1 + 1 + 1, c4), (s₁.heap.objs.size + 1 + 1 + 1, c3), (s₁.heap.objs.size + 1 + 1, c2), (s₁.heap.objs.size + 1, c1)]) F15 N15 (.tail hIw.symm (.head (off1 hslw hwlC))) (by have := hW.len_eq; have := (List.getElem?_eq_some_iff.mp hv).1; omega) ?_)
        intro h16 F16 N16
        clear F15 N15
        walk_at "w"
        with_reducible rename Fr _ _ _ _ => F17
        with_reducible rename News _ _ _ _ => N17
        refine Stop.go ?_
        refine unrEnd ((wl, PySem.W.listOf (wvs ++ [_]).toArray (c + 1)) :: (sl, PySem.W.listOf ivs.toArray 0) :: [(s₁.heap.objs.size + 1 + 1 + 1 + 1 + 1 + 1, c6), (s₁.heap.objs.size + 1 + 1 + 1 + 1 + 1, c5), (s₁.heap.objs.size + 1 + 1 + 1 + 1, c4), (s₁.heap.objs.size + 1 + 1 + 1, c3), (s₁.heap.objs.size + 1 + 1, c2), (s₁.heap.objs.size + 1, c1)]) F17 N17 (.head _) (fun p hp => .tail _ hp) (off1 hIw fun p hp => ho p (.tail _ hp)) ?_
        exact ⟨.tail _ (.head _), _, _, _, _, norm ⟨rfl, rfl, trivial⟩, rfl, StrsAre.append' hW (.cons _ _ .nil), good_snoc hG hGx, nodup_snoc hN hb, by rw [List.length_append]; exact Nat.succ_le_succ hL⟩
    · rintro m₁ news₁ h tk ⟨wvs, c, ws, u, rfl, rfl, hW, hG, hN, hL⟩ F13 N13
      dsimp only [kstB] at F13
      clear F12 N12
      walk_at "w"
      exact CutQ.intro F13 (News.sub N13 (by (intro q hq; rcases List.mem_cons.mp hq with e | hq; (rw [e]; exact .head _); exact .tail _ (.tail _ hq)))) ⟨wvs, c, ws, _, norm ⟨rfl, rfl, trivial⟩, rfl, hW, hG, hN, by omega⟩
  · rintro m nw h2 tk2 ⟨wvs, c, ws, u, rfl, rfl, hW, hG, hN, hL⟩ F2 N2
    dsimp only [kstB] at F2
    clear F1 N1
    walk_at "w"
    rename_i a ta hGa _ oA F3 N3 dA
    have hM9 : Mk9 := trivial
    refine Stop.go (exec_cut F3 (fun m nw => ∃ (d2 d3 d4 d5 d6 : Obj) (v2 v3 v4 v5 v6 : Option Value) (u : Map), m = kstB u [(Str.ofString "script", .ref sc), (Str.ofString "words", .ref wl)] ∧ nw = (wl, PySem.W.listOf wvs.toArray c) :: [(s₁.heap.objs.size + 1 + 1 + 1 + 1 + 1 + 1, d6), (s₁.heap.objs.size + 1 + 1 + 1 + 1 + 1, d5), (s₁.heap.objs.size + 1 + 1 + 1 + 1, d4), (s₁.heap.objs.size + 1 + 1 + 1, d3), (s₁.heap.objs.size + 1 + 1, d2), (s₁.heap.objs.size + 1, oA)] ∧ d2.data = .cell v2 ∧ d3.data = .cell v3 ∧ d4.data = .cell v4 ∧ d5.data = .cell v5 ∧ d6.data = .cell v6) ?_ ?_)
    · refine For_invTF F3 ?_ (fun _ => rfl)
      walk_at "w"
      with_reducible rename Fr _ _ _ _ => F4
      with_reducible rename News _ _ _ _ => N4
      refine Stop.go ?_
      k_dflt (refine' kmk_slice (s := PySem.Shared.mk _ _ _ _ _) ?kFG1 ?kNG1 ?klG1 ?kpG1 ?kqG1 ?_ ?ksG1 ?ktG1 ?kzG1; (case kFG1 => exact F4); (case kNG1 => exact N4); (case klG1 => exact isL N4 (.head _)); (case kpG1 => exact IsPart.none); (case kqG1 => exact IsPart.int _ _); (case kzG1 => rw [List.size_toArray, sizeLine_eq, hW.len_eq]; omega); (case ksG1 => with_unfolding_all rfl); (case ktG1 => (intro _; with_unfolding_all rfl)))
      intro s5 h5 F5 N5 l5
      rw [pick_take5] at N5
      clear F4 N4
      walk_at "w"
      with_reducible rename Fr _ _ _ _ => F6
      with_reducible rename News _ _ _ _ => N6
      have hT1 : StrsAre (wvs.take 5 ++ [Value.str a ta]) (ws.take 5 ++ [a]) := StrsAre.append' (hW.take' 5) (.cons _ _ .nil)
      have hG1 : ∀ x ∈ ws.take 5 ++ [a], Good x := good_snoc (fun y hy => hG y (List.mem_of_mem_take hy)) hGa
      have hz1 : (wvs.take 5).toArray.toList.length + (#[Value.str a ta] : Array Value).toList.length ≤ sizeLine := by
        rw [sizeLine_eq]
        have := List.length_take_le 5 wvs
        simp only [List.toList_toArray, List.length_cons, List.length_nil]
        omega
      refine Stop.go ?_
      k_dflt (refine' kmk_add_lit (s := PySem.Shared.mk _ _ _ _ _) (zs := wvs.take 5 ++ [Value.str a ta]) ?kFG1 ?kNG1 ?kaG1 ?kbG1 ?keG1 ?_ ?kzG1; (case kFG1 => exact F6); (case kNG1 => exact N6); (case kaG1 => exact isL N6 (.tail _ (.head _))); (case kbG1 => exact isL N6 (.head _)); (case keG1 => rfl); (case kzG1 => exact hz1))
      intro tl1 h7 F7 N7 l7
      clear F6 N6
      have l7' := allLt_of l7
      simp only [AllLt, and_true] at l7'
      clear l7
      walk_at "w"
      with_reducible rename Fr _ _ _ _ => F8
      with_reducible rename News _ _ _ _ => N8
      refine Stop.go (for_listT (fun i m nw => ∃ (d2 d3 d4 d5 d6 : Obj) (v2 v3 v4 v5 v6 : Option Value) (u : Map), m = kstB u [(Str.ofString "script", .ref sc), (Str.ofString "words", .ref wl)] ∧ nw = (tl1, PySem.W.listOf (wvs.take 5 ++ [Value.str a ta]).toArray 0) :: (wl, PySem.W.listOf wvs.toArray c) :: [(s₁.heap.objs.size + 1 + 1 + 1 + 1 + 1 + 1, d6), (s₁.heap.objs.size + 1 + 1 + 1 + 1 + 1, d5), (s₁.heap.objs.size + 1 + 1 + 1 + 1, d4), (s₁.heap.objs.size + 1 + 1 + 1, d3), (s₁.heap.objs.size + 1 + 1, d2), (s₁.heap.objs.size + 1, oA)] ∧ d2.data = .cell v2 ∧ d3.data = .cell v3 ∧ d4.data = .cell v4 ∧ d5.data = .cell v5 ∧ d6.data = .cell v6) (by rfl) F8 (News.sub N8 (by (intro q hq; rcases List.mem_cons.mp hq with e | hq; (rw [e]; exact .head _); exact .tail _ (.tail _ (.tail _ hq))))) (.head _) rfl rfl ?_ ?_ ?_)
      · exact ⟨_, _, _, _, _, _, _, _, _, _, _, norm ⟨rfl, rfl, trivial⟩, rfl, e2, e3, e4, e5, e6⟩
      · rintro I i v m₁ news₁ it s' h tk hI hv ⟨d2, d3, d4, d5, d6, v2, v3, v4, v5, v6, u1, rfl, rfl, g2, g3, g4, g5, g6⟩ hml ho F9 N9
        dsimp only [kstB] at F9
        clear F8 N8
        have lI := allLt_of hI
        simp only [AllLt, and_true] at lI
        obtain ⟨x1, t1, rfl, hx1⟩ := StrsAre.item hT1 i v hv
        have hg1 : Good x1 := hG1 x1 (List.mem_of_getElem? hx1)
        have lI0 := allLt_of hI
        walk_at "w"
        rename_i _ o2 F10 N10 k2
        refine Stop.go ?_
        refine For_invTF F10 ?_ (fun _ => rfl)
        walk_at "w"
        with_reducible rename Fr _ _ _ _ => F4
        with_reducible rename News _ _ _ _ => N4
        refine Stop.go ?_
        k_dflt (refine' kmk_slice (s := PySem.Shared.mk _ _ _ _ _) ?kFG1 ?kNG1 ?klG1 ?kpG1 ?kqG1 ?_ ?ksG1 ?ktG1 ?kzG1; (case kFG1 => exact F4); (case kNG1 => exact N4); (case klG1 => exact isL N4 (.tail _ (.tail _ (.head _)))); (case kpG1 => exact IsPart.none); (case kqG1 => exact IsPart.int _ _); (case kzG1 => rw [List.size_toArray, sizeLine_eq, hW.len_eq]; omega); (case ksG1 => with_unfolding_all rfl); (case ktG1 => (intro _; with_unfolding_all rfl)))
        intro s15 h15 F5 N5 l15
        rw [pick_take5] at N5
        clear F4 N4
        walk_at "w"
        with_reducible rename Fr _ _ _ _ => F6
        with_reducible rename News _ _ _ _ => N6
        refine Stop.go ?_
        k_dflt (refine' kmk_add_lit (s := PySem.Shared.mk _ _ _ _ _) (zs := wvs.take 5 ++ [Value.str a ta]) ?kFG1 ?kNG1 ?kaG1 ?kbG1 ?keG1 ?_ ?kzG1; (case kFG1 => exact F6); (case kNG1 => exact N6); (case kaG1 => exact isL N6 (.tail _ (.head _))); (case kbG1 => exact isL N6 (.head _)); (case keG1 => rfl); (case kzG1 => exact hz1))
        intro tl2 h17 F7 N7 l17
        clear F6 N6
        have l17' := allLt_of l17
        simp only [AllLt, and_true] at l17'
        clear l17
        walk_at "w"
        with_reducible rename Fr _ _ _ _ => F8
        with_reducible rename News _ _ _ _ => N8
        refine Stop.go (for_listT (fun i m nw => ∃ (d3 d4 d5 d6 : Obj) (v3 v4 v5 v6 : Option Value) (u : Map), m = kstB u [(Str.ofString "script", .ref sc), (Str.ofString "words", .ref wl)] ∧ nw = (tl2, PySem.W.listOf (wvs.take 5 ++ [Value.str a ta]).toArray 0) :: (I, it) :: (tl1, PySem.W.listOf (wvs.take 5 ++ [Value.str a ta]).toArray 0) :: (wl, PySem.W.listOf wvs.toArray c) :: [(s₁.heap.objs.size + 1 + 1 + 1 + 1 + 1 + 1, d6), (s₁.heap.objs.size + 1 + 1 + 1 + 1 + 1, d5), (s₁.heap.objs.size + 1 + 1 + 1 + 1, d4), (s₁.heap.objs.size + 1 + 1 + 1, d3), (s₁.heap.objs.size + 1 + 1, o2), (s₁.heap.objs.size + 1, oA)] ∧ d3.data = .cell v3 ∧ d4.data = .cell v4 ∧ d5.data = .cell v5 ∧ d6.data = .cell v6) (by rfl) F8 (News.sub N8 (by (intro q hq; rcases List.mem_cons.mp hq with e | hq; (rw [e]; exact .head _); exact .tail _ (.tail _ (.tail _ hq))))) (.head _) rfl rfl ?_ ?_ ?_)
        · exact ⟨_, _, _, _, _, _, _, _, _, norm ⟨rfl, rfl, trivial⟩, rfl, g3, g4, g5, g6⟩
        · rintro I2 i2 v2' m₁ news₁ it2 s'' h tk hI2 hv2 ⟨d3, d4, d5, d6, v3, v4, v5, v6, u1, rfl, rfl, g3, g4, g5, g6⟩ hml2 ho2 F9 N9
          dsimp only [kstB] at F9
          clear F8 N8
          have lJ0 := allLt_of hI2
          have lJ := lJ0
          simp only [AllLt, and_true] at lJ
          obtain ⟨x2, t2, rfl, hx2⟩ := StrsAre.item hT1 i2 v2' hv2
          have hg2 : Good x2 := hG1 x2 (List.mem_of_getElem? hx2)
          walk_at "w"
          refine Stop.go ?_
          walk_at "w"
          · exfalso
            with_reducible rename (_ != _) = true => hx
            rw [dead1] at hx
            cases hx
          · exfalso
            with_reducible rename _ ≠ _ => hx
            exact hx (DI_comm x1 x2)
          · with_reducible rename Fr _ _ _ _ => F11
            with_reducible rename News _ _ _ _ => N11
            refine Stop.go ?_
            k_dflt (refine LCt.ListComp_T (F₀ := F11) (by with_unfolding_all rfl) (by decide) (by rfl) (by decide) (by rfl) ?_)
            walk_at "w"
            refine LCt.CompSrcT.ledger (by rfl) F11 N11 (its := wvs.toArray) (k := c) (.tail _ (.tail _ (.tail _ (.tail _ (.head _))))) (by rw [List.size_toArray, sizeLine_eq, hW.len_eq]; omega) ?_
            intro g'
            refine restT_inv (fun _ ys => ys = []) rfl ?_ ?_
            · intro i3 v3' ys I3 oI3 C3 oC3 D3 m3 h3 tk3 E3 hi3 hv3 hys hC3 hx3 F12 N12 off3 ne3
              subst hys
              obtain ⟨x3, t3, rfl, hx3'⟩ := StrsAre.item hW i3 v3' (by simpa using hv3)
              have hg3 : Good x3 := hG x3 (List.mem_of_getElem? hx3')
              have off0 := off3
              (try simp only [LCg.Off3, and_true] at off3)
              walk_at "w"
              · exfalso
                have : (dist x1 x2 : Int) ≤ (dist x1 x3 : Int) + (dist x3 x2 : Int) := DI_tri x1 x3 x2
                omega
              · with_reducible rename Fr _ _ _ _ => F15
                with_reducible rename News _ _ _ _ => N15
                refine Stop.go ?_
                exact LCg.CompEnd.intro F15 N15 _ (fun p hp => hp) off0 (.inr ⟨_, .tail _ (.tail _ (.tail _ (.tail _ (.head _)))), rfl, _, rfl⟩) ⟨rfl, rfl⟩
            · intro ys hys
              subst hys
              intro D3 h3 tk3 F12 N12 o3
              walk_at "w"
              with_reducible rename News _ _ _ _ => N13
              refine Stop.go (ne_strs (ns := []) (ms := []) (xs := []) (ys := []) (isL (c := 0) N13 (.tail _ (.head _))) (isL N13 (.head _)) .nil .nil (fun _ h => nomatch h) (fun _ h => nomatch h) (by ktr_units) false rfl ?_)
              (try k_unmd); (try dsimp only)
              walk_at "w"
              with_reducible rename Fr _ _ _ _ => F14
              with_reducible rename News _ _ _ _ => N14
              refine stepEnd ((tl2, PySem.W.listOf (wvs.take 5 ++ [Value.str a ta]).toArray 0) :: (I, it) :: (tl1, PySem.W.listOf (wvs.take 5 ++ [Value.str a ta]).toArray 0) :: (wl, PySem.W.listOf wvs.toArray c) :: [(s₁.heap.objs.size + 1 + 1 + 1 + 1 + 1 + 1, d6), (s₁.heap.objs.size + 1 + 1 + 1 + 1 + 1, d5), (s₁.heap.objs.size + 1 + 1 + 1 + 1, _), (s₁.heap.objs.size + 1 + 1 + 1, _), (s₁.heap.objs.size + 1 + 1, o2), (s₁.heap.objs.size + 1, oA)]) F14 N14 (.tail _ (.tail _ (.head _))) (fun p hp => .tail _ (.tail _ (.tail _ hp))) ?_ ⟨.head _, _, _, _, _, _, _, _, _, _, norm ⟨rfl, rfl, trivial⟩, rfl, by assumption, by assumption, by assumption, by assumption⟩
              intro p hp
              exact Nat.ne_of_lt (allLt_addr lJ0 (by rfl) p hp)
        · rintro m₁ news₁ h tk ⟨d3, d4, d5, d6, v3, v4, v5, v6, u1, rfl, rfl, g3, g4, g5, g6⟩ F9 N9
          dsimp only [kstB] at F9
          clear F8 N8
          walk_at "w"
          exact stepEnd ((tl1, PySem.W.listOf (wvs.take 5 ++ [Value.str a ta]).toArray 0) :: (wl, PySem.W.listOf wvs.toArray c) :: [(s₁.heap.objs.size + 1 + 1 + 1 + 1 + 1 + 1, d6), (s₁.heap.objs.size + 1 + 1 + 1 + 1 + 1, d5), (s₁.heap.objs.size + 1 + 1 + 1 + 1, d4), (s₁.heap.objs.size + 1 + 1 + 1, d3), (s₁.heap.objs.size + 1 + 1, o2), (s₁.heap.objs.size + 1, oA)]) F9 N9 (.tail _ (.head _)) (fun p hp => .tail _ (.tail _ hp)) (fun p hp => Nat.ne_of_lt (allLt_addr (l' := (tl1, PySem.W.listOf (wvs.take 5 ++ [Value.str a ta]).toArray 0) :: (wl, PySem.W.listOf wvs.toArray c) :: [(s₁.heap.objs.size + 1 + 1 + 1 + 1 + 1 + 1, d6), (s₁.heap.objs.size + 1 + 1 + 1 + 1 + 1, d5), (s₁.heap.objs.size + 1 + 1 + 1 + 1, d4), (s₁.heap.objs.size + 1 + 1 + 1, d3), (s₁.heap.objs.size + 1 + 1, o2), (s₁.heap.objs.size + 1, oA)]) lI0 rfl p hp)) ⟨.head _, _, _, _, _, _, _, _, _, _, _, _, norm ⟨rfl, rfl, trivial⟩, rfl, k2, g3, g4, g5, g6⟩
      · rintro m₁ news₁ h tk ⟨d2, d3, d4, d5, d6, v2, v3, v4, v5, v6, u1, rfl, rfl, g2, g3, g4, g5, g6⟩ F9 N9
        dsimp only [kstB] at F9
        clear F8 N8
        walk_at "w"
        exact CutQ.intro F9 (News.sub N9 fun p hp => .tail _ hp) ⟨_, _, _, _, _, _, _, _, _, _, _, norm ⟨rfl, rfl, trivial⟩, rfl, g2, g3, g4, g5, g6⟩
    · rintro m nw h3 tk3 ⟨d2, d3, d4, d5, d6, v2, v3, v4, v5, v6, u, rfl, rfl, g2, g3, g4, g5, g6⟩ F4 N4
      dsimp only [kstB] at F4
      clear F3 N3
      walk_at "w"
      refine Stop.go ?_
      walk_at "w"
      with_reducible rename Fr _ _ _ _ => F5
      with_reducible rename News _ _ _ _ => N5
      cases hws : ws with
      | nil =>
        subst hws
        refine Stop.go (eq_strs (ms := []) (ys := []) (isL N5 (.tail _ (.head _))) (isL N5 (.head _)) hW .nil (fun x hx => (hG x hx).1) (fun _ h => nomatch h) (by ktr_units) true rfl ?_)
        (try k_unmd); (try dsimp only)
        walk_at "w"
        refine goodW_bool (by assumption) (by assumption) (raisesW_false ?_) ?_
        · wrow_none_raised
        · kc_post
      | cons w0 wr =>
        refine Stop.go (eq_strs (ms := []) (ys := []) (isL N5 (.tail _ (.head _))) (isL N5 (.head _)) hW .nil (fun x hx => (hG x hx).1) (fun _ h => nomatch h) (by ktr_units) false (by rw [hws]; rfl) ?_)
        (try k_unmd); (try dsimp only)
        walk_at "w"
        with_reducible rename Fr _ _ _ _ => F6
        with_reducible rename News _ _ _ _ => N6
        skip
        refine Stop.go ?_
        k_dflt (refine' Spec.use (laid_spec _ _ _ wvs c ws ?hmG2 hW hG hN hL) ?k1G2 ?k2G2 ?k3G2 ?k4G2 ?k5G2 ?k6G2 ?k7G2 ?k8G2 ?kRG2; (case k1G2 => k_asm); (case k2G2 => k_asm); (case k3G2 => k_asm); (case k4G2 => k_asm); (case k5G2 => k_asm); (case hmG2 => first | exact .head _ | exact .tail _ (.head _)); (case k6G2 => exact rfl); (case k7G2 => ktr_room); (case k8G2 => ktr_units))
        rintro v' n' h' tk' ⟨tta, ttl, nds, rfl, rfl, hT, hlt, hwd, hrep⟩ F7 N7 K7
        clear F6 N6
        have ht9 : ∀ p ∈ ttl, ∀ q ∈ (wl, PySem.W.listOf wvs.toArray c) :: [(s₁.heap.objs.size + 1 + 1 + 1 + 1 + 1 + 1, d6), (s₁.heap.objs.size + 1 + 1 + 1 + 1 + 1, d5), (s₁.heap.objs.size + 1 + 1 + 1 + 1, d4), (s₁.heap.objs.size + 1 + 1 + 1, d3), (s₁.heap.objs.size + 1 + 1, d2), (s₁.heap.objs.size + 1, oA)], q.1 < p.1 := fun p hp q hq => hlt p hp q (by first | exact .tail _ hq | exact hq)
        have N8 := News.sub (l' := (wl, PySem.W.listOf wvs.toArray c) :: (s₁.heap.objs.size + 1 + 1 + 1 + 1 + 1 + 1, d6) :: (s₁.heap.objs.size + 1 + 1 + 1 + 1 + 1, d5) :: (s₁.heap.objs.size + 1 + 1 + 1 + 1, d4) :: (s₁.heap.objs.size + 1 + 1 + 1, d3) :: (s₁.heap.objs.size + 1 + 1, d2) :: (s₁.heap.objs.size + 1, oA) :: ttl) N7 (by
          intro p hp
          have : p ∈ ((wl, PySem.W.listOf wvs.toArray c) :: [(s₁.heap.objs.size + 1 + 1 + 1 + 1 + 1 + 1, d6), (s₁.heap.objs.size + 1 + 1 + 1 + 1 + 1, d5), (s₁.heap.objs.size + 1 + 1 + 1 + 1, d4), (s₁.heap.objs.size + 1 + 1 + 1, d3), (s₁.heap.objs.size + 1 + 1, d2), (s₁.heap.objs.size + 1, oA)]) ++ ttl := hp
          rcases List.mem_append.mp this with h | h
          · exact List.mem_append_right _ (by first | exact .tail _ h | exact h)
          · exact List.mem_append_left _ h)
        clear N7
        have hne5 : ∀ p ∈ ttl, p.1 ≠ s₁.heap.objs.size + 1 + 1 + 1 + 1 + 1 := fun p hp => Nat.ne_of_gt (ht9 p hp _ (.tail _ (.tail _ (.head _))))
        k_dflt (refine' storeX_C F7 N8 ?kcG2 (UpdF.tail ?u1G2 (UpdF.tail ?u2G2 (UpdF.head ?u3G2))) g5 ?_ ?kkG2 ?kxG2; (case kcG2 => rfl); (case kkG2 => rfl); (case kxG2 => rfl))
        case u1G2 => exact Nat.ne_of_gt lA.2.1
        case u2G2 => show @Ne Nat _ _; omega
        case u3G2 =>
          intro p hp
          rcases List.mem_cons.mp hp with e | hp
          · rw [e]; show @Ne Nat _ _; simp only; omega
          · rcases List.mem_cons.mp hp with e | hp
            · rw [e]; show @Ne Nat _ _; simp only; omega
            · rcases List.mem_cons.mp hp with e | hp
              · rw [e]; show @Ne Nat _ _; simp only; omega
              · rcases List.mem_cons.mp hp with e | hp
                · rw [e]; show @Ne Nat _ _; simp only; omega
                · exact hne5 p hp
        intro h9 o5 F9 N9 k5
        clear F7 N8
        walk_at "w"
        with_reducible rename Fr _ _ _ _ => F11
        with_reducible rename News _ _ _ _ => N11
        obtain ⟨loT, ⟨oT, hmT, hdT⟩, hT3⟩ := id hT
        have hnl : nds.length ≤ 9 := by
          have := congrArg List.length hwd
          rw [List.length_map] at this
          omega
        refine Stop.go ?_
        k_dflt (refine ListComp_TD (knd := PySem.strKind PySem.Challenge.rw_zt0002_01.row.prog w) (F₁₀ := F11) (by with_unfolding_all rfl) (by decide) (by rfl) (by decide) (by rfl) ?_)
        walk_at "w"
        refine ⟨tta, oT, _, _, rfl, by rfl, F11, N11, ?_, hdT, loT, by rw [sizeLine_eq, List.length_map]; omega, ?_⟩
        · exact .tail _ (.tail _ (.tail _ (.tail _ (.tail _ (.tail _ (.tail _ hmT))))))
        intro g'
        have upC : ∀ p ∈ ttl, p ∈ (wl, PySem.W.listOf wvs.toArray c) :: (s₁.heap.objs.size + 1 + 1 + 1 + 1 + 1 + 1, d6) :: (s₁.heap.objs.size + 1 + 1 + 1 + 1 + 1, o5) :: (s₁.heap.objs.size + 1 + 1 + 1 + 1, d4) :: (s₁.heap.objs.size + 1 + 1 + 1, d3) :: (s₁.heap.objs.size + 1 + 1, d2) :: (s₁.heap.objs.size + 1, oA) :: ttl := fun p hp => .tail _ (.tail _ (.tail _ (.tail _ (.tail _ (.tail _ (.tail _ hp))))))
        refine restT_inv (fun _ ys => ys = []) rfl ?_ ?_
        · intro i3 v3' ys I3 oI3 C3 oC3 D3 m3 h3 tk3 E3 hi3 hv3 hys hC3 hx3 F12 N12 off3 ne3
          subst hys
          obtain ⟨kw, xw, hkv, hkw⟩ := hv3
          obtain ⟨n, hnn, hne⟩ : ∃ n ∈ nds, (n.wd, Value.ref n.tp) = (kw, xw) := List.mem_map.mp (List.mem_of_getElem? hkv)
          cases hne
          obtain ⟨tw, rfl⟩ := Value.isStrOf_shape hkw
          obtain ⟨hA1, hloD, vs, cc, ns, ob, kv, hAo, hAi, hAs, hAp, hAd, hAk, hAv⟩ := hT3.1 n hnn
          have hval := tree_val (words_nodup hT) hnn
          have mT := List.mem_cons_of_mem (I3, oI3) (List.mem_cons_of_mem (C3, oC3) (List.mem_cons_of_mem (D3, LCg.lst []) (upC _ hmT)))
          have mTp := List.mem_cons_of_mem (I3, oI3) (List.mem_cons_of_mem (C3, oC3) (List.mem_cons_of_mem (D3, LCg.lst []) (upC _ hA1)))
          have mD := List.mem_cons_of_mem (I3, oI3) (List.mem_cons_of_mem (C3, oC3) (List.mem_cons_of_mem (D3, LCg.lst []) (upC _ hAd)))
          have mO := List.mem_cons_of_mem (I3, oI3) (List.mem_cons_of_mem (C3, oC3) (List.mem_cons_of_mem (D3, LCg.lst []) (upC _ hAo)))
          have off0 := off3
          (try simp only [LCg.Off3] at off3)
          walk_at "w"
          with_reducible rename Fr _ _ _ _ => F13
          with_reducible rename News _ _ _ _ => N13
          have hkl := kids_le (words_nodup hT) hwd hrep hnn
          have hkv64 : kv.length < 64 := by
            have := congrArg List.length hAv.keys
            rw [List.length_map, List.length_map] at this
            omega
          refine Stop.go (sorted_dict (by rfl) F13 N13 mD hAk hloD hkv64 ?_)
          intro D7 vs7 ns7 c7 h7 tk7 F14 N14 l14 hI7 hp7 hs7
          clear F13 N13
          have he : ns = ns7 := lks_uniq (hAp.trans ((List.Perm.of_eq hAv.keys.symm).trans hp7.symm)) hAs hs7
          walk_at "w"
          refine Stop.go (ne_intsK (isL N14 (.tail _ mO)) hAi (isL N14 (.head _)) hI7 (by ktr_units) ?_)
          rw [he, decide_eq_true rfl]
          (try k_unmd); (try dsimp only [Bool.not_true])
          walk_at "w"
          with_reducible rename Fr _ _ _ _ => F15
          with_reducible rename News _ _ _ _ => N15
          refine Stop.go ?_
          exact LCg.CompEnd.intro F15 N15 _ (fun p hp => .tail _ hp) off0 (upC _ hmT) ⟨rfl, trivial⟩
        · intro ys hys
          subst hys
          intro D3 h3 tk3 F12 N12 o3
          walk_at "w"
          with_reducible rename News _ _ _ _ => N13
          refine Stop.go (ne_strs (ns := []) (ms := []) (xs := []) (ys := []) (isL (c := 0) N13 (.tail _ (.head _))) (isL N13 (.head _)) .nil .nil (fun _ h => nomatch h) (fun _ h => nomatch h) (by ktr_units) false rfl ?_)
          (try k_unmd); (try dsimp only)
          walk_at "w"
          with_reducible rename Fr _ _ _ _ => F21
          with_reducible rename News _ _ _ _ => N21
          have N22 := News.sub (l' := (wl, PySem.W.listOf wvs.toArray c) :: (s₁.heap.objs.size + 1 + 1 + 1 + 1 + 1 + 1, d6) :: (s₁.heap.objs.size + 1 + 1 + 1 + 1 + 1, o5) :: (s₁.heap.objs.size + 1 + 1 + 1 + 1, d4) :: (s₁.heap.objs.size + 1 + 1 + 1, d3) :: (s₁.heap.objs.size + 1 + 1, d2) :: (s₁.heap.objs.size + 1, oA) :: ttl) N21 (by intro p hp; first | exact hp | exact .tail _ hp | exact .tail _ (.tail _ hp))
          clear N21
          refine Stop.go ?_
          k_dflt (refine LCg.ListComp_U (F₀ := F21) (by with_unfolding_all rfl) (by decide) (by rfl) (by decide) (by rfl) ?_)
          walk_at "w"
          refine LCg.CompSrc.ledger (by rfl) F21 N22 (its := wvs.toArray) (k := c) (.head _) (by rw [List.size_toArray, sizeLine_eq, hW.len_eq]; omega) ?_
          intro g'
          refine rest_inv (fun i ys => IntsAre ys ((ws.take i).map fun x => DI x a)) .nil ?_ ?_
          · intro i3 v3' ys I3 oI3 C3 oC3 D3 m3 h3 tk3 E3 hi3 hv3 hys hC3 hx3 F12 N12 off3 ne3
            have off0 := off3
            obtain ⟨x3, t3, rfl, hx3'⟩ := StrsAre.item hW i3 v3' (by simpa using hv3)
            have hg3 : Good x3 := hG x3 (List.mem_of_getElem? hx3')
            (try simp only [LCg.Off3] at off3)
            walk_at "w"
            with_reducible rename Fr _ _ _ _ => F15
            with_reducible rename News _ _ _ _ => N15
            refine Stop.go ?_
            refine LCg.CompEnd.intro F15 N15 _ (fun p hp => hp) off0 (.inr ⟨_, .head _, rfl, _, rfl⟩) ⟨rfl, ?_⟩
            rw [List.take_add_one, hx3', List.map_append]
            exact ints_app hys (.cons _ _ .nil)
          · intro ys hys
            have hsz : wvs.toArray.size = ws.length := by rw [List.size_toArray, hW.len_eq]
            rw [hsz, List.take_length] at hys
            intro D3 h3 tk3 F12 N12 o3
            walk_at "w"
            with_reducible rename Fr _ _ _ _ => F15
            with_reducible rename News _ _ _ _ => N15
            refine Stop.go (kso_min F15 N15 (isL (c := ys.length) N15 (.head _)) hys (by rw [List.length_map, hws]; exact Nat.succ_pos _) (by rfl) ?_)
            intro h6 M tM tk6 F16 N16 hM1 hM2
            clear F15 N15
            walk_at "w"
            with_reducible rename Fr _ _ _ _ => F21
            with_reducible rename News _ _ _ _ => N21
            have N22 := News.sub (l' := (wl, PySem.W.listOf wvs.toArray c) :: (s₁.heap.objs.size + 1 + 1 + 1 + 1 + 1 + 1, d6) :: (s₁.heap.objs.size + 1 + 1 + 1 + 1 + 1, o5) :: (s₁.heap.objs.size + 1 + 1 + 1 + 1, d4) :: (s₁.heap.objs.size + 1 + 1 + 1, d3) :: (s₁.heap.objs.size + 1 + 1, d2) :: (s₁.heap.objs.size + 1, oA) :: ttl) N21 (by intro p hp; first | exact hp | exact .tail _ hp | exact .tail _ (.tail _ hp))
            clear N21
            refine Stop.go ?_
            refine For_invTF F21 ?_ (fun _ => rfl)
            walk_at "w"
            with_reducible rename Fr _ _ _ _ => F23
            with_reducible rename News _ _ _ _ => N23
            refine Stop.go (for_rangeT (n := 9) (fun i m nw => ∃ (d6 : Obj) (v6 : Option Value) (t6 : Tok) (u : Map), m = kstB u [(Str.ofString "words", .ref wl), (Str.ofString "nearest", .int M t6)] ∧ nw = (wl, PySem.W.listOf wvs.toArray c) :: (s₁.heap.objs.size + 1 + 1 + 1 + 1 + 1 + 1, d6) :: (s₁.heap.objs.size + 1 + 1 + 1 + 1 + 1, o5) :: (s₁.heap.objs.size + 1 + 1 + 1 + 1, d4) :: (s₁.heap.objs.size + 1 + 1 + 1, d3) :: (s₁.heap.objs.size + 1 + 1, d2) :: (s₁.heap.objs.size + 1, oA) :: ttl ∧ d6.data = .cell v6) (fun _ _ => rfl) (by rfl) (by assumption) (by decide) (by decide) F23 N23 ?_ ?_ ?_)
            · exact ⟨_, _, _, _, norm ⟨rfl, rfl, trivial⟩, rfl, g6⟩
            · rintro I i tb m₁ news₁ it s' h tk hI hi ⟨d6, v6, t6, u, rfl, rfl, g6⟩ ho F24 N24
              dsimp only [kstB] at F24
              clear F23 N23
              have lI0 := hI
              have ht9 : ∀ p ∈ ttl, p.1 ≠ s₁.heap.objs.size + 1 + 1 + 1 + 1 + 1 + 1 := fun p hp => by
                have := hlt p hp (s₁.heap.objs.size + 1 + 1 + 1 + 1 + 1 + 1, _) (by first | exact .tail _ (.head _) | exact .tail _ (.tail _ (.head _)))
                exact Nat.ne_of_gt this
              refine wpAny_assign_Name ?_
              with_reducible rename Fr _ _ _ _ => F25
              with_reducible rename News _ _ _ _ => N25
              k_dflt (refine' storeX_C F25 N25 ?kcG7 (UpdF.tail ?u0G7 (UpdF.tail ?u1G7 (UpdF.head ?u3G7))) g6 ?_ ?kkG7 ?kxG7; (case kcG7 => rfl); (case kkG7 => rfl); (case kxG7 => rfl))
              case u0G7 => exact (ho (s₁.heap.objs.size + 1 + 1 + 1 + 1 + 1 + 1, _) (.tail _ (.head _))).symm
              case u1G7 => exact Nat.ne_of_gt lA.1
              case u3G7 =>
                intro p hp
                rcases List.mem_cons.mp hp with e | hp
                · rw [e]; show @Ne Nat _ _; simp only; omega
                · rcases List.mem_cons.mp hp with e | hp
                  · rw [e]; show @Ne Nat _ _; simp only; omega
                  · rcases List.mem_cons.mp hp with e | hp
                    · rw [e]; show @Ne Nat _ _; simp only; omega
                    · rcases List.mem_cons.mp hp with e | hp
                      · rw [e]; show @Ne Nat _ _; simp only; omega
                      · rcases List.mem_cons.mp hp with e | hp
                        · rw [e]; show @Ne Nat _ _; simp only; omega
                        · exact ht9 p hp
              intro h9 o6 F26 N26 k6
              clear F25 N25
              walk_at "w"
              with_reducible rename Fr _ _ _ _ => F31
              with_reducible rename News _ _ _ _ => N31
              refine Stop.go ?_
              k_dflt (refine LCt.Assign_ListComp_T (F₀ := F31) (by rfl) (by with_unfolding_all rfl) (by with_unfolding_all rfl) (by decide) (by rfl) (by decide) (by rfl) (by rfl) (by rfl) ?_)
              walk_at "w"
              refine LCt.CompSrcT.ledger (by rfl) F31 N31 (its := wvs.toArray) (k := c) (.tail _ (.head _)) (by rw [List.size_toArray, sizeLine_eq, hW.len_eq]; omega) ?_
              intro g'
              refine restT_inv (fun j ys => StrsAre ys (clo a (0 + (i : Int)) (ws.take j))) .nil ?_ ?_
              · intro i3 v3' ys I3 oI3 C3 oC3 D3 m3 h3 tk3 E3 hi3 hv3 hys hC3 hx3 F12 N12 off3 ne3
                have off0 := off3
                obtain ⟨x3, t3, rfl, hx3'⟩ := StrsAre.item hW i3 v3' (by simpa using hv3)
                have hg3 : Good x3 := hG x3 (List.mem_of_getElem? hx3')
                (try simp only [LCg.Off3] at off3)
                walk_at "w"
                · with_reducible rename Fr _ _ _ _ => F15
                  with_reducible rename News _ _ _ _ => N15
                  with_reducible rename _ ≤ 0 + _ => hc
                  refine Stop.go ?_
                  refine LCg.CompEnd.intro F15 N15 _ (fun p hp => hp) off0 (.inr ⟨_, .tail _ (.head _), rfl, _, rfl⟩) ⟨rfl, ?_⟩
                  rw [List.take_add_one, hx3', Option.toList_some, clo_snoc, if_pos hc]
                  exact StrsAre.append' hys (.cons _ _ .nil)
                · with_reducible rename Fr _ _ _ _ => F15
                  with_reducible rename News _ _ _ _ => N15
                  with_reducible rename ¬ (_ ≤ 0 + _) => hc
                  refine Stop.go ?_
                  refine LCg.CompEnd.intro F15 N15 _ (fun p hp => hp) off0 (.inr ⟨_, .tail _ (.head _), rfl, _, rfl⟩) ⟨rfl, ?_⟩
                  rw [List.take_add_one, hx3', Option.toList_some, clo_snoc, if_neg hc]
                  exact hys
              · intro ys hys
                have hsz : wvs.toArray.size = ws.length := by rw [List.size_toArray, hW.len_eq]
                rw [hsz, List.take_length] at hys
                intro D3 h3 tk3 F12 N12 o3
                walk_at "w"
                have e0 : ws.getD (Int.toNat 0) Str.empty = w0 := by rw [hws]; rfl
                rw [e0]
                with_reducible rename Fr _ _ _ _ => F41
                with_reducible rename News _ _ _ _ => N41
                refine Stop.go ?_
                have hwr : (bld w0 wr).size ≤ 8 := by
                  rw [← size_words, (bld_words w0 wr).length_eq]
                  rw [hws, List.length_cons] at hL
                  omega
                have hmw : ∀ v ∈ w0 :: (bld w0 wr).words, v ∈ nds.map (·.wd) := fun v hv => by
                  rw [hwd, hws]
                  exact (List.Perm.cons w0 (bld_words w0 wr)).mem_iff.mp hv
                k_dflt (refine' Spec.use (found_spec _ _ ttl tta nds w0 a _ _ _ (0 + (i : Int)) (bld w0 wr) hT ?hSG9 (hrep w0 wr hws) (bld_ok w0 wr) hmw (fun v hv => hG v (by rw [← hwd]; exact hv)) hGa (by omega) (by omega) hwr) ?k1G9 ?k2G9 ?k3G9 ?k4G9 ?k5G9 ?k6G9 ?k7G9 ?k8G9 ?kRG9; (case k1G9 => k_asm); (case k2G9 => k_asm); (case k3G9 => k_asm); (case k4G9 => k_asm); (case k5G9 => k_asm); (case hSG9 => exact fun p hp => .tail _ (.tail _ (.tail _ (.tail _ (.tail _ (.tail _ (.tail _ (.tail _ (.tail _ hp))))))))); (case k6G9 => exact rfl); (case k7G9 => ktr_room); (case k8G9 => ktr_units))
                rintro v' n' h' tk' ⟨fl, fvs, fc, fs, rfl, rfl, hFs, hFp, hfl⟩ F42 N42 K42
                clear F41 N41
                walk_at "w"
                with_reducible rename Fr _ _ _ _ => F43
                with_reducible rename News _ _ _ _ => N43
                have hl9 : ∀ (b : Int) (l : List Str), l.length ≤ 9 → (clo a b l).length ≤ 9 := fun b l h => Nat.le_trans (List.length_filter_le _ _) h
                have hcp : (clo a (0 + (i : Int)) (w0 :: (bld w0 wr).words)).Perm (clo a (0 + (i : Int)) ws) := by rw [hws]; exact clo_perm (List.Perm.cons w0 (bld_words w0 wr))
                have hq1 := hFp.trans hcp
                have hfl9 : fvs.length < 64 := by
                  rw [hFs.len_eq, hq1.length_eq]
                  have := hl9 (0 + (i : Int)) ws hL
                  omega
                refine Stop.go (sorted_N_str F43 N43 (isL N43 (.head _)) hFs hfl9 ?_)
                intro h44 vs1 ss1 e1 F44 N44 hS1 hp1 ho1
                clear F43 N43
                walk_at "w"
                with_reducible rename Fr _ _ _ _ => F45
                with_reducible rename News _ _ _ _ => N45
                refine Stop.go (sorted_N_str F45 N45 (isL (c := ys.length) N45 (.tail _ (.tail _ (.head _)))) hys (by rw [hys.len_eq]; have := hl9 (0 + (i : Int)) ws hL; omega) ?_)
                intro h46 vs2 ss2 e2' F46 N46 hS2 hp2 ho2
                clear F45 N45
                have hss : ss1 = ss2 := sorted_uniq (hp1.trans (hq1.trans hp2.symm)) (sorted_pair ho1) (sorted_pair ho2)
                have hLt2 : ∀ x ∈ ss2, Lets x := fun x hx => (hG x (List.mem_filter.mp (hp2.mem_iff.mp hx)).1).1
                walk_at "w"
                refine Stop.go (ne_strs (isL (c := e1) N46 (.tail _ (.head _))) (isL (c := e2') N46 (.head _)) hS1 hS2 (by rw [hss]; exact hLt2) hLt2 (by ktr_units) false (by rw [hss]; simp) ?_)
                (try k_unmd); (try dsimp only)
                walk_at "w"
                with_reducible rename Fr _ _ _ _ => F47
                with_reducible rename News _ _ _ _ => N47
                have hLt3 : ∀ x ∈ clo a (0 + (i : Int)) ws, Lets x := fun x hx => (hG x (List.mem_filter.mp hx).1).1
                have hIo : ∀ p ∈ ((wl, PySem.W.listOf wvs.toArray c) :: (s₁.heap.objs.size + 1 + 1 + 1 + 1 + 1 + 1, o6) :: (s₁.heap.objs.size + 1 + 1 + 1 + 1 + 1, o5) :: (s₁.heap.objs.size + 1 + 1 + 1 + 1, d4) :: (s₁.heap.objs.size + 1 + 1 + 1, d3) :: (s₁.heap.objs.size + 1 + 1, d2) :: (s₁.heap.objs.size + 1, oA) :: ttl), p.1 ≠ I := fun p hp => by
                  rcases List.mem_cons.mp hp with e | hp
                  · rw [e]; exact ho (wl, PySem.W.listOf wvs.toArray c) (.head _)
                  · rcases List.mem_cons.mp hp with e | hp
                    · rw [e]; have hd := ho (s₁.heap.objs.size + 1 + 1 + 1 + 1 + 1 + 1, d6) (List.Mem.tail _ (.head _)); exact hd
                    · exact ho p (.tail _ (.tail _ hp))
                by_cases hcl : clo a (0 + (i : Int)) ws = []
                · have hnM : ¬ M ≤ 0 + (i : Int) := by
                    intro hle
                    obtain ⟨x, hx, hxM⟩ := List.mem_map.mp hM1
                    have : x ∈ clo a (0 + (i : Int)) ws := List.mem_filter.mpr ⟨hx, decide_eq_true (by rw [show DI x a = M from hxM]; exact hle)⟩
                    rw [hcl] at this
                    cases this
                  refine Stop.go (ne_strs (isL (c := ys.length) N47 (.tail _ (.tail _ (.tail _ (.tail _ (.head _)))))) (isL (c := 0) N47 (.head _)) hys .nil hLt3 (fun _ h => nomatch h) (by ktr_units) false (by rw [hcl]; rfl) ?_)
                  (try k_unmd); (try dsimp only)
                  walk_at "w"
                  · exfalso
                    with_reducible rename (false != decide _) = true => hx
                    rw [decide_eq_false hnM] at hx
                    cases hx
                  · with_reducible rename Fr _ _ _ _ => F48
                    with_reducible rename News _ _ _ _ => N48
                    refine stepEnd ((wl, PySem.W.listOf wvs.toArray c) :: (s₁.heap.objs.size + 1 + 1 + 1 + 1 + 1 + 1, o6) :: (s₁.heap.objs.size + 1 + 1 + 1 + 1 + 1, o5) :: (s₁.heap.objs.size + 1 + 1 + 1 + 1, d4) :: (s₁.heap.objs.size + 1 + 1 + 1, d3) :: (s₁.heap.objs.size + 1 + 1, d2) :: (s₁.heap.objs.size + 1, oA) :: ttl) F48 N48 (.tail _ (.tail _ (.tail _ (.tail _ (.tail _ (.head _)))))) (fun p hp => .tail _ (.tail _ (.tail _ (.tail _ (.tail _ (.tail _ hp)))))) hIo ⟨_, _, _, _, norm ⟨rfl, rfl, trivial⟩, rfl, k6⟩
                · have hnM : M ≤ 0 + (i : Int) := by
                    cases hcc : clo a (0 + (i : Int)) ws with
                    | nil => exact absurd hcc hcl
                    | cons x l =>
                      have hx : x ∈ clo a (0 + (i : Int)) ws := by rw [hcc]; exact .head _
                      obtain ⟨h1, h2⟩ := List.mem_filter.mp hx
                      have h3 := hM2 (DI x a) (List.mem_map.mpr ⟨x, h1, rfl⟩)
                      have h4 := of_decide_eq_true h2
                      omega
                  refine Stop.go (ne_strs (isL (c := ys.length) N47 (.tail _ (.tail _ (.tail _ (.tail _ (.head _)))))) (isL (c := 0) N47 (.head _)) hys .nil hLt3 (fun _ h => nomatch h) (by ktr_units) true (by rw [decide_eq_false hcl]; rfl) ?_)
                  (try k_unmd); (try dsimp only)
                  walk_at "w"
                  · exfalso
                    with_reducible rename (true != decide _) = true => hx
                    rw [decide_eq_true hnM] at hx
                    cases hx
                  · with_reducible rename Fr _ _ _ _ => F48
                    with_reducible rename News _ _ _ _ => N48
                    refine stepEnd ((wl, PySem.W.listOf wvs.toArray c) :: (s₁.heap.objs.size + 1 + 1 + 1 + 1 + 1 + 1, o6) :: (s₁.heap.objs.size + 1 + 1 + 1 + 1 + 1, o5) :: (s₁.heap.objs.size + 1 + 1 + 1 + 1, d4) :: (s₁.heap.objs.size + 1 + 1 + 1, d3) :: (s₁.heap.objs.size + 1 + 1, d2) :: (s₁.heap.objs.size + 1, oA) :: ttl) F48 N48 (.tail _ (.tail _ (.tail _ (.tail _ (.tail _ (.head _)))))) (fun p hp => .tail _ (.tail _ (.tail _ (.tail _ (.tail _ (.tail _ hp)))))) hIo ⟨_, _, _, _, norm ⟨rfl, rfl, trivial⟩, rfl, k6⟩
            · rintro m₁ news₁ h tk ⟨d6, v6, t6, u, rfl, rfl, g6⟩ F24 N24
              dsimp only [kstB] at F24
              clear F23 N23
              walk_at "w"
              refine goodW_bool (by assumption) (by assumption) (raisesW_false ?_) ?_
              · wrow_none_raised
              · kc_post)
end
end Mine
theorem PySem.Challenge.cw_zt0002_01_holds : PySem.Challenge.rw_zt0002_01.Holds := by
  exact Mine.law0
