import Derived.Test.YbulkacrqeaFmtE1
import Derived.Test.YbulkacrqeaFmtD2
namespace Go.Proofs.YbulkacrqeaFmt
open Go.RowKit

/-! ### plain: no Go in sight -/
theorem ents_prefix (c : Nat → Int) {k m : Nat} (h : k ≤ m) : ∃ r, entsTo c m = entsTo c k ++ r := by
  induction m with
  | zero => obtain rfl : k = 0 := by omega
            exact ⟨[], by simp⟩
  | succ m ih =>
    rcases Nat.lt_or_eq_of_le h with h | rfl
    · obtain ⟨r, hr⟩ := ih (by omega)
      refine ⟨r ++ (if c m = 0 then [] else [(m, c m)]), ?_⟩
      show entsTo c m ++ _ = _
      rw [hr, List.append_assoc]
    · exact ⟨[], by simp⟩

theorem ents_at (c : Nat → Int) {x m : Nat} (h : x < m) (hc : c x ≠ 0) : (entsTo c m)[(entsTo c x).length]? = some (x, c x) := by
  obtain ⟨r, hr⟩ := ents_prefix c (show x + 1 ≤ m by omega)
  rw [hr]
  have : entsTo c (x + 1) = entsTo c x ++ [(x, c x)] := by show entsTo c x ++ _ = _; rw [if_neg hc]
  rw [this]
  simp

theorem ents_succ_zero (c : Nat → Int) {x : Nat} (h : c x = 0) : entsTo c (x + 1) = entsTo c x := by show entsTo c x ++ _ = _; rw [if_pos h]; simp
theorem ents_succ (c : Nat → Int) {x : Nat} (h : c x ≠ 0) : entsTo c (x + 1) = entsTo c x ++ [(x, c x)] := by show entsTo c x ++ _ = _; rw [if_neg h]

/-- the actor of entry kk, as the law's loop finds it -/
def actorTo (c : Nat → Int) (kk : Nat) : Nat → Nat
  | 0 => 0
  | x + 1 => if c x ≠ 0 ∧ (entsTo c x).length = kk then x else actorTo c kk x

theorem actorTo_lt (c : Nat → Int) (kk x : Nat) (hx : 0 < x) : actorTo c kk x < x := by
  induction x with
  | zero => omega
  | succ x ih =>
    unfold actorTo
    split
    · omega
    · cases x with
      | zero => simp [actorTo]
      | succ x => have := ih (by omega); omega

theorem actorTo_at (c : Nat → Int) {kk x : Nat} {y : Nat × Int} (hy : (entsTo c x)[kk]? = some y) : actorTo c kk x = y.1 ∧ c y.1 = y.2 := by
  induction x with
  | zero => simp [entsTo] at hy
  | succ x ih =>
    unfold actorTo
    by_cases h : c x = 0
    · rw [if_neg (by simp [h])]
      rw [ents_succ_zero c h] at hy
      exact ih hy
    · rw [ents_succ c h, List.getElem?_append] at hy
      split at hy
      · rename_i hlt
        rw [if_neg (by omega)]
        exact ih hy
      · rename_i hlt
        cases hd : kk - (entsTo c x).length with
        | zero =>
          rw [hd] at hy; simp at hy; subst hy
          rw [if_pos ⟨h, by omega⟩]
          exact ⟨rfl, rfl⟩
        | succ k => rw [hd] at hy; simp at hy

/-- the first event of host a whose own counter is c, among the first k -/
def firstTo (es : List Ev) (a : Nat) (c : Int) : Nat → Option Nat
  | 0 => none
  | k + 1 => (firstTo es a c k).or (match es[k]? with
    | some e => if e.host = a ∧ e.c a = c then some k else none
    | none => none)

theorem first_hist (es : List Ev) (a : Nat) (c : Int) (k : Nat) : firstAt (histTo es a k) c = (firstTo es a c k).map (fun j => (j : Int)) := by
  induction k with
  | zero => rfl
  | succ k ih =>
    unfold firstTo
    cases he : es[k]? with
    | none =>
      have : histTo es a (k + 1) = histTo es a k := by conv => lhs; unfold histTo
                                                       rw [he]
      rw [this, ih]; simp
    | some e =>
      by_cases h : e.host = a
      · rw [histTo_hit he h, firstAt_snoc, ih]
        by_cases h2 : e.c a = c
        · rw [if_pos h2.symm]
          simp only [h, h2, and_self, if_true]
          cases firstTo es a c k <;> simp
        · rw [if_neg (fun e => h2 e.symm)]
          simp only [h2, and_false, if_false]
          cases firstTo es a c k <;> simp
      · rw [histTo_miss he h, ih]
        simp only [h, false_and, if_false]
        cases firstTo es a c k <;> simp

theorem firstTo_lt {es : List Ev} {a : Nat} {c : Int} {k j : Nat} (h : firstTo es a c k = some j) : j < k := by
  induction k with
  | zero => simp [firstTo] at h
  | succ k ih =>
    unfold firstTo at h
    cases hf : firstTo es a c k with
    | some j' => rw [hf] at h; simp at h; subst h; have := ih hf; omega
    | none =>
      rw [hf] at h
      simp only [Option.none_or] at h
      split at h
      · split at h
        · cases h; omega
        · cases h
      · cases h

/-- once found, it stays -/
theorem firstTo_mono {es : List Ev} {a : Nat} {c : Int} {k j : Nat} (h : firstTo es a c k = some j) (m : Nat) (hm : k ≤ m) : firstTo es a c m = some j := by
  induction m with
  | zero => obtain rfl : k = 0 := by omega
            exact h
  | succ m ih =>
    rcases Nat.lt_or_eq_of_le hm with hm | rfl
    · unfold firstTo; rw [ih (by omega)]; rfl
    · exact h

/-- some counter of jc exceeds that of ec, among the first x -/
def moreTo (jc ec : Nat → Int) : Nat → Bool
  | 0 => false
  | x + 1 => moreTo jc ec x || decide (ec x < jc x)

theorem moreTo_iff (jc ec : Nat → Int) (x : Nat) : moreTo jc ec x = true ↔ ∃ y, y < x ∧ ec y < jc y := by
  induction x with
  | zero => simp [moreTo]
  | succ x ih =>
    simp only [moreTo, Bool.or_eq_true, ih, decide_eq_true_eq]
    constructor
    · rintro (⟨y, h1, h2⟩ | h)
      · exact ⟨y, by omega, h2⟩
      · exact ⟨x, by omega, h⟩
    · rintro ⟨y, h1, h2⟩
      by_cases e : y = x
      · subst e; exact Or.inr h2
      · exact Or.inl ⟨y, by omega, h2⟩

theorem lt_more (jc ec : Nat → Int) (he : ∀ x, x < 3 → 0 ≤ ec x) : ltB (entsTo ec 3) (entsTo jc 3) = moreTo jc ec 3 := by
  rw [Bool.eq_iff_iff, moreTo_iff]
  unfold ltB
  rw [List.any_eq_true]
  constructor
  · rintro ⟨y, hy, h⟩
    obtain ⟨h1, h2, h3⟩ := entsTo_lt jc 3 y hy
    rw [getC_ents ec h1] at h
    simp at h
    exact ⟨y.1, h1, by rw [← h2]; exact h⟩
  · rintro ⟨x, hx, h⟩
    have h0 : jc x ≠ 0 := by have := he x hx; omega
    refine ⟨(x, jc x), List.mem_of_getElem? (ents_at jc hx h0), ?_⟩
    rw [getC_ents ec hx]
    simpa using h

/-- 'want' behind x rounds of the law's last loop -/
theorem want_step (jc ec : Nat → Int) (vb : List Bool) {x : Nat} (hx : x < 3) (h : ec x ≠ 0) :
    vouchTo (entsTo jc 3) (entsTo ec 3) vb ((entsTo ec (x + 1)).length) = if jc x = ec x then (vouchTo (entsTo jc 3) (entsTo ec 3) vb (entsTo ec x).length).set (entsTo ec x).length true else vouchTo (entsTo jc 3) (entsTo ec 3) vb (entsTo ec x).length := by
  have hl : (entsTo ec (x + 1)).length = (entsTo ec x).length + 1 := by rw [ents_succ ec h]; simp
  rw [hl]
  have hy := ents_at ec hx h
  by_cases e : jc x = ec x
  · rw [if_pos e, vouchTo_hit hy (by rw [getC_ents jc hx]; exact e)]
  · rw [if_neg e, vouchTo_miss hy (by rw [getC_ents jc hx]; exact e)]

/-- kept ¦ pre, cut or filled up to n cells: the first i of them -/
def fillTo (src : List Bool) (n : Nat) : Nat → List Bool
  | 0 => List.replicate n false
  | i + 1 => (fillTo src n i).set i (src.getD i false)

theorem fillTo_length (src : List Bool) (n i : Nat) : (fillTo src n i).length = n := by
  induction i with
  | zero => simp [fillTo]
  | succ i ih => simp [fillTo, ih]
end Go.Proofs.YbulkacrqeaFmt
