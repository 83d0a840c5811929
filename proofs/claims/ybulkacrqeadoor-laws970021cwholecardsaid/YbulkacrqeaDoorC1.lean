import Derived.Test.YbulkacrqeaDoorA3
namespace Go.Proofs.YbulkacrqeaDoor
open Go.Shelf Go.RowKit Go.Sort Go.Lib

/-- A decimal digit's byte. -/
def isDig (c : UInt8) : Prop := 48 ≤ c.toNat ∧ c.toNat ≤ 57

def dstep (a : Nat) (c : UInt8) : Nat := a * 10 + (c.toNat - 48)

def dvalFrom (acc : Nat) (l : List UInt8) : Nat := l.foldl dstep acc

abbrev dval (l : List UInt8) : Nat := dvalFrom 0 l

theorem dvalFrom_nil (acc : Nat) : dvalFrom acc [] = acc := rfl

theorem dvalFrom_cons (acc : Nat) (c : UInt8) (r : List UInt8) : dvalFrom acc (c :: r) = dvalFrom (acc * 10 + (c.toNat - 48)) r := by
  unfold dvalFrom
  rw [List.foldl_cons]
  rfl

theorem dvalFrom_append (acc : Nat) (a b : List UInt8) : dvalFrom acc (a ++ b) = dvalFrom (dvalFrom acc a) b := by
  unfold dvalFrom
  rw [List.foldl_append]

theorem mul_step (a x p q : Nat) : (a * 10 + x) * p + q = a * (p * 10) + (x * p + q) := by
  rw [Nat.add_mul, Nat.mul_assoc, Nat.mul_comm 10 p, Nat.add_assoc]

theorem dvalFrom_eq (acc : Nat) (l : List UInt8) : dvalFrom acc l = acc * 10 ^ l.length + dvalFrom 0 l := by
  induction l generalizing acc with
  | nil => rw [dvalFrom_nil, dvalFrom_nil, List.length_nil, Nat.pow_zero, Nat.mul_one, Nat.add_zero]
  | cons c r ih =>
    rw [dvalFrom_cons, dvalFrom_cons, ih (acc * 10 + (c.toNat - 48)), ih (0 * 10 + (c.toNat - 48)), List.length_cons, Nat.pow_succ, mul_step, Nat.zero_mul, Nat.zero_add]

theorem dval_append (a b : List UInt8) : dval (a ++ b) = dval a * 10 ^ b.length + dval b := by
  show dvalFrom 0 (a ++ b) = _
  rw [dvalFrom_append, dvalFrom_eq]

theorem dval_cons (c : UInt8) (b : List UInt8) : dval (c :: b) = (c.toNat - 48) * 10 ^ b.length + dval b := by
  rw [show dval (c :: b) = dvalFrom 0 (c :: b) from rfl, dvalFrom_cons, dvalFrom_eq, Nat.zero_mul, Nat.zero_add]

theorem dval_lt (l : List UInt8) (h : ∀ c ∈ l, isDig c) : dval l < 10 ^ l.length := by
  induction l with
  | nil => rw [show dval [] = 0 from dvalFrom_nil 0]; exact Nat.pos_of_ne_zero (by simp)
  | cons c r ih =>
    rw [dval_cons, List.length_cons, Nat.pow_succ]
    have h1 := ih (fun x hx => h x (List.mem_cons_of_mem _ hx))
    have h2 := h c (List.mem_cons_self ..)
    unfold isDig at h2
    have h3 : (c.toNat - 48) * 10 ^ r.length ≤ 9 * 10 ^ r.length := Nat.mul_le_mul_right _ (by omega)
    omega

theorem dvalFrom_ge (acc : Nat) (l : List UInt8) : acc ≤ dvalFrom acc l := by
  rw [dvalFrom_eq]
  have : acc * 1 ≤ acc * 10 ^ l.length := Nat.mul_le_mul_left _ (Nat.pos_of_ne_zero (by simp))
  omega

theorem parseM_digits (l : List UInt8) (h : ∀ c ∈ l, isDig c) : ∀ acc, acc ≤ 18446744073709551615 →
    Lib.parseUintM 18446744073709551615 acc l = if dvalFrom acc l ≤ 18446744073709551615 then .ok (dvalFrom acc l) else .range := by
  induction l with
  | nil => intro acc ha; rw [dvalFrom_nil, Lib.parseUintM, if_pos ha]
  | cons c r ih =>
    intro acc ha
    have h2 := h c (List.mem_cons_self ..)
    unfold isDig at h2
    have hge := dvalFrom_ge (acc * 10 + (c.toNat - 48)) r
    rw [Lib.parseUintM, if_pos h2, dvalFrom_cons]
    by_cases h3 : 1844674407370955162 ≤ acc
    · rw [if_pos h3, if_neg (by omega)]
    · rw [if_neg h3]
      by_cases h4 : 18446744073709551615 < acc * 10 + (c.toNat - 48)
      · rw [if_pos h4, if_neg (by omega)]
      · rw [if_neg h4]
        exact ih (fun x hx => h x (List.mem_cons_of_mem _ hx)) _ (by omega)

theorem parseM_append (M : Nat) (b : List UInt8) : ∀ (l : List UInt8) (acc v : Nat), Lib.parseUintM M acc l = .ok v → Lib.parseUintM M acc (l ++ b) = Lib.parseUintM M v b
  | [], acc, v, h => by
    simp only [Lib.parseUintM, Lib.NumEnd.ok.injEq] at h
    subst h
    rfl
  | d :: l, acc, v, h => by
    rw [Lib.parseUintM] at h
    rw [List.cons_append, Lib.parseUintM]
    split at h
    · rename_i hd
      rw [if_pos hd]
      split at h
      · cases h
      · rename_i h1
        rw [if_neg h1]
        split at h
        · cases h
        · rename_i h2
          rw [if_neg h2]
          exact parseM_append M b l _ v h
    · cases h

theorem pc_empty : pc [] = (0, false) := rfl

theorem pc_long (l : List UInt8) (h : 20 < l.length) : pc l = (0, false) := by
  unfold pc; rw [if_pos (Or.inl h)]

theorem pc_lead (l : List UInt8) (h1 : 1 < l.length) (h : l[0]? = some 48) : pc l = (0, false) := by
  unfold pc; rw [if_pos (Or.inr ⟨h1, by rw [List.head?_eq_getElem?]; exact h⟩)]

/-- The plain case: neither too long nor with a 0 ahead. -/
theorem pc_go (l : List UInt8) (h0 : l.length ≤ 20) (hz : ¬ (1 < l.length ∧ l[0]? = some 48)) : pc l = pcR (Lib.parseUintB 64 l) := by
  unfold pc
  rw [if_neg]
  rintro (h | ⟨h, h2⟩)
  · omega
  · rw [List.head?_eq_getElem?] at h2
    exact hz ⟨h, h2⟩

theorem pc_digits (l : List UInt8) (hne : l.length ≠ 0) (h0 : l.length ≤ 20) (hz : ¬ (1 < l.length ∧ l[0]? = some 48)) (hd : ∀ c ∈ l, isDig c) :
    pc l = if dval l ≤ 18446744073709551615 then (dval l, true) else (18446744073709551615, false) := by
  rw [pc_go l h0 hz]
  unfold Lib.parseUintB
  rw [if_neg (by rintro rfl; exact hne rfl), show 2 ^ 64 - 1 = 18446744073709551615 from rfl, parseM_digits l hd 0 (by omega)]
  split <;> rfl

theorem pc_fault (l : List UInt8) (h0 : l.length ≤ 20) (hz : ¬ (1 < l.length ∧ l[0]? = some 48)) (i : Nat) (c : UInt8) (hc : l[i]? = some c) (hnd : ¬ isDig c)
    (hd : ∀ j x, j < i → l[j]? = some x → isDig x) : pc l = (0, false) := by
  obtain ⟨hi, hci⟩ := List.getElem?_eq_some_iff.1 hc
  have hsplit : l = l.take i ++ c :: l.drop (i + 1) := by
    rw [← hci, ← List.drop_eq_getElem_cons hi, List.take_append_drop]
  have hdt : ∀ x ∈ l.take i, isDig x := by
    intro x hx
    obtain ⟨j, hj, hjx⟩ := List.mem_iff_getElem.1 hx
    rw [List.length_take] at hj
    rw [List.getElem_take] at hjx
    exact hd j x (by omega) (by rw [List.getElem?_eq_getElem (by omega), hjx])
  have hlt := dval_lt _ hdt
  have hlen : (l.take i).length = i := by rw [List.length_take]; omega
  rw [hlen] at hlt
  have hp : 10 ^ i ≤ 10 ^ 19 := Nat.pow_le_pow_right (by omega) (by omega)
  have hp' : (10 : Nat) ^ 19 = 10000000000000000000 := rfl
  rw [pc_go l h0 hz]
  unfold Lib.parseUintB
  rw [if_neg (by rintro rfl; simp at hi), show 2 ^ 64 - 1 = 18446744073709551615 from rfl]
  have hok := parseM_digits _ hdt 0 (by omega)
  rw [if_pos (by show dval (l.take i) ≤ _; omega)] at hok
  rw [hsplit, parseM_append _ _ _ _ _ hok, Lib.parseUintM, if_neg (show ¬ (48 ≤ c.toNat ∧ c.toNat ≤ 57) from hnd)]
  rfl

/-- The digits of the largest counter. -/
def maxS : List UInt8 := [49, 56, 52, 52, 54, 55, 52, 52, 48, 55, 51, 55, 48, 57, 53, 53, 49, 54, 49, 53]

theorem maxS_dval : dval maxS = 18446744073709551615 := by decide +kernel
theorem maxS_dig : ∀ c ∈ maxS, isDig c := by unfold isDig; decide +kernel

theorem split_at (l : List UInt8) (i : Nat) (c : UInt8) (hc : l[i]? = some c) : l = l.take i ++ c :: l.drop (i + 1) := by
  obtain ⟨hi, hci⟩ := List.getElem?_eq_some_iff.1 hc
  rw [← hci, ← List.drop_eq_getElem_cons hi, List.take_append_drop]

theorem cmp_lt (l m : List UInt8) (hlen : l.length = m.length) (i : Nat) (c d : UInt8) (hc : l[i]? = some c) (hdm : m[i]? = some d) (ht : l.take i = m.take i)
    (hl : ∀ x ∈ l, isDig x) (hcd : c.toNat < d.toNat) : dval l < dval m := by
  have e1 := split_at l i c hc
  have e2 := split_at m i d hdm
  have hb : ∀ x ∈ l.drop (i + 1), isDig x := fun x hx => hl x (List.mem_of_mem_drop hx)
  have hlt := dval_lt _ hb
  have hc1 := hl c (List.mem_of_getElem? hc)
  unfold isDig at hc1
  rw [e1, e2, ← ht, dval_append, dval_append, dval_cons, dval_cons]
  have hk : (l.drop (i + 1)).length = (m.drop (i + 1)).length := by simp [hlen]
  rw [List.length_cons, List.length_cons, hk]
  rw [hk] at hlt
  have hmul : (c.toNat - 48) * 10 ^ (m.drop (i + 1)).length + 10 ^ (m.drop (i + 1)).length ≤ (d.toNat - 48) * 10 ^ (m.drop (i + 1)).length := by
    rw [← Nat.succ_mul]
    exact Nat.mul_le_mul_right _ (by omega)
  omega
end Go.Proofs.YbulkacrqeaDoor
