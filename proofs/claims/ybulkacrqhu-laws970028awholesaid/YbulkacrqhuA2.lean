import Derived.Test.YbulkacrqhuA1
namespace Go.Proofs.Ybulkacrqhu
open Go.RowKit

/-- What readPattern computes, by the library's words. -/
def rp (s : ByteArray) : Int × ByteArray :=
  if Lib.hasSuffix s.data.toList [42, 42] && Lib.hasSuffix (Lib.trimSuffix s.data.toList [42, 42]) [46] then (3, ⟨(Lib.trimSuffix s.data.toList [42, 42]).toArray⟩)
  else if Lib.hasSuffix s.data.toList [42] && Lib.hasSuffix (Lib.trimSuffix s.data.toList [42]) [46] then (2, ⟨(Lib.trimSuffix s.data.toList [42]).toArray⟩)
  else if s.toList == [42] then (1, ⟨#[]⟩) else (0, ⟨#[]⟩)

theorem suf_rev (l p : List UInt8) : Lib.hasSuffix l.reverse p = p.reverse.isPrefixOf l := by
  show p.reverse.isPrefixOf l.reverse.reverse = _
  rw [List.reverse_reverse]

theorem trim2 (t : List UInt8) : Lib.trimSuffix (42 :: 42 :: t).reverse [42, 42] = t.reverse := by
  unfold Lib.trimSuffix
  rw [suf_rev, if_pos (by simp)]
  simp

theorem trim1 (t : List UInt8) : Lib.trimSuffix (42 :: t).reverse [42] = t.reverse := by
  unfold Lib.trimSuffix
  rw [suf_rev, if_pos (by simp)]
  simp

theorem cut_at (l : List UInt8) (m : List UInt8) (k : Nat) (h : k = l.length) : (⟨(l ++ m).toArray⟩ : ByteArray).extract 0 k = ⟨l.toArray⟩ := by
  subst h
  rw [Lib.extract_eq]
  simp

theorem long_ne (a b c : UInt8) (t : List UInt8) : ((a :: b :: c :: t).reverse == [42]) = false := by
  rw [beq_eq_false_iff_ne]
  intro h
  have := congrArg List.length h
  simp at this

theorem cut2 (c : UInt8) (t : List UInt8) : (⟨((42 : UInt8) :: 42 :: c :: t).reverse.toArray⟩ : ByteArray).extract 0 ((⟨((42 : UInt8) :: 42 :: c :: t).reverse.toArray⟩ : ByteArray).size - 2) = ⟨(c :: t).reverse.toArray⟩ := by
  have h : ((42 : UInt8) :: 42 :: c :: t).reverse = (c :: t).reverse ++ [42, 42] := by simp
  rw [h]
  exact cut_at _ _ _ (by rw [Lib.size_eq]; simp)

theorem cut1 (c : UInt8) (t : List UInt8) : (⟨((42 : UInt8) :: c :: t).reverse.toArray⟩ : ByteArray).extract 0 ((⟨((42 : UInt8) :: c :: t).reverse.toArray⟩ : ByteArray).size - 1) = ⟨(c :: t).reverse.toArray⟩ := by
  have h : ((42 : UInt8) :: c :: t).reverse = (c :: t).reverse ++ [42] := by simp
  rw [h]
  exact cut_at _ _ _ (by rw [Lib.size_eq]; simp)

set_option linter.unusedSimpArgs false in
theorem rp_spec (s : ByteArray) : rp s = spec s := by
  obtain ⟨r, rfl⟩ : ∃ r : List UInt8, s = ⟨r.reverse.toArray⟩ := ⟨s.data.toList.reverse, by simp⟩
  unfold rp spec
  rw [Lib.toList_data]
  simp only [List.reverse_reverse]
  rcases r with _ | ⟨a, _ | ⟨b, _ | ⟨c, t⟩⟩⟩
  · rfl
  · by_cases ha : a = 42
    · subst ha; rfl
    · have : (42 : UInt8) ≠ a := fun h => ha h.symm
      simp only [suf_rev]
      simp [ha, this, List.isPrefixOf]
  · by_cases ha : a = 42
    · subst ha
      by_cases hb : b = 46
      · subst hb; rfl
      · have hb2 : (46 : UInt8) ≠ b := fun h => hb h.symm
        by_cases hb3 : b = 42
        · subst hb3; rfl
        · have hb4 : (42 : UInt8) ≠ b := fun h => hb3 h.symm
          rw [trim1]
          simp only [suf_rev]
          simp [hb, hb2, hb3, hb4, List.isPrefixOf]
    · have : (42 : UInt8) ≠ a := fun h => ha h.symm
      simp only [suf_rev]
      simp [ha, this, List.isPrefixOf]
  · rw [long_ne]
    by_cases ha : a = 42
    · subst ha
      rw [trim1, cut1]
      by_cases hb : b = 42
      · subst hb
        rw [trim2, cut2]
        simp only [suf_rev]
        by_cases hc : c = 46
        · subst hc
          rfl
        · have hc2 : (46 : UInt8) ≠ c := fun h => hc h.symm
          simp [hc, hc2, List.isPrefixOf]
      · have hb4 : (42 : UInt8) ≠ b := fun h => hb h.symm
        simp only [suf_rev]
        by_cases hc : b = 46
        · subst hc
          rfl
        · have hc2 : (46 : UInt8) ≠ b := fun h => hc h.symm
          simp [hb, hb4, hc, hc2, List.isPrefixOf]
    · have : (42 : UInt8) ≠ a := fun h => ha h.symm
      simp only [suf_rev]
      simp [ha, this, List.isPrefixOf]
end Go.Proofs.Ybulkacrqhu
