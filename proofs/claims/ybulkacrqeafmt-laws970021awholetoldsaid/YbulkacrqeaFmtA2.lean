import Derived.Test.YbulkacrqeaFmtA1
namespace Go.Proofs.YbulkacrqeaFmt
open Go.RowKit

set_option maxHeartbeats 400000 in
theorem find1_any (x y : Nat) (c : Int) (hx : x < 3) (hy : y < 3) (w : World) :
    Calls Ybaf.prog 19 #[.agg #[.string (nm x), .int .u64 c], .string (nm y)] w fun e w' => e = .returned (.int .i64 (cmpN x y)) ∧ Below w.heap.size w w' := by
  go_enter Ybaf.func19, Ybaf.ntmps19
  go_wp2_with (go_at_call 20; refine (cmp_any x y hx hy _).mono ?_; rintro e w' ⟨rfl, rfl⟩)
  go_ret
  exact ⟨rfl, (Below.refl _ _).alloc (Nat.le_refl _) _⟩

def EntsAt (w : World) (v : Value) (l : List (Nat × Int)) : Prop :=
  l.Pairwise (fun x y => x.1 < y.1) ∧ (∀ x ∈ l, x.1 < 3 ∧ 1 ≤ x.2 ∧ x.2 ≤ 255) ∧ l.length ≤ 3 ∧
  ((l = [] ∧ v = .slice none 0 0) ∨ ∃ g cap, v = .slice (some ⟨g, 0, none⟩) l.length cap ∧ l.length ≤ cap ∧ cap ≤ maxLen ∧ g < w.heap.size ∧
    ∀ i x, l[i]? = some x → w.cell? ⟨g, i * 2, none⟩ = some (.string (nm x.1)) ∧ w.cell? ⟨g, i * 2 + 1, none⟩ = some (.int .u64 x.2))

theorem sorted_le {l : List (Nat × Int)} (hs : l.Pairwise (fun x y => x.1 < y.1)) {k m : Nat} {x y : Nat × Int} (hkm : k ≤ m) (hy : l[k]? = some y) (hx : l[m]? = some x) : y.1 ≤ x.1 := by
  rcases Nat.lt_or_eq_of_le hkm with h | rfl
  · obtain ⟨h1, rfl⟩ := List.getElem?_eq_some_iff.1 hy
    obtain ⟨h2, rfl⟩ := List.getElem?_eq_some_iff.1 hx
    exact Nat.le_of_lt (List.pairwise_iff_getElem.1 hs k m h1 h2 h)
  · rw [hx] at hy; cases hy; exact Nat.le_refl _

theorem cmpN_neg {x y : Nat} : cmpN x y < 0 ↔ x < y := by unfold cmpN; split <;> (try split) <;> omega
theorem cmpN_zero {x y : Nat} : (cmpN x y == 0) = decide (x = y) := by
  rw [Bool.eq_iff_iff]; simp [cmpN]; split <;> (try split) <;> omega

set_option maxHeartbeats 400000 in
theorem bsf_any (g cap : Nat) (l : List (Nat × Int)) (t : Nat) (ht : t < 3) (w : World) (hs : l.Pairwise (fun x y => x.1 < y.1)) (hl : ∀ x ∈ l, x.1 < 3 ∧ 1 ≤ x.2 ∧ x.2 ≤ 255) (hn : l.length ≤ 3) (hg : g < w.heap.size)
    (hc : ∀ i x, l[i]? = some x → w.cell? ⟨g, i * 2, none⟩ = some (.string (nm x.1)) ∧ w.cell? ⟨g, i * 2 + 1, none⟩ = some (.int .u64 x.2)) :
    Calls Ybaf.prog 18 #[.slice (some ⟨g, 0, none⟩) l.length cap, .string (nm t), .func (.func 19) #[] #[]] w fun e w' =>
      ∃ p : Nat, p ≤ l.length ∧ e = .returned (.tuple #[.int .i64 p, .bool (decide (l[p]?.map (·.1) = some t))]) ∧ (∀ k x, k < p → l[k]? = some x → x.1 < t) ∧ (∀ k x, p ≤ k → l[k]? = some x → t ≤ x.1) ∧ Below w.heap.size w w' := by
  obtain ⟨n, hnn⟩ : ∃ n, n = l.length := ⟨_, rfl⟩
  rw [← hnn] at hn ⊢
  have HN : Hid (n = l.length) := hnn
  clear hnn
  go_enter Ybaf.func18, Ybaf.ntmps18
  go_wp2
  go_loopw [9, 10] (fun vi vj wr => ∃ i j : Nat, i ≤ j ∧ j ≤ n ∧ vi = .int .i64 i ∧ vj = .int .i64 j ∧ (∀ k x, k < i → l[k]? = some x → x.1 < t) ∧ (∀ k x, j ≤ k → l[k]? = some x → t ≤ x.1) ∧ Below w.heap.size w wr) (fun vi vj _ => ((intOf vj) - (intOf vi)).toNat)
  case atStart => exact ⟨0, n, by omega, by omega, rfl, rfl, by omega, (by intro k x hk hx; have := (List.getElem?_eq_some_iff.1 hx).1; have := HN.out; omega), Below.refl _ _⟩
  case round =>
    obtain ⟨i, j, hij, hjn, rfl, rfl, H1, H2, hb⟩ := hrel
    have hlen : l.length = n := HN.out.symm
    by_cases hlt : i < j
    · obtain ⟨x, hx⟩ : ∃ x, l[(i + j) / 2]? = some x := ⟨_, List.getElem?_eq_getElem (by omega)⟩
      have hx3 := (hl x (List.mem_of_getElem? hx)).1
      have c0 : wr.cell? ⟨g, (i + j) / 2 * 2, none⟩ = some (.string (nm x.1)) := (hb.cell (by exact hg)).trans (hc _ _ hx).1
      have c1 : wr.cell? ⟨g, (i + j) / 2 * 2 + 1, none⟩ = some (.int .u64 x.2) := (hb.cell (by exact hg)).trans (hc _ _ hx).2
      have HX : Hid (l[(i + j) / 2]? = some x) := hx
      clear hx hlen
      go_wp2_with (go_at_call 19; refine (find1_any x.1 t x.2 hx3 ht _).mono ?_; rintro e w' ⟨rfl, hb'⟩)
      · go_roundw
        case rel =>
          have hl2 := cmpN_neg.1 ‹cmpN x.1 t < 0›
          have hx := HX.out
          exact ⟨(i + j) / 2 + 1, j, by omega, by omega, by go_num, rfl, (fun k y hk hy => Nat.lt_of_le_of_lt (sorted_le hs (by omega) hy hx) hl2), H2, hb.trans (hb'.mono hb.size)⟩
        case measure => simp [intOf]; omega
      · go_roundw
        case rel =>
          have hl2 : ¬ x.1 < t := fun h => by have := cmpN_neg.2 h; omega
          have hx := HX.out
          exact ⟨i, (i + j) / 2, by omega, by omega, rfl, by go_num, H1, (fun k y hk hy => Nat.le_trans (by omega) (sorted_le hs hk hx hy)), hb.trans (hb'.mono hb.size)⟩
        case measure => simp [intOf]; omega
    · obtain rfl : i = j := by omega
      by_cases hin : i < n
      · obtain ⟨x, hx⟩ : ∃ x, l[i]? = some x := ⟨_, List.getElem?_eq_getElem (by omega)⟩
        have hx3 := (hl x (List.mem_of_getElem? hx)).1
        have c0 : wr.cell? ⟨g, i * 2, none⟩ = some (.string (nm x.1)) := (hb.cell (by exact hg)).trans (hc _ _ hx).1
        have c1 : wr.cell? ⟨g, i * 2 + 1, none⟩ = some (.int .u64 x.2) := (hb.cell (by exact hg)).trans (hc _ _ hx).2
        have HX : Hid (l[i]? = some x) := hx
        clear hx hlen
        go_wp2_with (go_at_call 19; refine (find1_any x.1 t x.2 hx3 ht _).mono ?_; rintro e w' ⟨rfl, hb'⟩)
        go_ret2
        refine ⟨i, by omega, ?_, H1, H2, hb.trans (hb'.mono hb.size)⟩
        rw [cmpN_zero, HX.out]; simp
      · clear hlen
        go_wp2
        go_ret2
        refine ⟨i, by omega, ?_, H1, H2, hb⟩
        rw [List.getElem?_eq_none (by have := HN.out; omega)]; simp
end Go.Proofs.YbulkacrqeaFmt
