import Derived.Test.YbulkacrqeaFmtA2
namespace Go.Proofs.YbulkacrqeaFmt
open Go.RowKit

def getC (l : List (Nat × Int)) (t : Nat) : Int := ((l.find? (fun x => x.1 == t)).map (·.2)).getD 0

theorem getC_at {l : List (Nat × Int)} (hs : l.Pairwise (fun x y => x.1 < y.1)) {p : Nat} {x : Nat × Int} (hx : l[p]? = some x) : getC l x.1 = x.2 := by
  unfold getC
  induction l generalizing p with
  | nil => simp at hx
  | cons y l ih =>
    rw [List.pairwise_cons] at hs
    cases p with
    | zero => simp at hx; subst hx; simp
    | succ p =>
      simp at hx
      have := hs.1 x (List.mem_of_getElem? hx)
      rw [List.find?_cons_of_neg (by simp; omega)]
      exact ih hs.2 hx

theorem getC_none {l : List (Nat × Int)} {t : Nat} (h : ∀ x ∈ l, x.1 ≠ t) : getC l t = 0 := by
  unfold getC
  rw [List.find?_eq_none.2 (by intro x hx; simpa using h x hx)]; rfl

set_option maxHeartbeats 400000 in
theorem find_some (g cap : Nat) (l : List (Nat × Int)) (t : Nat) (ht : t < 3) (w : World) (hs : l.Pairwise (fun x y => x.1 < y.1)) (hl : ∀ x ∈ l, x.1 < 3 ∧ 1 ≤ x.2 ∧ x.2 ≤ 255) (hn : l.length ≤ 3) (hg : g < w.heap.size)
    (hc : ∀ i x, l[i]? = some x → w.cell? ⟨g, i * 2, none⟩ = some (.string (nm x.1)) ∧ w.cell? ⟨g, i * 2 + 1, none⟩ = some (.int .u64 x.2)) :
    Calls Ybaf.prog 16 #[.slice (some ⟨g, 0, none⟩) l.length cap, .string (nm t)] w fun e w' =>
      ∃ p : Nat, p ≤ l.length ∧ e = .returned (.tuple #[.int .i64 p, .bool (decide (l[p]?.map (·.1) = some t))]) ∧ (∀ k x, k < p → l[k]? = some x → x.1 < t) ∧ (∀ k x, p ≤ k → l[k]? = some x → t ≤ x.1) ∧ Below w.heap.size w w' := by
  go_enter Ybaf.func16, Ybaf.ntmps16
  go_wp2_with (go_at_call 18; refine (bsf_any g cap l t ht _ hs hl hn hg hc).mono ?_; rintro e w' ⟨p, hp, rfl, h1, h2, hb⟩)
  go_ret2
  exact ⟨p, hp, rfl, h1, h2, hb⟩

set_option maxHeartbeats 400000 in
theorem find_nil (s : ByteArray) (w : World) :
    Calls Ybaf.prog 16 #[.slice none 0 0, .string s] w fun e w' => e = .returned (.tuple #[.int .i64 0, .bool false]) ∧ w' = w := by
  go_enter Ybaf.func16, Ybaf.ntmps16
  go_wp2
  refine wp_loop_rounds 1 ?_
  rw [rounds_succ]
  go_wp2
  go_ret2
  exact ⟨rfl, rfl⟩

set_option maxHeartbeats 400000 in
theorem counter_any (v : Value) (l : List (Nat × Int)) (t : Nat) (ht : t < 3) (w : World) (he : EntsAt w v l) :
    Calls Ybaf.prog 10 #[.agg #[v], .string (nm t)] w fun e w' => e = .returned (.int .u64 (getC l t)) ∧ Below w.heap.size w w' := by
  obtain ⟨hs, hl, hn, ⟨rfl, rfl⟩ | ⟨g, cap, rfl, hcap, hmx, hg, hc⟩⟩ := he
  · have hgc : getC [] t = 0 := rfl
    rw [hgc]
    go_enter Ybaf.func10, Ybaf.ntmps10
    go_wp2_with (go_at_call 16; refine (find_nil _ _).mono ?_; rintro e w' ⟨rfl, rfl⟩)
    go_ret
    exact ⟨rfl, (Below.refl _ _).alloc (Nat.le_refl _) _⟩
  · have hc' : ∀ o : Obj, ∀ i x, l[i]? = some x → (w.alloc o).cell? ⟨g, i * 2, none⟩ = some (.string (nm x.1)) ∧ (w.alloc o).cell? ⟨g, i * 2 + 1, none⟩ = some (.int .u64 x.2) := by
      intro o i x hx
      have hb := (Below.refl w.heap.size w).alloc (Nat.le_refl _) o
      exact ⟨(hb.cell hg).trans (hc i x hx).1, (hb.cell hg).trans (hc i x hx).2⟩
    have hbel := fun o => (Below.refl w.heap.size w).alloc (Nat.le_refl _) o
    go_enter Ybaf.func10, Ybaf.ntmps10
    go_wp2_with fail
    refine (find_some g cap l t ht _ hs hl hn (by simp; omega) (hc' _)).mono ?_
    rintro e w' ⟨p, hp, rfl, h1, h2, hb⟩
    have HB : Hid (Below w.heap.size w w') := (hbel _).trans (hb.mono (by simp))
    have cv : w'.cell? ⟨w.heap.size, 0, none⟩ = some (.slice (some ⟨g, 0, none⟩) l.length cap) := by rw [hb.cell (by simp)]; simp
    by_cases hf : l[p]?.map (·.1) = some t
    · rw [Option.map_eq_some_iff] at hf
      obtain ⟨x, hx, rfl⟩ := hf
      have hpl : p < l.length := (List.getElem?_eq_some_iff.1 hx).1
      have c1 : w'.cell? ⟨g, p * 2 + 1, none⟩ = some (.int .u64 x.2) := (HB.out.cell hg).trans (hc p x hx).2
      have HG : Hid (getC l x.1 = x.2) := getC_at hs hx
      have hd : decide (l[p]?.map (·.1) = some x.1) = true := by rw [hx]; simp
      rw [hd]
      clear hx hd hc hc' hbel hb h1 h2
      go_wp2
      go_ret
      exact ⟨ret_int HG.out.symm, HB.out⟩
    · have HG : Hid (getC l t = 0) := by
        apply getC_none
        intro x hx he
        obtain ⟨k, hk⟩ := List.getElem?_of_mem hx
        rcases Nat.lt_trichotomy k p with h | rfl | h
        · have := h1 k x h hk; omega
        · rw [hk] at hf; exact hf (by simp [he])
        · cases hp' : l[p]? with
          | none => rw [List.getElem?_eq_none_iff] at hp'; have := (List.getElem?_eq_some_iff.1 hk).1; omega
          | some y =>
            have h3 := h2 p y (Nat.le_refl _) hp'
            obtain ⟨q1, rfl⟩ := List.getElem?_eq_some_iff.1 hp'
            obtain ⟨q2, rfl⟩ := List.getElem?_eq_some_iff.1 hk
            have := List.pairwise_iff_getElem.1 hs p k q1 q2 h
            omega
      have hd : decide (l[p]?.map (·.1) = some t) = false := decide_eq_false hf
      rw [hd]
      clear hd hf hc hc' hbel hb h1 h2
      go_wp2
      go_ret
      exact ⟨ret_int HG.out.symm, HB.out⟩

end Go.Proofs.YbulkacrqeaFmt
