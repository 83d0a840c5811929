import Derived.Test.YbulkacrqeaFmtC4
namespace Go.Proofs.YbulkacrqeaFmt
open Go.RowKit

theorem first_held {h : List (Nat × Int)} {i : Nat} {own : Int} (hh : (firstAt h own).isSome = true) : ∀ t, firstAt h t = firstAt (h ++ [(i, own)]) t := by
  intro t
  rw [firstAt_snoc]
  by_cases e : t = own
  · subst e; cases hf : firstAt h t with
    | none => rw [hf] at hh; simp at hh
    | some j => simp
  · rw [if_neg e]; cases firstAt h t <;> simp

theorem first_new {h : List (Nat × Int)} {i : Nat} {own : Int} (hh : (firstAt h own).isSome = false) : ∀ t, (if t = own then some (i : Int) else firstAt h t) = firstAt (h ++ [(i, own)]) t := by
  intro t
  rw [firstAt_snoc]
  by_cases e : t = own
  · subst e; rw [if_pos rfl]; cases hf : firstAt h t with
    | none => simp
    | some j => rw [hf] at hh; simp at hh
  · rw [if_neg e, if_neg e]; cases firstAt h t <;> simp

set_option maxRecDepth 20000 in
set_option maxHeartbeats 1000000 in
/-- there is a map already -/
theorem add_C (p : Nat) (av : Value) (b : Nat) (h : List (Nat × Int)) (i : Nat) (own : Int) (hi : i < 65536) (ho0 : 0 ≤ own) (ho1 : own ≤ 255) (hlen : h.length < 65536) (w : World) (H : HostEv w p av (.map (some b)) h) (hC : CMap w b h.length (firstAt h)) :
    Calls Ybaf.prog 9 #[.pointer (some ⟨p, 0, none⟩), .int .i64 i, .int .u64 own] w fun e w' => e = .returned (.tuple #[]) ∧ AddPost w p av (.map (some b)) h i own w' := by
  obtain ⟨⟨cnt, hc0, hc1, h0⟩, h1, -, h3, h4⟩ := H
  have H1 : Hid (w.ownsRow 0 3 1 av h.length (rowOf h)) := h1
  have HB : Hid _ := bounds_snoc h3 hi ho0 ho1
  obtain ⟨i0, hi0, hz0, hz1, hz2⟩ := info_parts Ybaf.info3
  have hneq := fun (w : World) r => run_neq_map_nil (P := Ybaf.prog) w 57 49 3 r Ybaf.underlying57
  have heql := fun (w : World) r => run_eql_map_nil (P := Ybaf.prog) w 57 49 3 r Ybaf.underlying57
  have c0 : w.cell? ⟨p, 0, none⟩ = some av := by rw [cell_of_row w _ _ _ _ _ h0]; rfl
  have hp := lt_of_block h0
  have hne := own_ne h0 h1
  have HC : Hid _ := hC
  obtain ⟨es, clock, hbk⟩ := hC.block
  have HK : Hid _ := hbk
  clear h3 h4 h1 hC hbk
  obtain ⟨n, hn⟩ : ∃ n, n = h.length := ⟨_, rfl⟩
  rw [← hn] at hlen H1 HC
  have HN : Hid (n = h.length) := hn
  clear hn
  by_cases hh : (firstAt h own).isSome = true
  · go_enter Ybaf.func9, Ybaf.ntmps9
    go_wp2_with (at_builtin; refine wpList_append_lies _ (by rfl) _ _ _ (by rfl) 0 3 i0 _ 1 8 Ybaf.underlying56 hi0 hz0 hz1 hz2 rfl (by omega) av n (rowOf h) (by rfl) (World.ownsRow.alloc H1.out _) ⟨w.heap.size, 0, none⟩ 1 1 [.int .i64 i] (by rfl) (by rfl) (cell_one_new _ _ _) (ints_oneCell .i64 [(i : Int)]) (by omega) (by unfold maxLen; omega) (by omega) (by omega) (w.heap.size + 1) (by simp) ?_; intro g cap w1 hown1 hgrow hat hlt1; obtain ⟨q0, q1, q2, q3, q4, q5⟩ := host_cells (host_after h0 hne hgrow); have hl := (CMap.kept HC.out ((after0 h0 H1.out hown1 hgrow hat).2.2.2.1 b es clock HK.out)).look (t := own) ⟨by omega, by omega⟩)
    first | go_end0 | refine bodyPost_ret (results_none rfl _ _ _) rfl ?_
    refine ⟨rfl, .slice (some ⟨g, 0, none⟩) (n + 1) cap, .map (some b), ?_⟩
    obtain ⟨r0, r1, r2, r3, r4⟩ := after0 h0 H1.out hown1 hgrow hat
    have hn := HN.out
    subst hn
    refine ⟨⟨⟨cnt, hc0, hc1, r0⟩, ?_, Or.inr ⟨b, rfl, ?_⟩, HB.out, by simp; omega⟩, r2.mono (fun x hx => Or.inl (blocks_sub x hx)), ?_⟩
    · rw [← rowOf, rowOf_snoc, List.length_append]; exact r1
    · exact ((CMap.kept HC.out (r3 b es clock HK.out)).congr (fun t _ => first_held hh t)).mono (by simp)
    · intro b' hb
      simp [blocksOf, Value.ownBlock] at hb
      rcases hb with rfl | rfl | rfl
      · left; simp [blocksOf]
      · rcases r4 with h | h
        · left; exact blocks_sub _ h
        · right; exact h
      · left; simp [blocksOf]
  · have hh' : (firstAt h own).isSome = false := by simpa using hh
    clear hh
    go_enter Ybaf.func9, Ybaf.ntmps9
    go_wp2_with (at_builtin; refine wpList_append_lies _ (by rfl) _ _ _ (by rfl) 0 3 i0 _ 1 8 Ybaf.underlying56 hi0 hz0 hz1 hz2 rfl (by omega) av n (rowOf h) (by rfl) (World.ownsRow.alloc H1.out _) ⟨w.heap.size, 0, none⟩ 1 1 [.int .i64 i] (by rfl) (by rfl) (cell_one_new _ _ _) (ints_oneCell .i64 [(i : Int)]) (by omega) (by unfold maxLen; omega) (by omega) (by omega) (w.heap.size + 1) (by simp) ?_; intro g cap w1 hown1 hgrow hat hlt1; obtain ⟨q0, q1, q2, q3, q4, q5⟩ := host_cells (host_after h0 hne hgrow); have hl := (CMap.kept HC.out ((after0 h0 H1.out hown1 hgrow hat).2.2.2.1 b es clock HK.out)).look (t := own) ⟨by omega, by omega⟩; obtain ⟨w2, hrun, hC2, hg2⟩ := (CMap.kept HC.out ((after0 h0 H1.out hown1 hgrow hat).2.2.2.1 b es clock HK.out)).store (t := own) (i := i) (by unfold maxLen; omega) ⟨by omega, by omega⟩ (WalkArith.wf_i64 (by omega)))
    first | go_end0 | refine bodyPost_ret (results_none rfl _ _ _) rfl ?_
    refine ⟨rfl, .slice (some ⟨g, 0, none⟩) (n + 1) cap, .map (some b), ?_⟩
    obtain ⟨r0, r1, r2, r3, r4⟩ := after0 h0 H1.out hown1 hgrow hat
    have hn := HN.out
    subst hn
    have hbp : p ≠ b := by rintro rfl; rw [HK.out] at h0; simp at h0
    have hbg : g ≠ b := by
      rintro rfl
      have hbk2 := r3 g es clock HK.out
      rw [HK.out] at hbk2
      rcases r1.2 with ⟨e, _⟩ | ⟨g', cap', cur, e, _, hh, _⟩
      · simp at e
      · simp only [Value.slice.injEq, Option.some.injEq, Addr.mk.injEq] at e
        obtain ⟨⟨rfl, _⟩, _⟩ := e
        rw [hbk2] at hh; simp at hh
    refine ⟨⟨⟨cnt, hc0, hc1, ?_⟩, ?_, Or.inr ⟨b, rfl, ?_⟩, HB.out, by simp; omega⟩, ?_, ?_⟩
    · rw [hg2.block p (lt_of_block r0) (by simpa using hbp)]; exact r0
    · rw [← rowOf, rowOf_snoc, List.length_append]; exact r1.kept hg2 (Or.inr (by simpa [Value.ownBlock] using hbg))
    · rw [List.length_append]; exact hC2.congr (fun t _ => first_new hh' t)
    · exact (r2.mono (fun x hx => Or.inl (blocks_sub x hx))).trans' (Moved.of_grown hg2) (fun x hx => Or.inl (by simp at hx; subst hx; simp [blocksOf]))
    · intro b' hb
      simp [blocksOf, Value.ownBlock] at hb
      rcases hb with rfl | rfl | rfl
      · left; simp [blocksOf]
      · rcases r4 with h | h
        · left; exact blocks_sub _ h
        · right; exact h
      · left; simp [blocksOf]
end Go.Proofs.YbulkacrqeaFmt
