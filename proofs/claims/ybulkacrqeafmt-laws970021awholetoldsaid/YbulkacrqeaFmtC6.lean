import Derived.Test.YbulkacrqeaFmtC5
import Derived.Deep.QuietTactic
import Derived.BigQuiet
namespace Go.Proofs.YbulkacrqeaFmt
open Go.RowKit

theorem seqOwn_take {h : List (Nat × Int)} (hs : seqOwn h) (k : Nat) : seqOwn (h.take k) := by
  intro j x hx
  rw [List.getElem?_take] at hx
  split at hx
  · exact hs j x hx
  · cases hx

theorem first_take {h : List (Nat × Int)} (hs : seqOwn h) {k : Nat} {x : Nat × Int} (hx : h[k]? = some x) : ∀ t, (if t = (k : Int) + 1 then some (x.1 : Int) else firstAt (h.take k) t) = firstAt (h.take (k + 1)) t := by
  have e : h.take (k + 1) = h.take k ++ [(x.1, (k : Int) + 1)] := by
    rw [List.take_add_one, hx]
    have := hs k x hx
    congr 1
    show [x] = _
    rw [← this]
  rw [e]
  refine first_new ?_
  rw [firstAt_seq (seqOwn_take hs k) k, List.getElem?_take]
  simp

theorem own_cap {w : World} {base e size g n cap : Nat} {xs : List Value} (h : w.ownsRow base e size (.slice (some ⟨g, 0, none⟩) n cap) n xs) : n ≤ cap ∧ cap ≤ maxLen := by
  rcases h.2 with ⟨e, _⟩ | ⟨g', cap', cur, e, _, _, h1, h2, _⟩
  · simp at e
  · simp only [Value.slice.injEq] at e
    obtain ⟨_, _, rfl⟩ := e
    exact ⟨h1, h2⟩

theorem row_ne {w : World} {p g n cap : Nat} {cs : Array Value} {fr : Nat × Nat} {xs : List Value} (h0 : w.heap[p]? = some (.cells cs 59 fr)) (h1 : w.ownsRow 0 3 1 (.slice (some ⟨g, 0, none⟩) n cap) n xs) : g ≠ p := by
  rintro rfl
  exact own_ne h0 h1 (by simp [Value.ownBlock])

theorem row_setCell {w : World} {p j g n cap : Nat} {cs : Array Value} {fr : Nat × Nat} {xs : List Value} (h0 : w.heap[p]? = some (.cells cs 59 fr)) (h1 : w.ownsRow 0 3 1 (.slice (some ⟨g, 0, none⟩) n cap) n xs) (v : Value) : (w.setCell ⟨p, j, none⟩ v).ownsRow 0 3 1 (.slice (some ⟨g, 0, none⟩) n cap) n xs := by
  have hgp := row_ne h0 h1
  refine ⟨h1.1, ?_⟩
  rcases h1.2 with ⟨e, _⟩ | ⟨g', cap', cur, e, hb, hh, r⟩
  · simp at e
  · simp only [Value.slice.injEq, Option.some.injEq, Addr.mk.injEq] at e
    obtain ⟨⟨rfl, _⟩, _, rfl⟩ := e
    exact Or.inr ⟨g, cap, cur, rfl, Nat.zero_le _, by rw [Below.heap_setCell _ _ _ _ hgp]; exact hh, r⟩

/-- the world behind 'h.byCounter = make(..)' -/
theorem after1 {w W : World} {p g n cap : Nat} {mv cv : Value} {xs : List Value} {S : List Nat} (r0 : W.heap[p]? = some (.cells #[.slice (some ⟨g, 0, none⟩) n cap, mv, cv] 59 (0, 0))) (r1 : W.ownsRow 0 3 1 (.slice (some ⟨g, 0, none⟩) n cap) n xs) (r2 : Moved S w W) (hS : p ∈ S) :
    ((W.setCell ⟨p, 1, none⟩ (.map (some W.heap.size))).alloc (.map #[] 0)).heap[p]? = some (.cells #[.slice (some ⟨g, 0, none⟩) n cap, .map (some W.heap.size), cv] 59 (0, 0)) ∧
    ((W.setCell ⟨p, 1, none⟩ (.map (some W.heap.size))).alloc (.map #[] 0)).ownsRow 0 3 1 (.slice (some ⟨g, 0, none⟩) n cap) n xs ∧
    CMap ((W.setCell ⟨p, 1, none⟩ (.map (some W.heap.size))).alloc (.map #[] 0)) W.heap.size 0 (fun _ => none) ∧ Moved S w ((W.setCell ⟨p, 1, none⟩ (.map (some W.heap.size))).alloc (.map #[] 0)) := by
  have hp := lt_of_block r0
  have hsz : (W.setCell ⟨p, 1, none⟩ (.map (some W.heap.size))).heap.size = W.heap.size := by simp [World.setCell]
  refine ⟨?_, (row_setCell r0 r1 _).alloc _, ?_, (r2.trans' (Moved.of_setCell _ _ _) (fun x hx => Or.inl (by simp at hx; subst hx; exact hS))).trans ((Moved.of_alloc _ _).mono (by simp))⟩
  · rw [heap_alloc_old _ _ (by rw [hsz]; exact hp)]
    exact setCell_block r0 _
  · have := CMap.made (W.setCell ⟨p, 1, none⟩ (.map (some W.heap.size)))
    rw [hsz] at this
    exact this

theorem row_cell {w : World} {g n cap : Nat} {h : List (Nat × Int)} {v : Value} {m : Nat} (h1 : w.ownsRow 0 3 1 (.slice (some ⟨g, 0, none⟩) n cap) m (rowOf h ++ [v])) {k : Nat} {x : Nat × Int} (hx : h[k]? = some x) : w.cell? ⟨g, k, none⟩ = some (.int .i64 x.1) := by
  have hk := (List.getElem?_eq_some_iff.1 hx).1
  have := h1.cells (g := g) rfl k (.int .i64 x.1) (by rw [List.getElem?_append_left (by simpa [rowOf] using hk), rowOf, List.getElem?_map, hx]; rfl)
  have hadd : (⟨g, 0, none⟩ : Addr).add k = ⟨g, k, none⟩ := by unfold Addr.add; split <;> simp_all
  rwa [hadd] at this

theorem row_kept {w w' : World} {g n cap b : Nat} {xs : List Value} {es : Array MapEntry} {clock : Nat} (h1 : w.ownsRow 0 3 1 (.slice (some ⟨g, 0, none⟩) n cap) n xs) (hb : w.heap[b]? = some (.map es clock)) (hg : w.grownBy w' (some b)) : w'.ownsRow 0 3 1 (.slice (some ⟨g, 0, none⟩) n cap) n xs := by
  refine h1.kept hg (Or.inr ?_)
  simp only [Value.ownBlock, ne_eq, Option.some.injEq]
  rintro rfl
  rcases h1.2 with ⟨e, _⟩ | ⟨g', cap', cur, e, _, hh, _⟩
  · simp at e
  · simp only [Value.slice.injEq, Option.some.injEq, Addr.mk.injEq] at e
    obtain ⟨⟨rfl, _⟩, _⟩ := e
    rw [hb] at hh; simp at hh

theorem host_kept {w w' : World} {p b : Nat} {cs : Array Value} {es : Array MapEntry} {clock : Nat} (h0 : w.heap[p]? = some (.cells cs 59 (0, 0))) (hb : w.heap[b]? = some (.map es clock)) (hg : w.grownBy w' (some b)) : w'.heap[p]? = some (.cells cs 59 (0, 0)) := by
  rw [hg.block p (lt_of_block h0) (by simp only [ne_eq, Option.some.injEq]; rintro rfl; rw [h0] at hb; simp at hb)]; exact h0

set_option maxRecDepth 20000 in
set_option maxHeartbeats 1000000 in
/-- no map yet, and the counter is not the next one -/
theorem add_B (p : Nat) (av : Value) (h : List (Nat × Int)) (i : Nat) (own : Int) (hi : i < 65536) (ho0 : 0 ≤ own) (ho1 : own ≤ 255) (hlen : h.length < 65536) (hno : own ≠ h.length + 1) (w : World) (H : HostEv w p av (.map none) h) (hs : seqOwn h) :
    Calls Ybaf.prog 9 #[.pointer (some ⟨p, 0, none⟩), .int .i64 i, .int .u64 own] w fun e w' => e = .returned (.tuple #[]) ∧ AddPost w p av (.map none) h i own w' := by
  obtain ⟨⟨cnt, hc0, hc1, h0⟩, h1, -, h3, h4⟩ := H
  have H1 : Hid (w.ownsRow 0 3 1 av h.length (rowOf h)) := h1
  have HB : Hid _ := bounds_snoc h3 hi ho0 ho1
  obtain ⟨i0, hi0, hz0, hz1, hz2⟩ := info_parts Ybaf.info3
  have hneq := fun (w : World) r => run_neq_map_nil (P := Ybaf.prog) w 57 49 3 r Ybaf.underlying57
  have heql := fun (w : World) r => run_eql_map_nil (P := Ybaf.prog) w 57 49 3 r Ybaf.underlying57
  have c0 : w.cell? ⟨p, 0, none⟩ = some av := by rw [cell_of_row w _ _ _ _ _ h0]; rfl
  have hp := lt_of_block h0
  have hne := own_ne h0 h1
  clear h3 h4 h1
  obtain ⟨n, hn⟩ : ∃ n, n = h.length := ⟨_, rfl⟩
  rw [← hn] at hlen H1 hno
  have HN : Hid (n = h.length) := hn
  clear hn
  have hmk := fun w => run_makeMap_hint (n + 1) w
  have ec : ((n + 1 : Nat) : Int) = (n : Int) + 1 := by omega
  rw [ec] at hmk
  clear ec
  have hn1 : (0 : Int) ≤ (n : Int) := Int.natCast_nonneg _
  go_enter Ybaf.func9, Ybaf.ntmps9
  go_wp2_with (at_builtin; refine wpList_append_lies _ (by rfl) _ _ _ (by rfl) 0 3 i0 _ 1 8 Ybaf.underlying56 hi0 hz0 hz1 hz2 rfl (by omega) av n (rowOf h) (by rfl) (World.ownsRow.alloc H1.out _) ⟨w.heap.size, 0, none⟩ 1 1 [.int .i64 i] (by rfl) (by rfl) (cell_one_new _ _ _) (ints_oneCell .i64 [(i : Int)]) (by omega) (by unfold maxLen; omega) (by omega) (by omega) (w.heap.size + 1) (by simp) ?_; intro g cap w1 hown1 hgrow hat hlt1; obtain ⟨q0, q1, q2, q3, q4, q5⟩ := host_cells (host_after h0 hne hgrow); have hpl := lt_of_block (host_after h0 hne hgrow); have hcap := (own_cap hown1).1; have hcap' : (n : Int) ≤ (cap : Int) := by omega)
  go_quiet (fail)
  have hmb : w.heap.size ≤ w1.heap.size := by have := hgrow.size; simp at this; omega
  have HG : Hid (g ∈ p :: av.ownBlock.toList ∨ w.heap.size ≤ g) := (after0 h0 H1.out hown1 hgrow hat).2.2.2.2
  have HA : Hid _ := after1 (after0 h0 H1.out hown1 hgrow hat).1 (after0 h0 H1.out hown1 hgrow hat).2.1 (after0 h0 H1.out hown1 hgrow hat).2.2.1 (by simp)
  have hsz : (w1.setCell ⟨p, 0, none⟩ (.slice (some ⟨g, 0, none⟩) (n + 1) cap)).heap.size = w1.heap.size := by simp [World.setCell]
  rw [hsz] at HA
  clear hsz
  have HX : Hid (∀ x ∈ h, x.1 < 65536) := fun x hx => (HB.out x (by simp [hx])).1
  go_wp2
  go_loopw [56] (fun vk wr => ∃ k : Nat, k ≤ n ∧ vk = .int .i64 k ∧ wr.heap[p]? = some (.cells #[.slice (some ⟨g, 0, none⟩) (n + 1) cap, .map (some w1.heap.size), .int .u64 cnt] 59 (0, 0)) ∧
      wr.ownsRow 0 3 1 (.slice (some ⟨g, 0, none⟩) (n + 1) cap) (n + 1) (rowOf h ++ [.int .i64 i]) ∧ CMap wr w1.heap.size k (firstAt (h.take k)) ∧ Moved (p :: av.ownBlock.toList) w wr) (fun vk _ => n - (intOf vk).toNat)
  case atStart =>
    obtain ⟨a0, a1, a2, a3⟩ := HA.out
    exact ⟨0, Nat.zero_le _, rfl, a0, a1, a2, ⟨a3.os, a3.tape, a3.output, a3.size, a3.block⟩⟩
  case round =>
    obtain ⟨k, hk, rfl, r0, r1, r2, r3⟩ := hrel
    obtain ⟨t0, t1, t2, t3, t4, t5⟩ := host_cells r0
    have R0 : Hid _ := r0
    have R1 : Hid _ := r1
    have R2 : Hid _ := r2
    have R3 : Hid _ := r3
    clear r0 r1 r2 r3
    by_cases hkn : k < n
    · obtain ⟨x, hx⟩ : ∃ x, h[k]? = some x := ⟨_, List.getElem?_eq_getElem (by have := HN.out; omega)⟩
      have cx := row_cell R1.out hx
      have hx6 := HX.out x (List.mem_of_getElem? hx)
      obtain ⟨w2, hrun, hC2, hg2⟩ := CMap.store R2.out (t := (k : Int) + 1) (i := x.1) (by unfold maxLen; omega) ⟨by omega, by omega⟩ (WalkArith.wf_i64 (by omega))
      have HC2 : Hid _ := CMap.congr hC2 (fun t _ => first_take hs hx t)
      have HG2 : Hid _ := hg2
      clear hC2 hg2 hx
      go_wp2
      go_roundw
      case rel =>
        obtain ⟨es, clock, hbk⟩ := CMap.block R2.out
        exact ⟨k + 1, by omega, by go_num, host_kept R0.out hbk HG2.out, row_kept R1.out hbk HG2.out, HC2.out, Moved.trans' R3.out (Moved.of_grown HG2.out) (fun x hx => Or.inr (by simp at hx; omega))⟩
      case measure => simp [intOf]; omega
    · have hkn' : k = n := by omega
      have hC : CMap wr w1.heap.size n (firstAt h) := by
        have := R2.out
        have e : h.take k = h := List.take_of_length_le (by have := HN.out; omega)
        rw [e, hkn'] at this; exact this
      clear R2 hkn'
      have hl := hC.look (t := own) ⟨by omega, by omega⟩
      obtain ⟨es, clock, hbk⟩ := hC.block
      by_cases hh : (firstAt h own).isSome = true
      · have HC : Hid _ := (hC.congr (fun t _ => first_held (i := i) hh t)).mono (Nat.le_succ n)
        clear hC hbk
        go_wp2
        first | go_end0 | refine bodyPost_ret (results_none rfl _ _ _) rfl ?_
        refine ⟨rfl, .slice (some ⟨g, 0, none⟩) (n + 1) cap, .map (some w1.heap.size), ?_⟩
        have hn := HN.out
        subst hn
        refine ⟨⟨⟨cnt, hc0, hc1, R0.out⟩, ?_, Or.inr ⟨_, rfl, ?_⟩, HB.out, by simp; omega⟩, Moved.mono R3.out (fun x hx => Or.inl (blocks_sub x hx)), ?_⟩
        · rw [← rowOf, rowOf_snoc, List.length_append]; exact R1.out
        · rw [List.length_append]; exact HC.out
        · intro b' hb
          simp [blocksOf, Value.ownBlock] at hb
          rcases hb with rfl | rfl | rfl
          · left; simp [blocksOf]
          · rcases HG.out with h | h
            · left; exact blocks_sub _ h
            · right; exact h
          · right; exact hmb
      · have hh' : (firstAt h own).isSome = false := by simpa using hh
        clear hh
        obtain ⟨w2, hrun, hC2, hg2⟩ := hC.store (t := own) (i := i) (by unfold maxLen; omega) ⟨by omega, by omega⟩ (WalkArith.wf_i64 (by omega))
        have HC2 : Hid _ := CMap.congr hC2 (fun t _ => first_new hh' t)
        have HG2 : Hid _ := hg2
        have HK : Hid _ := hbk
        clear hC2 hg2 hC hbk
        go_wp2
        first | go_end0 | refine bodyPost_ret (results_none rfl _ _ _) rfl ?_
        refine ⟨rfl, .slice (some ⟨g, 0, none⟩) (n + 1) cap, .map (some w1.heap.size), ?_⟩
        have hn := HN.out
        subst hn
        refine ⟨⟨⟨cnt, hc0, hc1, host_kept R0.out HK.out HG2.out⟩, ?_, Or.inr ⟨_, rfl, ?_⟩, HB.out, by simp; omega⟩, (Moved.trans' R3.out (Moved.of_grown HG2.out) (fun x hx => Or.inr (by simp at hx; omega))).mono (fun x hx => Or.inl (blocks_sub x hx)), ?_⟩
        · rw [← rowOf, rowOf_snoc, List.length_append]; exact row_kept R1.out HK.out HG2.out
        · rw [List.length_append]; exact HC2.out
        · intro b' hb
          simp [blocksOf, Value.ownBlock] at hb
          rcases hb with rfl | rfl | rfl
          · left; simp [blocksOf]
          · rcases HG.out with h | h
            · left; exact blocks_sub _ h
            · right; exact h
          · right; exact hmb
end Go.Proofs.YbulkacrqeaFmt
