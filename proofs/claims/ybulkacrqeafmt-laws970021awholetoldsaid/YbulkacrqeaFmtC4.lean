import Derived.Test.YbulkacrqeaFmtC3
namespace Go.Proofs.YbulkacrqeaFmt
open Go.RowKit

theorem own_ne {w : World} {p : Nat} {cs : Array Value} {fr : Nat × Nat} {v : Value} {n : Nat} {xs : List Value} (h0 : w.heap[p]? = some (.cells cs 59 fr)) (h1 : w.ownsRow 0 3 1 v n xs) : some p ≠ v.ownBlock := by
  intro e
  rcases h1.2 with ⟨rfl, _⟩ | ⟨g, cap, cur, rfl, hb, hh, _⟩
  · simp [Value.ownBlock] at e
  · simp [Value.ownBlock] at e
    subst e
    rw [h0] at hh
    simp at hh

theorem host_cells {w : World} {p : Nat} {a m c : Value} (h0 : w.heap[p]? = some (.cells #[a, m, c] 59 (0, 0))) :
    w.cell? ⟨p, 0, none⟩ = some a ∧ w.cell? ⟨p, 0 + 1, none⟩ = some m ∧ w.cell? ⟨p, 0 + 2, none⟩ = some c ∧ w.frozen? ⟨p, 0, none⟩ = false ∧ w.frozen? ⟨p, 0 + 1, none⟩ = false ∧ w.frozen? ⟨p, 0 + 2, none⟩ = false := by
  refine ⟨?_, ?_, ?_, ?_, ?_, ?_⟩
  · rw [cell_of_row w _ _ _ _ _ h0]; rfl
  · rw [cell_of_row w _ _ _ _ _ h0]; rfl
  · rw [cell_of_row w _ _ _ _ _ h0]; rfl
  · simp [World.frozen?, h0]
  · simp [World.frozen?, h0]
  · simp [World.frozen?, h0]

theorem host_after {w w1 : World} {p : Nat} {a m c : Value} {o : Obj} {row : Option Nat} (h0 : w.heap[p]? = some (.cells #[a, m, c] 59 (0, 0))) (hne : some p ≠ row) (hg : (w.alloc o).grownBy w1 row) : w1.heap[p]? = some (.cells #[a, m, c] 59 (0, 0)) := by
  have hp := lt_of_block h0
  rw [hg.block p (by simp; omega) hne, heap_alloc_old _ _ hp]; exact h0

def rowOf (h : List (Nat × Int)) : List Value := h.map fun x => .int .i64 x.1

/-- the world behind 'h.at = append(h.at, i)' -/
theorem after0 {w w1 : World} {p : Nat} {av mv cv : Value} {o : Obj} {h : List (Nat × Int)} {i g cap n : Nat} (h0 : w.heap[p]? = some (.cells #[av, mv, cv] 59 (0, 0))) (h1 : w.ownsRow 0 3 1 av n (rowOf h))
    (hown1 : w1.ownsRow 0 3 1 (.slice (some ⟨g, 0, none⟩) (n + 1) cap) (n + 1) (rowOf h ++ [.int .i64 i])) (hgrow : (w.alloc o).grownBy w1 av.ownBlock) (hat : av.ownBlock = some g ∨ g = w.heap.size + 1) :
    (w1.setCell ⟨p, 0, none⟩ (.slice (some ⟨g, 0, none⟩) (n + 1) cap)).heap[p]? = some (.cells #[.slice (some ⟨g, 0, none⟩) (n + 1) cap, mv, cv] 59 (0, 0)) ∧
    (w1.setCell ⟨p, 0, none⟩ (.slice (some ⟨g, 0, none⟩) (n + 1) cap)).ownsRow 0 3 1 (.slice (some ⟨g, 0, none⟩) (n + 1) cap) (n + 1) (rowOf h ++ [.int .i64 i]) ∧
    Moved (p :: av.ownBlock.toList) w (w1.setCell ⟨p, 0, none⟩ (.slice (some ⟨g, 0, none⟩) (n + 1) cap)) ∧ (∀ (b : Nat) (es : Array MapEntry) (clock : Nat), w.heap[b]? = some (.map es clock) → (w1.setCell ⟨p, 0, none⟩ (.slice (some ⟨g, 0, none⟩) (n + 1) cap)).heap[b]? = w.heap[b]?) ∧
    (g ∈ p :: av.ownBlock.toList ∨ w.heap.size ≤ g) := by
  have hne := own_ne h0 h1
  have q0 := host_after h0 hne hgrow
  have hp := lt_of_block h0
  have hm : Moved (p :: av.ownBlock.toList) w w1 := ((Moved.of_alloc w o).mono (T := p :: av.ownBlock.toList) (by simp)).trans' (Moved.of_grown hgrow) (fun x hx => Or.inl (by simp at hx; simp [hx]))
  have hgp : g ≠ p := by
    rintro rfl
    rcases hat with e | e
    · exact hne e.symm
    · omega
  refine ⟨setCell_block q0 _, ?_, hm.trans' (Moved.of_setCell _ _ _) (fun x hx => Or.inl (by simp at hx; simp [hx])), ?_, ?_⟩
  · refine ⟨hown1.1, ?_⟩
    rcases hown1.2 with ⟨e, _⟩ | ⟨g', cap', cur, e, hb, hh, r⟩
    · simp at e
    · simp only [Value.slice.injEq, Option.some.injEq, Addr.mk.injEq] at e
      obtain ⟨⟨rfl, _⟩, _, rfl⟩ := e
      exact Or.inr ⟨g, cap, cur, rfl, Nat.zero_le _, by rw [Below.heap_setCell _ _ _ _ hgp]; exact hh, r⟩
  · intro b es clock hb
    have hbp : b ≠ p := by rintro rfl; rw [h0] at hb; simp at hb
    have hbl := lt_of_block hb
    rw [Below.heap_setCell _ _ _ _ hbp]
    refine hm.block b hbl ?_
    simp only [List.mem_cons, Option.mem_toList, not_or]
    refine ⟨hbp, fun e => ?_⟩
    rcases h1.2 with ⟨rfl, _⟩ | ⟨g', cap', cur, rfl, _, hh, _⟩
    · simp [Value.ownBlock] at e
    · simp [Value.ownBlock] at e; subst e; rw [hb] at hh; simp at hh
  · rcases hat with e | e
    · left; simp [e]
    · right; omega

/-- what add leaves -/
def AddPost (w : World) (p : Nat) (av mv : Value) (h : List (Nat × Int)) (i : Nat) (own : Int) (w' : World) : Prop :=
  ∃ av' mv', HostEv w' p av' mv' (h ++ [(i, own)]) ∧ Moved (blocksOf p av mv) w w' ∧ (∀ b ∈ blocksOf p av' mv', b ∈ blocksOf p av mv ∨ w.heap.size ≤ b)

theorem rowOf_snoc (h : List (Nat × Int)) (i : Nat) (own : Int) : rowOf (h ++ [(i, own)]) = rowOf h ++ [.int .i64 i] := by simp [rowOf]

theorem seqOwn_snoc {h : List (Nat × Int)} (hs : seqOwn h) (i : Nat) : seqOwn (h ++ [(i, (h.length : Int) + 1)]) := by
  intro j x hx
  rw [List.getElem?_append] at hx
  split at hx
  · exact hs j x hx
  · rename_i hj
    cases hd : j - h.length with
    | zero => rw [hd] at hx; simp at hx; subst hx; show (h.length : Int) + 1 = _; omega
    | succ k => rw [hd] at hx; simp at hx

theorem bounds_snoc {h : List (Nat × Int)} (hb : ∀ x ∈ h, x.1 < 65536 ∧ 0 ≤ x.2 ∧ x.2 ≤ 255) {i : Nat} {own : Int} (hi : i < 65536) (h0 : 0 ≤ own) (h1 : own ≤ 255) : ∀ x ∈ h ++ [(i, own)], x.1 < 65536 ∧ 0 ≤ x.2 ∧ x.2 ≤ 255 := by
  intro x hx
  rcases List.mem_append.1 hx with hx | hx
  · exact hb x hx
  · simp at hx; subst hx; exact ⟨hi, h0, h1⟩

theorem blocks_sub {p : Nat} {av mv : Value} : ∀ x ∈ p :: av.ownBlock.toList, x ∈ blocksOf p av mv := by
  intro x hx; simp [blocksOf] at hx ⊢; rcases hx with h | h
  · exact Or.inl h
  · exact Or.inr (Or.inl h)

set_option maxRecDepth 20000 in
set_option maxHeartbeats 1000000 in
/-- no map yet, and the counter is the next one -/
theorem add_A (p : Nat) (av : Value) (h : List (Nat × Int)) (i : Nat) (hi : i < 65536) (hlen : h.length < 65536) (h255 : h.length < 255) (w : World) (H : HostEv w p av (.map none) h) (hs : seqOwn h) :
    Calls Ybaf.prog 9 #[.pointer (some ⟨p, 0, none⟩), .int .i64 i, .int .u64 (h.length + 1)] w fun e w' => e = .returned (.tuple #[]) ∧ AddPost w p av (.map none) h i (h.length + 1) w' := by
  obtain ⟨⟨cnt, hc0, hc1, h0⟩, h1, -, h3, h4⟩ := H
  have H1 : Hid (w.ownsRow 0 3 1 av h.length (rowOf h)) := h1
  have HS := seqOwn_snoc hs i
  have HB := bounds_snoc h3 hi (show (0 : Int) ≤ h.length + 1 by omega) (by omega)
  obtain ⟨i0, hi0, hz0, hz1, hz2⟩ := info_parts Ybaf.info3
  have hneq := fun (w : World) r => run_neq_map_nil (P := Ybaf.prog) w 57 49 3 r Ybaf.underlying57
  have heql := fun (w : World) r => run_eql_map_nil (P := Ybaf.prog) w 57 49 3 r Ybaf.underlying57
  have c0 : w.cell? ⟨p, 0, none⟩ = some av := by rw [cell_of_row w _ _ _ _ _ h0]; rfl
  have hp := lt_of_block h0
  have hne := own_ne h0 h1
  have HH : Hid (seqOwn (h ++ [(i, (h.length : Int) + 1)]) ∧ (∀ x ∈ h ++ [(i, (h.length : Int) + 1)], x.1 < 65536 ∧ 0 ≤ x.2 ∧ x.2 ≤ 255)) := ⟨HS, HB⟩
  clear HS HB h3 h4 hs h1
  obtain ⟨n, hn⟩ : ∃ n, n = h.length := ⟨_, rfl⟩
  rw [← hn] at hlen h255 H1
  have HN : Hid (n = h.length) := hn
  rw [← hn]
  clear hn
  go_enter Ybaf.func9, Ybaf.ntmps9
  go_wp2_with (at_builtin; refine wpList_append_lies _ (by rfl) _ _ _ (by rfl) 0 3 i0 _ 1 8 Ybaf.underlying56 hi0 hz0 hz1 hz2 rfl (by omega) av n (rowOf h) (by rfl) (World.ownsRow.alloc H1.out _) ⟨w.heap.size, 0, none⟩ 1 1 [.int .i64 i] (by rfl) (by rfl) (cell_one_new _ _ _) (ints_oneCell .i64 [(i : Int)]) (by omega) (by unfold maxLen; omega) (by omega) (by omega) (w.heap.size + 1) (by simp) ?_; intro g cap w1 hown1 hgrow hat hlt1; obtain ⟨q0, q1, q2, q3, q4, q5⟩ := host_cells (host_after h0 hne hgrow))
  go_end0
  refine ⟨rfl, .slice (some ⟨g, 0, none⟩) (n + 1) cap, .map none, ?_⟩
  obtain ⟨r0, r1, r2, r3, r4⟩ := after0 h0 H1.out hown1 hgrow hat
  have hn := HN.out
  subst hn
  refine ⟨⟨⟨cnt, hc0, hc1, r0⟩, ?_, Or.inl ⟨rfl, HH.out.1⟩, HH.out.2, by simp; omega⟩, r2.mono (fun x hx => Or.inl (blocks_sub x hx)), ?_⟩
  · rw [← rowOf, rowOf_snoc, List.length_append]; exact r1
  · intro b hb
    simp [blocksOf, Value.ownBlock] at hb
    rcases hb with rfl | rfl
    · left; simp [blocksOf]
    · rcases r4 with h | h
      · left; exact blocks_sub _ h
      · right; exact h
end Go.Proofs.YbulkacrqeaFmt
