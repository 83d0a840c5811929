import Derived.Test.YbulkacrqeaFmtA3
import Derived.Deep.RegionHeld3
import Derived.Deep.AppendLies
import Derived.Deep.DrawnRows
namespace Go.Proofs.YbulkacrqeaFmt
open Go.RowKit
attribute [local go_sem] Go.wp_at_zero Go.wp_at_succ

theorem Ybaf.info54 : (Ybaf.prog.info? 54).map (fun i => (i.zero, i.size, i.bytes)) = some (some (.agg #[.string ⟨#[]⟩, .int .u64 0]), 2, 24) := by kernel_rfl
theorem Ybaf.info35 : (Ybaf.prog.info? 35).map (fun i => (i.zero, i.size, i.bytes)) = some (some (.agg #[.int .i64 0, .string ⟨#[]⟩, .slice none 0 0, .string ⟨#[]⟩]), 4, 64) := by kernel_rfl
theorem Ybaf.info4 : (Ybaf.prog.info? 4).map (fun i => (i.zero, i.size, i.bytes)) = some (some (.bool false), 1, 1) := by kernel_rfl
theorem Ybaf.info3 : (Ybaf.prog.info? 3).map (fun i => (i.zero, i.size, i.bytes)) = some (some (.int .i64 0), 1, 8) := by kernel_rfl
theorem Ybaf.info49 : (Ybaf.prog.info? 49).map (fun i => (i.zero, i.size, i.bytes)) = some (some (.int .u64 0), 1, 8) := by kernel_rfl

/-- the entries of the clock whose counters are c 0, c 1, c 2: of the first k actors -/
def entsTo (c : Nat → Int) : Nat → List (Nat × Int)
  | 0 => []
  | k + 1 => entsTo c k ++ (if c k = 0 then [] else [(k, c k)])

def entCells (l : List (Nat × Int)) : List Value := l.flatMap fun x => [.string (nm x.1), .int .u64 x.2]

theorem entCells_append (l m : List (Nat × Int)) : entCells (l ++ m) = entCells l ++ entCells m := by simp [entCells]
theorem entCells_length (l : List (Nat × Int)) : (entCells l).length = l.length * 2 := by
  induction l with
  | nil => rfl
  | cons x l ih => simp [entCells] at ih ⊢; omega
theorem entCells_get (l : List (Nat × Int)) (i : Nat) (x : Nat × Int) (h : l[i]? = some x) : (entCells l)[i * 2]? = some (.string (nm x.1)) ∧ (entCells l)[i * 2 + 1]? = some (.int .u64 x.2) := by
  induction l generalizing i with
  | nil => simp at h
  | cons y l ih =>
    cases i with
    | zero => simp at h; subst h; simp [entCells]
    | succ i =>
      have := ih i (by simpa using h)
      have e1 : (i + 1) * 2 = i * 2 + 1 + 1 := by omega
      have e2 : (i + 1) * 2 + 1 = i * 2 + 1 + 1 + 1 := by omega
      rw [e1]
      simp only [entCells, List.flatMap_cons, List.cons_append, List.nil_append, List.getElem?_cons_succ] at this ⊢
      exact this

theorem entsTo_len (c : Nat → Int) (k : Nat) : (entsTo c k).length ≤ k := by
  induction k with
  | zero => simp [entsTo]
  | succ k ih => unfold entsTo; split <;> simp <;> omega
theorem entsTo_lt (c : Nat → Int) (k : Nat) : ∀ x ∈ entsTo c k, x.1 < k ∧ x.2 = c x.1 ∧ x.2 ≠ 0 := by
  induction k with
  | zero => simp [entsTo]
  | succ k ih =>
    intro x hx
    unfold entsTo at hx
    rw [List.mem_append] at hx
    rcases hx with hx | hx
    · have := ih x hx; exact ⟨by omega, this.2⟩
    · split at hx
      · simp at hx
      · rename_i hc
        simp at hx; subst hx; exact ⟨by simp, rfl, hc⟩
theorem entsTo_sorted (c : Nat → Int) (k : Nat) : (entsTo c k).Pairwise (fun x y => x.1 < y.1) := by
  induction k with
  | zero => simp [entsTo]
  | succ k ih =>
    unfold entsTo
    rw [List.pairwise_append]
    refine ⟨ih, ?_, ?_⟩
    · split <;> simp
    · intro a ha b hb
      split at hb
      · simp at hb
      · simp at hb; subst hb; exact (entsTo_lt c k a ha).1

theorem wrap_u64 {a : Int} (h0 : 0 ≤ a) (h1 : a ≤ 255) : IntKind.u64.wrap a = a := by
  simp only [IntKind.wrap_u64]
  omega

theorem three_alloc (w : World) (A B C : Obj) : (((w.alloc A).alloc B).alloc C).heap[w.heap.size]? = some A ∧ (((w.alloc A).alloc B).alloc C).heap[w.heap.size + 1]? = some B ∧ (((w.alloc A).alloc B).alloc C).heap[w.heap.size + 1 + 1]? = some C := by
  have h1 := heap_alloc_new w A
  have h2 := heap_alloc_new (w.alloc A) B
  have h3 := heap_alloc_new ((w.alloc A).alloc B) C
  simp only [World.size_alloc] at h2 h3
  refine ⟨?_, ?_, h3⟩
  · rw [heap_alloc_old _ _ (by simp; omega), heap_alloc_old _ _ (by simp)]; exact h1
  · rw [heap_alloc_old _ _ (by simp)]; exact h2

theorem ownBlock_ge {w : World} {base : Nat} {e : TypeId} {size : Nat} {v : Value} {n : Nat} {xs : List Value} (h : w.ownsRow base e size v n xs) : ∀ b, b < base → some b ≠ v.ownBlock := by
  intro b hb he
  have := (h.lt b he.symm).1
  omega

theorem EntsAt.form {w : World} {v : Value} {l : List (Nat × Int)} (h : EntsAt w v l) : ∃ ao cap, v = .slice ao l.length cap := by
  obtain ⟨hs, hl, hn, ⟨rfl, rfl⟩ | ⟨g, cap, rfl, hcap, hmx, hg, hc⟩⟩ := h
  · exact ⟨none, 0, rfl⟩
  · exact ⟨_, cap, rfl⟩

/-- from an owned row of entries to what is read -/
theorem ents_of_row {w : World} {base : Nat} {v : Value} {l : List (Nat × Int)} (h : w.ownsRow base 54 2 v l.length (entCells l)) (hs : l.Pairwise (fun x y => x.1 < y.1)) (hl : ∀ x ∈ l, x.1 < 3 ∧ 1 ≤ x.2 ∧ x.2 ≤ 255) (hn : l.length ≤ 3) : EntsAt w v l := by
  refine ⟨hs, hl, hn, ?_⟩
  rcases h.2 with ⟨rfl, h0⟩ | ⟨g, cap, cur, rfl, hb, hh, hcap, hmx, hsz, htake⟩
  · exact Or.inl ⟨List.eq_nil_of_length_eq_zero h0, rfl⟩
  · refine Or.inr ⟨g, cap, rfl, hcap, hmx, (Array.getElem?_eq_some_iff.1 hh).1, fun i x hx => ?_⟩
    obtain ⟨e1, e2⟩ := entCells_get l i x hx
    have hcl := h.cells (g := g) rfl
    have hadd : ∀ j, (⟨g, 0, none⟩ : Addr).add j = ⟨g, j, none⟩ := by intro j; unfold Addr.add; split <;> simp_all
    have q1 := hcl _ _ e1
    have q2 := hcl _ _ e2
    rw [hadd] at q1 q2
    exact ⟨q1, q2⟩

set_option maxRecDepth 100000 in
set_option maxHeartbeats 1000000 in
theorem clock_any (c : Nat → Int) (hc : ∀ x, x < 3 → 0 ≤ c x ∧ c x ≤ 255) (w : World) :
    Calls Ybaf.prog 4 #[.agg #[.int .u8 (c 0), .int .u8 (c 1), .int .u8 (c 2)]] w fun e w' => ∃ v, e = .returned (.agg #[v]) ∧ EntsAt w' v (entsTo c 3) ∧ Below w.heap.size w w' := by
  obtain ⟨i0, hi, hz0, hz1, hz2⟩ := info_parts Ybaf.info54
  go_enter Ybaf.func4, Ybaf.ntmps4
  go_wp2
  go_loopw [4, 5] (fun v vx wr => ∃ k : Nat, k ≤ 3 ∧ vx = .int .i64 k ∧ wr.ownsRow (w.heap.size + 3) 54 2 v (entsTo c k).length (entCells (entsTo c k)) ∧ w.heap.size + 3 ≤ wr.heap.size ∧
      wr.heap[w.heap.size]? = some (.cells #[.int .u8 (c 0), .int .u8 (c 1), .int .u8 (c 2)] 24 (0, 0)) ∧ wr.heap[w.heap.size + 1]? = some (.cells #[.slice none 0 0] 32 (0, 0)) ∧
      wr.heap[w.heap.size + 1 + 1]? = some (.cells #[.string (nm 0), .string (nm 1), .string (nm 2)] 26 (0, 0)) ∧ Below w.heap.size w wr) (fun _ vx _ => 3 - (intOf vx).toNat)
  case atStart =>
    refine ⟨0, by omega, rfl, World.ownsRow_nil _ _ _ _, by simp, ?_, ?_, ?_, ?_⟩
    · exact (three_alloc w _ _ _).1
    · exact (three_alloc w _ _ _).2.1
    · exact (three_alloc w _ _ _).2.2
    · exact (((Below.refl _ _).alloc (Nat.le_refl _) _).alloc (by simp) _).alloc (by simp; omega) _
  case round =>
    obtain ⟨k, hk, rfl, hown, hz, b0, b1, b2, hb⟩ := hrel
    by_cases hlt : k < 3
    · have c0 : wr.cell? ⟨w.heap.size, k, none⟩ = some (.int .u8 (c k)) := by
        rw [cell_of_row wr _ _ _ _ _ b0]
        match k, hlt with
        | 0, _ => rfl
        | 1, _ => rfl
        | 2, _ => rfl
      have c2 : wr.cell? ⟨w.heap.size + 1 + 1, k, none⟩ = some (.string (nm k)) := by
        rw [cell_of_row wr _ _ _ _ _ b2]
        match k, hlt with
        | 0, _ => rfl
        | 1, _ => rfl
        | 2, _ => rfl
      have hk0 : (0 : Int) ≤ (k : Int) := Int.natCast_nonneg _
      have hk1 : (k : Int) < (3 : Int) := by omega
      have hcb := hc k hlt
      by_cases hck : c k = 0
      · have HS : Hid (entsTo c (k + 1) = entsTo c k) := by show entsTo c k ++ _ = _; rw [if_pos hck]; simp
        go_wp2
        go_roundw
        case rel => exact ⟨k + 1, by omega, by go_num, by rw [HS.out]; exact hown, hz, b0, b1, b2, hb⟩
        case measure => simp [intOf]; omega
      · have HS : Hid (entsTo c (k + 1) = entsTo c k ++ [(k, c k)]) := by show entsTo c k ++ _ = _; rw [if_neg hck]
        have hlen := entsTo_len c k
        have hne : (c k == 0) = false := by simpa using hck
        have B0 : Hid _ := b0
        have B1 : Hid _ := b1
        have B2 : Hid _ := b2
        have HB : Hid _ := hb
        clear b0 b1 b2 hck hb hc
        go_wp2
        have hbelow := ownBlock_ge hown
        have g0 := hbelow w.heap.size (by omega)
        have g1 := hbelow (w.heap.size + 1) (by omega)
        have g2 := hbelow (w.heap.size + 1 + 1) (by omega)
        have hwr : IntKind.u64.wrap (c k) = c k := wrap_u64 (by omega) (by omega)
        have G0 : Hid _ := g0
        have G1 : Hid _ := g1
        have G2 : Hid _ := g2
        clear hbelow g0 g1 g2
        go_region_held3 (fun w' => w'.cell? ⟨w.heap.size, k, none⟩ = some (.int .u8 (c k)) ∧ w'.cell? ⟨w.heap.size + 1 + 1, k, none⟩ = some (.string (nm k)))
          (first
            | go_keep
            | (go_split_ands
               refine ⟨?_, ?_⟩
               · (rw [hgrow.cell_far _ (by simp; omega) G0.out]; assumption)
               · (rw [hgrow.cell_far _ (by simp; omega) G2.out]; assumption)))
          ((refine step_append_lies _ (by rfl) _ _ _ (by rfl) (w.heap.size + 3) 54 i0 _ 2 24 Ybaf.underlying30 hi hz0 hz1 hz2 rfl (by omega) u4 (entsTo c k).length (entCells (entsTo c k)) (by rfl) ((hown.alloc _).drew)
              ⟨wr.heap.size, 0, none⟩ 1 1 [.string (nm k), .int .u64 (c k)] (by rfl) (by rfl) (World.news_of_block (cs := #[.string (nm k), .int .u64 (c k)]) (t := 54) (fr := (0, 0)) (heap_alloc_new wr _)) (by simp [Value.oneCell'])
              (by omega) (by unfold maxLen; omega) (by omega) (by simp; omega) (wr.heap.size + 1) (by simp) ?_; intro gg cap w1 hown1 hgrow hat hlt1))
        go_wp2
        go_roundw
        case rel =>
          have hg2 : wr.grownBy w1 u4.ownBlock := (World.grownBy_alloc wr (.cells #[.string (nm k), .int .u64 (c k)] 54) _).trans ⟨hgrow.os, hgrow.tape, hgrow.output, hgrow.size, hgrow.block⟩
          have hown2 : w1.ownsRow (w.heap.size + 3) 54 2 (Value.slice (some ⟨gg, 0, none⟩) ((entsTo c k).length + 1) cap) (entsTo c (k + 1)).length (entCells (entsTo c (k + 1))) := by
            rw [HS.out, entCells_append, List.length_append]; exact hown1
          refine ⟨k + 1, by omega, by go_num, hown2, Nat.le_trans hz hg2.size, ?_, ?_, ?_, HB.out.grown hg2 HB.out.size ?_⟩
          · rw [hg2.block _ (by omega) G0.out]; exact B0.out
          · rw [hg2.block _ (by omega) G1.out]; exact B1.out
          · rw [hg2.block _ (by omega) G2.out]; exact B2.out
          · intro b hbb
            have := (hown.lt b hbb).1
            omega
        case measure => simp [intOf]; omega
    · obtain rfl : k = 3 := by omega
      have hents := fun x => ents_of_row (ownsRow_setCell_below hown (a := ⟨w.heap.size + 1, 0, none⟩) (by simp) x) (entsTo_sorted c 3) (fun x hx => by have := entsTo_lt c 3 x hx; have h2 := hc x.1 this.1; omega) (entsTo_len c 3)
      have c1 : wr.cell? ⟨w.heap.size + 1, 0, none⟩ = some (.slice none 0 0) := by rw [cell_of_row wr _ _ _ _ _ b1]; rfl
      have f1 : wr.frozen? ⟨w.heap.size + 1, 0, none⟩ = false := by simp [World.frozen?, b1]
      obtain ⟨ao, cap, hvv⟩ := (hents undef).form
      obtain ⟨nn, hnn⟩ : ∃ nn, nn = (entsTo c 3).length := ⟨_, rfl⟩
      rw [← hnn] at hvv
      subst hvv
      have HV : Hid _ := hents
      have HB : Hid _ := hb
      clear hents b0 b1 b2 hown hb hc hnn
      go_wp2
      refine bodyPost_ret (v := .agg #[.slice ao nn cap]) (by simp [results, Ybaf.results4, go_sem, c1]) rfl ⟨_, rfl, HV.out _, ?_⟩
      exact HB.out.setCell (by simp) _
end Go.Proofs.YbulkacrqeaFmt
