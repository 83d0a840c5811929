import Derived.Test.YbulkacrqeaFmtC3
import Derived.Deep.QuietTactic
import Derived.BigQuiet
namespace Go.Proofs.YbulkacrqeaFmt
open Go.RowKit

def bcells (bs : List Bool) : List Value := bs.map .bool

/-- a slice of bools that is not nil, at the head of a block of its own -/
def BoolsAt (w : World) (g cap : Nat) (bs : List Bool) : Prop := w.ownsRow 0 4 1 (.slice (some ⟨g, 0, none⟩) bs.length cap) bs.length (bcells bs)

theorem BoolsAt.cell {w : World} {g cap : Nat} {bs : List Bool} (h : BoolsAt w g cap bs) {i : Nat} {b : Bool} (hb : bs[i]? = some b) : w.cell? ⟨g, i, none⟩ = some (.bool b) := by
  have := h.cells (g := g) rfl i (.bool b) (by rw [bcells, List.getElem?_map, hb]; rfl)
  have hadd : (⟨g, 0, none⟩ : Addr).add i = ⟨g, i, none⟩ := by unfold Addr.add; split <;> simp_all
  rwa [hadd] at this
theorem BoolsAt.block {w : World} {g cap : Nat} {bs : List Bool} (h : BoolsAt w g cap bs) : ∃ cur, w.heap[g]? = some (.cells cur 4 (0, 0)) ∧ cur.size = cap ∧ bs.length ≤ cap ∧ cap ≤ maxLen ∧ cur.toList.take bs.length = bcells bs := by
  rcases h.2 with ⟨e, _⟩ | ⟨g', cap', cur, e, _, hh, h1, h2, h3, h4⟩
  · simp at e
  · simp only [Value.slice.injEq, Option.some.injEq, Addr.mk.injEq] at e
    obtain ⟨⟨rfl, _⟩, _, rfl⟩ := e
    exact ⟨cur, hh, by omega, h1, h2, by simpa using h4⟩
theorem BoolsAt.mk {w : World} {g cap : Nat} {bs : List Bool} {cur : Array Value} (hh : w.heap[g]? = some (.cells cur 4 (0, 0))) (h3 : cur.size = cap) (h1 : bs.length ≤ cap) (h2 : cap ≤ maxLen) (h4 : cur.toList.take bs.length = bcells bs) : BoolsAt w g cap bs :=
  ⟨by simp [bcells], Or.inr ⟨g, cap, cur, rfl, Nat.zero_le _, hh, h1, h2, by omega, by simpa using h4⟩⟩
theorem BoolsAt.frozen {w : World} {g cap : Nat} {bs : List Bool} (h : BoolsAt w g cap bs) (i : Nat) : w.frozen? ⟨g, i, none⟩ = false := by
  obtain ⟨cur, hh, _⟩ := h.block
  simp [World.frozen?, hh]
theorem BoolsAt.lt {w : World} {g cap : Nat} {bs : List Bool} (h : BoolsAt w g cap bs) : g < w.heap.size := by
  obtain ⟨cur, hh, _⟩ := h.block
  exact lt_of_block hh
theorem BoolsAt.kept {w w' : World} {g cap : Nat} {bs : List Bool} (h : BoolsAt w g cap bs) (hb : w'.heap[g]? = w.heap[g]?) : BoolsAt w' g cap bs := by
  obtain ⟨cur, hh, r1, r2, r3, r4⟩ := h.block
  exact .mk (hb.trans hh) r1 r2 r3 r4
theorem BoolsAt.set {w : World} {g cap : Nat} {bs : List Bool} (h : BoolsAt w g cap bs) (i : Nat) (b : Bool) : BoolsAt (w.setCell ⟨g, i, none⟩ (.bool b)) g cap (bs.set i b) := by
  obtain ⟨cur, hh, r1, r2, r3, r4⟩ := h.block
  refine .mk (setCell_block hh _) (by simpa using r1) (by simpa using r2) r3 ?_
  simp only [bcells, List.map_set, Array.toList_setIfInBounds, List.length_set]
  rw [← bcells, ← r4, List.take_set]

set_option maxRecDepth 20000 in
set_option maxHeartbeats 400000 in
theorem equal_any (g cap g' cap' : Nat) (bs cs : List Bool) (hl : bs.length ≤ 65536) (w : World) (hb : BoolsAt w g cap bs) (hc : BoolsAt w g' cap' cs) :
    Calls Ybaf.prog 8 #[.slice (some ⟨g, 0, none⟩) bs.length cap, .slice (some ⟨g', 0, none⟩) cs.length cap'] w fun e w' => e = .returned (.bool (decide (bs = cs))) ∧ ∃ k, w' = w.drewN k := by
  by_cases hlen : bs.length = cs.length
  · obtain ⟨n, hn⟩ : ∃ n, n = bs.length := ⟨_, rfl⟩
    rw [← hlen, ← hn]
    rw [← hn] at hl
    have HN : Hid (n = bs.length ∧ n = cs.length) := ⟨hn, hn.trans hlen⟩
    have HB : Hid _ := hb
    have HC : Hid _ := hc
    clear hn hlen hb hc
    go_enter Ybaf.func8, Ybaf.ntmps8
    go_wp2
    go_loopw [13] (fun vi wr => ∃ i k : Nat, i ≤ n ∧ vi = .int .i64 i ∧ wr = w.drewN k ∧ bs.take i = cs.take i) (fun vi _ => n - (intOf vi).toNat)
    case atStart => exact ⟨0, 0, Nat.zero_le _, rfl, rfl, by simp⟩
    case round =>
      obtain ⟨i, k, hi, rfl, rfl, ht⟩ := hrel
      have HT : Hid _ := ht
      clear ht
      by_cases hin : i < n
      · obtain ⟨x, hx⟩ : ∃ x, bs[i]? = some x := ⟨_, List.getElem?_eq_getElem (by have := HN.out.1; omega)⟩
        obtain ⟨y, hy⟩ : ∃ y, cs[i]? = some y := ⟨_, List.getElem?_eq_getElem (by have := HN.out.2; omega)⟩
        have cx := BoolsAt.cell HB.out hx
        have cy := BoolsAt.cell HC.out hy
        have HX : Hid _ := hx
        have HY : Hid _ := hy
        clear hx hy
        by_cases hxy : x = y
        · subst hxy
          go_wp2
          go_quiet (fail)
          go_wp2
          go_roundw
          case rel => exact ⟨i + 1, _, by omega, by go_num, rfl, by rw [List.take_add_one, List.take_add_one, HT.out, HX.out, HY.out]⟩
          case measure => simp [intOf]; omega
        · have hxy' : (x == y) = false := by simpa using hxy
          have HXY : Hid (x ≠ y) := hxy
          clear hxy
          go_wp2
          go_quiet (fail)
          go_wp2
          go_ret
          refine ⟨ret_bool ?_, k + nq, by simp⟩
          symm; rw [decide_eq_false_iff_not]; rintro rfl
          have h1 := HX.out; have h2 := HY.out; rw [h1] at h2
          exact HXY.out (Option.some.inj h2)
      · go_wp2
        go_ret
        refine ⟨ret_bool ?_, _, rfl⟩
        symm; rw [decide_eq_true_iff]
        have := HT.out
        rwa [List.take_of_length_le (by have := HN.out.1; omega), List.take_of_length_le (by have := HN.out.2; omega)] at this
  · have HL : Hid (bs.length ≠ cs.length) := hlen
    have hl2 : ((bs.length : Int) == (cs.length : Int)) = false := by simp; omega
    clear hlen hb hc
    go_enter Ybaf.func8, Ybaf.ntmps8
    go_wp2
    go_ret
    refine ⟨ret_bool ?_, 0, rfl⟩
    symm; rw [decide_eq_false_iff_not]; rintro rfl; exact HL.out rfl

set_option maxRecDepth 20000 in
set_option maxHeartbeats 400000 in
theorem clone_any (g cap : Nat) (bs : List Bool) (hl : bs.length ≤ 65536) (w : World) (hb : BoolsAt w g cap bs) :
    Calls Ybaf.prog 6 #[.slice (some ⟨g, 0, none⟩) bs.length cap] w fun e w' => ∃ g' cap', e = .returned (.slice (some ⟨g', 0, none⟩) bs.length cap') ∧ w.heap.size ≤ g' ∧ BoolsAt w' g' cap' bs ∧ Below w.heap.size w w' := by
  obtain ⟨i0, hi0, hz0, hz1, hz2⟩ := info_parts Ybaf.info4
  have heq := fun (wx : World) a n c => Lib.run_eql_slice_nil (P := Ybaf.prog) wx 23 4 a n c 0 0 Ybaf.underlying23
  have hbs : ∀ (wx : World), (Instr.buildSlice 23 0 #[]).run Ybaf.prog wx = .ok (.slice (some ⟨wx.heap.size, 0, none⟩) 0 0) (wx.alloc (.cells #[] 4)) := fun _ => by kernel_rfl
  have hcl : ∀ (o : Obj) j u, (bcells bs)[j]? = some u → (w.alloc o).cell? ((⟨g, 0, none⟩ : Addr).add j) = some u := by
    intro o j u hu
    exact (World.ownsRow.alloc hb o).cells (g := g) rfl j u hu
  have h1 : ∀ u ∈ bcells bs, u.oneCell' = true := by intro u hu; simp [bcells] at hu; rcases hu with ⟨_, rfl⟩ | ⟨_, rfl⟩ <;> rfl
  have HBl : Hid ((bcells bs).length = bs.length * 1) := by simp [bcells, Hid]
  have HB : Hid _ := hb
  clear hb
  obtain ⟨n, hn⟩ : ∃ n, n = bs.length := ⟨_, rfl⟩
  rw [← hn] at hl HBl ⊢
  have HN : Hid (n = bs.length) := hn
  clear hn
  go_enter Ybaf.func6, Ybaf.ntmps6
  go_wp2_with (at_builtin; refine wpList_append_own _ (by rfl) _ _ _ (by rfl) w.heap.size 4 i0 _ 1 1 Ybaf.underlying23 hi0 hz0 hz1 hz2 rfl (by omega) (.slice (some ⟨w.heap.size, 0, none⟩) 0 0) 0 [] (by rfl) (World.ownsRow_made w #[] 0 (Nat.le_refl _) (by unfold maxLen; omega) (by simp)) ⟨g, 0, none⟩ n cap (bcells bs) (by rfl) HBl.out (hcl _) h1 (by unfold maxLen; omega) (by omega) (by simp) ?_; intro v' w1 hown1 hgrow hnil)
  have hform : ∃ g' cap', v' = .slice (some ⟨g', 0, none⟩) n cap' ∧ w.heap.size ≤ g' := by
    rcases hown1.2 with ⟨e, _⟩ | ⟨g', cap', cur, e, hb, _⟩
    · rw [hnil] at e; simp at e
    · exact ⟨g', cap', by rw [e]; simp, hb⟩
  obtain ⟨g', cap', hv, hge⟩ := hform
  rw [hv] at hown1 ⊢
  have hn := HN.out
  go_ret
  refine ⟨g', cap', rfl, hge, ?_, ((Below.refl _ w).alloc (Nat.le_refl _) _).grown hgrow (by simp) (fun k hk => by simp [Value.ownBlock] at hk; omega)⟩
  subst hn
  rcases hown1.2 with ⟨e, _⟩ | ⟨g2, cap2, cur, e, hb, hh, h1, h2, h3, h4⟩
  · simp at e
  · simp only [Value.slice.injEq, Option.some.injEq, Addr.mk.injEq] at e
    obtain ⟨⟨rfl, _⟩, _, rfl⟩ := e
    exact .mk hh (by omega) (by omega) h2 (by simpa using h4)
end Go.Proofs.YbulkacrqeaFmt
