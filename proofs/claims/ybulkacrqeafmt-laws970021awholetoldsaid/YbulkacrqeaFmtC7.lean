import Derived.Test.YbulkacrqeaFmtC6
namespace Go.Proofs.YbulkacrqeaFmt
open Go.RowKit

theorem add_any (p : Nat) (av mv : Value) (h : List (Nat × Int)) (i : Nat) (own : Int) (hi : i < 65536) (ho0 : 0 ≤ own) (ho1 : own ≤ 255) (hlen : h.length < 65536) (w : World) (H : HostEv w p av mv h) :
    Calls Ybaf.prog 9 #[.pointer (some ⟨p, 0, none⟩), .int .i64 i, .int .u64 own] w fun e w' => e = .returned (.tuple #[]) ∧ AddPost w p av mv h i own w' := by
  have H' := H
  obtain ⟨_, _, h2, _⟩ := H'
  rcases h2 with ⟨rfl, hs⟩ | ⟨b, rfl, hC⟩
  · by_cases e : own = h.length + 1
    · subst e
      exact add_A p av h i hi hlen (by omega) w H hs
    · exact add_B p av h i own hi ho0 ho1 hlen e w H hs
  · exact add_C p av b h i own hi ho0 ho1 hlen w H hC

theorem first_le {h : List (Nat × Int)} (hb : ∀ x ∈ h, x.1 < 65536 ∧ 0 ≤ x.2 ∧ x.2 ≤ 255) {t : Int} (hh : (firstAt h t).isSome = true) : t ≤ 255 := by
  unfold firstAt at hh
  cases hf : h.find? (fun x => x.2 == t) with
  | none => rw [hf] at hh; simp at hh
  | some x =>
    have h1 := List.mem_of_find?_eq_some hf
    have h2 := List.find?_some hf
    have h3 := hb x h1
    simp at h2
    omega

theorem host_put {w : World} {p : Nat} {a m c : Value} (h0 : w.heap[p]? = some (.cells #[a, m, c] 59 (0, 0))) (v : Value) : (w.setCell ⟨p, 2, none⟩ v).heap[p]? = some (.cells #[a, m, v] 59 (0, 0)) := setCell_block h0 v

set_option maxRecDepth 20000 in
set_option maxHeartbeats 1000000 in
theorem count_any (p : Nat) (av mv : Value) (h : List (Nat × Int)) (w : World) (H : HostEv w p av mv h) :
    Calls Ybaf.prog 11 #[.pointer (some ⟨p, 0, none⟩)] w fun e w' => e = .returned (.tuple #[]) ∧ HostEv w' p av mv h ∧ Moved [p] w w' := by
  obtain ⟨⟨cnt, hc0, hc1, h0⟩, h1, h2, h3, h4⟩ := H
  have hneq := fun (w : World) r => run_neq_map_nil (P := Ybaf.prog) w 57 49 3 r Ybaf.underlying57
  have heql := fun (w : World) r => run_eql_map_nil (P := Ybaf.prog) w 57 49 3 r Ybaf.underlying57
  obtain ⟨c0, c1, c2, c3, c4, c5⟩ := host_cells h0
  rcases h2 with ⟨rfl, hs⟩ | ⟨b, rfl, hC⟩
  · rcases h1.2 with ⟨rfl, hn⟩ | ⟨g, cap, cur, rfl, hb, hh, hcap, hmx, hsz, htake⟩
    · obtain rfl : h = [] := List.eq_nil_of_length_eq_zero hn
      have H0 : Hid _ := h0
      clear h1 h3 h0
      go_enter Ybaf.func11, Ybaf.ntmps11
      go_wp2
      first | go_end0 | refine bodyPost_ret (results_none rfl _ _ _) rfl ?_
      exact ⟨rfl, ⟨⟨0, by omega, by omega, host_put H0.out _⟩, World.ownsRow_nil _ _ _ _, Or.inl ⟨rfl, hs⟩, by simp, by simp⟩, Moved.of_setCell w ⟨p, 2, none⟩ _⟩
    · have H0 : Hid _ := h0
      have H1 : Hid _ := h1
      have H3 : Hid _ := h3
      obtain ⟨n, hn⟩ : ∃ n, n = h.length := ⟨_, rfl⟩
      rw [← hn] at c0 h4
      have HN : Hid (n = h.length) := hn
      clear h1 h3 h0 hh hb hcap hmx hsz htake hn
      go_enter Ybaf.func11, Ybaf.ntmps11
      go_wp2
      first | go_end0 | refine bodyPost_ret (results_none rfl _ _ _) rfl ?_
      have hn := HN.out
      subst hn
      exact ⟨rfl, ⟨⟨_, by omega, by omega, host_put H0.out _⟩, row_setCell H0.out H1.out _, Or.inl ⟨rfl, hs⟩, H3.out, h4⟩, Moved.of_setCell w ⟨p, 2, none⟩ _⟩
  · obtain ⟨es, clock, hbk⟩ := hC.block
    have hbp : b ≠ p := by rintro rfl; rw [h0] at hbk; simp at hbk
    have H0 : Hid _ := h0
    have H1 : Hid _ := h1
    have H3 : Hid _ := h3
    have HC : Hid _ := hC
    clear h1 h3 h0 hC hbk c0 c2 c3 c4 c5
    go_enter Ybaf.func11, Ybaf.ntmps11
    go_wp2
    go_loopw [2, 3] (fun _ _ wr => ∃ c : Int, 0 ≤ c ∧ c ≤ 65536 ∧ wr.heap[p]? = some (.cells #[av, .map (some b), .int .u64 c] 59 (0, 0)) ∧ wr.ownsRow 0 3 1 av h.length (rowOf h) ∧ CMap wr b h.length (firstAt h) ∧ Moved [p] w wr)
      (fun _ _ wr => 256 - (intOf ((wr.cell? ⟨p, 0 + 2, none⟩).getD undef)).toNat)
    case atStart => exact ⟨cnt, hc0, hc1, H0.out, H1.out, HC.out, Moved.refl _ _⟩
    case round =>
      obtain ⟨c, hcc0, hcc1, r0, r1, r2, r3⟩ := hrel
      obtain ⟨t0, t1, t2, t3, t4, t5⟩ := host_cells r0
      have hl := fun m => CMap.look (w := wr.drewN m) r2 (t := c + 1) ⟨by omega, by omega⟩
      have R0 : Hid _ := r0
      have R1 : Hid _ := r1
      have R2 : Hid _ := r2
      have R3 : Hid _ := r3
      clear r0 r1 r2 r3
      by_cases hh : (firstAt h (c + 1)).isSome = true
      · have hle := first_le H3.out hh
        go_wp2
        go_quiet (fail)
        go_wp2
        go_roundw
        case rel =>
          have q1 : wr.ownsRow 0 3 1 av h.length (rowOf h) := R1.out
          have m1 := Moved.trans R3.out (Moved.of_setCell wr ⟨p, 2, none⟩ (.int .u64 (c + 1)))
          refine ⟨c + 1, by omega, by omega, host_put R0.out _, ?_, CMap.kept R2.out (Below.heap_setCell wr ⟨p, 2, none⟩ _ _ hbp), ⟨m1.os, m1.tape, m1.output, m1.size, m1.block⟩⟩
          rcases q1.2 with ⟨e, hn⟩ | ⟨g, cap, cur, e, hb, hh, r⟩
          · exact ⟨q1.1, Or.inl ⟨e, hn⟩⟩
          · subst e
            exact row_setCell R0.out q1 _
        case measure =>
          have u1 : ((wr.drewN nq).setCell ⟨p, 2, none⟩ (.int .u64 (c + 1))).cell? ⟨p, 0 + 2, none⟩ = some (.int .u64 (c + 1)) := (host_cells (host_put (w := wr.drewN nq) R0.out (.int .u64 (c + 1)))).2.2.1
          rw [u1, t2]
          simp [intOf]; omega
      · have hh' : (firstAt h (c + 1)).isSome = false := by simpa using hh
        clear hh
        go_wp2
        go_quiet (fail)
        go_wp2
        first | go_end0 | refine bodyPost_ret (results_none rfl _ _ _) rfl ?_
        exact ⟨rfl, ⟨⟨c, hcc0, hcc1, R0.out⟩, R1.out, Or.inr ⟨b, rfl, R2.out⟩, H3.out, h4⟩, Moved.trans R3.out ⟨rfl, rfl, rfl, Nat.le_refl _, fun _ _ _ => rfl⟩⟩
end Go.Proofs.YbulkacrqeaFmt
