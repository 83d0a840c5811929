import Derived.Test.YbulkacrqeaFmtC1
namespace Go.Proofs.YbulkacrqeaFmt
open Go.RowKit

set_option maxHeartbeats 400000 in
theorem event_nil (t : Int) (w : World) :
    Calls Ybaf.prog 12 #[.pointer none, .int .u64 t] w fun e w' => e = .returned (.tuple #[.int .i64 0, .bool false]) ∧ w' = w := by
  go_enter Ybaf.func12, Ybaf.ntmps12
  go_wp2
  go_ret2
  exact ⟨rfl, rfl⟩

set_option maxRecDepth 20000 in
set_option maxHeartbeats 400000 in
theorem event_any (p : Nat) (av mv : Value) (h : List (Nat × Int)) (t : Int) (ht0 : 1 ≤ t) (ht1 : t ≤ 255) (w : World) (H : HostEv w p av mv h) :
    Calls Ybaf.prog 12 #[.pointer (some ⟨p, 0, none⟩), .int .u64 t] w fun e w' => e = .returned (.tuple #[.int .i64 ((firstAt h t).getD 0), .bool (firstAt h t).isSome]) ∧ w' = w := by
  obtain ⟨⟨cnt, hc0, hc1, h0⟩, h1, h2, h3, h4⟩ := H
  have c0 : w.cell? ⟨p, 0, none⟩ = some av := by rw [cell_of_row w _ _ _ _ _ h0]; rfl
  have c1 : w.cell? ⟨p, 0 + 1, none⟩ = some mv := by rw [cell_of_row w _ _ _ _ _ h0]; rfl
  have hneq := fun (w : World) r => run_neq_map_nil (P := Ybaf.prog) w 57 49 3 r Ybaf.underlying57
  rcases h2 with ⟨rfl, hs⟩ | ⟨b, rfl, hc⟩
  · obtain ⟨k, rfl⟩ : ∃ k : Nat, t = (k : Int) + 1 := ⟨(t - 1).toNat, by omega⟩
    have hf := firstAt_seq hs k
    rcases h1.2 with ⟨rfl, hn⟩ | ⟨g, cap, cur, rfl, hb, hh, hcap, hmx, hsz, htake⟩
    · have : h[k]? = none := List.getElem?_eq_none (by omega)
      rw [this] at hf
      have HF : Hid _ := hf
      clear hf h0 h1 h3 this hs
      go_enter Ybaf.func12, Ybaf.ntmps12
      go_wp2
      go_ret2
      rw [HF.out]
      exact ⟨rfl, rfl⟩
    · by_cases hk : k < h.length
      · obtain ⟨x, hx⟩ : ∃ x, h[k]? = some x := ⟨_, List.getElem?_eq_getElem hk⟩
        have cx : w.cell? ⟨g, k, none⟩ = some (.int .i64 x.1) := by
          have := h1.cells (g := g) rfl k (.int .i64 x.1) (by rw [List.getElem?_map, hx]; rfl)
          have hadd : (⟨g, 0, none⟩ : Addr).add k = ⟨g, k, none⟩ := by unfold Addr.add; split <;> simp_all
          rwa [hadd] at this
        rw [hx] at hf
        have HF : Hid _ := hf
        obtain ⟨n, hn⟩ : ∃ n, n = h.length := ⟨_, rfl⟩
        rw [← hn] at c0 hk h4
        clear hf h0 h1 h3 hx hs hh htake hcap hn
        go_enter Ybaf.func12, Ybaf.ntmps12
        go_wp2
        go_ret2
        rw [HF.out]
        exact ⟨rfl, rfl⟩
      · have : h[k]? = none := List.getElem?_eq_none (by omega)
        rw [this] at hf
        have HF : Hid _ := hf
        obtain ⟨n, hn⟩ : ∃ n, n = h.length := ⟨_, rfl⟩
        rw [← hn] at c0 hk h4
        clear hf h0 h1 h3 this hs hh htake hcap hn
        go_enter Ybaf.func12, Ybaf.ntmps12
        go_wp2
        go_ret2
        rw [HF.out]
        exact ⟨rfl, rfl⟩
  · have hl := hc.look (t := t) ⟨by omega, by omega⟩
    clear h0 h1 h3 hc
    go_enter Ybaf.func12, Ybaf.ntmps12
    go_wp2
    go_ret2
    exact ⟨rfl, rfl⟩
end Go.Proofs.YbulkacrqeaFmt
