import Derived.Test.YbulkacrqeaDoorC5
namespace Go.Proofs.YbulkacrqeaDoor
open Go.RowKit

theorem ownsRow_below {w W : World} {B e size : Nat} {v : Value} {n : Nat} {xs : List Value} (h : w.ownsRow B e size v n xs) (hb : Below w.heap.size w W) : W.ownsRow B e size v n xs := by
  refine ⟨h.1, ?_⟩
  rcases h.2 with h0 | ⟨g, cap, cur, h1, h2, h3, h4⟩
  · exact Or.inl h0
  · refine Or.inr ⟨g, cap, cur, h1, h2, ?_, h4⟩
    have hlt : g < w.heap.size := by
      rcases Nat.lt_or_ge g w.heap.size with h' | h'
      · exact h'
      · rw [Array.getElem?_eq_none h'] at h3; cases h3
    rw [hb.block g hlt]
    exact h3

set_option maxHeartbeats 800000 in
theorem law_long (p : Option Addr) (n c : Nat) (b : Bool) (h : 1048576 < n) (w : World) :
    Calls Ybad.prog 3 #[.slice p n c, .bool b] w fun e w' => e = .returned (.bool true) ∧ w' = w := by
  have h1 : (1048576 : Int) < (n : Int) := by omega
  go_enter Ybad.func3, Ybad.ntmps3
  go_wp2
  go_ret
  exact ⟨rfl, rfl⟩

set_option maxRecDepth 20000 in
set_option maxHeartbeats 1600000 in
theorem law_plain (p : Option Addr) (n c : Nat) (l : List UInt8) (h : n ≤ 1048576) (w : World) (H : TailOk (.slice p n c) l w) :
    Calls Ybad.prog 3 #[.slice p n c, .bool false] w fun e w' => e = .returned (.bool true) ∧ Below w.heap.size w w' := by
  have h1 : ¬ (1048576 : Int) < (n : Int) := by omega
  have HH : Hid (TailOk (.slice p n c) l w) := H
  clear H h
  go_enter Ybad.func3, Ybad.ntmps3
  go_wp2_with fail
  refine HH.out.clone.mono ?_
  rintro e w1 ⟨v', rfl, hown, hb1⟩
  have hp := HH.out.parse w1 hb1
  have hm := fun W (h : Below w1.heap.size w1 W) => model l v' w.heap.size W (ownsRow_below hown h)
  generalize pc l = r at hp hm
  obtain ⟨r1, r2⟩ := r
  have HM : Hid (∀ W, Below w1.heap.size w1 W → Calls Ybad.prog 7 #[v'] W fun e w' => e = .returned (.tuple #[.int .u64 (r1 : Nat), .bool r2]) ∧ ∃ k, w' = W.drewN k) := hm
  have HO := Lib.hid hown
  have HB := Lib.hid hb1
  clear hm hown hb1
  go_wp2_with fail
  refine hp.mono ?_
  rintro e w2 ⟨rfl, hb2⟩
  have hm2 := HM.out w2 hb2
  have HB2 := Lib.hid hb2
  clear hp hb2
  go_wp2_with fail
  refine hm2.mono ?_
  rintro e w3 ⟨rfl, k, hw3⟩
  have hb3 : Below w1.heap.size w1 w3 := by rw [hw3]; exact below_drewN HB2.out k
  have hbw : Below w.heap.size w w3 := HB.out.trans (hb3.mono HB.out.size)
  have hs := HH.out.same v' w3 hbw (ownsRow_below HO.out hb3)
  have HW := Lib.hid hbw
  clear hm2 hw3 hb3 hbw
  cases r2
  all_goals
    go_wp2_with fail
    refine hs.mono ?_
    rintro e w4 ⟨rfl, rfl⟩
    go_wp2
    go_ret
    exact ⟨rfl, HW.out⟩
end Go.Proofs.YbulkacrqeaDoor
