import Derived.Test.YbulkacrqhuA3
namespace Go.Proofs.Ybulkacrqhu
open Go.RowKit

set_option maxHeartbeats 800000 in
theorem suffix_walk (a : Int) (w : World) :
    Calls Yba.prog 4 #[.int .u8 a] w fun e w' => ∃ p : ByteArray, e = .returned (.string p) ∧ p.size ≤ 3 ∧ w' = w := by
  go_enter Yba.func4, Yba.ntmps4
  go_wp2
  all_goals
    go_ret
    exact ⟨_, rfl, by decide, rfl⟩

/-- readPattern and the model answer the same. -/
theorem both (x : ByteArray) (hx : x.size ≤ 9223372036854775807) : ∃ (k : Int) (t : ByteArray),
    (∀ W, Calls Yba.prog 5 #[.string x] W fun e w' => e = .returned (.tuple #[.int .i64 k, .string t]) ∧ w' = W) ∧
    (∀ W, Calls Yba.prog 6 #[.string x] W fun e w' => e = .returned (.tuple #[.int .i64 k, .string t]) ∧ ∃ n, w' = W.drewN n) := by
  refine ⟨(spec x).1, (spec x).2, fun W => ?_, fun W => model x hx W⟩
  have h := read_pat x hx W
  rw [rp_spec] at h
  exact h

set_option maxHeartbeats 1600000 in
theorem law_far (s : ByteArray) (a : Int) (b : Bool) (w : World) (hs : (1048576 : Int) < (s.size : Int)) :
    Calls Yba.prog 3 #[.string s, .int .u8 a, .bool b] w fun e w' => e = .returned (.bool true) ∧ Below w.heap.size w w' := by
  go_enter Yba.func3, Yba.ntmps3
  go_wp2_with fail
  go_ret
  exact ⟨rfl, Below.refl _ _⟩

set_option maxHeartbeats 1600000 in
theorem law_near (s : ByteArray) (a : Int) (b : Bool) (w : World) (hs : ¬ (1048576 : Int) < (s.size : Int)) :
    Calls Yba.prog 3 #[.string s, .int .u8 a, .bool b] w fun e w' => e = .returned (.bool true) ∧ Below w.heap.size w w' := by
  obtain ⟨k0, t0, R0, M0⟩ := both s (by omega)
  have HR0 : Hid (∀ W, Calls Yba.prog 5 #[.string s] W fun e w' => e = .returned (.tuple #[.int .i64 k0, .string t0]) ∧ w' = W) := R0
  have HM0 : Hid (∀ W, Calls Yba.prog 6 #[.string s] W fun e w' => e = .returned (.tuple #[.int .i64 k0, .string t0]) ∧ ∃ n, w' = W.drewN n) := M0
  clear R0 M0
  cases b
  · go_enter Yba.func3, Yba.ntmps3
    go_wp2_with fail
    refine (suffix_walk a w).mono ?_
    rintro e _ ⟨p, rfl, hp, rfl⟩
    have hsum : ¬ (s.size + p.size > 9223372036854775807) := by omega
    obtain ⟨k1, t1, R1, M1⟩ := both (s ++ p) (by rw [ByteArray.size_append]; omega)
    have HR1 : Hid (∀ W, Calls Yba.prog 5 #[.string (s ++ p)] W fun e w' => e = .returned (.tuple #[.int .i64 k1, .string t1]) ∧ w' = W) := R1
    have HM1 : Hid (∀ W, Calls Yba.prog 6 #[.string (s ++ p)] W fun e w' => e = .returned (.tuple #[.int .i64 k1, .string t1]) ∧ ∃ n, w' = W.drewN n) := M1
    clear R1 M1
    go_wp2_with fail
    refine (HR1.out _).mono ?_
    rintro e _ ⟨rfl, rfl⟩
    go_wp2_with fail
    refine (HM1.out _).mono ?_
    rintro e _ ⟨rfl, n, rfl⟩
    go_wp2_with fail
    refine (HR0.out _).mono ?_
    rintro e _ ⟨rfl, rfl⟩
    go_wp2_with fail
    refine (HM0.out _).mono ?_
    rintro e _ ⟨rfl, n2, rfl⟩
    go_wp2_with fail
    go_ret
    exact ⟨rfl, below_drewN (Below.refl _ _) _⟩
  · go_enter Yba.func3, Yba.ntmps3
    go_wp2_with fail
    refine (suffix_walk a w).mono ?_
    rintro e _ ⟨p, rfl, hp, rfl⟩
    have hsum : ¬ (s.size + p.size > 9223372036854775807) := by omega
    go_wp2_with fail
    refine (suffix_walk a _).mono ?_
    rintro e _ ⟨q, rfl, hq, rfl⟩
    obtain ⟨k1, t1, R1, M1⟩ := both q (by omega)
    have HR1 : Hid (∀ W, Calls Yba.prog 5 #[.string q] W fun e w' => e = .returned (.tuple #[.int .i64 k1, .string t1]) ∧ w' = W) := R1
    have HM1 : Hid (∀ W, Calls Yba.prog 6 #[.string q] W fun e w' => e = .returned (.tuple #[.int .i64 k1, .string t1]) ∧ ∃ n, w' = W.drewN n) := M1
    clear R1 M1
    go_wp2_with fail
    refine (HR1.out _).mono ?_
    rintro e _ ⟨rfl, rfl⟩
    go_wp2_with fail
    refine (HM1.out _).mono ?_
    rintro e _ ⟨rfl, n, rfl⟩
    go_wp2_with fail
    refine (HR0.out _).mono ?_
    rintro e _ ⟨rfl, rfl⟩
    go_wp2_with fail
    refine (HM0.out _).mono ?_
    rintro e _ ⟨rfl, n2, rfl⟩
    go_wp2_with fail
    go_ret
    exact ⟨rfl, below_drewN (Below.refl _ _) _⟩

theorem law_walk (s : ByteArray) (a : Int) (b : Bool) (w : World) :
    Calls Yba.prog 3 #[.string s, .int .u8 a, .bool b] w fun e w' => e = .returned (.bool true) ∧ Below w.heap.size w w' := by
  by_cases hs : (1048576 : Int) < (s.size : Int)
  · exact law_far s a b w hs
  · exact law_near s a b w hs
end Go.Proofs.Ybulkacrqhu
