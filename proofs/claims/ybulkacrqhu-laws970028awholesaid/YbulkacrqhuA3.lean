import Derived.Test.YbulkacrqhuA2
namespace Go.Proofs.Ybulkacrqhu
open Go.RowKit

theorem model (s : ByteArray) (hm : s.size ≤ 9223372036854775807) (w : World) :
    Calls Yba.prog 6 #[.string s] w fun e w' => e = .returned (.tuple #[.int .i64 (spec s).1, .string (spec s).2]) ∧ ∃ k, w' = w.drewN k := by
  unfold spec
  rcases hr : s.data.toList.reverse with _ | ⟨a, _ | ⟨b, _ | ⟨c, t⟩⟩⟩
  · have hz := size_rev s _ hr
    simp only [List.length_nil] at hz
    exact m0 s w hm (by omega) (by omega) (by rw [hz]; rfl)
  · have hz := size_rev s _ hr
    simp only [List.length_cons, List.length_nil] at hz
    have i0 := fun W => ix_run s [] a [] hr 0 (by simp; omega) W
    by_cases ha : a = 42
    · simp only [if_pos ha]
      exact m1_T s _ w hm (by omega) (by omega) (by rw [hz]; rfl) i0 (at_eq ha 42 rfl)
    · simp only [if_neg ha]
      exact m1_Y s _ w hm (by omega) (by omega) (by rw [hz]; rfl) i0 (at_ne ha 42 rfl)
  · have hz := size_rev s _ hr
    simp only [List.length_cons, List.length_nil] at hz
    have i1 := fun W => ix_run s [] a [b] hr ((s.size : Int) - 1) (by simp) W
    have i2 := fun W => ix_run s [a] b [] hr ((s.size : Int) - 2) (by simp) W
    have n1 : ((s.size : Int) == 1) = false := by rw [hz]; rfl
    by_cases ha : a = 42
    · by_cases hb : b = 46
      · simp only [if_pos (And.intro ha hb)]
        exact m2_V s _ _ w hm (by omega) (by omega) n1 i1 i2 (at_eq ha 42 rfl) (at_eq hb 46 rfl)
      · simp only [if_neg (fun h : a = 42 ∧ b = 46 => hb h.2)]
        exact m2_X s _ _ w hm (by omega) (by omega) n1 i1 i2 (at_eq ha 42 rfl) (at_ne hb 46 rfl)
    · simp only [if_neg (fun h : a = 42 ∧ b = 46 => ha h.1)]
      exact m2_Y s _ _ w hm (by omega) (by omega) n1 i1 i2 (at_ne ha 42 rfl)
  · have hz := size_rev s _ hr
    simp only [List.length_cons] at hz
    have i1 := fun W => ix_run s [] a (b :: c :: t) hr ((s.size : Int) - 1) (by simp) W
    have i2 := fun W => ix_run s [a] b (c :: t) hr ((s.size : Int) - 2) (by simp) W
    have i3 := fun W => ix_run s [a, b] c t hr ((s.size : Int) - 3) (by simp) W
    have n1 : ((s.size : Int) == 1) = false := by rw [beq_eq_false_iff_ne]; omega
    by_cases ha : a = 42
    · by_cases hb : b = 42
      · have hb6 : ¬ b = 46 := by rw [hb]; decide
        by_cases hc : c = 46
        · simp only [if_pos (And.intro ha (And.intro hb hc))]
          exact m3_T s _ _ _ w hm (by omega) (by omega) n1 i1 i2 i3 (at_eq ha 42 rfl) (at_eq hb 42 rfl) (at_eq hc 46 rfl)
        · simp only [if_neg (fun h : a = 42 ∧ b = 42 ∧ c = 46 => hc h.2.2), if_neg (fun h : a = 42 ∧ b = 46 => hb6 h.2)]
          exact m3_U s _ _ _ w hm (by omega) (by omega) n1 i1 i2 i3 (at_eq ha 42 rfl) (at_eq hb 42 rfl) (at_ne hb6 46 rfl) (at_ne hc 46 rfl)
      · by_cases hb6 : b = 46
        · simp only [if_neg (fun h : a = 42 ∧ b = 42 ∧ c = 46 => hb h.2.1), if_pos (And.intro ha hb6)]
          exact m3_V s _ _ _ w hm (by omega) (by omega) n1 i1 i2 i3 (at_eq ha 42 rfl) (at_ne hb 42 rfl) (at_eq hb6 46 rfl)
        · simp only [if_neg (fun h : a = 42 ∧ b = 42 ∧ c = 46 => hb h.2.1), if_neg (fun h : a = 42 ∧ b = 46 => hb6 h.2)]
          exact m3_X s _ _ _ w hm (by omega) (by omega) n1 i1 i2 i3 (at_eq ha 42 rfl) (at_ne hb 42 rfl) (at_ne hb6 46 rfl)
    · simp only [if_neg (fun h : a = 42 ∧ b = 42 ∧ c = 46 => ha h.1), if_neg (fun h : a = 42 ∧ b = 46 => ha h.1)]
      exact m3_Y s _ _ _ w hm (by omega) (by omega) n1 i1 i2 i3 (at_ne ha 42 rfl)

set_option maxHeartbeats 800000 in
set_option linter.unusedVariables false in
theorem r_TT (s t1 t2 : ByteArray) (w : World)
    (H1 : Hid (∀ W, Calls Yba.prog 7 #[.string s, .string ⟨#[42, 42]⟩] W fun e w' => e = .returned (.tuple #[.string t1, .bool true]) ∧ w' = W))
    (H2 : Hid (∀ W, Calls Yba.prog 8 #[.string t1, .string ⟨#[46]⟩] W fun e w' => e = .returned (.bool true) ∧ w' = W)) :
    Calls Yba.prog 5 #[.string s] w fun e w' => e = .returned (.tuple #[.int .i64 3, .string t1]) ∧ w' = w := by
  go_enter Yba.func5, Yba.ntmps5
  go_wp2_with fail
  refine (H1.out _).mono ?_
  rintro e _ ⟨rfl, rfl⟩
  go_wp2_with fail
  refine (H2.out _).mono ?_
  rintro e _ ⟨rfl, rfl⟩
  go_wp2_with fail
  go_ret2
  exact ⟨rfl, rfl⟩

set_option maxHeartbeats 800000 in
set_option linter.unusedVariables false in
theorem r_TF_TT (s t1 t2 : ByteArray) (w : World)
    (H1 : Hid (∀ W, Calls Yba.prog 7 #[.string s, .string ⟨#[42, 42]⟩] W fun e w' => e = .returned (.tuple #[.string t1, .bool true]) ∧ w' = W))
    (H2 : Hid (∀ W, Calls Yba.prog 8 #[.string t1, .string ⟨#[46]⟩] W fun e w' => e = .returned (.bool false) ∧ w' = W))
    (H3 : Hid (∀ W, Calls Yba.prog 7 #[.string s, .string ⟨#[42]⟩] W fun e w' => e = .returned (.tuple #[.string t2, .bool true]) ∧ w' = W))
    (H4 : Hid (∀ W, Calls Yba.prog 8 #[.string t2, .string ⟨#[46]⟩] W fun e w' => e = .returned (.bool true) ∧ w' = W)) :
    Calls Yba.prog 5 #[.string s] w fun e w' => e = .returned (.tuple #[.int .i64 2, .string t2]) ∧ w' = w := by
  go_enter Yba.func5, Yba.ntmps5
  go_wp2_with fail
  refine (H1.out _).mono ?_
  rintro e _ ⟨rfl, rfl⟩
  go_wp2_with fail
  refine (H2.out _).mono ?_
  rintro e _ ⟨rfl, rfl⟩
  go_wp2_with fail
  refine (H3.out _).mono ?_
  rintro e _ ⟨rfl, rfl⟩
  go_wp2_with fail
  refine (H4.out _).mono ?_
  rintro e _ ⟨rfl, rfl⟩
  go_wp2_with fail
  go_ret2
  exact ⟨rfl, rfl⟩

set_option maxHeartbeats 800000 in
set_option linter.unusedVariables false in
theorem r_TF_TF_T (s t1 t2 : ByteArray) (w : World)
    (H1 : Hid (∀ W, Calls Yba.prog 7 #[.string s, .string ⟨#[42, 42]⟩] W fun e w' => e = .returned (.tuple #[.string t1, .bool true]) ∧ w' = W))
    (H2 : Hid (∀ W, Calls Yba.prog 8 #[.string t1, .string ⟨#[46]⟩] W fun e w' => e = .returned (.bool false) ∧ w' = W))
    (H3 : Hid (∀ W, Calls Yba.prog 7 #[.string s, .string ⟨#[42]⟩] W fun e w' => e = .returned (.tuple #[.string t2, .bool true]) ∧ w' = W))
    (H4 : Hid (∀ W, Calls Yba.prog 8 #[.string t2, .string ⟨#[46]⟩] W fun e w' => e = .returned (.bool false) ∧ w' = W))
    (h5 : (s.toList == [42]) = true) :
    Calls Yba.prog 5 #[.string s] w fun e w' => e = .returned (.tuple #[.int .i64 1, .string ⟨#[]⟩]) ∧ w' = w := by
  go_enter Yba.func5, Yba.ntmps5
  go_wp2_with fail
  refine (H1.out _).mono ?_
  rintro e _ ⟨rfl, rfl⟩
  go_wp2_with fail
  refine (H2.out _).mono ?_
  rintro e _ ⟨rfl, rfl⟩
  go_wp2_with fail
  refine (H3.out _).mono ?_
  rintro e _ ⟨rfl, rfl⟩
  go_wp2_with fail
  refine (H4.out _).mono ?_
  rintro e _ ⟨rfl, rfl⟩
  go_wp2_with fail
  go_ret2
  exact ⟨rfl, rfl⟩

set_option maxHeartbeats 800000 in
set_option linter.unusedVariables false in
theorem r_TF_TF_F (s t1 t2 : ByteArray) (w : World)
    (H1 : Hid (∀ W, Calls Yba.prog 7 #[.string s, .string ⟨#[42, 42]⟩] W fun e w' => e = .returned (.tuple #[.string t1, .bool true]) ∧ w' = W))
    (H2 : Hid (∀ W, Calls Yba.prog 8 #[.string t1, .string ⟨#[46]⟩] W fun e w' => e = .returned (.bool false) ∧ w' = W))
    (H3 : Hid (∀ W, Calls Yba.prog 7 #[.string s, .string ⟨#[42]⟩] W fun e w' => e = .returned (.tuple #[.string t2, .bool true]) ∧ w' = W))
    (H4 : Hid (∀ W, Calls Yba.prog 8 #[.string t2, .string ⟨#[46]⟩] W fun e w' => e = .returned (.bool false) ∧ w' = W))
    (h5 : (s.toList == [42]) = false) :
    Calls Yba.prog 5 #[.string s] w fun e w' => e = .returned (.tuple #[.int .i64 0, .string ⟨#[]⟩]) ∧ w' = w := by
  go_enter Yba.func5, Yba.ntmps5
  go_wp2_with fail
  refine (H1.out _).mono ?_
  rintro e _ ⟨rfl, rfl⟩
  go_wp2_with fail
  refine (H2.out _).mono ?_
  rintro e _ ⟨rfl, rfl⟩
  go_wp2_with fail
  refine (H3.out _).mono ?_
  rintro e _ ⟨rfl, rfl⟩
  go_wp2_with fail
  refine (H4.out _).mono ?_
  rintro e _ ⟨rfl, rfl⟩
  go_wp2_with fail
  go_ret2
  exact ⟨rfl, rfl⟩

set_option maxHeartbeats 800000 in
set_option linter.unusedVariables false in
theorem r_TF_F_T (s t1 t2 : ByteArray) (w : World)
    (H1 : Hid (∀ W, Calls Yba.prog 7 #[.string s, .string ⟨#[42, 42]⟩] W fun e w' => e = .returned (.tuple #[.string t1, .bool true]) ∧ w' = W))
    (H2 : Hid (∀ W, Calls Yba.prog 8 #[.string t1, .string ⟨#[46]⟩] W fun e w' => e = .returned (.bool false) ∧ w' = W))
    (H3 : Hid (∀ W, Calls Yba.prog 7 #[.string s, .string ⟨#[42]⟩] W fun e w' => e = .returned (.tuple #[.string t2, .bool false]) ∧ w' = W))
    (h5 : (s.toList == [42]) = true) :
    Calls Yba.prog 5 #[.string s] w fun e w' => e = .returned (.tuple #[.int .i64 1, .string ⟨#[]⟩]) ∧ w' = w := by
  go_enter Yba.func5, Yba.ntmps5
  go_wp2_with fail
  refine (H1.out _).mono ?_
  rintro e _ ⟨rfl, rfl⟩
  go_wp2_with fail
  refine (H2.out _).mono ?_
  rintro e _ ⟨rfl, rfl⟩
  go_wp2_with fail
  refine (H3.out _).mono ?_
  rintro e _ ⟨rfl, rfl⟩
  go_wp2_with fail
  go_ret2
  exact ⟨rfl, rfl⟩

set_option maxHeartbeats 800000 in
set_option linter.unusedVariables false in
theorem r_TF_F_F (s t1 t2 : ByteArray) (w : World)
    (H1 : Hid (∀ W, Calls Yba.prog 7 #[.string s, .string ⟨#[42, 42]⟩] W fun e w' => e = .returned (.tuple #[.string t1, .bool true]) ∧ w' = W))
    (H2 : Hid (∀ W, Calls Yba.prog 8 #[.string t1, .string ⟨#[46]⟩] W fun e w' => e = .returned (.bool false) ∧ w' = W))
    (H3 : Hid (∀ W, Calls Yba.prog 7 #[.string s, .string ⟨#[42]⟩] W fun e w' => e = .returned (.tuple #[.string t2, .bool false]) ∧ w' = W))
    (h5 : (s.toList == [42]) = false) :
    Calls Yba.prog 5 #[.string s] w fun e w' => e = .returned (.tuple #[.int .i64 0, .string ⟨#[]⟩]) ∧ w' = w := by
  go_enter Yba.func5, Yba.ntmps5
  go_wp2_with fail
  refine (H1.out _).mono ?_
  rintro e _ ⟨rfl, rfl⟩
  go_wp2_with fail
  refine (H2.out _).mono ?_
  rintro e _ ⟨rfl, rfl⟩
  go_wp2_with fail
  refine (H3.out _).mono ?_
  rintro e _ ⟨rfl, rfl⟩
  go_wp2_with fail
  go_ret2
  exact ⟨rfl, rfl⟩

set_option maxHeartbeats 800000 in
set_option linter.unusedVariables false in
theorem r_F_TT (s t1 t2 : ByteArray) (w : World)
    (H1 : Hid (∀ W, Calls Yba.prog 7 #[.string s, .string ⟨#[42, 42]⟩] W fun e w' => e = .returned (.tuple #[.string t1, .bool false]) ∧ w' = W))
    (H3 : Hid (∀ W, Calls Yba.prog 7 #[.string s, .string ⟨#[42]⟩] W fun e w' => e = .returned (.tuple #[.string t2, .bool true]) ∧ w' = W))
    (H4 : Hid (∀ W, Calls Yba.prog 8 #[.string t2, .string ⟨#[46]⟩] W fun e w' => e = .returned (.bool true) ∧ w' = W)) :
    Calls Yba.prog 5 #[.string s] w fun e w' => e = .returned (.tuple #[.int .i64 2, .string t2]) ∧ w' = w := by
  go_enter Yba.func5, Yba.ntmps5
  go_wp2_with fail
  refine (H1.out _).mono ?_
  rintro e _ ⟨rfl, rfl⟩
  go_wp2_with fail
  refine (H3.out _).mono ?_
  rintro e _ ⟨rfl, rfl⟩
  go_wp2_with fail
  refine (H4.out _).mono ?_
  rintro e _ ⟨rfl, rfl⟩
  go_wp2_with fail
  go_ret2
  exact ⟨rfl, rfl⟩

set_option maxHeartbeats 800000 in
set_option linter.unusedVariables false in
theorem r_F_TF_T (s t1 t2 : ByteArray) (w : World)
    (H1 : Hid (∀ W, Calls Yba.prog 7 #[.string s, .string ⟨#[42, 42]⟩] W fun e w' => e = .returned (.tuple #[.string t1, .bool false]) ∧ w' = W))
    (H3 : Hid (∀ W, Calls Yba.prog 7 #[.string s, .string ⟨#[42]⟩] W fun e w' => e = .returned (.tuple #[.string t2, .bool true]) ∧ w' = W))
    (H4 : Hid (∀ W, Calls Yba.prog 8 #[.string t2, .string ⟨#[46]⟩] W fun e w' => e = .returned (.bool false) ∧ w' = W))
    (h5 : (s.toList == [42]) = true) :
    Calls Yba.prog 5 #[.string s] w fun e w' => e = .returned (.tuple #[.int .i64 1, .string ⟨#[]⟩]) ∧ w' = w := by
  go_enter Yba.func5, Yba.ntmps5
  go_wp2_with fail
  refine (H1.out _).mono ?_
  rintro e _ ⟨rfl, rfl⟩
  go_wp2_with fail
  refine (H3.out _).mono ?_
  rintro e _ ⟨rfl, rfl⟩
  go_wp2_with fail
  refine (H4.out _).mono ?_
  rintro e _ ⟨rfl, rfl⟩
  go_wp2_with fail
  go_ret2
  exact ⟨rfl, rfl⟩

set_option maxHeartbeats 800000 in
set_option linter.unusedVariables false in
theorem r_F_TF_F (s t1 t2 : ByteArray) (w : World)
    (H1 : Hid (∀ W, Calls Yba.prog 7 #[.string s, .string ⟨#[42, 42]⟩] W fun e w' => e = .returned (.tuple #[.string t1, .bool false]) ∧ w' = W))
    (H3 : Hid (∀ W, Calls Yba.prog 7 #[.string s, .string ⟨#[42]⟩] W fun e w' => e = .returned (.tuple #[.string t2, .bool true]) ∧ w' = W))
    (H4 : Hid (∀ W, Calls Yba.prog 8 #[.string t2, .string ⟨#[46]⟩] W fun e w' => e = .returned (.bool false) ∧ w' = W))
    (h5 : (s.toList == [42]) = false) :
    Calls Yba.prog 5 #[.string s] w fun e w' => e = .returned (.tuple #[.int .i64 0, .string ⟨#[]⟩]) ∧ w' = w := by
  go_enter Yba.func5, Yba.ntmps5
  go_wp2_with fail
  refine (H1.out _).mono ?_
  rintro e _ ⟨rfl, rfl⟩
  go_wp2_with fail
  refine (H3.out _).mono ?_
  rintro e _ ⟨rfl, rfl⟩
  go_wp2_with fail
  refine (H4.out _).mono ?_
  rintro e _ ⟨rfl, rfl⟩
  go_wp2_with fail
  go_ret2
  exact ⟨rfl, rfl⟩

set_option maxHeartbeats 800000 in
set_option linter.unusedVariables false in
theorem r_F_F_T (s t1 t2 : ByteArray) (w : World)
    (H1 : Hid (∀ W, Calls Yba.prog 7 #[.string s, .string ⟨#[42, 42]⟩] W fun e w' => e = .returned (.tuple #[.string t1, .bool false]) ∧ w' = W))
    (H3 : Hid (∀ W, Calls Yba.prog 7 #[.string s, .string ⟨#[42]⟩] W fun e w' => e = .returned (.tuple #[.string t2, .bool false]) ∧ w' = W))
    (h5 : (s.toList == [42]) = true) :
    Calls Yba.prog 5 #[.string s] w fun e w' => e = .returned (.tuple #[.int .i64 1, .string ⟨#[]⟩]) ∧ w' = w := by
  go_enter Yba.func5, Yba.ntmps5
  go_wp2_with fail
  refine (H1.out _).mono ?_
  rintro e _ ⟨rfl, rfl⟩
  go_wp2_with fail
  refine (H3.out _).mono ?_
  rintro e _ ⟨rfl, rfl⟩
  go_wp2_with fail
  go_ret2
  exact ⟨rfl, rfl⟩

set_option maxHeartbeats 800000 in
set_option linter.unusedVariables false in
theorem r_F_F_F (s t1 t2 : ByteArray) (w : World)
    (H1 : Hid (∀ W, Calls Yba.prog 7 #[.string s, .string ⟨#[42, 42]⟩] W fun e w' => e = .returned (.tuple #[.string t1, .bool false]) ∧ w' = W))
    (H3 : Hid (∀ W, Calls Yba.prog 7 #[.string s, .string ⟨#[42]⟩] W fun e w' => e = .returned (.tuple #[.string t2, .bool false]) ∧ w' = W))
    (h5 : (s.toList == [42]) = false) :
    Calls Yba.prog 5 #[.string s] w fun e w' => e = .returned (.tuple #[.int .i64 0, .string ⟨#[]⟩]) ∧ w' = w := by
  go_enter Yba.func5, Yba.ntmps5
  go_wp2_with fail
  refine (H1.out _).mono ?_
  rintro e _ ⟨rfl, rfl⟩
  go_wp2_with fail
  refine (H3.out _).mono ?_
  rintro e _ ⟨rfl, rfl⟩
  go_wp2_with fail
  go_ret2
  exact ⟨rfl, rfl⟩

set_option linter.unusedSimpArgs false in
theorem read_pat (s : ByteArray) (hm : s.size ≤ 9223372036854775807) (w : World) :
    Calls Yba.prog 5 #[.string s] w fun e w' => e = .returned (.tuple #[.int .i64 (rp s).1, .string (rp s).2]) ∧ w' = w := by
  have z1 : (Lib.trimSuffix s.data.toList [42, 42]).length ≤ s.size := by rw [Lib.size_eq]; exact Lib.trimSuffix_le _ _
  have z2 : (Lib.trimSuffix s.data.toList [42]).length ≤ s.size := by rw [Lib.size_eq]; exact Lib.trimSuffix_le _ _
  have H1 := fun W => Yba.strings_CutSuffix s ⟨#[42, 42]⟩ W hm
  have H2 := fun W => Yba.strings_HasSuffix ⟨(Lib.trimSuffix s.data.toList [42, 42]).toArray⟩ ⟨#[46]⟩ W (by rw [Lib.size_eq]; exact Nat.le_trans z1 hm)
  have H3 := fun W => Yba.strings_CutSuffix s ⟨#[42]⟩ W hm
  have H4 := fun W => Yba.strings_HasSuffix ⟨(Lib.trimSuffix s.data.toList [42]).toArray⟩ ⟨#[46]⟩ W (by rw [Lib.size_eq]; exact Nat.le_trans z2 hm)
  simp only at H1 H2 H3 H4
  unfold rp
  generalize Lib.hasSuffix (Lib.trimSuffix s.data.toList [42, 42]) [46] = b2 at H2 ⊢
  generalize Lib.hasSuffix (Lib.trimSuffix s.data.toList [42]) [46] = b4 at H4 ⊢
  generalize Lib.hasSuffix s.data.toList [42, 42] = b1 at H1 ⊢
  generalize Lib.hasSuffix s.data.toList [42] = b3 at H3 ⊢
  generalize (Lib.trimSuffix s.data.toList [42, 42]).toArray = t1 at H1 H2 ⊢
  generalize (Lib.trimSuffix s.data.toList [42]).toArray = t2 at H3 H4 ⊢
  cases h5 : (s.toList == [42]) <;> cases b1 <;> cases b2 <;> cases b3 <;> cases b4 <;> simp only [Bool.and_true, Bool.and_false, Bool.true_and, Bool.false_and, if_true, if_false, Bool.false_eq_true] <;>
    first
    | exact r_TT s _ ⟨t2⟩ w H1 H2
    | exact r_TF_TT s _ _ w H1 H2 H3 H4
    | exact r_F_TT s _ _ w H1 H3 H4
    | exact r_TF_TF_T s _ _ w H1 H2 H3 H4 h5
    | exact r_TF_TF_F s _ _ w H1 H2 H3 H4 h5
    | exact r_TF_F_T s _ _ w H1 H2 H3 h5
    | exact r_TF_F_F s _ _ w H1 H2 H3 h5
    | exact r_F_TF_T s _ _ w H1 H3 H4 h5
    | exact r_F_TF_F s _ _ w H1 H3 H4 h5
    | exact r_F_F_T s _ _ w H1 H3 h5
    | exact r_F_F_F s _ _ w H1 H3 h5
end Go.Proofs.Ybulkacrqhu
