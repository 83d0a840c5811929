import Derived.Test.YbulkacrqhuRows
import Derived.Test.YbulkacrqhuShelf
import Derived.WalkKit
import Derived.WalkSpells
import Derived.WalkLawsBesides
import Derived.BigQuiet
import Derived.WalkSmall
namespace Go.Proofs.Ybulkacrqhu
open Go.RowKit

/-- What readPattern should answer: off the string's bytes, last first. -/
def spec (s : ByteArray) : Int × ByteArray :=
  match s.data.toList.reverse with
  | a :: b :: c :: _ => if a = 42 ∧ b = 42 ∧ c = 46 then (3, s.extract 0 (s.size - 2)) else if a = 42 ∧ b = 46 then (2, s.extract 0 (s.size - 1)) else (0, ⟨#[]⟩)
  | [a, b] => if a = 42 ∧ b = 46 then (2, s.extract 0 (s.size - 1)) else (0, ⟨#[]⟩)
  | [a] => if a = 42 then (1, ⟨#[]⟩) else (0, ⟨#[]⟩)
  | [] => (0, ⟨#[]⟩)

/-- The k-th byte from the end (k = 1: the last), read by the walk. -/
theorem ix_run (s : ByteArray) (pre : List UInt8) (x : UInt8) (t : List UInt8) (h : s.data.toList.reverse = pre ++ x :: t) (i : Int) (hi : i = (s.size : Int) - (pre.length + 1)) (W : World) :
    (Instr.index 9 (.string s) (.int .i64 i)).run Yba.prog W = .ok (.int .u8 (x.toNat : Int)) W := by
  have hl : s.data.toList = t.reverse ++ x :: pre.reverse := by
    have := congrArg List.reverse h
    simpa using this
  have hz : s.size = t.length + (pre.length + 1) := by
    rw [Lib.size_eq, hl]; simp
  have hi' : i = (t.length : Int) := by omega
  subst hi'
  rw [run_index_string W 9 s .i64 _ Yba.underlying9, dif_pos ⟨by omega, by omega⟩]
  have hx : s.data.toList[t.length]? = some x := by rw [hl]; simp
  have hg : s[t.length]'(by omega) = x := by
    have h2 : s.data.toList[t.length]'(by rw [← Lib.size_eq]; omega) = x := by
      rw [List.getElem?_eq_getElem (by rw [← Lib.size_eq]; omega)] at hx
      exact Option.some.inj hx
    rw [← h2]
    rfl
  simp only [Int.toNat_natCast]
  rw [hg]

theorem size_rev (s : ByteArray) (l : List UInt8) (h : s.data.toList.reverse = l) : s.size = l.length := by
  rw [Lib.size_eq, ← h]; simp

theorem at_eq {x : UInt8} {k : UInt8} (h : x = k) (n : Int) (hn : n = (k.toNat : Int)) : (((x.toNat : Nat) : Int) == n) = true := by
  subst h; subst hn; simp
theorem at_ne {x : UInt8} {k : UInt8} (h : x ≠ k) (n : Int) (hn : n = (k.toNat : Int)) : (((x.toNat : Nat) : Int) == n) = false := by
  subst hn
  simp only [beq_eq_false_iff_ne, ne_eq]
  intro hc
  exact h (UInt8.toNat_inj.1 (by omega))

set_option linter.unusedVariables false in
set_option maxHeartbeats 800000 in
theorem m3_T (s : ByteArray) (a b c : Int) (w : World) (hm : s.size ≤ 9223372036854775807) (n3 : (3 : Int) ≤ (s.size : Int)) (n2 : (2 : Int) ≤ (s.size : Int)) (n1 : ((s.size : Int) == 1) = false)
    (i1 : ∀ W, (Instr.index 9 (.string s) (.int .i64 ((s.size : Int) - 1))).run Yba.prog W = .ok (.int .u8 a) W)
    (i2 : ∀ W, (Instr.index 9 (.string s) (.int .i64 ((s.size : Int) - 2))).run Yba.prog W = .ok (.int .u8 b) W)
    (i3 : ∀ W, (Instr.index 9 (.string s) (.int .i64 ((s.size : Int) - 3))).run Yba.prog W = .ok (.int .u8 c) W)
    (ha42 : (a == 42) = true) (hb42 : (b == 42) = true) (hc46 : (c == 46) = true) :
    Calls Yba.prog 6 #[.string s] w fun e w' => e = .returned (.tuple #[.int .i64 3, .string (s.extract 0 (s.size - 2))]) ∧ ∃ k, w' = w.drewN k := by
  have s1 : IntKind.i64.wrap ((s.size : Int) - 1) = (s.size : Int) - 1 := by rw [IntKind.wrap_i64]; omega
  have s2 : IntKind.i64.wrap ((s.size : Int) - 2) = (s.size : Int) - 2 := by rw [IntKind.wrap_i64]; omega
  have s3 : IntKind.i64.wrap ((s.size : Int) - 3) = (s.size : Int) - 3 := by rw [IntKind.wrap_i64]; omega
  have e2 : ((s.size : Int) - 2).toNat = s.size - 2 := by omega
  have k0 : (0 : Int) ≤ (s.size : Int) - 2 := by omega
  have k1 : (s.size : Int) - 2 ≤ (s.size : Int) := by omega
  go_enter Yba.func6, Yba.ntmps6
  go_wp2_with fail
  go_quiet (fail)
  go_wp2_with fail
  go_ret2
  exact ⟨rfl, _, rfl⟩

set_option linter.unusedVariables false in
set_option maxHeartbeats 800000 in
theorem m3_U (s : ByteArray) (a b c : Int) (w : World) (hm : s.size ≤ 9223372036854775807) (n3 : (3 : Int) ≤ (s.size : Int)) (n2 : (2 : Int) ≤ (s.size : Int)) (n1 : ((s.size : Int) == 1) = false)
    (i1 : ∀ W, (Instr.index 9 (.string s) (.int .i64 ((s.size : Int) - 1))).run Yba.prog W = .ok (.int .u8 a) W)
    (i2 : ∀ W, (Instr.index 9 (.string s) (.int .i64 ((s.size : Int) - 2))).run Yba.prog W = .ok (.int .u8 b) W)
    (i3 : ∀ W, (Instr.index 9 (.string s) (.int .i64 ((s.size : Int) - 3))).run Yba.prog W = .ok (.int .u8 c) W)
    (ha42 : (a == 42) = true) (hb42 : (b == 42) = true) (hb46 : (b == 46) = false) (hc46 : (c == 46) = false) :
    Calls Yba.prog 6 #[.string s] w fun e w' => e = .returned (.tuple #[.int .i64 0, .string ⟨#[]⟩]) ∧ ∃ k, w' = w.drewN k := by
  have s1 : IntKind.i64.wrap ((s.size : Int) - 1) = (s.size : Int) - 1 := by rw [IntKind.wrap_i64]; omega
  have s2 : IntKind.i64.wrap ((s.size : Int) - 2) = (s.size : Int) - 2 := by rw [IntKind.wrap_i64]; omega
  have s3 : IntKind.i64.wrap ((s.size : Int) - 3) = (s.size : Int) - 3 := by rw [IntKind.wrap_i64]; omega
  go_enter Yba.func6, Yba.ntmps6
  go_wp2_with fail
  go_ret2
  exact ⟨rfl, 0, rfl⟩

set_option linter.unusedVariables false in
set_option maxHeartbeats 800000 in
theorem m3_V (s : ByteArray) (a b c : Int) (w : World) (hm : s.size ≤ 9223372036854775807) (n3 : (3 : Int) ≤ (s.size : Int)) (n2 : (2 : Int) ≤ (s.size : Int)) (n1 : ((s.size : Int) == 1) = false)
    (i1 : ∀ W, (Instr.index 9 (.string s) (.int .i64 ((s.size : Int) - 1))).run Yba.prog W = .ok (.int .u8 a) W)
    (i2 : ∀ W, (Instr.index 9 (.string s) (.int .i64 ((s.size : Int) - 2))).run Yba.prog W = .ok (.int .u8 b) W)
    (i3 : ∀ W, (Instr.index 9 (.string s) (.int .i64 ((s.size : Int) - 3))).run Yba.prog W = .ok (.int .u8 c) W)
    (ha42 : (a == 42) = true) (hb42 : (b == 42) = false) (hb46 : (b == 46) = true) :
    Calls Yba.prog 6 #[.string s] w fun e w' => e = .returned (.tuple #[.int .i64 2, .string (s.extract 0 (s.size - 1))]) ∧ ∃ k, w' = w.drewN k := by
  have s1 : IntKind.i64.wrap ((s.size : Int) - 1) = (s.size : Int) - 1 := by rw [IntKind.wrap_i64]; omega
  have s2 : IntKind.i64.wrap ((s.size : Int) - 2) = (s.size : Int) - 2 := by rw [IntKind.wrap_i64]; omega
  have s3 : IntKind.i64.wrap ((s.size : Int) - 3) = (s.size : Int) - 3 := by rw [IntKind.wrap_i64]; omega
  have e2 : ((s.size : Int) - 1).toNat = s.size - 1 := by omega
  have k0 : (0 : Int) ≤ (s.size : Int) - 1 := by omega
  have k1 : (s.size : Int) - 1 ≤ (s.size : Int) := by omega
  go_enter Yba.func6, Yba.ntmps6
  go_wp2_with fail
  go_quiet (fail)
  go_wp2_with fail
  go_ret2
  exact ⟨rfl, _, rfl⟩

set_option linter.unusedVariables false in
set_option maxHeartbeats 800000 in
theorem m3_X (s : ByteArray) (a b c : Int) (w : World) (hm : s.size ≤ 9223372036854775807) (n3 : (3 : Int) ≤ (s.size : Int)) (n2 : (2 : Int) ≤ (s.size : Int)) (n1 : ((s.size : Int) == 1) = false)
    (i1 : ∀ W, (Instr.index 9 (.string s) (.int .i64 ((s.size : Int) - 1))).run Yba.prog W = .ok (.int .u8 a) W)
    (i2 : ∀ W, (Instr.index 9 (.string s) (.int .i64 ((s.size : Int) - 2))).run Yba.prog W = .ok (.int .u8 b) W)
    (i3 : ∀ W, (Instr.index 9 (.string s) (.int .i64 ((s.size : Int) - 3))).run Yba.prog W = .ok (.int .u8 c) W)
    (ha42 : (a == 42) = true) (hb42 : (b == 42) = false) (hb46 : (b == 46) = false) :
    Calls Yba.prog 6 #[.string s] w fun e w' => e = .returned (.tuple #[.int .i64 0, .string ⟨#[]⟩]) ∧ ∃ k, w' = w.drewN k := by
  have s1 : IntKind.i64.wrap ((s.size : Int) - 1) = (s.size : Int) - 1 := by rw [IntKind.wrap_i64]; omega
  have s2 : IntKind.i64.wrap ((s.size : Int) - 2) = (s.size : Int) - 2 := by rw [IntKind.wrap_i64]; omega
  have s3 : IntKind.i64.wrap ((s.size : Int) - 3) = (s.size : Int) - 3 := by rw [IntKind.wrap_i64]; omega
  go_enter Yba.func6, Yba.ntmps6
  go_wp2_with fail
  go_ret2
  exact ⟨rfl, 0, rfl⟩

set_option linter.unusedVariables false in
set_option maxHeartbeats 800000 in
theorem m3_Y (s : ByteArray) (a b c : Int) (w : World) (hm : s.size ≤ 9223372036854775807) (n3 : (3 : Int) ≤ (s.size : Int)) (n2 : (2 : Int) ≤ (s.size : Int)) (n1 : ((s.size : Int) == 1) = false)
    (i1 : ∀ W, (Instr.index 9 (.string s) (.int .i64 ((s.size : Int) - 1))).run Yba.prog W = .ok (.int .u8 a) W)
    (i2 : ∀ W, (Instr.index 9 (.string s) (.int .i64 ((s.size : Int) - 2))).run Yba.prog W = .ok (.int .u8 b) W)
    (i3 : ∀ W, (Instr.index 9 (.string s) (.int .i64 ((s.size : Int) - 3))).run Yba.prog W = .ok (.int .u8 c) W)
    (ha42 : (a == 42) = false) :
    Calls Yba.prog 6 #[.string s] w fun e w' => e = .returned (.tuple #[.int .i64 0, .string ⟨#[]⟩]) ∧ ∃ k, w' = w.drewN k := by
  have s1 : IntKind.i64.wrap ((s.size : Int) - 1) = (s.size : Int) - 1 := by rw [IntKind.wrap_i64]; omega
  have s2 : IntKind.i64.wrap ((s.size : Int) - 2) = (s.size : Int) - 2 := by rw [IntKind.wrap_i64]; omega
  have s3 : IntKind.i64.wrap ((s.size : Int) - 3) = (s.size : Int) - 3 := by rw [IntKind.wrap_i64]; omega
  go_enter Yba.func6, Yba.ntmps6
  go_wp2_with fail
  go_ret2
  exact ⟨rfl, 0, rfl⟩

set_option linter.unusedVariables false in
set_option maxHeartbeats 800000 in
theorem m2_V (s : ByteArray) (a b : Int) (w : World) (hm : s.size ≤ 9223372036854775807) (n3 : ¬ (3 : Int) ≤ (s.size : Int)) (n2 : (2 : Int) ≤ (s.size : Int)) (n1 : ((s.size : Int) == 1) = false)
    (i1 : ∀ W, (Instr.index 9 (.string s) (.int .i64 ((s.size : Int) - 1))).run Yba.prog W = .ok (.int .u8 a) W)
    (i2 : ∀ W, (Instr.index 9 (.string s) (.int .i64 ((s.size : Int) - 2))).run Yba.prog W = .ok (.int .u8 b) W)
    (ha42 : (a == 42) = true) (hb46 : (b == 46) = true) :
    Calls Yba.prog 6 #[.string s] w fun e w' => e = .returned (.tuple #[.int .i64 2, .string (s.extract 0 (s.size - 1))]) ∧ ∃ k, w' = w.drewN k := by
  have s1 : IntKind.i64.wrap ((s.size : Int) - 1) = (s.size : Int) - 1 := by rw [IntKind.wrap_i64]; omega
  have s2 : IntKind.i64.wrap ((s.size : Int) - 2) = (s.size : Int) - 2 := by rw [IntKind.wrap_i64]; omega
  have e2 : ((s.size : Int) - 1).toNat = s.size - 1 := by omega
  have k0 : (0 : Int) ≤ (s.size : Int) - 1 := by omega
  have k1 : (s.size : Int) - 1 ≤ (s.size : Int) := by omega
  go_enter Yba.func6, Yba.ntmps6
  go_wp2_with fail
  go_quiet (fail)
  go_wp2_with fail
  go_ret2
  exact ⟨rfl, _, rfl⟩

set_option linter.unusedVariables false in
set_option maxHeartbeats 800000 in
theorem m2_X (s : ByteArray) (a b : Int) (w : World) (hm : s.size ≤ 9223372036854775807) (n3 : ¬ (3 : Int) ≤ (s.size : Int)) (n2 : (2 : Int) ≤ (s.size : Int)) (n1 : ((s.size : Int) == 1) = false)
    (i1 : ∀ W, (Instr.index 9 (.string s) (.int .i64 ((s.size : Int) - 1))).run Yba.prog W = .ok (.int .u8 a) W)
    (i2 : ∀ W, (Instr.index 9 (.string s) (.int .i64 ((s.size : Int) - 2))).run Yba.prog W = .ok (.int .u8 b) W)
    (ha42 : (a == 42) = true) (hb46 : (b == 46) = false) :
    Calls Yba.prog 6 #[.string s] w fun e w' => e = .returned (.tuple #[.int .i64 0, .string ⟨#[]⟩]) ∧ ∃ k, w' = w.drewN k := by
  have s1 : IntKind.i64.wrap ((s.size : Int) - 1) = (s.size : Int) - 1 := by rw [IntKind.wrap_i64]; omega
  have s2 : IntKind.i64.wrap ((s.size : Int) - 2) = (s.size : Int) - 2 := by rw [IntKind.wrap_i64]; omega
  go_enter Yba.func6, Yba.ntmps6
  go_wp2_with fail
  go_ret2
  exact ⟨rfl, 0, rfl⟩

set_option linter.unusedVariables false in
set_option maxHeartbeats 800000 in
theorem m2_Y (s : ByteArray) (a b : Int) (w : World) (hm : s.size ≤ 9223372036854775807) (n3 : ¬ (3 : Int) ≤ (s.size : Int)) (n2 : (2 : Int) ≤ (s.size : Int)) (n1 : ((s.size : Int) == 1) = false)
    (i1 : ∀ W, (Instr.index 9 (.string s) (.int .i64 ((s.size : Int) - 1))).run Yba.prog W = .ok (.int .u8 a) W)
    (i2 : ∀ W, (Instr.index 9 (.string s) (.int .i64 ((s.size : Int) - 2))).run Yba.prog W = .ok (.int .u8 b) W)
    (ha42 : (a == 42) = false) :
    Calls Yba.prog 6 #[.string s] w fun e w' => e = .returned (.tuple #[.int .i64 0, .string ⟨#[]⟩]) ∧ ∃ k, w' = w.drewN k := by
  have s1 : IntKind.i64.wrap ((s.size : Int) - 1) = (s.size : Int) - 1 := by rw [IntKind.wrap_i64]; omega
  have s2 : IntKind.i64.wrap ((s.size : Int) - 2) = (s.size : Int) - 2 := by rw [IntKind.wrap_i64]; omega
  go_enter Yba.func6, Yba.ntmps6
  go_wp2_with fail
  go_ret2
  exact ⟨rfl, 0, rfl⟩

set_option linter.unusedVariables false in
set_option maxHeartbeats 800000 in
theorem m1_T (s : ByteArray) (a : Int) (w : World) (hm : s.size ≤ 9223372036854775807) (n3 : ¬ (3 : Int) ≤ (s.size : Int)) (n2 : ¬ (2 : Int) ≤ (s.size : Int)) (n1 : ((s.size : Int) == 1) = true)
    (i0 : ∀ W, (Instr.index 9 (.string s) (.int .i64 0)).run Yba.prog W = .ok (.int .u8 a) W)
    (ha42 : (a == 42) = true) :
    Calls Yba.prog 6 #[.string s] w fun e w' => e = .returned (.tuple #[.int .i64 1, .string ⟨#[]⟩]) ∧ ∃ k, w' = w.drewN k := by
  go_enter Yba.func6, Yba.ntmps6
  go_wp2_with fail
  go_ret2
  exact ⟨rfl, 0, rfl⟩

set_option linter.unusedVariables false in
set_option maxHeartbeats 800000 in
theorem m1_Y (s : ByteArray) (a : Int) (w : World) (hm : s.size ≤ 9223372036854775807) (n3 : ¬ (3 : Int) ≤ (s.size : Int)) (n2 : ¬ (2 : Int) ≤ (s.size : Int)) (n1 : ((s.size : Int) == 1) = true)
    (i0 : ∀ W, (Instr.index 9 (.string s) (.int .i64 0)).run Yba.prog W = .ok (.int .u8 a) W)
    (ha42 : (a == 42) = false) :
    Calls Yba.prog 6 #[.string s] w fun e w' => e = .returned (.tuple #[.int .i64 0, .string ⟨#[]⟩]) ∧ ∃ k, w' = w.drewN k := by
  go_enter Yba.func6, Yba.ntmps6
  go_wp2_with fail
  go_ret2
  exact ⟨rfl, 0, rfl⟩

set_option linter.unusedVariables false in
set_option maxHeartbeats 800000 in
theorem m0 (s : ByteArray) (w : World) (hm : s.size ≤ 9223372036854775807) (n3 : ¬ (3 : Int) ≤ (s.size : Int)) (n2 : ¬ (2 : Int) ≤ (s.size : Int)) (n1 : ((s.size : Int) == 1) = false)
     :
    Calls Yba.prog 6 #[.string s] w fun e w' => e = .returned (.tuple #[.int .i64 0, .string ⟨#[]⟩]) ∧ ∃ k, w' = w.drewN k := by
  go_enter Yba.func6, Yba.ntmps6
  go_wp2_with fail
  go_ret2
  exact ⟨rfl, 0, rfl⟩

end Go.Proofs.Ybulkacrqhu
