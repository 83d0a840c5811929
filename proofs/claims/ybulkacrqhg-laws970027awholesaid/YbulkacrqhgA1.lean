import Derived.Test.YbulkacrqhgRows
import Derived.WalkKit
import Derived.WalkSpells
import Derived.WalkLawsBesides
import Derived.BigQuiet
import Derived.WalkSmall
namespace Go.Proofs.Ybulkacrqhg
open Go.RowKit

/-- What optional answers where its string's box lies at g. -/
def optV (s : ByteArray) (g : Nat) : Value := if s.toList.isEmpty then .pointer none else .pointer (some ⟨g, 0, none⟩)

set_option maxHeartbeats 400000 in
theorem opt_new (s : ByteArray) (w : World) :
    Calls Yba.prog 6 #[.string s] w fun e w' => e = .returned (optV s w.heap.size) ∧ w' = w.alloc (.cells #[.string s] 9) := by
  cases hb : s.toList.isEmpty
  · have hv : optV s w.heap.size = .pointer (some ⟨w.heap.size, 0, none⟩) := by unfold optV; rw [hb]; rfl
    rw [hv]
    clear hv
    go_enter Yba.func6, Yba.ntmps6
    go_wp2
    go_ret
    exact ⟨rfl, rfl⟩
  · have hv : optV s w.heap.size = .pointer none := by unfold optV; rw [hb]; rfl
    rw [hv]
    clear hv
    go_enter Yba.func6, Yba.ntmps6
    go_wp2
    go_ret
    exact ⟨rfl, rfl⟩

/-- p is what optional(s) should give, in the world w. -/
def IsOpt (w : World) (p : Value) (s : ByteArray) : Prop :=
  (s.toList.isEmpty = true ∧ p = .pointer none) ∨ (s.toList.isEmpty = false ∧ ∃ b, p = .pointer (some ⟨b, 0, none⟩) ∧ w.cell? ⟨b, 0, none⟩ = some (.string s))

set_option maxHeartbeats 400000 in
theorem opt_true (p : Value) (s : ByteArray) (w : World) (h : IsOpt w p s) :
    Calls Yba.prog 5 #[p, .string s] w fun e w' => e = .returned (.bool true) ∧ w' = w := by
  rcases h with ⟨hb, rfl⟩ | ⟨hb, b, rfl, hc⟩
  · go_enter Yba.func5, Yba.ntmps5
    go_wp2
    go_ret
    exact ⟨rfl, rfl⟩
  · go_enter Yba.func5, Yba.ntmps5
    go_wp2
    go_ret
    exact ⟨rfl, rfl⟩
end Go.Proofs.Ybulkacrqhg
