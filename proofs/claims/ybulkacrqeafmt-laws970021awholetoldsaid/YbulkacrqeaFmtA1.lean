import Derived.Test.YbulkacrqeaFmtRows
import Derived.WalkKit
import Derived.WalkSpells
import Derived.WalkLawsBesides
import Derived.Lib.Bytealg
namespace Go.Proofs.YbulkacrqeaFmt
open Go.RowKit

theorem ret_int {k : IntKind} {a b : Int} (h : a = b) : Ending.returned (.int k a) = .returned (.int k b) := by rw [h]
theorem ret_bool {a b : Bool} (h : a = b) : Ending.returned (.bool a) = .returned (.bool b) := by rw [h]

def nm : Nat → ByteArray | 0 => ⟨#[97]⟩ | 1 => ⟨#[98]⟩ | _ => ⟨#[99]⟩

def cmpN (x y : Nat) : Int := if x < y then -1 else if y < x then 1 else 0

theorem cmp_nm (x y : Nat) (hx : x < 3) (hy : y < 3) : Lib.compareBytes (nm x).data.toList (nm y).data.toList = cmpN x y := by
  match x, hx, y, hy with
  | 0, _, 0, _ => rfl
  | 0, _, 1, _ => rfl
  | 0, _, 2, _ => rfl
  | 1, _, 0, _ => rfl
  | 1, _, 1, _ => rfl
  | 1, _, 2, _ => rfl
  | 2, _, 0, _ => rfl
  | 2, _, 1, _ => rfl
  | 2, _, 2, _ => rfl

set_option maxHeartbeats 400000 in
theorem cmp_str (a b : ByteArray) (w : World) :
    Calls Ybaf.prog 20 #[.string a, .string b] w fun e w' => e = .returned (.int .i64 (Lib.compareBytes a.data.toList b.data.toList)) ∧ w' = w := by
  have hcs : ∀ (a b : ByteArray) (w : World), (callFunc 22 #[.string a, .string b]).run Ybaf.prog w = .ok (.value (.int .i64 (Lib.compareBytes a.data.toList b.data.toList))) w := by
    intro a b w
    rw [run_callFunc_extern Ybaf.func22 (by kernel_rfl) (by kernel_rfl) (by kernel_rfl) (e := Extern.BytealgCompare.compare) (by kernel_rfl), Lib.run_compareString]
    rfl
  go_enter Ybaf.func20, Ybaf.ntmps20
  go_wp2
  go_ret
  exact ⟨rfl, rfl⟩

theorem cmp_any (x y : Nat) (hx : x < 3) (hy : y < 3) (w : World) :
    Calls Ybaf.prog 20 #[.string (nm x), .string (nm y)] w fun e w' => e = .returned (.int .i64 (cmpN x y)) ∧ w' = w := by
  rw [← cmp_nm x y hx hy]; exact cmp_str _ _ w
end Go.Proofs.YbulkacrqeaFmt
