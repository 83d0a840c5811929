import Derived.Test.YbulkacrqeaDoorA1
import Derived.Lib.AtoiErrMem
import Derived.BigQuiet
import Derived.WalkSmall
namespace Go.Proofs.YbulkacrqeaDoor
open Go.Shelf Go.RowKit Go.Sort Go.Lib

/-- What comes of ParseUint's end. -/
def pcR : Lib.NumEnd Nat → Nat × Bool
  | .ok u => (u, true)
  | .range => (18446744073709551615, false)
  | _ => (0, false)

/-- parseCounter, plainly. -/
def pc (l : List UInt8) : Nat × Bool :=
  if 20 < l.length ∨ (1 < l.length ∧ l.head? = some 48) then (0, false) else pcR (Lib.parseUintB 64 l)

theorem nil_nil (W : World) : (binOp .eql 32 .nilIface .nilIface).run Ybad.prog W = .ok (.bool true) W := by kernel_rfl
theorem err_nil (N : Nat) (W : World) : (binOp .eql 32 (.iface 46 (.pointer (some ⟨N, 0, none⟩))) .nilIface).run Ybad.prog W = .ok (.bool false) W := by kernel_rfl

theorem parse64 (s : ByteArray) (hlim : s.size ≤ 281474976710656) (w : World) (t1 t2 : TypeId) (p1 p2 : Value)
    (h1 : w.cell? ⟨1, 0, none⟩ = some (.iface t1 p1)) (h2 : w.cell? ⟨2, 0, none⟩ = some (.iface t2 p2)) :
    Calls Ybad.prog 10 #[.string s, .int .i64 10, .int .i64 64] w fun e w' =>
      (∃ v, e = .returned (.tuple #[.int .u64 ((pcR (Lib.parseUintB 64 s.data.toList)).1 : Nat), v]) ∧
        ((v = .nilIface ∧ (pcR (Lib.parseUintB 64 s.data.toList)).2 = true) ∨ (∃ N, v = .iface 46 (.pointer (some ⟨N, 0, none⟩)) ∧ (pcR (Lib.parseUintB 64 s.data.toList)).2 = false))) ∧ Below w.heap.size w w' := by
  cases h : Lib.parseUintB 64 s.data.toList
  · refine (Ybad.strconv_ParseUint_10_at64_ok s (by omega) _ h w).mono ?_
    rintro e w' ⟨rfl, rfl | rfl⟩
    · exact ⟨⟨_, rfl, Or.inl ⟨rfl, rfl⟩⟩, Below.refl _ _⟩
    · exact ⟨⟨_, rfl, Or.inl ⟨rfl, rfl⟩⟩, Lib.bytesWorld_below _ _ _⟩
  · refine (Any.strconv_ParseUint_10_at64_syntax Ybad.laysPu14 s hlim h _ w h1 (Or.inr ⟨_, _, rfl⟩)).mono ?_
    rintro e w' ⟨N, rfl, _, _, hb⟩
    exact ⟨⟨_, rfl, Or.inr ⟨N, rfl, rfl⟩⟩, hb⟩
  · refine (Ybad.strconv_ParseUint_10_at64_range s hlim h _ w h2 (Or.inr ⟨_, _, rfl⟩)).mono ?_
    rintro e w' ⟨N, rfl, _, _, hb⟩
    exact ⟨⟨_, rfl, Or.inr ⟨N, rfl, rfl⟩⟩, hb⟩

set_option maxHeartbeats 6400000 in
theorem parse_long (p : Option Addr) (n c : Nat) (w : World) (hn : 20 < n) :
    Calls Ybad.prog 6 #[.slice p n c] w fun e w' => e = .returned (.tuple #[.int .u64 0, .bool false]) ∧ w' = w := by
  have hi : (20 : Int) < (n : Int) := by omega
  go_enter Ybad.func6, Ybad.ntmps6
  go_wp2
  go_ret2
  exact ⟨rfl, rfl⟩

set_option maxHeartbeats 6400000 in
theorem parse_zero (a : Addr) (n c : Nat) (w : World) (hn : 1 < n) (hn2 : n ≤ 20) (hc : w.cell? a = some (.int .u8 48)) :
    Calls Ybad.prog 6 #[.slice (some a) n c] w fun e w' => e = .returned (.tuple #[.int .u64 0, .bool false]) ∧ w' = w := by
  have hi : ¬ (20 : Int) < (n : Int) := by omega
  have hi1 : (1 : Int) < (n : Int) := by omega
  go_enter Ybad.func6, Ybad.ntmps6
  go_wp2
  go_ret2
  exact ⟨rfl, rfl⟩

set_option maxHeartbeats 6400000 in
theorem parse_go1 (p : Option Addr) (n c : Nat) (w : World) (s : ByteArray) (hn : n ≤ 1) (hs : s.size = n)
    (hcv : (convert 22 9 (.slice p n c)).run Ybad.prog w = .ok (.string s) w) (t1 t2 : TypeId) (p1 p2 : Value)
    (h1 : w.cell? ⟨1, 0, none⟩ = some (.iface t1 p1)) (h2 : w.cell? ⟨2, 0, none⟩ = some (.iface t2 p2)) :
    Calls Ybad.prog 6 #[.slice p n c] w fun e w' => e = .returned (.tuple #[.int .u64 ((pcR (Lib.parseUintB 64 s.data.toList)).1 : Nat), .bool (pcR (Lib.parseUintB 64 s.data.toList)).2]) ∧ Below w.heap.size w w' := by
  have hi : ¬ (20 : Int) < (n : Int) := by omega
  have hi1 : ¬ (1 : Int) < (n : Int) := by omega
  have hp := parse64 s (by omega) w t1 t2 p1 p2 h1 h2
  generalize pcR (Lib.parseUintB 64 s.data.toList) = r at hp ⊢
  obtain ⟨r1, r2⟩ := r
  go_enter Ybad.func6, Ybad.ntmps6
  go_wp2_with fail
  refine hp.mono ?_
  rintro e w' ⟨⟨v, rfl, hv⟩, hb⟩
  rcases hv with ⟨rfl, hr⟩ | ⟨N, rfl, hr⟩
  · obtain rfl : r2 = true := hr
    go_wp2_with fail
    go_quiet (fail)
    go_wp2
    go_ret2
    exact ⟨rfl, below_drewN hb nq⟩
  · obtain rfl : r2 = false := hr
    have he := err_nil N
    go_wp2_with fail
    go_quiet (fail)
    go_wp2
    go_ret2
    exact ⟨rfl, below_drewN hb nq⟩

set_option maxHeartbeats 6400000 in
theorem parse_go2 (a : Addr) (n c : Nat) (w : World) (s : ByteArray) (hn : 1 < n) (hn2 : n ≤ 20) (hs : s.size = n) (x : Int) (hx : x ≠ 48)
    (hc : w.cell? a = some (.int .u8 x))
    (hcv : (convert 22 9 (.slice (some a) n c)).run Ybad.prog w = .ok (.string s) w) (t1 t2 : TypeId) (p1 p2 : Value)
    (h1 : w.cell? ⟨1, 0, none⟩ = some (.iface t1 p1)) (h2 : w.cell? ⟨2, 0, none⟩ = some (.iface t2 p2)) :
    Calls Ybad.prog 6 #[.slice (some a) n c] w fun e w' => e = .returned (.tuple #[.int .u64 ((pcR (Lib.parseUintB 64 s.data.toList)).1 : Nat), .bool (pcR (Lib.parseUintB 64 s.data.toList)).2]) ∧ Below w.heap.size w w' := by
  have hi : ¬ (20 : Int) < (n : Int) := by omega
  have hi1 : (1 : Int) < (n : Int) := by omega
  have hp := parse64 s (by omega) w t1 t2 p1 p2 h1 h2
  generalize pcR (Lib.parseUintB 64 s.data.toList) = r at hp ⊢
  obtain ⟨r1, r2⟩ := r
  go_enter Ybad.func6, Ybad.ntmps6
  go_wp2_with fail
  refine hp.mono ?_
  rintro e w' ⟨⟨v, rfl, hv⟩, hb⟩
  rcases hv with ⟨rfl, hr⟩ | ⟨N, rfl, hr⟩
  · obtain rfl : r2 = true := hr
    go_wp2_with fail
    go_quiet (fail)
    go_wp2
    go_ret2
    exact ⟨rfl, below_drewN hb nq⟩
  · obtain rfl : r2 = false := hr
    have he := err_nil N
    go_wp2_with fail
    go_quiet (fail)
    go_wp2
    go_ret2
    exact ⟨rfl, below_drewN hb nq⟩
end Go.Proofs.YbulkacrqeaDoor
