import Derived.Test.YbulkacrqeaDoorShelf
import Derived.Test.YbulkacrqeaDoorRows
import Derived.Lib.AppendIntMem
import Derived.Lib.Walk
import Derived.Lib.ItoaMem
import Derived.WalkKit
import Derived.ProofKit
import Derived.BigCall
import Derived.BigGuard
namespace Go.Proofs.YbulkacrqeaDoor
open Go.Shelf Go.RowKit Go.Sort Go.Lib

set_option maxHeartbeats 6400000 in
set_option maxRecDepth 100000 in
/-- internal/strconv.FormatUint at base 10 below 100. -/
theorem iformat_small (i : Nat) (hi : i < 100) (w : World) :
    Calls Ybad.prog 11 #[.int .u64 i, .int .i64 10] w fun e w' => e = .returned (.string ⟨(Lib.decDigits i).toArray⟩) ∧ w' = w := by
  have iu : ((i : Int)) < 100 := by omega
  have hwr : IntKind.i64.wrap (i : Int) = (i : Int) := by rw [IntKind.wrap_i64]; omega
  go_enter Ybad.func11, Ybad.ntmps11
  go_wp2_with fail
  refine (Ybad.internal_strconv_small i hi _).mono ?_
  rintro e w2 ⟨rfl, rfl⟩
  go_wp2
  go_ret
  exact ⟨rfl, rfl⟩

set_option maxHeartbeats 6400000 in
set_option maxRecDepth 100000 in
/-- internal/strconv.FormatUint at base 10 from 100 on. -/
theorem iformat_big (u : Nat) (hu : 100 ≤ u) (hu64 : u < 18446744073709551616) (w : World)
    (hnum : ∀ o, Calls Ybad.prog 15 #[.int .u64 u] (w.alloc o) fun e w' => e = .returned (.int .i64 (Lib.nDigits u)) ∧ w' = w.alloc o) :
    Calls Ybad.prog 11 #[.int .u64 u, .int .i64 10] w fun e w' => e = .returned (.string ⟨(Lib.decDigits u).toArray⟩) ∧ ∃ k os, w' = grow (w.drewN k) os := by
  have hu1 : 1 ≤ u := by omega
  have iu : ¬ ((u : Int)) < 100 := by omega
  have hnd20 : Lib.nDigits u ≤ 20 := by have := Lib.numDigits_eq u hu1 hu64; split at this <;> omega
  have hal : Ybad.prog.arrayLen 37 = 24 := by simp [Program.arrayLen, Ybad.underlying37]
  have hsl : ∀ W, (Instr.sliceAt 37 (.pointer (some ⟨w.heap.size, 0, none⟩)) none (some (.int .i64 (Lib.nDigits u : Int))) none).run Ybad.prog W = .ok (.slice (some ⟨w.heap.size, 0, none⟩) (Lib.nDigits u) 24) W := fun W => by
    rw [run_sliceAt_array_h W 37 ⟨w.heap.size, 0, none⟩ (by simp [Program.arrayLen, Program.elem, Ybad.underlying37]) .i64 (Lib.nDigits u : Int) (by omega) (by rw [hal]; omega)]
    go_simp
  have hH0 := Lib.holds_zero0 w 37 (Lib.nDigits u) (by omega)
  have hfmt := Ybad.internal_strconv_formatBase10 w.heap.size 0 24 u (Array.replicate (Lib.nDigits u) 0) (w.alloc (.cells Lib.zeros24 37)) hH0 (by rw [Array.size_replicate]; exact Lib.lt_pow_nDigits u) hu64 (by rw [Array.size_replicate]; omega)
  rw [Array.size_replicate] at hfmt
  have HH0 := Lib.hid hH0
  clear hH0 hal
  go_enter Ybad.func11, Ybad.ntmps11
  go_wp2_with fail
  refine (hnum _).mono ?_
  rintro e w2 ⟨rfl, rfl⟩
  go_wp2_with fail
  refine hfmt.mono ?_
  rintro e w' ⟨rfl, k, v', dk, rfl, hF⟩
  have hcv : (convert 22 9 (.slice (some ⟨w.heap.size, 0, none⟩) (Lib.nDigits u) 24)).run Ybad.prog ((putRow (fun (b : UInt8) => Value.int .u8 (b.toNat : Int)) (w.alloc (.cells Lib.zeros24 37)) w.heap.size 0 dk).drewN k) = .ok (.string ⟨(Lib.decDigits u).toArray⟩) ((putRow (fun (b : UInt8) => Value.int .u8 (b.toNat : Int)) (w.alloc (.cells Lib.zeros24 37)) w.heap.size 0 dk).drewN k) := by
    have h := run_convert_bytes_back (P := Ybad.prog) ((putRow (fun (b : UInt8) => Value.int .u8 (b.toNat : Int)) (w.alloc (.cells Lib.zeros24 37)) w.heap.size 0 dk).drewN k) 22 9 5 ⟨w.heap.size, 0, none⟩ 24 (Lib.decDigits u) Ybad.underlying22 Ybad.underlying5 Ybad.underlying9 (fun j hj => by
      rw [Lib.row_is_numeral hF j hj, Lib.add_plain, World.cell?_drewN]
      exact cell?_putRow (fun (b : UInt8) => Value.int .u8 (b.toNat : Int)) _ w.heap.size 0 _ dk HH0.out (by rw [hF.size, Array.size_replicate]) j (by rw [hF.size]; rw [Lib.decDigits_length] at hj; exact hj))
    rw [Lib.decDigits_length] at h
    exact h
  go_wp2
  go_ret
  obtain ⟨os, eo⟩ := Lib.fin_at w (.cells Lib.zeros24 37) dk k 0
  exact ⟨rfl, k, os, eo⟩
end Go.Proofs.YbulkacrqeaDoor
