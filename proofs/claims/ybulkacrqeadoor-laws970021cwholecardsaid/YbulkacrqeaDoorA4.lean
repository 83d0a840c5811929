import Derived.Test.YbulkacrqeaDoorA3
import Derived.Lib.AppendStr
import Derived.Lib.ConvBytes
import Derived.OwnWalk
namespace Go.Proofs.YbulkacrqeaDoor
open Go.Shelf Go.RowKit Go.Sort Go.Lib

/-- The table's name, as the row lists it. -/
abbrev powName : String := Rows.lawS970021CRoundTripRow.named.headD ""

set_option maxHeartbeats 6400000 in
/-- strconv.FormatUint at base 10. -/
theorem format_u64 (u : Nat) (hu : u < 18446744073709551616) (w : World) (htab : Lib.TabIs Ybad.prog w powName .u64 Lib.pow10Tab) :
    Calls Ybad.prog 9 #[.int .u64 u, .int .i64 10] w fun e w' => e = .returned (.string ⟨(Lib.decDigits u).toArray⟩) ∧ Below w.heap.size w w' := by
  have h11 : Calls Ybad.prog 11 #[.int .u64 u, .int .i64 10] w fun e w' => e = .returned (.string ⟨(Lib.decDigits u).toArray⟩) ∧ Below w.heap.size w w' := by
    by_cases h : u < 100
    · refine (iformat_small u h w).mono ?_
      rintro e w' ⟨rfl, rfl⟩
      exact ⟨rfl, Below.refl _ _⟩
    · refine (iformat_big u (by omega) hu w (fun o => Any.internal_strconv_numDigits Ybad.laysM284 u (by omega) hu _ (Lib.tabIs_alloc htab o))).mono ?_
      rintro e w' ⟨rfl, k, os, rfl⟩
      exact ⟨rfl, below_grow _ _ (Nat.le_refl _) _ _⟩
  clear htab
  go_enter Ybad.func9, Ybad.ntmps9
  go_wp2_with fail
  refine h11.mono ?_
  rintro e w' ⟨rfl, hb⟩
  go_wp2
  go_ret
  exact ⟨rfl, hb⟩

theorem info5 : (Ybad.prog.info? 5).map (fun i => (i.zero, i.size, i.bytes)) = some (some (.int .u8 0), 1, 1) := by kernel_rfl

set_option maxHeartbeats 800000 in
theorem walk4 (u : Nat) (hu : u < 18446744073709551616) (w : World) (htab : Lib.TabIs Ybad.prog w powName .u64 Lib.pow10Tab)
    (t1 t2 : TypeId) (p1 p2 : Value) (h1 : w.cell? ⟨1, 0, none⟩ = some (.iface t1 p1)) (h2 : w.cell? ⟨2, 0, none⟩ = some (.iface t2 p2)) :
    Calls Ybad.prog 4 #[.int .u64 u] w fun e w' => e = .returned (.bool true) ∧ Below w.heap.size w w' := by
  have hf := format_u64 u hu w htab
  have hl := dec_len u hu
  have hpd := pc_dec u hu
  have hpz := pc_zero_dec u hu
  have hb1' : 1 < w.heap.size := lt_of_cell h1
  have hb2' : 2 < w.heap.size := lt_of_cell h2
  generalize hL : Lib.decDigits u = L at *
  clear htab hL
  have hsz : (⟨L.toArray⟩ : ByteArray).size = L.length := by simp [ByteArray.size]
  go_enter Ybad.func4, Ybad.ntmps4
  go_wp2_with fail
  refine hf.mono ?_
  rintro e w1 ⟨rfl, hb1⟩
  have hcv := Lib.run_convert_string_bytes (P := Ybad.prog) w1 9 22 5 ⟨L.toArray⟩ Ybad.underlying9 Ybad.underlying22 Ybad.underlying5
  have hbw := Lib.bytesWorld_below w1 5 ⟨L.toArray⟩
  have hcell := Lib.bytesWorld_cell w1 5 ⟨L.toArray⟩
  generalize Lib.bytesWorld w1 5 ⟨L.toArray⟩ = w2 at hcv hbw hcell
  rw [hsz] at hcv
  generalize grownCap w1 L.length 0 5 = cp at hcv
  have hb12 : Below w.heap.size w w2 := hb1.trans (hbw.mono hb1.size)
  have h1' := (hb12.cell (p := ⟨1, 0, none⟩) hb1').trans h1
  have h2' := (hb12.cell (p := ⟨2, 0, none⟩) hb2').trans h2
  have hp := parse_row L ⟨w1.heap.size, 0, none⟩ cp w2 (fun j hj => by
    rw [Lib.add_plain, Nat.zero_add, hcell j (by rw [hsz]; exact hj)]
    simp [List.getD, hj]) t1 t2 p1 p2 h1' h2'
  rw [hpd] at hp
  clear hcell
  go_wp2_with fail
  refine hp.mono ?_
  rintro e w3 ⟨rfl, hb3⟩
  have hb03 : Below w.heap.size w w3 := hb12.trans (hb3.mono hb12.size)
  have hbl : Below w.heap.size w (w3.alloc (Obj.cells #[Value.int IntKind.u8 48] 5)) := hb03.alloc hb03.size _
  have hown : (w3.alloc (Obj.cells #[Value.int IntKind.u8 48] 5)).ownsRow w.heap.size 5 1 (.slice (some ⟨w3.heap.size, 0, none⟩) 1 1) 1 [.int .u8 48] :=
    World.ownsRow_lit w3 #[.int .u8 48] 1 hb03.size (by unfold maxLen; omega) rfl
  have Hown := Lib.hid hown
  have Hbl := Lib.hid hbl
  obtain ⟨i0, hi, hz0, hz1, hz2⟩ := info_parts info5
  have hgw : ∀ k, (some w3.heap.size : Option Nat) = some k → w.heap.size ≤ k := fun k hk => by
    cases hk; exact hb03.size
  clear hp hcv hb3 hbw hb12 h1' h2' hf hpd hb03 hb1 hown hbl
  have H63 : Hid (1 + L.length ≤ maxLen) := by show 1 + L.length ≤ maxLen; unfold maxLen; omega
  have H64 : Hid (1 + L.length ≤ 140737488355328) := by show 1 + L.length ≤ 140737488355328; omega
  go_wp2_with (at_builtin; refine Lib.wpList_append_own_string _ rfl _ _ 22 9 rfl w.heap.size 5 i0 Ybad.underlying22 Ybad.underlying9 hi hz0 hz1 hz2 _ 1 [.int .u8 48] rfl Hown.out ⟨L.toArray⟩ rfl (by rw [hsz]; exact H63) (by rw [hsz]; exact H64) Hbl.out.size ?_)
  intro v' w4 hown' hgrow _
  have hb4 : Below w.heap.size w w4 := Hbl.out.grown hgrow Hbl.out.size hgw
  have key : Calls Ybad.prog 6 #[v'] w4 fun e w' => e = .returned (.tuple #[.int .u64 0, .bool false]) ∧ Below w.heap.size w w' := by
    have hown2 := hown'
    rcases hown'.2 with ⟨_, h0⟩ | ⟨g, cap, cur, rfl, _, _, _, _, _, _⟩
    · omega
    · have hcl : ∀ j (hj : j < (48 :: L).length), w4.cell? ((⟨g, 0, none⟩ : Addr).add j) = some (.int .u8 ((48 :: L)[j].toNat : Int)) := by
        intro j hj
        rw [Lib.add_plain, Nat.zero_add, hown2.cellAt j (by simp at hj; omega)]
        cases j with
        | zero => rfl
        | succ i =>
          have hi : i < L.length := by simpa using hj
          simp [Lib.strCells, hi]
      have hp2 := parse_row (48 :: L) ⟨g, 0, none⟩ cap w4 hcl t1 t2 p1 p2 ((hb4.cell (p := ⟨1, 0, none⟩) hb1').trans h1) ((hb4.cell (p := ⟨2, 0, none⟩) hb2').trans h2)
      rw [List.length_cons, Nat.add_comm, hpz] at hp2
      refine hp2.mono ?_
      rintro e w' ⟨rfl, hb5⟩
      exact ⟨rfl, hb4.trans (hb5.mono hb4.size)⟩
  clear hown' hgrow
  go_wp2_with fail
  refine key.mono ?_
  rintro e w5 ⟨rfl, hb5⟩
  go_wp2
  go_ret
  exact ⟨rfl, hb5⟩
end Go.Proofs.YbulkacrqeaDoor
