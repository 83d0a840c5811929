import Derived.Test.YbulkacrqhgA2
import Derived.Deep.Cut
import Derived.Deep.CutRange
namespace Go.Proofs.Ybulkacrqhg
open Go.RowKit

/-- The group at G. -/
structure GrpAt (w : World) (G : Nat) (i s p n : ByteArray) : Prop where
  c0 : w.cell? ⟨G, 0, none⟩ = some (.string i)
  c1 : w.cell? ⟨G, 1, none⟩ = some (.string s)
  c2 : w.cell? ⟨G, 2, none⟩ = some (.string p)
  c3 : w.cell? ⟨G, 3, none⟩ = some (.string n)

theorem GrpAt.below {w w' : World} {G : Nat} {i s p n : ByteArray} (h : GrpAt w G i s p n) (hb : Below w.heap.size w w') : GrpAt w' G i s p n := by
  have hG : G < w.heap.size := World.block_lt_of_cell? _ _ h.c0
  exact ⟨(hb.cell (p := ⟨G, 0, none⟩) hG).trans h.c0, (hb.cell (p := ⟨G, 1, none⟩) hG).trans h.c1, (hb.cell (p := ⟨G, 2, none⟩) hG).trans h.c2, (hb.cell (p := ⟨G, 3, none⟩) hG).trans h.c3⟩

theorem IsOpt.draws {w : World} {p : Value} {s : ByteArray} (h : IsOpt w p s) (n : Nat) : IsOpt (w.drewN n) p s := h

theorem resAt_new (a0 a1 r a3 a4 a5 : ByteArray) (w : World) : ResAt (w.alloc (.cells #[.string a0, .string a1, .string r, .string a3, .string a4, .string a5] 25)) w.heap.size a0 a1 r a3 a4 a5 := by
  constructor <;> (rw [World.cell?_alloc_new]; rfl)
theorem grpAt_new (i s p n : ByteArray) (w : World) : GrpAt (w.alloc (.cells #[.string i, .string s, .string p, .string n] 28)) w.heap.size i s p n := by
  constructor <;> (rw [World.cell?_alloc_new]; rfl)
theorem below_new (w : World) (o : Obj) : Below w.heap.size w (w.alloc o) := (Below.refl _ _).alloc (Nat.le_refl _) o

/-- The worlds ahead of the call of snapshotTarget. -/
abbrev W2 (a0 a1 r a3 a4 a5 : ByteArray) (w : World) : World :=
  (w.alloc (.cells #[.string a0, .string a1, .string r, .string a3, .string a4, .string a5] 25)).alloc (.cells #[.string a0, .string a1, .string r, .string a3, .string a4, .string a5] 25)
abbrev W3 (a0 a1 r a3 a4 a5 : ByteArray) (w : World) (g : Obj) : World := (W2 a0 a1 r a3 a4 a5 w).alloc g
abbrev W4 (a0 a1 r a3 a4 a5 i s p n : ByteArray) (w : World) : World := (W3 a0 a1 r a3 a4 a5 w (.cells #[.string i, .string s, .string p, .string n] 28)).alloc (.cells #[.string i, .string s, .string p, .string n] 28)

theorem size_alloc' (w : World) (o : Obj) : (w.alloc o).heap.size = w.heap.size + 1 := by simp

theorem w3_res (a0 a1 r a3 a4 a5 : ByteArray) (w : World) (g : Obj) : ResAt (W3 a0 a1 r a3 a4 a5 w g) w.heap.size a0 a1 r a3 a4 a5 :=
  ((resAt_new a0 a1 r a3 a4 a5 w).below (below_new _ _)).below (below_new _ _)
theorem w3_copy (a0 a1 r a3 a4 a5 : ByteArray) (w : World) (g : Obj) : ResAt (W3 a0 a1 r a3 a4 a5 w g) (w.heap.size + 1) a0 a1 r a3 a4 a5 := by
  have h := (resAt_new a0 a1 r a3 a4 a5 (w.alloc (.cells #[.string a0, .string a1, .string r, .string a3, .string a4, .string a5] 25))).below (below_new _ g)
  rw [size_alloc'] at h
  exact h
theorem w3_below (a0 a1 r a3 a4 a5 : ByteArray) (w : World) (g : Obj) : Below w.heap.size w (W3 a0 a1 r a3 a4 a5 w g) :=
  (((Below.refl _ _).alloc (Nat.le_refl _) _).alloc (by rw [size_alloc']; omega) _).alloc (by rw [size_alloc', size_alloc']; omega) _
theorem w4_var (a0 a1 r a3 a4 a5 i s p n : ByteArray) (w : World) : GrpAt (W4 a0 a1 r a3 a4 a5 i s p n w) (w.heap.size + 1 + 1) i s p n := by
  have h := (grpAt_new i s p n (W2 a0 a1 r a3 a4 a5 w)).below (below_new _ (.cells #[.string i, .string s, .string p, .string n] 28))
  rw [size_alloc', size_alloc'] at h
  exact h
theorem w4_box (a0 a1 r a3 a4 a5 i s p n : ByteArray) (w : World) : GrpAt (W4 a0 a1 r a3 a4 a5 i s p n w) (w.heap.size + 1 + 1 + 1) i s p n := by
  have h := grpAt_new i s p n (W3 a0 a1 r a3 a4 a5 w (.cells #[.string i, .string s, .string p, .string n] 28))
  rw [size_alloc', size_alloc', size_alloc'] at h
  exact h

/-! ### The call of snapshotTarget in those worlds -/
theorem call3_other (a0 a1 r a3 a4 a5 space : ByteArray) (w : World) (g : Obj) (hne : (r.toList == space.toList) = false) :
    Calls Yba.prog 4 #[.pointer (some ⟨w.heap.size, 0, none⟩), .pointer none, .string space] (W3 a0 a1 r a3 a4 a5 w g) fun e w' => e = .returned (.pointer none) ∧
      ResAt w' w.heap.size a0 a1 r a3 a4 a5 ∧ ResAt w' (w.heap.size + 1) a0 a1 r a3 a4 a5 ∧ Below w.heap.size w w' := by
  refine (snap_other _ _ _ _ _ _ _ _ _ _ (w3_res a0 a1 r a3 a4 a5 w g) hne).mono ?_
  rintro e w' ⟨rfl, rfl⟩
  exact ⟨rfl, w3_res .., w3_copy .., w3_below ..⟩

theorem call3_own (a0 a1 r a3 a4 a5 space : ByteArray) (w : World) (g : Obj) (heq : (r.toList == space.toList) = true) :
    Calls Yba.prog 4 #[.pointer (some ⟨w.heap.size, 0, none⟩), .pointer none, .string space] (W3 a0 a1 r a3 a4 a5 w g) fun e w' => ∃ S xg xo, e = .returned (.pointer (some ⟨S, 0, none⟩)) ∧
      SnapAt w' S a0 a1 r a5 xg none xo ∧ IsOpt w' (.pointer xg) a3 ∧ IsOpt w' (.pointer xo) a4 ∧
      ResAt w' w.heap.size a0 a1 r a3 a4 a5 ∧ ResAt w' (w.heap.size + 1) a0 a1 r a3 a4 a5 ∧ Below w.heap.size w w' := by
  refine (snap_nog _ _ _ _ _ _ _ _ _ (w3_res a0 a1 r a3 a4 a5 w g) heq).mono ?_
  rintro e w' ⟨S, xg, xo, rfl, sn, og, oo, hb⟩
  have hB := w3_below a0 a1 r a3 a4 a5 w g
  exact ⟨S, xg, xo, rfl, sn, og, oo, (w3_res ..).below hb, (w3_copy ..).below hb, hB.trans (hb.mono hB.size)⟩

theorem w4_res (a0 a1 r a3 a4 a5 i s p n : ByteArray) (w : World) : ResAt (W4 a0 a1 r a3 a4 a5 i s p n w) w.heap.size a0 a1 r a3 a4 a5 := (w3_res ..).below (below_new _ _)
theorem w4_copy (a0 a1 r a3 a4 a5 i s p n : ByteArray) (w : World) : ResAt (W4 a0 a1 r a3 a4 a5 i s p n w) (w.heap.size + 1) a0 a1 r a3 a4 a5 := (w3_copy ..).below (below_new _ _)
theorem w4_below (a0 a1 r a3 a4 a5 i s p n : ByteArray) (w : World) : Below w.heap.size w (W4 a0 a1 r a3 a4 a5 i s p n w) := (w3_below ..).trans ((below_new _ _).mono (w3_below ..).size)

theorem call4_other (a0 a1 r a3 a4 a5 i s p n space : ByteArray) (w : World) (hne : (r.toList == space.toList) = false) :
    Calls Yba.prog 4 #[.pointer (some ⟨w.heap.size, 0, none⟩), .pointer (some ⟨w.heap.size + 1 + 1 + 1, 0, none⟩), .string space] (W4 a0 a1 r a3 a4 a5 i s p n w) fun e w' => e = .returned (.pointer none) ∧
      ResAt w' w.heap.size a0 a1 r a3 a4 a5 ∧ ResAt w' (w.heap.size + 1) a0 a1 r a3 a4 a5 ∧ GrpAt w' (w.heap.size + 1 + 1) i s p n ∧ GrpAt w' (w.heap.size + 1 + 1 + 1) i s p n ∧ Below w.heap.size w w' := by
  refine (snap_other _ _ _ _ _ _ _ _ _ _ (w4_res a0 a1 r a3 a4 a5 i s p n w) hne).mono ?_
  rintro e w' ⟨rfl, rfl⟩
  exact ⟨rfl, w4_res .., w4_copy .., w4_var .., w4_box .., w4_below ..⟩

theorem call4_off (a0 a1 r a3 a4 a5 i s p n space : ByteArray) (w : World) (heq : (r.toList == space.toList) = true) (hne : (s.toList == space.toList) = false) :
    Calls Yba.prog 4 #[.pointer (some ⟨w.heap.size, 0, none⟩), .pointer (some ⟨w.heap.size + 1 + 1 + 1, 0, none⟩), .string space] (W4 a0 a1 r a3 a4 a5 i s p n w) fun e w' => ∃ S xg xo, e = .returned (.pointer (some ⟨S, 0, none⟩)) ∧
      SnapAt w' S a0 a1 r a5 xg none xo ∧ IsOpt w' (.pointer xg) a3 ∧ IsOpt w' (.pointer xo) a4 ∧
      ResAt w' w.heap.size a0 a1 r a3 a4 a5 ∧ ResAt w' (w.heap.size + 1) a0 a1 r a3 a4 a5 ∧ GrpAt w' (w.heap.size + 1 + 1) i s p n ∧ GrpAt w' (w.heap.size + 1 + 1 + 1) i s p n ∧ Below w.heap.size w w' := by
  have hb4 := w4_box a0 a1 r a3 a4 a5 i s p n w
  refine (snap_goff _ _ _ _ _ _ _ _ _ _ (w4_res a0 a1 r a3 a4 a5 i s p n w) heq s hb4.c1 hne).mono ?_
  rintro e w' ⟨S, xg, xo, rfl, sn, og, oo, hb⟩
  have hB := w4_below a0 a1 r a3 a4 a5 i s p n w
  exact ⟨S, xg, xo, rfl, sn, og, oo, (w4_res ..).below hb, (w4_copy ..).below hb, (w4_var ..).below hb, (w4_box ..).below hb, hB.trans (hb.mono hB.size)⟩

theorem call4_on (a0 a1 r a3 a4 a5 i s p n space : ByteArray) (w : World) (heq : (r.toList == space.toList) = true) (hgs : (s.toList == space.toList) = true) :
    Calls Yba.prog 4 #[.pointer (some ⟨w.heap.size, 0, none⟩), .pointer (some ⟨w.heap.size + 1 + 1 + 1, 0, none⟩), .string space] (W4 a0 a1 r a3 a4 a5 i s p n w) fun e w' => ∃ S xg xp xo, e = .returned (.pointer (some ⟨S, 0, none⟩)) ∧
      SnapAt w' S a0 a1 r a5 xg xp xo ∧ IsOpt w' (.pointer xg) a3 ∧ IsOpt w' (.pointer xp) p ∧ IsOpt w' (.pointer xo) a4 ∧
      ResAt w' w.heap.size a0 a1 r a3 a4 a5 ∧ ResAt w' (w.heap.size + 1) a0 a1 r a3 a4 a5 ∧ GrpAt w' (w.heap.size + 1 + 1) i s p n ∧ GrpAt w' (w.heap.size + 1 + 1 + 1) i s p n ∧ Below w.heap.size w w' := by
  have hb4 := w4_box a0 a1 r a3 a4 a5 i s p n w
  refine (snap_gon _ _ _ _ _ _ _ _ _ _ (w4_res a0 a1 r a3 a4 a5 i s p n w) heq s p hb4.c1 hb4.c2 hgs).mono ?_
  rintro e w' ⟨S, xg, xp, xo, rfl, sn, og, op, oo, hb⟩
  have hB := w4_below a0 a1 r a3 a4 a5 i s p n w
  exact ⟨S, xg, xp, xo, rfl, sn, og, op, oo, (w4_res ..).below hb, (w4_copy ..).below hb, (w4_var ..).below hb, (w4_box ..).below hb, hB.trans (hb.mono hB.size)⟩

set_option maxHeartbeats 4000000 in
theorem law_walk (a0 a1 a2 a3 a4 a5 a6 a7 a8 a9 a10 : ByteArray) (a11 : Int) (w : World) :
    Calls Yba.prog 3 #[.string a0, .string a1, .string a2, .string a3, .string a4, .string a5, .string a6, .string a7, .string a8, .string a9, .string a10, .int .u8 a11] w fun e w' => e = .returned (.bool true) ∧ Below w.heap.size w w' := by
  go_enter Yba.func3, Yba.ntmps3
  go_upto_if 32 with fail
  go_cut [2] from 30 to 33 (fun s2 wx => (∃ r', s2 = .string r') ∧ wx = w)
  case first => go_wp2_with fail; all_goals (go_meet; exact ⟨⟨_, rfl⟩, rfl⟩)
  case rest =>
    obtain ⟨⟨r', rfl⟩, rfl⟩ := hcut
    go_upto_if 36 with fail
    go_cut [7] from 30 to 37 (fun s7 wx => (∃ g', s7 = .string g') ∧ wx = wc)
    case first => go_wp2_with fail; all_goals (go_meet; exact ⟨⟨_, rfl⟩, rfl⟩)
    case rest =>
      obtain ⟨⟨g', rfl⟩, rfl⟩ := hcut
      cases hb1 : (bits BinOp.and IntKind.u8 a11 1 != 0)
      · go_wp2_with fail
        cases hr : (r'.toList == a10.toList)
        · refine (call3_other a0 a1 r' a3 a4 a5 a10 wc _ hr).mono ?_
          rintro e w1 ⟨rfl, ⟨c0, c1, c2, c3, c4, c5⟩, ⟨d0, d1, d2, d3, d4, d5⟩, hB⟩
          go_wp2_with fail
          go_quiet (fail)
          go_wp2_with fail
          go_quiet (fail)
          go_wp2_with fail
          go_ret
          exact ⟨rfl, below_drewN hB _⟩
        · refine (call3_own a0 a1 r' a3 a4 a5 a10 wc _ hr).mono ?_
          rintro e w1 ⟨S, xg, xo, rfl, ⟨s0, s1, s2, s3, s4, s5, s6⟩, og, oo, ⟨c0, c1, c2, c3, c4, c5⟩, ⟨d0, d1, d2, d3, d4, d5⟩, hB⟩
          go_wp2_with fail
          go_quiet (fail)
          go_wp2_with fail
          go_quiet (fail)
          go_wp2_with fail
          refine (opt_true _ _ _ (og.draws _)).mono ?_
          rintro e _ ⟨rfl, rfl⟩
          go_wp2_with fail
          refine (opt_true _ _ _ (oo.draws _)).mono ?_
          rintro e _ ⟨rfl, rfl⟩
          go_wp2_with fail
          go_ret
          exact ⟨rfl, below_drewN hB _⟩
      · go_wp2_with fail
        cases hr : (r'.toList == a10.toList)
        · refine (call4_other a0 a1 r' a3 a4 a5 a6 g' a8 a9 a10 wc hr).mono ?_
          rintro e w1 ⟨rfl, ⟨c0, c1, c2, c3, c4, c5⟩, ⟨d0, d1, d2, d3, d4, d5⟩, ⟨g0, g1, g2, g3⟩, ⟨h0, h1, h2, h3⟩, hB⟩
          go_wp2_with fail
          go_quiet (fail)
          go_wp2_with fail
          go_quiet (fail)
          go_wp2_with fail
          go_ret
          exact ⟨rfl, below_drewN hB _⟩
        · cases hs : (g'.toList == a10.toList)
          · refine (call4_off a0 a1 r' a3 a4 a5 a6 g' a8 a9 a10 wc hr hs).mono ?_
            rintro e w1 ⟨S, xg, xo, rfl, ⟨s0, s1, s2, s3, s4, s5, s6⟩, og, oo, ⟨c0, c1, c2, c3, c4, c5⟩, ⟨d0, d1, d2, d3, d4, d5⟩, ⟨g0, g1, g2, g3⟩, ⟨h0, h1, h2, h3⟩, hB⟩
            go_wp2_with fail
            go_quiet (fail)
            go_wp2_with fail
            go_quiet (fail)
            go_wp2_with fail
            refine (opt_true _ _ _ (og.draws _)).mono ?_
            rintro e _ ⟨rfl, rfl⟩
            go_wp2_with fail
            refine (opt_true _ _ _ (oo.draws _)).mono ?_
            rintro e _ ⟨rfl, rfl⟩
            go_wp2_with fail
            go_ret
            exact ⟨rfl, below_drewN hB _⟩
          · refine (call4_on a0 a1 r' a3 a4 a5 a6 g' a8 a9 a10 wc hr hs).mono ?_
            rintro e w1 ⟨S, xg, xp, xo, rfl, ⟨s0, s1, s2, s3, s4, s5, s6⟩, og, op, oo, ⟨c0, c1, c2, c3, c4, c5⟩, ⟨d0, d1, d2, d3, d4, d5⟩, ⟨g0, g1, g2, g3⟩, ⟨h0, h1, h2, h3⟩, hB⟩
            go_wp2_with fail
            go_quiet (fail)
            go_wp2_with fail
            go_quiet (fail)
            go_wp2_with fail
            refine (opt_true _ _ _ (og.draws _)).mono ?_
            rintro e _ ⟨rfl, rfl⟩
            go_wp2_with fail
            refine (opt_true _ _ _ (oo.draws _)).mono ?_
            rintro e _ ⟨rfl, rfl⟩
            go_wp2_with fail
            refine (opt_true _ _ _ (op.draws _)).mono ?_
            rintro e _ ⟨rfl, rfl⟩
            go_wp2_with fail
            go_ret
            exact ⟨rfl, below_drewN hB _⟩
end Go.Proofs.Ybulkacrqhg
