import Derived.Test.YbulkacrqhgA1
import Derived.Deep.RegionHeld3
import Derived.Deep.RegionWith
namespace Go.Proofs.Ybulkacrqhg
open Go.RowKit

/-- The resource at R. -/
structure ResAt (w : World) (R : Nat) (a b sp g o st : ByteArray) : Prop where
  c0 : w.cell? ⟨R, 0, none⟩ = some (.string a)
  c1 : w.cell? ⟨R, 1, none⟩ = some (.string b)
  c2 : w.cell? ⟨R, 2, none⟩ = some (.string sp)
  c3 : w.cell? ⟨R, 3, none⟩ = some (.string g)
  c4 : w.cell? ⟨R, 4, none⟩ = some (.string o)
  c5 : w.cell? ⟨R, 5, none⟩ = some (.string st)

set_option maxHeartbeats 800000 in
theorem snap_other (R : Nat) (gv : Value) (a b sp g o st space : ByteArray) (w : World) (h : ResAt w R a b sp g o st) (hne : (sp.toList == space.toList) = false) :
    Calls Yba.prog 4 #[.pointer (some ⟨R, 0, none⟩), gv, .string space] w fun e w' => e = .returned (.pointer none) ∧ w' = w := by
  have c2 := h.c2
  clear h
  go_enter Yba.func4, Yba.ntmps4
  go_wp2
  go_ret
  exact ⟨rfl, rfl⟩

theorem opt_new_is (s : ByteArray) (w : World) :
    Calls Yba.prog 6 #[.string s] w fun e w' => ∃ x, e = .returned (.pointer x) ∧ IsOpt w' (.pointer x) s ∧ Below w.heap.size w w' := by
  refine (opt_new s w).mono ?_
  rintro e w' ⟨rfl, rfl⟩
  cases hb : s.toList.isEmpty
  · refine ⟨some ⟨w.heap.size, 0, none⟩, by unfold optV; rw [hb]; rfl, Or.inr ⟨hb, w.heap.size, rfl, ?_⟩, (Below.refl _ _).alloc (Nat.le_refl _) _⟩
    rw [World.cell?_alloc_new]; rfl
  · exact ⟨none, by unfold optV; rw [hb]; rfl, Or.inl ⟨hb, rfl⟩, (Below.refl _ _).alloc (Nat.le_refl _) _⟩

theorem IsOpt.below {w w' : World} {p : Value} {s : ByteArray} (h : IsOpt w p s) (hb : Below w.heap.size w w') : IsOpt w' p s := by
  rcases h with h | ⟨h1, b, rfl, hc⟩
  · exact Or.inl h
  · exact Or.inr ⟨h1, b, rfl, by rw [hb.cell (World.block_lt_of_cell? _ _ hc)]; exact hc⟩

theorem ResAt.below {w w' : World} {R : Nat} {a b sp g o st : ByteArray} (h : ResAt w R a b sp g o st) (hb : Below w.heap.size w w') : ResAt w' R a b sp g o st := by
  have hR : R < w.heap.size := World.block_lt_of_cell? _ _ h.c0
  exact ⟨(hb.cell (p := ⟨R, 0, none⟩) hR).trans h.c0, (hb.cell (p := ⟨R, 1, none⟩) hR).trans h.c1, (hb.cell (p := ⟨R, 2, none⟩) hR).trans h.c2, (hb.cell (p := ⟨R, 3, none⟩) hR).trans h.c3, (hb.cell (p := ⟨R, 4, none⟩) hR).trans h.c4, (hb.cell (p := ⟨R, 5, none⟩) hR).trans h.c5⟩

/-- The snapshot at S: its four strings, and the three addresses of the optional ones. -/
structure SnapAt (w : World) (S : Nat) (a b sp st : ByteArray) (xg xp xo : Option Addr) : Prop where
  c0 : w.cell? ⟨S, 0, none⟩ = some (.string a)
  c1 : w.cell? ⟨S, 1, none⟩ = some (.string b)
  c2 : w.cell? ⟨S, 2, none⟩ = some (.string sp)
  c3 : w.cell? ⟨S, 3, none⟩ = some (.string st)
  c4 : w.cell? ⟨S, 4, none⟩ = some (.pointer xg)
  c5 : w.cell? ⟨S, 5, none⟩ = some (.pointer xp)
  c6 : w.cell? ⟨S, 6, none⟩ = some (.pointer xo)

theorem snapAt_new (w : World) (a b sp st : ByteArray) (xg xp xo : Option Addr) :
    SnapAt (w.alloc (.cells #[.string a, .string b, .string sp, .string st, .pointer xg, .pointer xp, .pointer xo] 33)) w.heap.size a b sp st xg xp xo := by
  constructor <;> (rw [World.cell?_alloc_new]; rfl)

theorem SnapAt.below {w w' : World} {S : Nat} {a b sp st : ByteArray} {xg xp xo : Option Addr} (h : SnapAt w S a b sp st xg xp xo) (hb : Below w.heap.size w w') : SnapAt w' S a b sp st xg xp xo := by
  have hS : S < w.heap.size := World.block_lt_of_cell? _ _ h.c0
  exact ⟨(hb.cell (p := ⟨S, 0, none⟩) hS).trans h.c0, (hb.cell (p := ⟨S, 1, none⟩) hS).trans h.c1, (hb.cell (p := ⟨S, 2, none⟩) hS).trans h.c2, (hb.cell (p := ⟨S, 3, none⟩) hS).trans h.c3, (hb.cell (p := ⟨S, 4, none⟩) hS).trans h.c4, (hb.cell (p := ⟨S, 5, none⟩) hS).trans h.c5, (hb.cell (p := ⟨S, 6, none⟩) hS).trans h.c6⟩

theorem SnapAt.setPath {w : World} {S : Nat} {a b sp st : ByteArray} {xg xp xo : Option Addr} (h : SnapAt w S a b sp st xg xp xo) (x : Option Addr) : SnapAt (w.setCell ⟨S, 5, none⟩ (.pointer x)) S a b sp st xg x xo :=
  ⟨(World.cell?_setCell_other _ _ _ _ (by simp)).trans h.c0, (World.cell?_setCell_other _ _ _ _ (by simp)).trans h.c1, (World.cell?_setCell_other _ _ _ _ (by simp)).trans h.c2, (World.cell?_setCell_other _ _ _ _ (by simp)).trans h.c3, (World.cell?_setCell_other _ _ _ _ (by simp)).trans h.c4, World.cell?_setCell_same _ _ _ h.c5, (World.cell?_setCell_other _ _ _ _ (by simp)).trans h.c6⟩

theorem IsOpt.setCell5 {w : World} {p : Value} {s : ByteArray} (h : IsOpt w p s) (S : Nat) (v : Value) : IsOpt (w.setCell ⟨S, 5, none⟩ v) p s := by
  rcases h with h | ⟨h1, b, rfl, hc⟩
  · exact Or.inl h
  · exact Or.inr ⟨h1, b, rfl, (World.cell?_setCell_other _ _ _ _ (by simp)).trans hc⟩

set_option maxHeartbeats 1600000 in
theorem snap_nog (R : Nat) (a b sp g o st space : ByteArray) (w : World) (h : ResAt w R a b sp g o st) (heq : (sp.toList == space.toList) = true) :
    Calls Yba.prog 4 #[.pointer (some ⟨R, 0, none⟩), .pointer none, .string space] w fun e w' => ∃ S xg xo, e = .returned (.pointer (some ⟨S, 0, none⟩)) ∧
      SnapAt w' S a b sp st xg none xo ∧ IsOpt w' (.pointer xg) g ∧ IsOpt w' (.pointer xo) o ∧ Below w.heap.size w w' := by
  have HO : Hid (∀ s W, Below w.heap.size w W → ResAt W R a b sp g o st → Calls Yba.prog 6 #[.string s] W fun e w' => ∃ x, e = .returned (.pointer x) ∧ IsOpt w' (.pointer x) s ∧ Below W.heap.size W w' ∧ Below w.heap.size w w' ∧ ResAt w' R a b sp g o st) := fun s W hw hr => (opt_new_is s W).mono (by
    rintro e w' ⟨x, rfl, hp, hb⟩
    exact ⟨x, rfl, hp, hb, hw.trans (hb.mono hw.size), hr.below hb⟩)
  have HB := Below.refl w.heap.size w
  obtain ⟨c0, c1, c2, c3, c4, c5⟩ := h
  go_enter Yba.func4, Yba.ntmps4
  go_wp2
  go_region_held3 (fun w' => w'.cell? ⟨R, 0, none⟩ = some (.string a) ∧ w'.cell? ⟨R, 1, none⟩ = some (.string b) ∧ w'.cell? ⟨R, 2, none⟩ = some (.string sp) ∧ w'.cell? ⟨R, 3, none⟩ = some (.string g) ∧ w'.cell? ⟨R, 4, none⟩ = some (.string o) ∧ w'.cell? ⟨R, 5, none⟩ = some (.string st))
    (go_keep) (first
      | (go_at_call 6; refine (HO.out g _ ?_ ?_).mono ?_; (first | exact HB.drew | exact HB2.drew); (constructor <;> simp_all); rintro e w1 ⟨pg, rfl, hpg, hbg, HB2, k0, k1, k2, k3, k4, k5⟩)
      | (go_at_call 6; refine (HO.out o _ ?_ ?_).mono ?_; (first | exact HB2 | exact HB.drew); (constructor <;> simp_all); rintro e w2 ⟨po, rfl, hpo, hbo, HB3, m0, m1, m2, m3, m4, m5⟩))
  go_wp2
  go_ret
  have hn := Below.refl w2.heap.size w2
  exact ⟨w2.heap.size, pg, po, rfl, snapAt_new w2 a b sp st pg none po, (hpg.below hbo).below (hn.alloc (Nat.le_refl _) _), hpo.below (hn.alloc (Nat.le_refl _) _), HB3.alloc HB3.size _⟩
set_option maxHeartbeats 1600000 in
theorem snap_goff (R G : Nat) (a b sp g o st space : ByteArray) (w : World) (h : ResAt w R a b sp g o st) (heq : (sp.toList == space.toList) = true) (gsp : ByteArray) (hg1 : w.cell? ⟨G, 1, none⟩ = some (.string gsp)) (hne : (gsp.toList == space.toList) = false) :
    Calls Yba.prog 4 #[.pointer (some ⟨R, 0, none⟩), .pointer (some ⟨G, 0, none⟩), .string space] w fun e w' => ∃ S xg xo, e = .returned (.pointer (some ⟨S, 0, none⟩)) ∧
      SnapAt w' S a b sp st xg none xo ∧ IsOpt w' (.pointer xg) g ∧ IsOpt w' (.pointer xo) o ∧ Below w.heap.size w w' := by
  have HO : Hid (∀ s W, Below w.heap.size w W → ResAt W R a b sp g o st → Calls Yba.prog 6 #[.string s] W fun e w' => ∃ x, e = .returned (.pointer x) ∧ IsOpt w' (.pointer x) s ∧ Below W.heap.size W w' ∧ Below w.heap.size w w' ∧ ResAt w' R a b sp g o st) := fun s W hw hr => (opt_new_is s W).mono (by
    rintro e w' ⟨x, rfl, hp, hb⟩
    exact ⟨x, rfl, hp, hb, hw.trans (hb.mono hw.size), hr.below hb⟩)
  have hG : G < w.heap.size := World.block_lt_of_cell? _ _ hg1
  have HB := Below.refl w.heap.size w
  obtain ⟨c0, c1, c2, c3, c4, c5⟩ := h
  go_enter Yba.func4, Yba.ntmps4
  go_wp2
  go_region_held3 (fun w' => w'.cell? ⟨R, 0, none⟩ = some (.string a) ∧ w'.cell? ⟨R, 1, none⟩ = some (.string b) ∧ w'.cell? ⟨R, 2, none⟩ = some (.string sp) ∧ w'.cell? ⟨R, 3, none⟩ = some (.string g) ∧ w'.cell? ⟨R, 4, none⟩ = some (.string o) ∧ w'.cell? ⟨R, 5, none⟩ = some (.string st))
    (go_keep) (first
      | (go_at_call 6; refine (HO.out g _ ?_ ?_).mono ?_; (first | exact HB.drew | exact HB2.drew); (constructor <;> simp_all); rintro e w1 ⟨pg, rfl, hpg, hbg, HB2, k0, k1, k2, k3, k4, k5⟩)
      | (go_at_call 6; refine (HO.out o _ ?_ ?_).mono ?_; (first | exact HB2 | exact HB.drew); (constructor <;> simp_all); rintro e w2 ⟨po, rfl, hpo, hbo, HB3, m0, m1, m2, m3, m4, m5⟩))
  have hG2 : G < w2.heap.size := Nat.lt_of_lt_of_le hG HB3.size
  have n1 : w2.cell? ⟨G, 1, none⟩ = some (.string gsp) := (HB3.cell (p := ⟨G, 1, none⟩) hG).trans hg1
  go_wp2
  go_ret
  have hn := Below.refl w2.heap.size w2
  exact ⟨w2.heap.size, pg, po, rfl, snapAt_new w2 a b sp st pg none po, (hpg.below hbo).below (hn.alloc (Nat.le_refl _) _), hpo.below (hn.alloc (Nat.le_refl _) _), HB3.alloc HB3.size _⟩
set_option maxHeartbeats 1600000 in
theorem snap_gon (R G : Nat) (a b sp g o st space : ByteArray) (w : World) (h : ResAt w R a b sp g o st) (heq : (sp.toList == space.toList) = true) (gsp gp : ByteArray) (hg1 : w.cell? ⟨G, 1, none⟩ = some (.string gsp)) (hg2 : w.cell? ⟨G, 2, none⟩ = some (.string gp)) (hgs : (gsp.toList == space.toList) = true) :
    Calls Yba.prog 4 #[.pointer (some ⟨R, 0, none⟩), .pointer (some ⟨G, 0, none⟩), .string space] w fun e w' => ∃ S xg xp xo, e = .returned (.pointer (some ⟨S, 0, none⟩)) ∧
      SnapAt w' S a b sp st xg xp xo ∧ IsOpt w' (.pointer xg) g ∧ IsOpt w' (.pointer xp) gp ∧ IsOpt w' (.pointer xo) o ∧ Below w.heap.size w w' := by
  have HO : Hid (∀ s W, Below w.heap.size w W → ResAt W R a b sp g o st → Calls Yba.prog 6 #[.string s] W fun e w' => ∃ x, e = .returned (.pointer x) ∧ IsOpt w' (.pointer x) s ∧ Below W.heap.size W w' ∧ Below w.heap.size w w' ∧ ResAt w' R a b sp g o st) := fun s W hw hr => (opt_new_is s W).mono (by
    rintro e w' ⟨x, rfl, hp, hb⟩
    exact ⟨x, rfl, hp, hb, hw.trans (hb.mono hw.size), hr.below hb⟩)
  have hG : G < w.heap.size := World.block_lt_of_cell? _ _ hg1
  have HB := Below.refl w.heap.size w
  obtain ⟨c0, c1, c2, c3, c4, c5⟩ := h
  go_enter Yba.func4, Yba.ntmps4
  go_wp2
  go_region_held3 (fun w' => w'.cell? ⟨R, 0, none⟩ = some (.string a) ∧ w'.cell? ⟨R, 1, none⟩ = some (.string b) ∧ w'.cell? ⟨R, 2, none⟩ = some (.string sp) ∧ w'.cell? ⟨R, 3, none⟩ = some (.string g) ∧ w'.cell? ⟨R, 4, none⟩ = some (.string o) ∧ w'.cell? ⟨R, 5, none⟩ = some (.string st))
    (go_keep) (first
      | (go_at_call 6; refine (HO.out g _ ?_ ?_).mono ?_; (first | exact HB.drew | exact HB2.drew); (constructor <;> simp_all); rintro e w1 ⟨pg, rfl, hpg, hbg, HB2, k0, k1, k2, k3, k4, k5⟩)
      | (go_at_call 6; refine (HO.out o _ ?_ ?_).mono ?_; (first | exact HB2 | exact HB.drew); (constructor <;> simp_all); rintro e w2 ⟨po, rfl, hpo, hbo, HB3, m0, m1, m2, m3, m4, m5⟩))
  have hG2 : G < w2.heap.size := Nat.lt_of_lt_of_le hG HB3.size
  have n1 : w2.cell? ⟨G, 1, none⟩ = some (.string gsp) := (HB3.cell (p := ⟨G, 1, none⟩) hG).trans hg1
  have n2 : w2.cell? ⟨G, 2, none⟩ = some (.string gp) := (HB3.cell (p := ⟨G, 2, none⟩) hG).trans hg2
  have hn := (Below.refl w2.heap.size w2).alloc (Nat.le_refl _) (.cells #[.string a, .string b, .string sp, .string st, .pointer pg, .pointer none, .pointer po] 33)
  have sn := snapAt_new w2 a b sp st pg none po
  have kg := (hpg.below hbo).below hn
  have ko := hpo.below hn
  have kb := HB3.alloc HB3.size (.cells #[.string a, .string b, .string sp, .string st, .pointer pg, .pointer none, .pointer po] 33)
  have hS := HB3.size
  have HP : Hid (Calls Yba.prog 6 #[.string gp] (w2.alloc (.cells #[.string a, .string b, .string sp, .string st, .pointer pg, .pointer none, .pointer po] 33)) fun e w' => ∃ x, e = .returned (.pointer x) ∧ IsOpt w' (.pointer x) gp ∧ IsOpt w' (.pointer pg) g ∧ IsOpt w' (.pointer po) o ∧ SnapAt w' w2.heap.size a b sp st pg none po ∧ w'.frozen? ⟨w2.heap.size, 5, none⟩ = false ∧ Below w.heap.size w w') := (opt_new_is gp _).mono (by
    rintro e w' ⟨x, rfl, hp, hb⟩
    refine ⟨x, rfl, hp, kg.below hb, ko.below hb, sn.below hb, ?_, kb.trans (hb.mono kb.size)⟩
    rw [hb.frozen (p := ⟨w2.heap.size, 5, none⟩) (by simp)]
    simp)
  clear hn sn kg ko kb hpg hbo hpo hbg HO
  go_wp2_with fail
  refine HP.out.mono ?_
  rintro e w3 ⟨px, rfl, hpx, kg, ko, sn, hf, kb⟩
  have s5 := sn.c5
  go_wp2
  go_ret
  exact ⟨w2.heap.size, pg, px, po, rfl, sn.setPath px, kg.setCell5 _ _, hpx.setCell5 _ _, ko.setCell5 _ _, kb.setCell hS _⟩

end Go.Proofs.Ybulkacrqhg
