import Derived.Test.YbulkacrqeaFmtA4
namespace Go.Proofs.YbulkacrqeaFmt
open Go.RowKit

theorem verd_cases (b a : Bool) : (b = false ∧ a = false ∧ verd b a = 3) ∨ (b = true ∧ a = false ∧ verd b a = 1) ∨ (b = false ∧ a = true ∧ verd b a = 2) ∨ (b = true ∧ a = true ∧ verd b a = 4) := by
  cases b <;> cases a <;> simp [verd]

set_option maxHeartbeats 400000 in
theorem atMost_any (v u : Value) (l m : List (Nat × Int)) (w : World) (hv : EntsAt w v l) (hu : EntsAt w u m) :
    Calls Ybaf.prog 13 #[.agg #[v], .agg #[u]] w fun e w' => e = .returned (.bool (!ltB m l)) ∧ Below w.heap.size w w' := by
  have HV : Hid _ := hv
  have HU : Hid _ := hu
  obtain ⟨ao, cap, rfl, -⟩ := hv.entsIn
  obtain ⟨bo, cbp, rfl, -⟩ := hu.entsIn
  clear hv hu
  have HB : Hid (∀ o1 o2, Below w.heap.size w ((w.alloc o1).alloc o2)) := fun o1 o2 => ((Below.refl _ _).alloc (Nat.le_refl _) o1).alloc (by simp) o2
  rcases verd_cases (ltB l m) (ltB m l) with ⟨e1, e2, e3⟩ | ⟨e1, e2, e3⟩ | ⟨e1, e2, e3⟩ | ⟨e1, e2, e3⟩
  all_goals
    have E2 : Hid _ := e2
    have E3 : Hid _ := e3
    clear e1 e2 e3
    go_enter Ybaf.func13, Ybaf.ntmps13
    go_wp2_with fail
    refine (compare_any _ _ l m _ (EntsAt.below HV.out (HB.out _ _) (Nat.le_refl _)) (EntsAt.below HU.out (HB.out _ _) (Nat.le_refl _))).mono ?_
    rintro e w' ⟨rfl, hb⟩
    rw [E3.out]
    go_wp2
    go_ret
    exact ⟨ret_bool (by rw [E2.out]; rfl), (HB.out _ _).trans (hb.mono (by simp; omega))⟩
end Go.Proofs.YbulkacrqeaFmt
