import Derived.Test.YbulkacrqeaDoorA4
import Derived.Test.YbulkacrqeaDoorTie
import Derived.Test.YbulkacrqeaDoorCards
import Derived.ProofKit
import Derived.LaidMore
import Derived.OpenShut
import Derived.Stop.Joined
import Derived.SevenTiedAt
namespace Go.Proofs.YbulkacrqeaDoor
open Go.ChangeShapes Go.WideShapes Go.ChangeAt Go.WideMaps Go.WideElems Go.RowKit

theorem own : ownKnob Ybad.prog.godebug = none := by kernel_rfl
theorem gPow : Ybad.prog.globalNamed powName = some 0 := by kernel_rfl
theorem gSyn : Ybad.prog.globalNamed "strconv.ErrSyntax" = some 1 := by kernel_rfl
theorem gRan : Ybad.prog.globalNamed "strconv.ErrRange" = some 2 := by kernel_rfl
theorem tPow : (Ybad.prog.globals[0]?).map (·.type) = some 51 := by kernel_rfl
theorem tSyn : (Ybad.prog.globals[1]?).map (·.type) = some 32 := by kernel_rfl
theorem tRan : (Ybad.prog.globals[2]?).map (·.type) = some 32 := by kernel_rfl

/-- What both rows list. -/
abbrev laid5 : List (String × DataW Unit) := Rows.lawS970021CRoundTripRow.laid

theorem iface_of_trod {H : Type} {enc : TypeId × Value → H} {P : Program} {w : World} {base : Nat} {sp : Nat → Bool} {fuel : Nat} {t : TypeId} {ms : Array (String × TypeId)} {cs : List Value} {nm : String} {d : DataW H} {p : List MemPlace}
    (ht : P.underlying t = some (.interface ms)) (h : DataW.trod enc P w base sp false fuel t cs = some (.iface nm d, p)) : ∃ u v, cs = [.iface u v] := by
  cases fuel with
  | zero => simp [DataW.trod] at h
  | succ fuel =>
    unfold DataW.trod at h
    rw [ht] at h
    split at h <;> simp_all

theorem of_laid {W : World} (h : laidMetH Ybad.prog laid5 W) :
    Lib.TabIs Ybad.prog W powName .u64 Lib.pow10Tab ∧ (∃ t1 p1, W.cell? ⟨1, 0, none⟩ = some (.iface t1 p1)) ∧ (∃ t2 p2, W.cell? ⟨2, 0, none⟩ = some (.iface t2 p2)) := by
  rw [MakeChecks.laidMetH_plain _ _ _ (by kernel_rfl)] at h
  obtain ⟨ps, ⟨g0, t0, cs0, f0, p0, q0, hg0, ht0, hv0, hd0, ⟨g1, t1, cs1, f1, p1, q1, hg1, ht1, hv1, hd1, ⟨g2, t2, cs2, f2, p2, q2, hg2, ht2, hv2, hd2, ⟨g3, t3, cs3, f3, p3, q3, hg3, ht3, hv3, hd3, ⟨g4, t4, cs4, f4, p4, q4, hg4, ht4, hv4, hd4, _, _⟩, _⟩, _⟩, _⟩, _⟩, _, _⟩ := h
  obtain rfl := Option.some.inj (gPow.symm.trans hg2)
  obtain rfl := Option.some.inj (gRan.symm.trans hg3)
  obtain rfl := Option.some.inj (gSyn.symm.trans hg4)
  obtain rfl := Option.some.inj (tPow.symm.trans ht2)
  obtain rfl := Option.some.inj (tRan.symm.trans ht3)
  obtain rfl := Option.some.inj (tSyn.symm.trans ht4)
  refine ⟨?_, ?_, ?_⟩
  · unfold Lib.TabIs
    have e := Lib.cells_of_tab (k := .u64) (zs := Lib.pow10Tab) Ybad.underlying51 Ybad.underlying24 (by kernel_rfl) (by kernel_rfl) hd2
    rw [← e]
    exact hv2
  · obtain ⟨u, v, e⟩ := iface_of_trod Ybad.underlying32 hd4
    have := World.var?_cell hg4 hv4 0
    rw [Array.eq_one_of_toList e] at this
    exact ⟨u, v, by simpa using this⟩
  · obtain ⟨u, v, e⟩ := iface_of_trod Ybad.underlying32 hd3
    have := World.var?_cell hg3 hv3 0
    rw [Array.eq_one_of_toList e] at this
    exact ⟨u, v, by simpa using this⟩

theorem door_met (os : Os) (args : Array Value) : laidMetH Ybad.prog laid5 ((World.doorLaid Ybad.prog 400 os).forCall (fun _ _ => 0) ⟨#[], args, []⟩).memory :=
  laidMetH_of_parts3 (fuel := 8) (laidMet_of_run' 8 (by kernel_rfl) (by kernel_rfl)) (by kernel_rfl) (by kernel_rfl)
end Go.Proofs.YbulkacrqeaDoor
