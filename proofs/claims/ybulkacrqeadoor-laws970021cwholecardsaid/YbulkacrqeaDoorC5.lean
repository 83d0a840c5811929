import Derived.Test.YbulkacrqeaDoorC4
import Derived.Lib.AppendStr
import Derived.OwnWalk
namespace Go.Proofs.YbulkacrqeaDoor
open Go.RowKit

/-- A row of bytes as cells, and as numbers. -/
abbrev bcells (l : List UInt8) : List Value := l.map fun b => Value.int .u8 (b.toNat : Int)
abbrev nums (l : List UInt8) : List Int := l.map fun b => (b.toNat : Int)

theorem bytesOf_nums (l : List UInt8) : Lib.bytesOf (nums l) = l := by
  unfold Lib.bytesOf nums
  rw [List.map_map]
  conv => rhs; rw [← List.map_id l]
  apply List.map_congr_left
  intro b _
  simp

theorem own_cell {w : World} {B g n cap : Nat} {l : List UInt8} (h : w.ownsRow B 5 1 (.slice (some ⟨g, 0, none⟩) n cap) n (bcells l)) (hn : l.length = n) (j : Nat) (x : UInt8) (hx : l[j]? = some x) :
    w.cell? ⟨g, j, none⟩ = some (.int .u8 (x.toNat : Int)) := by
  obtain ⟨hj, _⟩ := List.getElem?_eq_some_iff.1 hx
  rw [h.cellAt j (by omega), List.getElem?_map, hx]
  rfl

theorem model (l : List UInt8) (v : Value) (B : Nat) (w : World) (hown : w.ownsRow B 5 1 v l.length (bcells l)) :
    Calls Ybad.prog 7 #[v] w fun e w' => e = .returned (.tuple #[.int .u64 ((pc l).1 : Nat), .bool (pc l).2]) ∧ ∃ k, w' = w.drewN k := by
  have hown2 := hown
  rcases hown.2 with ⟨rfl, h0⟩ | ⟨g, cap, cur, rfl, _, _, _, _, _, _⟩
  · obtain rfl := List.length_eq_zero_iff.1 h0
    refine (model_off none 0 0 (Or.inl rfl) w).mono ?_
    rintro e w' ⟨rfl, rfl⟩
    exact ⟨rfl, 0, rfl⟩
  · have hc : ∀ j x, l[j]? = some x → w.cell? ⟨g, j, none⟩ = some (.int .u8 (x.toNat : Int)) := fun j x hx => own_cell hown2 rfl j x hx
    by_cases h0 : l.length = 0
    · have e := List.length_eq_zero_iff.1 h0
      subst e
      refine (model_off (some ⟨g, 0, none⟩) 0 cap (Or.inl rfl) w).mono ?_
      rintro e w' ⟨rfl, rfl⟩
      exact ⟨rfl, 0, rfl⟩
    · by_cases h20 : 20 < l.length
      · refine (model_off (some ⟨g, 0, none⟩) l.length cap (Or.inr h20) w).mono ?_
        rintro e w' ⟨rfl, rfl⟩
        rw [pc_long l h20]
        exact ⟨rfl, 0, rfl⟩
      · by_cases h1 : l.length = 1
        · exact model_one l g l.length cap rfl h1 w hc
        · obtain ⟨x0, hx0⟩ : ∃ x, l[0]? = some x := ⟨_, List.getElem?_eq_getElem (by omega)⟩
          by_cases hz : x0 = 48
          · subst hz
            refine (model_lead g l.length cap (by omega) (by omega) w (hc 0 _ hx0)).mono ?_
            rintro e w' ⟨rfl, rfl⟩
            rw [pc_lead l (by omega) hx0]
            exact ⟨rfl, 0, rfl⟩
          · have hz' : x0.toNat ≠ 48 := fun h => hz (UInt8.toNat_inj.mp h)
            by_cases hf : l.length = 20
            · exact model_full l g l.length cap rfl hf x0 hx0 hz' w hc
            · exact model_mid l g l.length cap rfl (by omega) (by omega) x0 hx0 hz' w hc

/-- What the tail of the law wants of the bytes it reads. -/
structure TailOk (vin : Value) (l : List UInt8) (W : World) : Prop where
  clone : Calls Ybad.prog 5 #[vin] W fun e w' => ∃ v', e = .returned v' ∧ w'.ownsRow W.heap.size 5 1 v' l.length (bcells l) ∧ Below W.heap.size W w'
  parse : ∀ W', Below W.heap.size W W' → Calls Ybad.prog 6 #[vin] W' fun e w' => e = .returned (.tuple #[.int .u64 ((pc l).1 : Nat), .bool (pc l).2]) ∧ Below W'.heap.size W' w'
  same : ∀ v' W', Below W.heap.size W W' → W'.ownsRow W.heap.size 5 1 v' l.length (bcells l) → Calls Ybad.prog 8 #[vin, v'] W' fun e w' => e = .returned (.bool true) ∧ w' = W'
end Go.Proofs.YbulkacrqeaDoor
