import Derived.Test.YbulkacrqeaDoorC8
import Derived.Test.YbulkacrqeaDoorA5
import Derived.ChangeSlices
import Derived.Carry
namespace Go.Proofs.YbulkacrqeaDoor
open Go.ChangeShapes Go.WideShapes Go.ChangeAt Go.WideMaps Go.WideElems Go.RowKit

theorem cells5 : Ybad.prog.cellsOf 5 = 1 := by kernel_rfl
theorem laidOut : laidOutB Ybad.prog = true := by kernel_rfl

/-- The law's walk at every slice of bytes that a row hands over. -/
theorem walk3 (v : Value) (b : Bool) (W : World) {H : Type} {enc : TypeId × Value → H} {d : DataW H} {ps : List MemPlace} (h : DataW.Trod enc Ybad.prog W 0 (fun _ => true) true 22 v d ps)
    (hv : ∃ a n c, v = .slice a n c)
    (t1 t2 : TypeId) (p1 p2 : Value) (h1 : W.cell? ⟨1, 0, none⟩ = some (.iface t1 p1)) (h2 : W.cell? ⟨2, 0, none⟩ = some (.iface t2 p2)) :
    Calls Ybad.prog 3 #[v, .bool b] W fun e w' => e = .returned (.bool true) ∧ Below W.heap.size W w' := by
  obtain ⟨a0, n, c, rfl⟩ := hv
  by_cases hbig : 1048576 < n
  · refine (law_long a0 n c b hbig W).mono ?_
    rintro e w' ⟨rfl, rfl⟩
    exact ⟨rfl, Below.refl _ _⟩
  · obtain ⟨fuel, hf⟩ := h
    rcases Go.ChangeShapes.open_ints Ybad.underlying22 Ybad.underlying5 cells5 hf with ⟨hcs, hx⟩ | ⟨a, len, cap, zs, hcs, _, hlc, hm, hz, hx, hcell, hwz⟩
    · have hcs' : (Value.slice a0 n c) = .slice none 0 0 := by simpa [Value.cells] using hcs
      cases hcs'
      cases b
      · exact law_plain none 0 0 [] (by omega) W (tail_nil W t1 t2 p1 p2 h1 h2)
      · exact law_dig none 0 0 [] rfl (by omega) W (fun i x hx => by simp at hx) t1 t2 p1 p2 h1 h2
    · have hcs' : (Value.slice a0 n c) = .slice (some a) len cap := by simpa [Value.cells] using hcs
      cases hcs'
      rw [if_pos rfl] at hz
      obtain ⟨l, hl⟩ : ∃ l : List UInt8, l = (zs.take n).map fun z => UInt8.ofNat z.toNat := ⟨_, rfl⟩
      have hln : l.length = n := by rw [hl]; simp; omega
      have hb : ∀ j (hj : j < l.length), W.cell? (a.add j) = some (.int .u8 (l[j].toNat : Int)) := by
        intro j hj
        have hjz : j < zs.length := by omega
        have hbd := bounds_u8 (hwz zs[j] (List.getElem_mem hjz))
        have e1 : zs.getD j 0 = zs[j] := by simp [List.getD, hjz]
        have e2 : ((l[j]).toNat : Int) = zs[j] := by
          simp only [hl, List.getElem_map, List.getElem_take, UInt8.toNat_ofNat']
          omega
        rw [hcell j hjz, e1, e2]
      have key : ∀ b, Calls Ybad.prog 3 #[.slice (some a) l.length c, .bool b] W fun e w' => e = .returned (.bool true) ∧ Below W.heap.size W w' := by
        intro b
        cases b
        · exact law_plain (some a) l.length c l (by omega) W (tail_some l a c W (by omega) hb t1 t2 p1 p2 h1 h2)
        · refine law_dig (some a) l.length c l rfl (by omega) W (fun i x hx => ?_) t1 t2 p1 p2 h1 h2
          obtain ⟨hi, rfl⟩ := List.getElem?_eq_some_iff.1 hx
          obtain ⟨g, o, s⟩ := a
          obtain rfl : s = none := by simpa [Addr.add] using World.cell?_spot (hb 0 (by omega))
          have hci := hb i hi
          rw [Lib.add_plain] at hci
          exact ⟨g, o, rfl, Lib.lt_of_cell hci, hci⟩
      rw [hln] at key
      exact key b

set_option maxRecDepth 100000 in
theorem lifted3 (os : Os) (started : os.Started) (H : Type) (enc : TypeId × Value → H) :
    ReturnsInHanded {} Ybad.checked os 3 .any (fun w args => (Rows.lawS970021CWholeSpec.pre enc Ybad.prog Ybad.f3 [] false w args ∧ laidMetH Ybad.prog laid5 w) ∧ sizedMet enc Ybad.prog Ybad.f3 (OpenSpec.ofChange Rows.lawS970021CWholeSpec) false w args)
      (Rows.lawS970021CWholeSpec.post enc Ybad.prog Ybad.f3 false true false false) := by
  refine returnsInHanded_of_change_and (C := Ybad.checked) (X := fun w _ => laidMetH Ybad.prog laid5 w) (fun _ _ _ hh h => h.of_heap hh) own started (by kernel_rfl) Ybad.func3
    (ChangeSpec.witness_shaped (enc := enc) (C := Ybad.checked) (os := os) (X := fun w _ => laidMetH Ybad.prog laid5 w) false (World.doorLaid Ybad.prog 400 os) #[.slice none 0 0, .bool false] 8 rfl (World.shaped_of_RefB (by kernel_rfl) (by kernel_rfl)) (by kernel_rfl) (by kernel_rfl) (by kernel_rfl) (door_met os _)) ?_
  intro W base args ds gs before hval0 hW _ _ hL _
  have hval : ∀ (j : Nat) t v, Ybad.f3.params[j]? = some t → args[j]? = some v → Value.okWide Ybad.prog W .any base t v := hval0
  have hW' := hW
  obtain ⟨p, q, hA0, hV, rfl, hfz, hnd⟩ := hW
  have hA : DataW.TrodAll enc Ybad.prog W 0 (fun _ => true) true Ybad.f3.params.toList args.toList ds p := hA0
  rw [Ybad.params3] at hA hval
  obtain ⟨v0, vs0, d0, ds0, q0, r0, hargs, rfl, rfl, h0, s0⟩ := trodAll_cons hA
  obtain ⟨v1, vs1, d1, ds1, q1, r1, rfl, rfl, rfl, h1, s1⟩ := trodAll_cons s0
  obtain ⟨rfl, rfl, rfl⟩ := trodAll_nil s1
  obtain rfl : args = #[v0, v1] := by cases args; simp_all
  obtain ⟨rfl, rfl⟩ := trodVars_none hV
  obtain ⟨a0, n0, cap0, rfl⟩ := okWide_slice Ybad.underlying22 (hval 0 22 v0 rfl rfl)
  have g0 := h0
  have g1 := h1
  obtain ⟨bb, rfl, rfl, rfl⟩ := open_bool Ybad.underlying4 (hval 1 4 v1 rfl rfl) h1
  obtain ⟨htab, ⟨t1, p1, hc1⟩, ⟨t2, p2, hc2⟩⟩ := of_laid hL
  have hwalk := walk3 _ bb W h0 ⟨_, _, _, rfl⟩ t1 t2 p1 p2 hc1 hc2
  clear hA0 hval0
  simp only [List.append_nil] at hW'
  have hlt : ∀ x ∈ q0, x.block < W.heap.size := fun x hx => by simpa using hW'.lt x (by simpa using hx)
  refine hwalk.mono fun e W' ⟨he, hb⟩ => ?_
  subst he
  have hargs' : DataW.TrodAll enc Ybad.prog W' 0 (fun b => decide (b < W.heap.size)) true [22, 4] [.slice a0 n0 cap0, .bool bb] [d0, .lit (.bool bb)] (q0 ++ ([] ++ [])) :=
    trodAll_cons_mk (Below.trod laidOut (by kernel_rfl) (of_decide_eq_true (by kernel_rfl)) g0 hb hlt) (trodAll_cons_mk (shut_bool Ybad.underlying4 _) trodAll_mk0)
  exact ⟨_, rfl, _, _, _, [], q0 ++ ([] ++ []), [], hW', trodAll_mk1 (shut_bool Ybad.underlying4 _), hargs', rfl, hb.frame _, fun h => by cases h⟩

theorem row3 : Rows.LawS970021CWholeSaid :=
  OpenClaim.holds_of_wide 3 Ybad.f3 rfl rfl rfl rfl rfl rfl rfl ⟨rfl, rfl, rfl, rfl, rfl⟩ rfl rfl rfl rfl rfl (by kernel_rfl) Ybad.func3 (by kernel_rfl)
    (of_decide_eq_true (by kernel_rfl)) (by unfold Func.isWrapper; first | (rw [if_pos (by decide +kernel)]; kernel_rfl) | (rw [if_neg (by decide +kernel)]; exact ⟨rfl, rfl⟩))
    (fun os started H enc _ => lifted3 os started H enc)

theorem whole_card : Rows.LawS970021CWholeCardSaid :=
  Claim7.holds_tied_plain_at .later [] [.data, .data, .data, .called, .called] true (true, "882ecf715f9a2a855c8d42096bcedfa8880f6d2427a18257a699f2ca62883d27") true
    row3 (fun _ h => by cases h) (by kernel_rfl) (fun _ h => by cases h) lawS970021CWhole_row_tie rfl ⟨rfl, rfl⟩ (by kernel_rfl) rfl
    (fun f fn hf hfn => by
      obtain rfl : f = 3 := Option.some.inj ((show Ybad.prog.funcNamed Rows.lawS970021CWholeRow.func = some 3 by kernel_rfl).symm.trans hf) |>.symm
      obtain rfl : fn = Ybad.f3 := (Option.some.inj (Ybad.func3.symm.trans hfn)).symm
      exact ⟨by kernel_rfl, fun j t ht => by
        rw [Ybad.params3] at ht
        have h3 : t = 22 ∨ t = 4 := by
          rcases j with _ | _ | j
          · exact Or.inl (by simpa using ht.symm)
          · exact Or.inr (by simpa using ht.symm)
          · simp at ht
        rcases h3 with rfl | rfl
        · exact (show Ybad.prog.wantsStandIn 22 = false by kernel_rfl)
        · exact (show Ybad.prog.wantsStandIn 4 = false by kernel_rfl)⟩)
    (by kernel_rfl)
end Go.Proofs.YbulkacrqeaDoor
