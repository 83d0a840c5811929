import Derived.Test.YbulkacrqeaDoorC7
namespace Go.Proofs.YbulkacrqeaDoor
open Go.RowKit

set_option maxRecDepth 20000 in
set_option maxHeartbeats 1600000 in
theorem law_dig (p : Option Addr) (n c : Nat) (l : List UInt8) (hl : l.length = n) (h : n ≤ 1048576) (w : World)
    (hK : ∀ i x, l[i]? = some x → ∃ g off, p = some ⟨g, off, none⟩ ∧ g < w.heap.size ∧ w.cell? ⟨g, off + i, none⟩ = some (.int .u8 (x.toNat : Int)))
    (t1 t2 : TypeId) (p1 p2 : Value) (hc1 : w.cell? ⟨1, 0, none⟩ = some (.iface t1 p1)) (hc2 : w.cell? ⟨2, 0, none⟩ = some (.iface t2 p2)) :
    Calls Ybad.prog 3 #[.slice p n c, .bool true] w fun e w' => e = .returned (.bool true) ∧ Below w.heap.size w w' := by
  have h1 : ¬ (1048576 : Int) < (n : Int) := by omega
  have hmk := run_mk22 n h
  have HE : Hid (w.cell? ⟨1, 0, none⟩ = some (.iface t1 p1) ∧ w.cell? ⟨2, 0, none⟩ = some (.iface t2 p2)) := ⟨hc1, hc2⟩
  have HK := Lib.hid hK
  clear hK hc1 hc2
  go_enter Ybad.func3, Ybad.ntmps3
  go_wp2
  obtain ⟨K, hKe⟩ : ∃ K, K = w.heap.size := ⟨_, rfl⟩
  rw [← hKe]
  have HKE : Hid (K = w.heap.size) := hKe
  clear hKe hmk
  go_loopw [6] (fun vi wr => ∃ i : Nat, i ≤ n ∧ vi = .int .i64 i ∧ BytesAt wr K n (fillTo l n i) ∧ Below w.heap.size w wr) (fun vi _ => n - (intOf vi).toNat)
  case atStart => exact ⟨0, Nat.zero_le _, rfl, by rw [HKE.out]; exact bytes_made l h, (Below.refl _ _).alloc (Nat.le_refl _) _⟩
  case round =>
    obtain ⟨i, hi, rfl, hbo, hbl⟩ := hrel
    by_cases hin : i < n
    · have hsrc : fillTo l n (i + 1) = (fillTo l n i).set i (dgt (l.getD i 0)) := rfl
      obtain ⟨q, hq⟩ : ∃ q, (fillTo l n i)[i]? = some q := ⟨_, List.getElem?_eq_getElem (by rw [fillTo_length]; exact hin)⟩
      have cK := hbo.cell hq
      have fK := hbo.frozen i
      have HBO : Hid (BytesAt wr K n (fillTo l n i)) := hbo
      have HBL : Hid (Below w.heap.size w wr) := hbl
      have HSR : Hid (fillTo l n (i + 1) = (fillTo l n i).set i (dgt (l.getD i 0))) := hsrc
      obtain ⟨x, hx⟩ : ∃ x, l[i]? = some x := ⟨_, List.getElem?_eq_getElem (by omega)⟩
      obtain ⟨g, off, rfl, hg, cb⟩ := HK.out i x hx
      rw [← hbl.cell (by exact hg)] at cb
      have HGB : Hid (l.getD i 0 = x) := by show l.getD i 0 = x; simp [List.getD, hx]
      obtain ⟨y, hy⟩ : ∃ y, y = x.toNat := ⟨_, rfl⟩
      have hdx : (dgt x).toNat = 48 + y % 10 := by
        unfold dgt
        rw [UInt8.toNat_ofNat', hy]
        omega
      rw [← hy] at cb
      have HDX : Hid ((dgt x).toNat = 48 + y % 10) := hdx
      have z0 : (y : Int).tmod 10 = ((y % 10 : Nat) : Int) := by rw [Int.tmod_eq_emod_of_nonneg (by omega)]; omega
      have hm10 : y % 10 < 10 := Nat.mod_lt _ (by omega)
      generalize y % 10 = m at z0 hm10 HDX hdx
      have z1 : IntKind.u8.wrap ((m : Nat) : Int) = (m : Int) := by rw [IntKind.wrap_u8]; omega
      have z2 : IntKind.u8.wrap (48 + (m : Int)) = ((48 + m : Nat) : Int) := by rw [IntKind.wrap_u8]; omega
      clear hbo hbl hsrc hq hx hy hdx
      go_wp2
      go_roundw
      case rel => exact ⟨i + 1, by omega, by go_num, by rw [HSR.out, HGB.out]; have := BytesAt.set HBO.out i (dgt x); rw [HDX.out] at this; exact this, Below.setCell HBL.out (by rw [← HKE.out]; exact Nat.le_refl _) _⟩
      case measure => simp [intOf]; omega
    · obtain rfl : n = i := by omega
      have HBL : Hid (Below w.heap.size w wr) := hbl
      obtain ⟨L, hL⟩ : ∃ L, L = fillTo l n n := ⟨_, rfl⟩
      have hLn : L.length = n := by rw [hL, fillTo_length]
      rw [← hL] at hbo
      have htl := tail_some L ⟨K, 0, none⟩ n wr (by omega) (fun j hj => by
        rw [Lib.add_plain, Nat.zero_add]
        exact hbo.cell (List.getElem?_eq_getElem hj)) t1 t2 p1 p2 ((hbl.cell (p := ⟨1, 0, none⟩) (Lib.lt_of_cell HE.out.1)).trans HE.out.1) ((hbl.cell (p := ⟨2, 0, none⟩) (Lib.lt_of_cell HE.out.2)).trans HE.out.2)
      rw [hLn] at htl
      have HH : Hid (TailOk (.slice (some ⟨K, 0, none⟩) n n) L wr) := htl
      clear htl hbo hbl hL hLn
      go_wp2_with fail
      refine HH.out.clone.mono ?_
      rintro e w1 ⟨v', rfl, hown, hb1⟩
      have hp := HH.out.parse w1 hb1
      have hm := fun W (h : Below w1.heap.size w1 W) => model L v' wr.heap.size W (ownsRow_below hown h)
      generalize pc L = r at hp hm
      obtain ⟨r1, r2⟩ := r
      have HM : Hid (∀ W, Below w1.heap.size w1 W → Calls Ybad.prog 7 #[v'] W fun e w' => e = .returned (.tuple #[.int .u64 (r1 : Nat), .bool r2]) ∧ ∃ k, w' = W.drewN k) := hm
      have HO := Lib.hid hown
      have HB := Lib.hid hb1
      clear hm hown hb1
      go_wp2_with fail
      refine hp.mono ?_
      rintro e w2 ⟨rfl, hb2⟩
      have hm2 := HM.out w2 hb2
      have HB2 := Lib.hid hb2
      clear hp hb2
      go_wp2_with fail
      refine hm2.mono ?_
      rintro e w3 ⟨rfl, k, hw3⟩
      have hb3 : Below w1.heap.size w1 w3 := by rw [hw3]; exact below_drewN HB2.out k
      have hbw : Below wr.heap.size wr w3 := HB.out.trans (hb3.mono HB.out.size)
      have hs := HH.out.same v' w3 hbw (ownsRow_below HO.out hb3)
      have HW := Lib.hid hbw
      clear hm2 hw3 hb3 hbw
      cases r2
      all_goals
        go_wp2_with fail
        refine hs.mono ?_
        rintro e w4 ⟨rfl, rfl⟩
        go_wp2
        go_ret
        exact ⟨rfl, HBL.out.trans (HW.out.mono HBL.out.size)⟩
end Go.Proofs.YbulkacrqeaDoor
