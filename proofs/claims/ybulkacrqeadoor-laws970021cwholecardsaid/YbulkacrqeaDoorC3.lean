import Derived.Test.YbulkacrqeaDoorC2
namespace Go.Proofs.YbulkacrqeaDoor
open Go.RowKit

set_option maxHeartbeats 1600000 in
theorem model_mid (l : List UInt8) (g n c : Nat) (hln : l.length = n) (h : 1 < n) (h' : n < 20) (x0 : UInt8) (hx0 : l[0]? = some x0) (hne : x0.toNat ≠ 48) (w : World) (hc : ∀ j x, l[j]? = some x → w.cell? ⟨g, j, none⟩ = some (.int .u8 (x.toNat : Int))) :
    Calls Ybad.prog 7 #[.slice (some ⟨g, 0, none⟩) n c] w fun e w' => e = .returned (.tuple #[.int .u64 ((pc l).1 : Nat), .bool (pc l).2]) ∧ ∃ k, w' = w.drewN k := by
  have hn1 : 1 ≤ n := by omega
  have hn20 : n ≤ 20 := by omega
  have h0 : ((n : Int) == 0) = false := by simp; omega
  have h1 : ¬ (20 : Int) < (n : Int) := by omega
  have h2 : (1 : Int) < (n : Int) := by omega
  have HZ : Hid (¬ (1 < l.length ∧ l[0]? = some 48)) := by
    rintro ⟨_, h48⟩
    rw [hx0] at h48
    cases h48
    exact hne rfl
  have c0 := hc 0 x0 hx0
  have hq0 : (((x0.toNat : Nat) : Int) == 48) = false := by simp; omega
  generalize x0.toNat = y0 at c0 hq0 hne
  have HC := Lib.hid hc
  have HL : Hid (l.length = n) := hln
  clear hc hln hx0 hne
  obtain ⟨r, hr⟩ : ∃ r, r = pc l := ⟨_, rfl⟩
  rw [← hr]
  have HR : Hid (r = pc l) := hr
  clear hr
  obtain ⟨r1, r2⟩ := r
  go_enter Ybad.func7, Ybad.ntmps7
  go_wp2
  go_loop [5] (fun vi => ∃ i : Nat, i ≤ n ∧ vi = .int .i64 i ∧ (∀ j x, j < i → l[j]? = some x → isDig x)) (fun vi => n - (intOf vi).toNat)
  case atStart => exact ⟨0, by omega, rfl, fun j x hj => by omega⟩
  case round =>
    obtain ⟨i, hi, rfl, hD⟩ := hrel
    have HD := Lib.hid hD
    clear hD
    by_cases hin : i < n
    · obtain ⟨x, hx⟩ : ∃ x, l[i]? = some x := ⟨_, List.getElem?_eq_getElem (by have := HL.out; omega)⟩
      have cx := HC.out i x hx
      obtain ⟨y, hy⟩ : ∃ y, y = x.toNat := ⟨_, rfl⟩
      rw [← hy] at cx
      have hy2 : y < 256 := by rw [hy]; exact UInt8.toNat_lt x
      by_cases hd1 : y < 48
      · have hf : ((r1, r2) : Nat × Bool) = (0, false) := by
          rw [HR.out]
          exact pc_fault l (by have := HL.out; omega) HZ.out i x hx (by unfold isDig; omega) HD.out
        obtain ⟨rfl, rfl⟩ := Prod.mk.inj hf
        clear hf hx hy
        have q1 : (y : Int) < 48 := by omega
        go_wp2
        go_ret2
        exact ⟨rfl, 0, rfl⟩
      · by_cases hd2 : 57 < y
        · have hf : ((r1, r2) : Nat × Bool) = (0, false) := by
            rw [HR.out]
            exact pc_fault l (by have := HL.out; omega) HZ.out i x hx (by unfold isDig; omega) HD.out
          obtain ⟨rfl, rfl⟩ := Prod.mk.inj hf
          clear hf hx hy
          have q1 : ¬ (y : Int) < 48 := by omega
          have q2 : (57 : Int) < y := by omega
          go_wp2
          go_ret2
          exact ⟨rfl, 0, rfl⟩
        · have q1 : ¬ (y : Int) < 48 := by omega
          have q2 : ¬ (57 : Int) < y := by omega
          have HX : Hid (l[i]? = some x ∧ isDig x) := ⟨hx, by unfold isDig; omega⟩
          clear hx hy
          go_wp2
          go_round
          case rel => exact ⟨i + 1, by omega, by go_num, fun j z hj hz => by
            by_cases hji : j = i
            · subst hji
              rw [HX.out.1] at hz
              cases hz
              exact HX.out.2
            · exact HD.out j z (by omega) hz⟩
          case measure => simp [intOf]; omega
    · obtain rfl : n = i := by omega
      have hall : ∀ c ∈ l, isDig c := fun c hc => by
        obtain ⟨j, hj, e⟩ := List.mem_iff_getElem.1 hc
        exact HD.out j c (by have := HL.out; omega) (by rw [List.getElem?_eq_getElem hj, e])
      have HA := Lib.hid hall
      have hpc := pc_digits l (by have := HL.out; omega) (by have := HL.out; omega) HZ.out hall
      have hval : dval l ≤ 18446744073709551615 := by
        have h9 := dval_lt l hall
        rw [HL.out] at h9
        have hp : 10 ^ n ≤ 10 ^ 19 := Nat.pow_le_pow_right (by omega) (by omega)
        have hp' : (10 : Nat) ^ 19 = 10000000000000000000 := rfl
        omega
      rw [if_pos hval, ← HR.out] at hpc
      obtain ⟨e1, e2⟩ := Prod.mk.inj hpc
      subst e2
      have HV : Hid (r1 = dval l ∧ dval l ≤ 18446744073709551615) := ⟨e1, hval⟩
      clear hall hpc hval e1
      have hne20 : ((n : Int) == 20) = false := by simp; omega
      go_wp2
      go_loop [7, 8] (fun vv vi => ∃ i : Nat, i ≤ n ∧ vi = .int .i64 i ∧ vv = .int .u64 (dval (l.take i) : Nat)) (fun _ vi => n - (intOf vi).toNat)
      case atStart => exact ⟨0, by omega, rfl, rfl⟩
      case round =>
        obtain ⟨i, hi, rfl, rfl⟩ := hrel
        by_cases hin : i < n
        · obtain ⟨x, hx⟩ : ∃ x, l[i]? = some x := ⟨_, List.getElem?_eq_getElem (by have := HL.out; omega)⟩
          have cx := HC.out i x hx
          have hdx := HA.out x (List.mem_of_getElem? hx)
          unfold isDig at hdx
          have hst : dval (l.take (i + 1)) = dval (l.take i) * 10 + (x.toNat - 48) ∧ dval (l.take (i + 1)) ≤ 18446744073709551615 := dval_step l i x hx HV.out.2
          obtain ⟨y, hy⟩ : ∃ y, y = x.toNat := ⟨_, rfl⟩
          rw [← hy] at cx hdx hst
          generalize dval (l.take i) = t at hst ⊢
          generalize hT' : dval (l.take (i + 1)) = t' at hst
          obtain ⟨hs1, hs2⟩ := hst
          have z1 : IntKind.u64.wrap ((t : Int) * 10) = (t : Int) * 10 := by rw [IntKind.wrap_u64]; omega
          have z2 : IntKind.u8.wrap ((y : Int) - 48) = (y : Int) - 48 := by rw [IntKind.wrap_u8]; omega
          have z3 : IntKind.u64.wrap ((y : Int) - 48) = (y : Int) - 48 := by rw [IntKind.wrap_u64]; omega
          have z4 : IntKind.u64.wrap ((t : Int) * 10 + ((y : Int) - 48)) = (t' : Int) := by rw [IntKind.wrap_u64]; omega
          have HX : Hid (dval (l.take (i + 1)) = t') := hT'
          clear hx hy hT'
          go_wp2
          go_round
          case rel => exact ⟨i + 1, by omega, by go_num, by rw [HX.out]; go_num⟩
          case measure => simp [intOf]; omega
        · obtain rfl : n = i := by omega
          go_wp2
          go_ret2
          refine ⟨?_, 0, rfl⟩
          have e : dval (l.take n) = r1 := by rw [List.take_of_length_le (by have := HL.out; omega), ← HV.out.1]
          show Ending.returned (.tuple #[.int .u64 ((dval (l.take n) : Nat) : Int), .bool true]) = _
          rw [e]
end Go.Proofs.YbulkacrqeaDoor
