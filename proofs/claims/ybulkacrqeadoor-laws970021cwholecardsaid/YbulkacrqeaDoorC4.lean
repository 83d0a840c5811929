import Derived.Test.YbulkacrqeaDoorC3
namespace Go.Proofs.YbulkacrqeaDoor
open Go.RowKit

theorem drewN_two (w : World) (a b : Nat) : (w.drewN a).drewN b = w.drewN (a + b) := by simp

abbrev maxB : ByteArray := ⟨#[49, 56, 52, 52, 54, 55, 52, 52, 48, 55, 51, 55, 48, 57, 53, 53, 49, 54, 49, 53]⟩

theorem maxB_at : ∀ j : Fin 20, (maxB[j.val]'j.isLt).toNat = ((maxS[j.val]?).getD 0).toNat := by decide +kernel

theorem ix_max (i : Nat) (hi : i < 20) (W : World) : (Instr.index 9 (.string maxB) (.int .i64 i)).run Ybad.prog W = .ok (.int .u8 (((maxS[i]?).getD 0).toNat : Int)) W := by
  rw [run_index_string W 9 maxB .i64 i Ybad.underlying9, dif_pos ⟨by omega, by show (i : Int) < 20; omega⟩]
  have := maxB_at ⟨i, hi⟩
  simp only [Int.toNat_natCast]
  rw [this]

set_option maxHeartbeats 1600000 in
theorem model_full (l : List UInt8) (g n c : Nat) (hln : l.length = n) (h20 : n = 20) (x0 : UInt8) (hx0 : l[0]? = some x0) (hne : x0.toNat ≠ 48) (w : World) (hc : ∀ j x, l[j]? = some x → w.cell? ⟨g, j, none⟩ = some (.int .u8 (x.toNat : Int))) :
    Calls Ybad.prog 7 #[.slice (some ⟨g, 0, none⟩) n c] w fun e w' => e = .returned (.tuple #[.int .u64 ((pc l).1 : Nat), .bool (pc l).2]) ∧ ∃ k, w' = w.drewN k := by
  have hn1 : 1 ≤ n := by omega
  have hn20 : n ≤ 20 := by omega
  have h0 : ((n : Int) == 0) = false := by simp; omega
  have h1 : ¬ (20 : Int) < (n : Int) := by omega
  have h2 : (1 : Int) < (n : Int) := by omega
  have HZ : Hid (¬ (1 < l.length ∧ l[0]? = some 48)) := by
    rintro ⟨_, h48⟩
    rw [hx0] at h48
    cases h48
    exact hne rfl
  have c0 := hc 0 x0 hx0
  have hq0 : (((x0.toNat : Nat) : Int) == 48) = false := by simp; omega
  generalize x0.toNat = y0 at c0 hq0 hne
  have HC := Lib.hid hc
  have HL : Hid (l.length = n) := hln
  clear hc hln hx0 hne
  have H20 : Hid (n = 20) := h20
  clear h20
  obtain ⟨r, hr⟩ : ∃ r, r = pc l := ⟨_, rfl⟩
  rw [← hr]
  have HR : Hid (r = pc l) := hr
  clear hr
  obtain ⟨r1, r2⟩ := r
  go_enter Ybad.func7, Ybad.ntmps7
  go_wp2
  go_loop [5] (fun vi => ∃ i : Nat, i ≤ n ∧ vi = .int .i64 i ∧ (∀ j x, j < i → l[j]? = some x → isDig x)) (fun vi => n - (intOf vi).toNat)
  case atStart => exact ⟨0, by omega, rfl, fun j x hj => by omega⟩
  case round =>
    obtain ⟨i, hi, rfl, hD⟩ := hrel
    have HD := Lib.hid hD
    clear hD
    by_cases hin : i < n
    · obtain ⟨x, hx⟩ : ∃ x, l[i]? = some x := ⟨_, List.getElem?_eq_getElem (by have := HL.out; omega)⟩
      have cx := HC.out i x hx
      obtain ⟨y, hy⟩ : ∃ y, y = x.toNat := ⟨_, rfl⟩
      rw [← hy] at cx
      have hy2 : y < 256 := by rw [hy]; exact UInt8.toNat_lt x
      by_cases hd1 : y < 48
      · have hf : ((r1, r2) : Nat × Bool) = (0, false) := by
          rw [HR.out]
          exact pc_fault l (by have := HL.out; omega) HZ.out i x hx (by unfold isDig; omega) HD.out
        obtain ⟨rfl, rfl⟩ := Prod.mk.inj hf
        clear hf hx hy
        have q1 : (y : Int) < 48 := by omega
        go_wp2
        go_ret2
        exact ⟨rfl, 0, rfl⟩
      · by_cases hd2 : 57 < y
        · have hf : ((r1, r2) : Nat × Bool) = (0, false) := by
            rw [HR.out]
            exact pc_fault l (by have := HL.out; omega) HZ.out i x hx (by unfold isDig; omega) HD.out
          obtain ⟨rfl, rfl⟩ := Prod.mk.inj hf
          clear hf hx hy
          have q1 : ¬ (y : Int) < 48 := by omega
          have q2 : (57 : Int) < y := by omega
          go_wp2
          go_ret2
          exact ⟨rfl, 0, rfl⟩
        · have q1 : ¬ (y : Int) < 48 := by omega
          have q2 : ¬ (57 : Int) < y := by omega
          have HX : Hid (l[i]? = some x ∧ isDig x) := ⟨hx, by unfold isDig; omega⟩
          clear hx hy
          go_wp2
          go_round
          case rel => exact ⟨i + 1, by omega, by go_num, fun j z hj hz => by
            by_cases hji : j = i
            · subst hji
              rw [HX.out.1] at hz
              cases hz
              exact HX.out.2
            · exact HD.out j z (by omega) hz⟩
          case measure => simp [intOf]; omega
    · obtain rfl : n = i := by omega
      have hall : ∀ c ∈ l, isDig c := fun c hc => by
        obtain ⟨j, hj, e⟩ := List.mem_iff_getElem.1 hc
        exact HD.out j c (by have := HL.out; omega) (by rw [List.getElem?_eq_getElem hj, e])
      have HA := Lib.hid hall
      clear hall
      have hq20 : ((n : Int) == 20) = true := by have := H20.out; simp; omega
      go_wp2
      go_loopw [6] (fun vi wr => ∃ i k : Nat, i ≤ 20 ∧ vi = .int .i64 i ∧ wr = w.drewN k ∧ l.take i = maxS.take i) (fun vi _ => 20 - (intOf vi).toNat)
      case atStart => exact ⟨0, 0, by omega, rfl, rfl, by simp⟩
      case round =>
        obtain ⟨i, k, hi, rfl, rfl, ht⟩ := hrel
        have HT := Lib.hid ht
        clear ht
        by_cases hin : i < 20
        · obtain ⟨x, hx⟩ : ∃ x, l[i]? = some x := ⟨_, List.getElem?_eq_getElem (by have := HL.out; have := H20.out; omega)⟩
          have cx := HC.out i x hx
          obtain ⟨z, hz⟩ : ∃ z, maxS[i]? = some z := ⟨_, List.getElem?_eq_getElem (show i < 20 from hin)⟩
          obtain ⟨y, hy⟩ : ∃ y, y = x.toNat := ⟨_, rfl⟩
          rw [← hy] at cx
          have hin' : (i : Int) < 20 := by omega
          have hin2 : (i : Int) < (n : Int) := by have := H20.out; omega
          have hix := ix_max i hin
          rw [hz] at hix
          obtain ⟨m, hm⟩ : ∃ m, m = z.toNat := ⟨_, rfl⟩
          simp only [Option.getD_some] at hix
          rw [← hm] at hix
          have HX : Hid (l[i]? = some x ∧ maxS[i]? = some z ∧ y = x.toNat ∧ m = z.toNat) := ⟨hx, hz, hy, hm⟩
          clear hx hy hz hm
          by_cases heq : y = m
          · subst heq
            go_wp2
            go_quiet (fail)
            go_wp2
            go_roundw
            case rel => exact ⟨i + 1, _, by omega, by go_num, rfl, by
              have hxz : x = z := UInt8.toNat_inj.mp (HX.out.2.2.1.symm.trans HX.out.2.2.2)
              rw [List.take_add_one, List.take_add_one, HT.out, HX.out.1, HX.out.2.1, hxz]⟩
            case measure => simp [intOf]; omega
          · have hne : ((y : Int) == (m : Int)) = false := by simp; omega
            by_cases hgt : m < y
            · have hgt' : (m : Int) < (y : Int) := by omega
              have hf : ((r1, r2) : Nat × Bool) = (18446744073709551615, false) := by
                have hlt := cmp_lt maxS l (by rw [HL.out, H20.out]; rfl) i z x HX.out.2.1 HX.out.1 HT.out.symm maxS_dig (by have := HX.out.2.2; omega)
                rw [maxS_dval] at hlt
                rw [HR.out, pc_digits l (by have := HL.out; omega) (by have := HL.out; omega) HZ.out HA.out, if_neg (by omega)]
              obtain ⟨rfl, rfl⟩ := Prod.mk.inj hf
              clear hf heq
              go_wp2
              go_quiet (fail)
              go_wp2
              go_quiet (fail)
              go_wp2
              go_ret2
              refine ⟨rfl, ?_⟩
              rw [drewN_two, drewN_two]
              exact ⟨_, rfl⟩
            · have hgt' : ¬ (m : Int) < (y : Int) := by omega
              have HLE : Hid (y < m) := by show y < m; omega
              clear heq
              go_wp2
              go_quiet (fail)
              go_wp2
              go_quiet (fail)
              have hpc := pc_digits l (by have := HL.out; omega) (by have := HL.out; omega) HZ.out HA.out
              have hval : dval l ≤ 18446744073709551615 := by
                have hlt := cmp_lt l maxS (by rw [HL.out, H20.out]; rfl) i x z HX.out.1 HX.out.2.1 HT.out HA.out (by have := HX.out.2.2; have := HLE.out; omega)
                rw [maxS_dval] at hlt
                omega
              rw [if_pos hval, ← HR.out] at hpc
              obtain ⟨e1, e2⟩ := Prod.mk.inj hpc
              subst e2
              have HV : Hid (r1 = dval l ∧ dval l ≤ 18446744073709551615) := ⟨e1, hval⟩
              clear hpc hval e1
              go_wp2
              go_loop [7, 8] (fun vv vi => ∃ i : Nat, i ≤ n ∧ vi = .int .i64 i ∧ vv = .int .u64 (dval (l.take i) : Nat)) (fun _ vi => n - (intOf vi).toNat)
              case atStart => exact ⟨0, by omega, rfl, rfl⟩
              case round =>
                obtain ⟨i, hi, rfl, rfl⟩ := hrel
                by_cases hin : i < n
                · obtain ⟨x, hx⟩ : ∃ x, l[i]? = some x := ⟨_, List.getElem?_eq_getElem (by have := HL.out; omega)⟩
                  have cx := HC.out i x hx
                  have hdx := HA.out x (List.mem_of_getElem? hx)
                  unfold isDig at hdx
                  have hst : dval (l.take (i + 1)) = dval (l.take i) * 10 + (x.toNat - 48) ∧ dval (l.take (i + 1)) ≤ 18446744073709551615 := dval_step l i x hx HV.out.2
                  obtain ⟨y, hy⟩ : ∃ y, y = x.toNat := ⟨_, rfl⟩
                  rw [← hy] at cx hdx hst
                  generalize dval (l.take i) = t at hst ⊢
                  generalize hT' : dval (l.take (i + 1)) = t' at hst
                  obtain ⟨hs1, hs2⟩ := hst
                  have z1 : IntKind.u64.wrap ((t : Int) * 10) = (t : Int) * 10 := by rw [IntKind.wrap_u64]; omega
                  have z2 : IntKind.u8.wrap ((y : Int) - 48) = (y : Int) - 48 := by rw [IntKind.wrap_u8]; omega
                  have z3 : IntKind.u64.wrap ((y : Int) - 48) = (y : Int) - 48 := by rw [IntKind.wrap_u64]; omega
                  have z4 : IntKind.u64.wrap ((t : Int) * 10 + ((y : Int) - 48)) = (t' : Int) := by rw [IntKind.wrap_u64]; omega
                  have HX : Hid (dval (l.take (i + 1)) = t') := hT'
                  clear hx hy hT'
                  go_wp2
                  go_round
                  case rel => exact ⟨i + 1, by omega, by go_num, by rw [HX.out]; go_num⟩
                  case measure => simp [intOf]; omega
                · obtain rfl : n = i := by omega
                  go_wp2
                  go_ret2
                  refine ⟨?_, _, rfl⟩
                  have e : dval (l.take n) = r1 := by rw [List.take_of_length_le (by have := HL.out; omega), ← HV.out.1]
                  show Ending.returned (.tuple #[.int .u64 ((dval (l.take n) : Nat) : Int), .bool true]) = _
                  rw [e]
        · have hin' : ¬ (i : Int) < 20 := by omega
          have hpc := pc_digits l (by have := HL.out; omega) (by have := HL.out; omega) HZ.out HA.out
          have hval : dval l ≤ 18446744073709551615 := by
            have e : l = maxS := by
              have := HT.out
              rw [show i = 20 by omega] at this
              rwa [List.take_of_length_le (by have := HL.out; have := H20.out; omega), List.take_of_length_le (by show 20 ≤ 20; omega)] at this
            rw [e, maxS_dval]; omega
          rw [if_pos hval, ← HR.out] at hpc
          obtain ⟨e1, e2⟩ := Prod.mk.inj hpc
          subst e2
          have HV : Hid (r1 = dval l ∧ dval l ≤ 18446744073709551615) := ⟨e1, hval⟩
          clear hpc hval e1
          go_wp2
          go_loop [7, 8] (fun vv vi => ∃ i : Nat, i ≤ n ∧ vi = .int .i64 i ∧ vv = .int .u64 (dval (l.take i) : Nat)) (fun _ vi => n - (intOf vi).toNat)
          case atStart => exact ⟨0, by omega, rfl, rfl⟩
          case round =>
            obtain ⟨i, hi, rfl, rfl⟩ := hrel
            by_cases hin : i < n
            · obtain ⟨x, hx⟩ : ∃ x, l[i]? = some x := ⟨_, List.getElem?_eq_getElem (by have := HL.out; omega)⟩
              have cx := HC.out i x hx
              have hdx := HA.out x (List.mem_of_getElem? hx)
              unfold isDig at hdx
              have hst : dval (l.take (i + 1)) = dval (l.take i) * 10 + (x.toNat - 48) ∧ dval (l.take (i + 1)) ≤ 18446744073709551615 := dval_step l i x hx HV.out.2
              obtain ⟨y, hy⟩ : ∃ y, y = x.toNat := ⟨_, rfl⟩
              rw [← hy] at cx hdx hst
              generalize dval (l.take i) = t at hst ⊢
              generalize hT' : dval (l.take (i + 1)) = t' at hst
              obtain ⟨hs1, hs2⟩ := hst
              have z1 : IntKind.u64.wrap ((t : Int) * 10) = (t : Int) * 10 := by rw [IntKind.wrap_u64]; omega
              have z2 : IntKind.u8.wrap ((y : Int) - 48) = (y : Int) - 48 := by rw [IntKind.wrap_u8]; omega
              have z3 : IntKind.u64.wrap ((y : Int) - 48) = (y : Int) - 48 := by rw [IntKind.wrap_u64]; omega
              have z4 : IntKind.u64.wrap ((t : Int) * 10 + ((y : Int) - 48)) = (t' : Int) := by rw [IntKind.wrap_u64]; omega
              have HX : Hid (dval (l.take (i + 1)) = t') := hT'
              clear hx hy hT'
              go_wp2
              go_round
              case rel => exact ⟨i + 1, by omega, by go_num, by rw [HX.out]; go_num⟩
              case measure => simp [intOf]; omega
            · obtain rfl : n = i := by omega
              go_wp2
              go_ret2
              refine ⟨?_, _, rfl⟩
              have e : dval (l.take n) = r1 := by rw [List.take_of_length_le (by have := HL.out; omega), ← HV.out.1]
              show Ending.returned (.tuple #[.int .u64 ((dval (l.take n) : Nat) : Int), .bool true]) = _
              rw [e]

end Go.Proofs.YbulkacrqeaDoor
