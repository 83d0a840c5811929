import Derived.Test.YbulkacrqeaDoorA2
namespace Go.Proofs.YbulkacrqeaDoor
open Go.Shelf Go.RowKit Go.Sort Go.Lib

theorem add_zero' (a : Addr) : a.add 0 = a := by
  unfold Addr.add
  simp

theorem parse_row (l : List UInt8) (a : Addr) (c : Nat) (w : World) (hc : ∀ j (hj : j < l.length), w.cell? (a.add j) = some (.int .u8 (l[j].toNat : Int)))
    (t1 t2 : TypeId) (p1 p2 : Value) (h1 : w.cell? ⟨1, 0, none⟩ = some (.iface t1 p1)) (h2 : w.cell? ⟨2, 0, none⟩ = some (.iface t2 p2)) :
    Calls Ybad.prog 6 #[.slice (some a) l.length c] w fun e w' => e = .returned (.tuple #[.int .u64 ((pc l).1 : Nat), .bool (pc l).2]) ∧ Below w.heap.size w w' := by
  by_cases h20 : 20 < l.length
  · have hp : pc l = (0, false) := by unfold pc; rw [if_pos (Or.inl h20)]
    refine (parse_long (some a) l.length c w h20).mono ?_
    rintro e w' ⟨rfl, rfl⟩
    rw [hp]
    exact ⟨rfl, Below.refl _ _⟩
  · have hcv := run_convert_bytes_back (P := Ybad.prog) w 22 9 5 a c l Ybad.underlying22 Ybad.underlying5 Ybad.underlying9 hc
    have hsz : (⟨l.toArray⟩ : ByteArray).size = l.length := by simp [ByteArray.size]
    by_cases hl1 : 1 < l.length
    · have hc0 := hc 0 (by omega)
      rw [add_zero'] at hc0
      by_cases hz : l[0] = 48
      · have hp : pc l = (0, false) := by
          unfold pc
          rw [if_pos (Or.inr ⟨hl1, by rw [List.head?_eq_getElem?, List.getElem?_eq_getElem (by omega), hz]⟩)]
        rw [hz] at hc0
        refine (parse_zero a l.length c w hl1 (by omega) hc0).mono ?_
        rintro e w' ⟨rfl, rfl⟩
        rw [hp]
        exact ⟨rfl, Below.refl _ _⟩
      · have hp : pc l = pcR (Lib.parseUintB 64 l) := by
          unfold pc
          rw [if_neg]
          rintro (h | ⟨_, h⟩)
          · exact h20 h
          · rw [List.head?_eq_getElem?, List.getElem?_eq_getElem (by omega)] at h
            exact hz (Option.some.inj h)
        rw [hp]
        refine parse_go2 a l.length c w _ hl1 (by omega) hsz _ ?_ hc0 hcv t1 t2 p1 p2 h1 h2
        intro h
        apply hz
        apply UInt8.toNat_inj.mp
        have h48 : (48 : UInt8).toNat = 48 := rfl
        rw [h48]
        omega
    · have hp : pc l = pcR (Lib.parseUintB 64 l) := by
        unfold pc
        rw [if_neg]
        rintro (h | ⟨h, _⟩)
        · exact h20 h
        · exact hl1 h
      rw [hp]
      exact parse_go1 (some a) l.length c w _ (by omega) hsz hcv t1 t2 p1 p2 h1 h2

theorem parse_nil (c : Nat) (w : World)
    (t1 t2 : TypeId) (p1 p2 : Value) (h1 : w.cell? ⟨1, 0, none⟩ = some (.iface t1 p1)) (h2 : w.cell? ⟨2, 0, none⟩ = some (.iface t2 p2)) :
    Calls Ybad.prog 6 #[.slice none 0 c] w fun e w' => e = .returned (.tuple #[.int .u64 ((pc []).1 : Nat), .bool (pc []).2]) ∧ Below w.heap.size w w' :=
  parse_go1 none 0 c w ByteArray.empty (by omega) rfl (run_convert_bytes_nil w 22 5 Ybad.underlying22 Ybad.underlying5 0 c 9 Ybad.underlying9) t1 t2 p1 p2 h1 h2

/-! ### The plain laws of the numeral -/

theorem parseM_snoc (M : Nat) (c : UInt8) : ∀ (l : List UInt8) (acc v : Nat), Lib.parseUintM M acc l = .ok v → Lib.parseUintM M acc (l ++ [c]) = Lib.parseUintM M v [c]
  | [], acc, v, h => by
    simp only [Lib.parseUintM, Lib.NumEnd.ok.injEq] at h
    subst h
    rfl
  | d :: l, acc, v, h => by
    rw [Lib.parseUintM] at h
    rw [List.cons_append, Lib.parseUintM]
    split at h
    · rename_i hd
      rw [if_pos hd]
      split at h
      · cases h
      · rename_i h1
        rw [if_neg h1]
        split at h
        · cases h
        · rename_i h2
          rw [if_neg h2]
          exact parseM_snoc M c l _ v h
    · cases h

theorem parseM_dec (u : Nat) (hu : u < 18446744073709551616) : Lib.parseUintM 18446744073709551615 0 (Lib.decDigits u) = .ok u := by
  induction u using Nat.strongRecOn with
  | _ u ih =>
    by_cases h : u < 10
    · rw [Lib.decDigits_one h, Lib.parseUintM]
      have e : (UInt8.ofNat (48 + u)).toNat = 48 + u := by
        rw [UInt8.toNat_ofNat']
        omega
      rw [e, if_pos (by omega), if_neg (by omega), if_neg (by omega), Lib.parseUintM]
      congr 1
      omega
    · rw [Lib.decDigits, dif_neg h, parseM_snoc _ _ _ _ _ (ih (u / 10) (by omega) (by omega)), Lib.parseUintM]
      have e : (UInt8.ofNat (48 + u % 10)).toNat = 48 + u % 10 := by
        rw [UInt8.toNat_ofNat']
        omega
      rw [e, if_pos (by omega), if_neg (by omega), if_neg (by omega), Lib.parseUintM]
      congr 1
      omega

theorem dec_head (u : Nat) (hu : 1 ≤ u) : ∃ c r, Lib.decDigits u = c :: r ∧ c ≠ 48 := by
  induction u using Nat.strongRecOn with
  | _ u ih =>
    by_cases h : u < 10
    · rw [Lib.decDigits_one h]
      refine ⟨_, _, rfl, fun he => ?_⟩
      have := congrArg UInt8.toNat he
      rw [UInt8.toNat_ofNat'] at this
      have h48 : (48 : UInt8).toNat = 48 := rfl
      rw [h48] at this
      omega
    · obtain ⟨c, r, he, hc⟩ := ih (u / 10) (by omega) (by omega)
      rw [Lib.decDigits, dif_neg h, he]
      exact ⟨c, _, rfl, hc⟩

theorem dec_len (u : Nat) (hu : u < 18446744073709551616) : 1 ≤ (Lib.decDigits u).length ∧ (Lib.decDigits u).length ≤ 20 := by
  rw [Lib.decDigits_length]
  by_cases h : u < 10
  · rw [Lib.nDigits_small h]; omega
  · refine ⟨?_, ?_⟩
    · rw [Lib.nDigits_big h]; omega
    · have := Lib.numDigits_eq u (by omega) hu; split at this <;> omega

theorem pc_dec (u : Nat) (hu : u < 18446744073709551616) : pc (Lib.decDigits u) = (u, true) := by
  have hl := dec_len u hu
  unfold pc
  rw [if_neg]
  · unfold Lib.parseUintB
    rw [if_neg (by intro h; rw [h] at hl; simp at hl)]
    rw [show 2 ^ 64 - 1 = 18446744073709551615 from rfl, parseM_dec u hu]
    rfl
  · rintro (h | ⟨h, h2⟩)
    · omega
    · by_cases h10 : u < 10
      · rw [Lib.decDigits_one h10] at h
        simp at h
      · obtain ⟨c, r, he, hc⟩ := dec_head u (by omega)
        rw [he] at h2
        exact hc (Option.some.inj h2)

theorem pc_zero_dec (u : Nat) (hu : u < 18446744073709551616) : pc (48 :: Lib.decDigits u) = (0, false) := by
  have hl := dec_len u hu
  unfold pc
  rw [if_pos (Or.inr ⟨by rw [List.length_cons]; omega, rfl⟩)]
end Go.Proofs.YbulkacrqeaDoor
