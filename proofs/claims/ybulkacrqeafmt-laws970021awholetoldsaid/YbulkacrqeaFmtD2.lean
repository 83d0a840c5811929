import Derived.Test.YbulkacrqeaFmtD1
import Derived.Test.YbulkacrqeaFmtA4
namespace Go.Proofs.YbulkacrqeaFmt
open Go.RowKit

theorem tc_cells {w : World} {T : Nat} {a b c d e : Value} (h : w.heap[T]? = some (.cells #[a, b, c, d, e] 41 (0, 0))) :
    w.cell? ⟨T, 0, none⟩ = some a ∧ w.cell? ⟨T, 1, none⟩ = some b ∧ w.cell? ⟨T, 2, none⟩ = some c ∧ w.cell? ⟨T, 3, none⟩ = some d ∧ w.cell? ⟨T, 4, none⟩ = some e := by
  refine ⟨?_, ?_, ?_, ?_, ?_⟩ <;> (rw [cell_of_row w _ _ _ _ _ h]; rfl)

theorem EntsAt.capLe {w : World} {ao : Option Addr} {c : Nat} {l : List (Nat × Int)} (h : EntsAt w (.slice ao l.length c) l) : l.length ≤ c := by
  obtain ⟨hs, hl, hn, ⟨rfl, e⟩ | ⟨g, cap, e, hcap, hmx, hg, hc⟩⟩ := h
  · simp
  · simp only [Value.slice.injEq] at e
    obtain ⟨_, _, rfl⟩ := e
    exact hcap

def vouchTo (l m : List (Nat × Int)) (vb : List Bool) : Nat → List Bool
  | 0 => vb
  | k + 1 => match m[k]? with
    | some y => if getC l y.1 = y.2 then (vouchTo l m vb k).set k true else vouchTo l m vb k
    | none => vouchTo l m vb k

theorem vouchTo_length (l m : List (Nat × Int)) (vb : List Bool) (k : Nat) : (vouchTo l m vb k).length = vb.length := by
  induction k with
  | zero => rfl
  | succ k ih =>
    unfold vouchTo
    split
    · split
      · simp [ih]
      · exact ih
    · exact ih

def VInv (l m : List (Nat × Int)) (s k : Nat) : Prop := (∀ x ∈ l.drop s, ∃ y ∈ m.drop k, y.1 = x.1) ∧ (∀ x ∈ l.take s, ∀ y ∈ m.drop k, x.1 < y.1)

theorem V_start {l m : List (Nat × Int)} (hl : ∀ x ∈ l, 1 ≤ x.2) (h : ltB m l = false) : VInv l m 0 0 := by
  refine ⟨fun x hx => ?_, fun x hx => by simp at hx⟩
  simp only [List.drop_zero] at hx ⊢
  have h1 : ¬ getC m x.1 < x.2 := by
    intro hlt
    have : ltB m l = true := List.any_eq_true.2 ⟨x, hx, by simpa using hlt⟩
    rw [h] at this; cases this
  refine Classical.byContradiction fun hno => ?_
  have : getC m x.1 = 0 := getC_none (fun y hy e => hno ⟨y, hy, e⟩)
  have := hl x hx
  omega

theorem V_hit {l m : List (Nat × Int)} (sl : l.Pairwise (fun x y => x.1 < y.1)) (sm : m.Pairwise (fun x y => x.1 < y.1)) {s k : Nat} {x y : Nat × Int} (hx : l[s]? = some x) (hy : m[k]? = some y) (e : x.1 = y.1) (I : VInv l m s k) : VInv l m (s + 1) (k + 1) ∧ getC l y.1 = x.2 := by
  refine ⟨⟨fun x' hx' => ?_, fun x' hx' y' hy' => ?_⟩, by rw [← e]; exact getC_at sl hx⟩
  · have h1 := mem_drop_lt sl hx x' hx'
    obtain ⟨y', hy', e'⟩ := I.1 x' (by rw [drop_cons hx]; exact List.mem_cons_of_mem _ hx')
    rw [drop_cons hy] at hy'
    rcases List.mem_cons.1 hy' with rfl | hy'
    · omega
    · exact ⟨y', hy', e'⟩
  · have h2 := mem_drop_lt sm hy y' hy'
    rw [List.take_add_one, hx, List.mem_append] at hx'
    rcases hx' with hx' | hx'
    · exact I.2 x' hx' y' (by rw [drop_cons hy]; exact List.mem_cons_of_mem _ hy')
    · simp at hx'; subst hx'; omega

theorem V_miss {l m : List (Nat × Int)} (sl : l.Pairwise (fun x y => x.1 < y.1)) (sm : m.Pairwise (fun x y => x.1 < y.1)) {s k : Nat} {y : Nat × Int} (hy : m[k]? = some y) (hne : ∀ x, l[s]? = some x → x.1 ≠ y.1) (I : VInv l m s k) : VInv l m s (k + 1) ∧ getC l y.1 = 0 := by
  have hall : ∀ x' ∈ l.drop s, y.1 < x'.1 := by
    intro x' hx'
    cases hx : l[s]? with
    | none => rw [List.drop_eq_nil_of_le (List.getElem?_eq_none_iff.1 hx)] at hx'; simp at hx'
    | some x =>
      obtain ⟨y2, hy2, e2⟩ := I.1 x (by rw [drop_cons hx]; exact List.mem_cons_self ..)
      have h1 : y.1 ≤ y2.1 := by
        rw [drop_cons hy] at hy2
        rcases List.mem_cons.1 hy2 with rfl | hy2
        · exact Nat.le_refl _
        · exact Nat.le_of_lt (mem_drop_lt sm hy y2 hy2)
      have h2 := hne x hx
      rw [drop_cons hx] at hx'
      rcases List.mem_cons.1 hx' with rfl | hx'
      · omega
      · have := mem_drop_lt sl hx x' hx'; omega
  refine ⟨⟨fun x' hx' => ?_, fun x' hx' y' hy' => I.2 x' hx' y' (by rw [drop_cons hy]; exact List.mem_cons_of_mem _ hy')⟩, getC_none fun x hx he => ?_⟩
  · obtain ⟨y', hy', e'⟩ := I.1 x' hx'
    have := hall x' hx'
    rw [drop_cons hy] at hy'
    rcases List.mem_cons.1 hy' with rfl | hy'
    · omega
    · exact ⟨y', hy', e'⟩
  · rw [← List.take_append_drop s l, List.mem_append] at hx
    rcases hx with hx | hx
    · have := I.2 x hx y (by rw [drop_cons hy]; exact List.mem_cons_self ..)
      omega
    · have := hall x hx; omega

theorem vouchTo_hit {l m : List (Nat × Int)} {vb : List Bool} {k : Nat} {y : Nat × Int} (hy : m[k]? = some y) (h : getC l y.1 = y.2) : vouchTo l m vb (k + 1) = (vouchTo l m vb k).set k true := by
  conv => lhs; unfold vouchTo
  rw [hy]; simp [h]
theorem vouchTo_miss {l m : List (Nat × Int)} {vb : List Bool} {k : Nat} {y : Nat × Int} (hy : m[k]? = some y) (h : getC l y.1 ≠ y.2) : vouchTo l m vb (k + 1) = vouchTo l m vb k := by
  conv => lhs; unfold vouchTo
  rw [hy]; simp [h]

theorem nm_ne {a b : Nat} (ha : a < 3) (hb : b < 3) (h : a ≠ b) : ((nm a).toList == (nm b).toList) = false := by
  match a, ha, b, hb with
  | 0, _, 0, _ => exact absurd rfl h
  | 0, _, 1, _ => decide +kernel
  | 0, _, 2, _ => decide +kernel
  | 1, _, 0, _ => decide +kernel
  | 1, _, 1, _ => exact absurd rfl h
  | 1, _, 2, _ => decide +kernel
  | 2, _, 0, _ => decide +kernel
  | 2, _, 1, _ => decide +kernel
  | 2, _, 2, _ => exact absurd rfl h

/-- a block that holds a string first is no row of bools -/
theorem bools_ne {w : World} {V vcap g : Nat} {vb : List Bool} {s : ByteArray} (h : BoolsAt w V vcap vb) (hv : 0 < vb.length) (hc : w.cell? ⟨g, 0, none⟩ = some (.string s)) : g ≠ V := by
  rintro rfl
  rw [h.cell (List.getElem?_eq_getElem hv)] at hc
  simp at hc

set_option maxRecDepth 20000 in
set_option maxHeartbeats 4000000 in
theorem vouch_any (T E n cap V vcap j : Nat) (hm sv kv cv mv : Value) (l m : List (Nat × Int)) (vb : List Bool) (w : World)
    (h0 : w.heap[T]? = some (.cells #[.slice (some ⟨E, 0, none⟩) n cap, hm, sv, kv, .slice (some ⟨V, 0, none⟩) m.length vcap] 41 (0, 0))) (hj : j < n) (_hn : n ≤ 65536) (hcv : w.cell? ⟨E, j * 4 + 2, none⟩ = some cv) (hE : E < w.heap.size)
    (hl : EntsAt w cv l) (hmm : EntsAt w mv m) (hvb : BoolsAt w V vcap vb) (hvl : vb.length = m.length) (hsub : ltB m l = false) :
    Calls Ybaf.prog 15 #[.pointer (some ⟨T, 0, none⟩), .int .i64 j, .agg #[mv]] w fun e w' => e = .returned (.tuple #[]) ∧ BoolsAt w' V vcap (vouchTo l m vb m.length) ∧ Moved [V] w w' := by
  obtain ⟨c0, c1, c2, c3, c4⟩ := tc_cells h0
  obtain ⟨ao, fcap, rfl, cv'⟩ := hl.entsIn
  have hfc : l.length ≤ fcap := hl.capLe
  obtain ⟨bo, mcap, rfl, cm'⟩ := hmm.entsIn
  obtain ⟨sl, bl, nl, -⟩ := hl
  obtain ⟨sm, bm, nmm, -⟩ := hmm
  obtain ⟨nk, hnk⟩ : ∃ nk, nk = m.length := ⟨_, rfl⟩
  obtain ⟨nf, hnf⟩ : ∃ nf, nf = l.length := ⟨_, rfl⟩
  rw [← hnk] at c4 nmm ⊢
  rw [← hnf] at hcv nl hfc
  have HN : Hid (nk = m.length ∧ nf = l.length) := ⟨hnk, hnf⟩
  have H0 : Hid _ := h0
  have hT := lt_of_block h0
  clear hnk hnf h0 c1 c2 c3
  go_enter Ybaf.func15, Ybaf.ntmps15
  go_wp2
  go_loopw [6, 21] (fun fv vk wr => ∃ (k s r : Nat) (ao' : Option Addr) (c' : Nat), k ≤ nk ∧ s + r = nf ∧ vk = .int .i64 k ∧ fv = .slice ao' r c' ∧ (∀ x, l[s]? = some x → ∃ g, ao' = some ⟨g, s * 2, none⟩ ∧ ao = some ⟨g, 0, none⟩) ∧ r ≤ c' ∧
      BoolsAt wr V vcap (vouchTo l m vb k) ∧ Moved [V] w wr ∧ VInv l m s k) (fun _ vk _ => nk - (intOf vk).toNat)
  case atStart =>
    refine ⟨0, 0, nf, ao, fcap, Nat.zero_le _, by omega, rfl, rfl, ?_, hfc, hvb.kept (heap_alloc_old _ _ hvb.lt), (Moved.of_alloc w _).mono (by simp), V_start (fun x hx => (bl x hx).2.1) hsub⟩
    intro x hx
    obtain ⟨g, e, _⟩ := cv' 0 x hx
    exact ⟨g, by rw [e], e⟩
  case round =>
    obtain ⟨k, s, r, ao', c', hk, hsr, rfl, rfl, hao, hc', r0, r1, r2⟩ := hrel
    by_cases hkn : k < nk
    · obtain ⟨y, hy⟩ : ∃ y, m[k]? = some y := ⟨_, List.getElem?_eq_getElem (by have := HN.out.1; omega)⟩
      obtain ⟨y0, hy0⟩ : ∃ y, m[0]? = some y := ⟨_, List.getElem?_eq_getElem (by have := HN.out.1; omega)⟩
      obtain ⟨g', hbo, hg', cy0, cy1⟩ := cm' k y hy
      have hvpos : 0 < vb.length := by rw [hvl, ← HN.out.1]; omega
      have hgV : g' ≠ V := by
        obtain ⟨g2, e2, _, c20, _⟩ := cm' 0 y0 hy0
        rw [hbo] at e2; simp at e2; subst e2
        exact bools_ne hvb hvpos c20
      have hTV : T ≠ V := by
        rintro rfl
        obtain ⟨cur, hh, _⟩ := hvb.block
        rw [H0.out] at hh; simp at hh
      subst hbo
      have hy3 := bm y (List.mem_of_getElem? hy)
      rw [← World.cell?_of_block (a := ⟨g', _, none⟩) (r1.block g' hg' (by simpa using hgV))] at cy0 cy1
      rw [← World.cell?_of_block (a := ⟨T, _, none⟩) (r1.block T hT (by simpa using hTV))] at c4
      have hwr : w.heap.size ≤ wr.heap.size := r1.size
      have z1 : g' < wr.heap.size := by omega
      have z2 : T < wr.heap.size := by omega
      have HSR : Hid (s + r = nf) := hsr
      clear hsr
      obtain ⟨bk, hbk⟩ : ∃ bk, (vouchTo l m vb k)[k]? = some bk := ⟨_, List.getElem?_eq_getElem (by rw [vouchTo_length, hvl, ← HN.out.1]; exact hkn)⟩
      have cV := r0.cell hbk
      have fV := r0.frozen k
      have zV := r0.lt
      have HVL : Hid (V < w.heap.size) := hvb.lt
      have R0 : Hid _ := r0
      have R1 : Hid _ := r1
      have R2 : Hid _ := r2
      clear r0 r1 r2 hbk
      by_cases hsf : 0 < r
      · obtain ⟨x, hx⟩ : ∃ x, l[s]? = some x := ⟨_, List.getElem?_eq_getElem (by have := HN.out.2; have := HSR.out; omega)⟩
        obtain ⟨x0, hx0⟩ : ∃ x, l[0]? = some x := ⟨_, List.getElem?_eq_getElem (by have := HN.out.2; have := HSR.out; omega)⟩
        obtain ⟨g, rfl, rfl⟩ := hao x hx
        obtain ⟨g2, e2, hg, cx0, cx1⟩ := cv' s x hx
        have hgV2 : g2 ≠ V := by
          obtain ⟨g3, e3, _, c30, _⟩ := cv' 0 x0 hx0
          rw [e2] at e3; simp at e3; subst e3
          exact bools_ne hvb hvpos c30
        simp at e2
        subst e2
        rw [← World.cell?_of_block (a := ⟨g, _, none⟩) (Moved.block R1.out g hg (by simpa using hgV2))] at cx0 cx1
        have z3 : g < wr.heap.size := by omega
        have z4 : (0 : Int) < (r : Int) := by omega
        have hr3 : r ≤ 3 := by have := HSR.out; omega
        have hx3 := bl x (List.mem_of_getElem? hx)
        clear cm' cv' hao hx0 hy0
        have HX : Hid _ := hx
        have HY : Hid _ := hy
        clear hx hy
        by_cases hxy : x.1 = y.1
        · have HV := V_hit sl sm HX.out HY.out hxy R2.out
          have hstr : ((nm x.1).toList == (nm y.1).toList) = true := by rw [hxy]; simp
          clear hxy
          have z5 : (1 : Int) ≤ (c' : Int) := by omega
          have z6 : (1 : Int) ≤ (r : Int) := by omega
          have z7 : (r : Int) ≤ (c' : Int) := by omega
          have HAD : Hid (∀ x, l[s + 1]? = some x → ∃ g_1, (if c' = 1 then some (⟨g, s * 2, none⟩ : Addr) else some ⟨g, s * 2 + 2, none⟩) = some ⟨g_1, (s + 1) * 2, none⟩ ∧ some (⟨g, 0, none⟩ : Addr) = some ⟨g_1, 0, none⟩) := by
            intro x hx
            have h1 := (List.getElem?_eq_some_iff.1 hx).1
            have h2 := HSR.out
            have h3 := HN.out.2
            refine ⟨g, ?_, rfl⟩
            rw [if_neg (by omega)]
            congr 2; omega
          have HM : Hid (Moved [V] w wr) := R1.out
          by_cases hxy2 : x.2 = y.2
          · have HVT : Hid (vouchTo l m vb (k + 1) = (vouchTo l m vb k).set k true) := vouchTo_hit HY.out (by rw [HV.2, hxy2])
            have HVI : Hid _ := HV.1
            have hnum : (x.2 == y.2) = true := by rw [hxy2]; simp
            clear hxy2 HV
            go_wp2
            go_quiet (fail)
            go_wp2
            go_quiet (fail)
            go_wp2
            go_roundw
            case rel =>
              refine ⟨k + 1, s + 1, r - 1, _, c' - 1, by omega, by have := HSR.out; omega, by go_num, rfl, HAD.out, by omega, ?_, ?_, HVI.out⟩
              · rw [HVT.out]
                exact BoolsAt.set (BoolsAt.kept R0.out (heap_alloc_old wr _ zV)) k true
              · have m1 := Moved.trans HM.out (((Moved.of_alloc wr (.cells #[.string (nm y.1), .int .u64 y.2] 54)).mono (by simp)).trans (Moved.of_setCell (wr.alloc (.cells #[.string (nm y.1), .int .u64 y.2] 54)) ⟨V, k, none⟩ (.bool true)))
                exact ⟨m1.os, m1.tape, m1.output, m1.size, m1.block⟩
            case measure => simp [intOf]; omega
          · have HVT : Hid (vouchTo l m vb (k + 1) = vouchTo l m vb k) := vouchTo_miss HY.out (by rw [HV.2]; exact hxy2)
            have HVI : Hid _ := HV.1
            have hnum : (x.2 == y.2) = false := by simpa using hxy2
            clear hxy2 HV
            go_wp2
            go_quiet (fail)
            go_wp2
            go_quiet (fail)
            go_wp2
            go_roundw
            case rel =>
              refine ⟨k + 1, s + 1, r - 1, _, c' - 1, by omega, by have := HSR.out; omega, by go_num, rfl, HAD.out, by omega, ?_, ?_, HVI.out⟩
              · rw [HVT.out]
                exact BoolsAt.kept R0.out (heap_alloc_old wr _ zV)
              · have m1 := Moved.trans HM.out ((Moved.of_alloc wr (.cells #[.string (nm y.1), .int .u64 y.2] 54)).mono (by simp))
                exact ⟨m1.os, m1.tape, m1.output, m1.size, m1.block⟩
            case measure => simp [intOf]; omega
        · have HV := V_miss sl sm HY.out (fun x' hx' => by rw [HX.out] at hx'; cases hx'; exact hxy) R2.out
          have hstr := nm_ne hx3.1 hy3.1 hxy
          have HVT : Hid (vouchTo l m vb (k + 1) = vouchTo l m vb k) := vouchTo_miss HY.out (by rw [HV.2]; omega)
          have HVI : Hid _ := HV.1
          have HM : Hid (Moved [V] w wr) := R1.out
          clear hxy HV
          go_wp2
          go_quiet (fail)
          go_wp2
          go_roundw
          case rel =>
            refine ⟨k + 1, s, r, _, c', by omega, HSR.out, by go_num, rfl, (fun x' _ => ⟨g, rfl, rfl⟩), hc', ?_, ?_, HVI.out⟩
            · rw [HVT.out]
              exact BoolsAt.kept R0.out (heap_alloc_old wr _ zV)
            · have m1 := Moved.trans HM.out ((Moved.of_alloc wr (.cells #[.string (nm y.1), .int .u64 y.2] 54)).mono (by simp))
              exact ⟨m1.os, m1.tape, m1.output, m1.size, m1.block⟩
          case measure => simp [intOf]; omega
      · obtain rfl : r = 0 := by omega
        have hnone : l[s]? = none := List.getElem?_eq_none (by have := HSR.out; have := HN.out.2; omega)
        have HV := V_miss sl sm hy (fun x' hx' => by rw [hnone] at hx'; cases hx') R2.out
        have HVT : Hid (vouchTo l m vb (k + 1) = vouchTo l m vb k) := vouchTo_miss hy (by rw [HV.2]; omega)
        have HVI : Hid _ := HV.1
        have HM : Hid (Moved [V] w wr) := R1.out
        have HNO : Hid _ := hnone
        clear HV cm' cv' hao hy0 hnone hy
        have hd : decide ((0 : Int) < 0) = false := by decide
        go_wp2
        go_quiet (fail)
        go_wp2
        go_roundw
        case rel =>
          refine ⟨k + 1, s, 0, _, c', by omega, HSR.out, by go_num, rfl, (fun x' hx' => by rw [HNO.out] at hx'; cases hx'), by omega, ?_, ?_, HVI.out⟩
          · rw [HVT.out]
            exact BoolsAt.kept R0.out (heap_alloc_old wr _ zV)
          · have m1 := Moved.trans HM.out ((Moved.of_alloc wr (.cells #[.string (nm y.1), .int .u64 y.2] 54)).mono (by simp))
            exact ⟨m1.os, m1.tape, m1.output, m1.size, m1.block⟩
        case measure => simp [intOf]; omega
    · obtain rfl : k = nk := by omega
      have R0 : Hid _ := r0
      have R1 : Hid _ := r1
      clear r0 r1 r2 cm' cv' hao
      go_wp2
      first | go_end0 | refine bodyPost_ret (results_none rfl _ _ _) rfl ?_
      exact ⟨rfl, R0.out, R1.out⟩
end Go.Proofs.YbulkacrqeaFmt
