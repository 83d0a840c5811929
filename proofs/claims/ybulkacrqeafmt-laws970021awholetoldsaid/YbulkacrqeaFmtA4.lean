import Derived.Test.YbulkacrqeaFmtA3
namespace Go.Proofs.YbulkacrqeaFmt
open Go.RowKit

/-- some actor's counter in l is smaller than in m -/
def ltB (l m : List (Nat × Int)) : Bool := m.any (fun y => decide (getC l y.1 < y.2))

theorem getC_cons_ne {x : Nat × Int} {l : List (Nat × Int)} {t : Nat} (h : x.1 ≠ t) : getC (x :: l) t = getC l t := by
  unfold getC; rw [List.find?_cons_of_neg (by simpa using h)]
theorem getC_cons_eq {x : Nat × Int} {l : List (Nat × Int)} : getC (x :: l) x.1 = x.2 := by
  unfold getC; rw [List.find?_cons_of_pos (by simp)]; rfl

theorem any_congr {l : List (Nat × Int)} {f g : Nat × Int → Bool} (h : ∀ x ∈ l, f x = g x) : l.any f = l.any g := by
  induction l with
  | nil => rfl
  | cons x l ih => simp only [List.any_cons]; rw [h x (by simp), ih (fun y hy => h y (by simp [hy]))]

theorem lt_skip {x : Nat × Int} {l m : List (Nat × Int)} (h : ∀ y ∈ m, x.1 < y.1) : ltB (x :: l) m = ltB l m := by
  unfold ltB; exact any_congr fun y hy => by rw [getC_cons_ne (by have := h y hy; omega)]

theorem lt_hit {x : Nat × Int} {l m : List (Nat × Int)} (hx : 1 ≤ x.2) (h : ∀ y ∈ m, x.1 < y.1) : ltB m (x :: l) = true := by
  unfold ltB; simp only [List.any_cons]
  rw [getC_none (fun y hy => by have := h y hy; omega)]
  simp; left; omega

theorem lt_both {x y : Nat × Int} {l m : List (Nat × Int)} (e : x.1 = y.1) (h : ∀ z ∈ m, y.1 < z.1) : ltB (x :: l) (y :: m) = (decide (x.2 < y.2) || ltB l m) := by
  have : ltB (x :: l) (y :: m) = (decide (getC (x :: l) y.1 < y.2) || ltB (x :: l) m) := rfl
  rw [this, ← e, getC_cons_eq, lt_skip (fun z hz => by have := h z hz; omega)]

theorem lt_nil_right (l : List (Nat × Int)) : ltB l [] = false := rfl
theorem lt_nil_left {m : List (Nat × Int)} (h : ∀ y ∈ m, 1 ≤ y.2) : ltB [] m = !m.isEmpty := by
  cases m with
  | nil => rfl
  | cons y m =>
    have hy := h y (by simp)
    have h0 : getC [] y.1 = 0 := rfl
    simp [ltB, h0]; left; omega

def verd (b a : Bool) : Int := if b && a then 4 else if b then 1 else if a then 2 else 3

theorem drop_cons {l : List (Nat × Int)} {i : Nat} {x : Nat × Int} (h : l[i]? = some x) : l.drop i = x :: l.drop (i + 1) := by
  obtain ⟨h1, rfl⟩ := List.getElem?_eq_some_iff.1 h
  exact List.drop_eq_getElem_cons h1

theorem mem_drop_lt {l : List (Nat × Int)} (hs : l.Pairwise (fun x y => x.1 < y.1)) {i : Nat} {x : Nat × Int} (h : l[i]? = some x) : ∀ y ∈ l.drop (i + 1), x.1 < y.1 := by
  have : (l.drop i).Pairwise (fun x y => x.1 < y.1) := hs.sublist (List.drop_sublist _ _)
  rw [drop_cons h, List.pairwise_cons] at this
  exact this.1

/-- one step of Compare's loop -/
theorem step_lt {l m : List (Nat × Int)} (hm : m.Pairwise (fun x y => x.1 < y.1)) {i j : Nat} {x y : Nat × Int} (hx : l[i]? = some x) (hy : m[j]? = some y) (h1 : 1 ≤ x.2) (h : x.1 < y.1) :
    ltB (l.drop i) (m.drop j) = ltB (l.drop (i + 1)) (m.drop j) ∧ ltB (m.drop j) (l.drop i) = true := by
  have hall : ∀ z ∈ m.drop j, x.1 < z.1 := by
    rw [drop_cons hy]; intro z hz
    rcases List.mem_cons.1 hz with rfl | hz
    · exact h
    · have := mem_drop_lt hm hy z hz; omega
  rw [drop_cons hx]
  exact ⟨lt_skip hall, lt_hit h1 hall⟩

theorem step_eq {l m : List (Nat × Int)} (hl : l.Pairwise (fun x y => x.1 < y.1)) (hm : m.Pairwise (fun x y => x.1 < y.1)) {i j : Nat} {x y : Nat × Int} (hx : l[i]? = some x) (hy : m[j]? = some y) (h : x.1 = y.1) :
    ltB (l.drop i) (m.drop j) = (decide (x.2 < y.2) || ltB (l.drop (i + 1)) (m.drop (j + 1))) ∧ ltB (m.drop j) (l.drop i) = (decide (y.2 < x.2) || ltB (m.drop (j + 1)) (l.drop (i + 1))) := by
  rw [drop_cons hx, drop_cons hy]
  exact ⟨lt_both h (mem_drop_lt hm hy), lt_both h.symm (mem_drop_lt hl hx)⟩

/-- what a slice of entries, nil or not, is in a world -/
def EntsIn (w : World) (v : Value) (l : List (Nat × Int)) : Prop := ∃ ao cap, v = .slice ao l.length cap ∧ ∀ i x, l[i]? = some x → ∃ g, ao = some ⟨g, 0, none⟩ ∧ g < w.heap.size ∧ w.cell? ⟨g, i * 2, none⟩ = some (.string (nm x.1)) ∧ w.cell? ⟨g, i * 2 + 1, none⟩ = some (.int .u64 x.2)

theorem EntsAt.entsIn {w : World} {v : Value} {l : List (Nat × Int)} (h : EntsAt w v l) : EntsIn w v l := by
  obtain ⟨hs, hl, hn, ⟨rfl, rfl⟩ | ⟨g, cap, rfl, hcap, hmx, hg, hc⟩⟩ := h
  · exact ⟨none, 0, rfl, fun i x h => by simp at h⟩
  · exact ⟨_, cap, rfl, fun i x h => ⟨g, rfl, hg, (hc i x h).1, (hc i x h).2⟩⟩

theorem EntsAt.below {w w' : World} {v : Value} {l : List (Nat × Int)} {B : Nat} (h : EntsAt w v l) (hb : Below B w w') (hB : w.heap.size ≤ B) : EntsAt w' v l := by
  obtain ⟨hs, hl, hn, ⟨rfl, rfl⟩ | ⟨g, cap, rfl, hcap, hmx, hg, hc⟩⟩ := h
  · exact ⟨hs, hl, hn, Or.inl ⟨rfl, rfl⟩⟩
  · exact ⟨hs, hl, hn, Or.inr ⟨g, cap, rfl, hcap, hmx, Nat.lt_of_lt_of_le hg hb.size, fun i x h => by
      rw [hb.cell (show g < B by omega), hb.cell (show g < B by omega)]; exact hc i x h⟩⟩

set_option maxRecDepth 100000 in
set_option maxHeartbeats 4000000 in
theorem compare_any (v u : Value) (l m : List (Nat × Int)) (w : World) (hv : EntsAt w v l) (hu : EntsAt w u m) :
    Calls Ybaf.prog 17 #[.agg #[v], .agg #[u]] w fun e w' => e = .returned (.int .i64 (verd (ltB l m) (ltB m l))) ∧ Below w.heap.size w w' := by
  obtain ⟨ao, cap, rfl, cv⟩ := hv.entsIn
  obtain ⟨bo, cbp, rfl, cu⟩ := hu.entsIn
  obtain ⟨sl, bl, nl, -⟩ := hv
  obtain ⟨sm, bm, nmm, -⟩ := hu
  obtain ⟨n, hn⟩ : ∃ n, n = l.length := ⟨_, rfl⟩
  obtain ⟨k, hk⟩ : ∃ k, k = m.length := ⟨_, rfl⟩
  rw [← hn, ← hk]
  have hn3 : n ≤ 3 := by omega
  have hk3 : k ≤ 3 := by omega
  have HN : Hid (n = l.length) := hn
  have HK : Hid (k = m.length) := hk
  clear hn hk nl nmm
  go_enter Ybaf.func17, Ybaf.ntmps17
  go_wp2
  go_loopw [5, 6, 7, 8] (fun vb va vi vj wr => ∃ (b a : Bool) (i j : Nat), i ≤ n ∧ j ≤ k ∧ vb = .bool b ∧ va = .bool a ∧ vi = .int .i64 i ∧ vj = .int .i64 j ∧ (b || ltB (l.drop i) (m.drop j)) = ltB l m ∧ (a || ltB (m.drop j) (l.drop i)) = ltB m l ∧
      wr.cell? ⟨w.heap.size, 0, none⟩ = some (.slice ao n cap) ∧ wr.cell? ⟨w.heap.size + 1, 0, none⟩ = some (.slice bo k cbp) ∧ w.heap.size + 1 < wr.heap.size ∧ Below w.heap.size w wr) (fun _ _ vi vj _ => n + k - (intOf vi).toNat - (intOf vj).toNat)
  case atStart =>
    refine ⟨false, false, 0, 0, by omega, by omega, rfl, rfl, rfl, rfl, by simp, by simp, ?_, ?_, ?_, ?_⟩
    · simp
    · simp
    · simp
    · exact ((Below.refl _ _).alloc (Nat.le_refl _) _).alloc (by simp) _
  case round =>
    obtain ⟨b, a, i, j, hi, hj, rfl, rfl, rfl, rfl, I1, I2, c0, c1, hz, hb⟩ := hrel
    have J1 : Hid _ := I1
    have J2 : Hid _ := I2
    clear I1 I2
    by_cases hin : i < n
    · by_cases hjk : j < k
      · by_cases hba : (b && a) = true
        · obtain ⟨rfl, rfl⟩ : b = true ∧ a = true := by simpa using hba
          have E1 : Hid (ltB l m = true) := by have := J1.out; rw [Bool.true_or] at this; exact this.symm
          have E2 : Hid (ltB m l = true) := by have := J2.out; rw [Bool.true_or] at this; exact this.symm
          clear J1 J2 hba cv cu
          go_wp2
          go_ret
          exact ⟨ret_int (by rw [E1.out, E2.out]; rfl), hb⟩
        · obtain ⟨x, hx⟩ : ∃ x, l[i]? = some x := ⟨_, List.getElem?_eq_getElem (by have := HN.out; omega)⟩
          obtain ⟨y, hy⟩ : ∃ y, m[j]? = some y := ⟨_, List.getElem?_eq_getElem (by have := HK.out; omega)⟩
          obtain ⟨g, hao, hg, cx0, cx1⟩ := cv i x hx
          obtain ⟨g', hbo, hg', cy0, cy1⟩ := cu j y hy
          subst hao hbo
          have hx3 := bl x (List.mem_of_getElem? hx)
          have hy3 := bm y (List.mem_of_getElem? hy)
          have HX : Hid (l[i]? = some x) := hx
          have HY : Hid (m[j]? = some y) := hy
          rw [← hb.cell (by exact hg)] at cx0 cx1
          rw [← hb.cell (by exact hg')] at cy0 cy1
          clear hx hy cv cu
          have z1 : w.heap.size < wr.heap.size := by omega
          have z2 : w.heap.size < wr.heap.size + 1 := by omega
          have z3 : w.heap.size + 1 < wr.heap.size + 1 := by omega
          have z4 : g < wr.heap.size := by omega
          have z5 : g < wr.heap.size + 1 := by omega
          have z6 : g' < wr.heap.size := by omega
          have z7 : g' < wr.heap.size + 1 := by omega
          have hbf : (b = false ∧ a = false) ∨ (b = false ∧ a = true) ∨ (b = true ∧ a = false) := by cases b <;> cases a <;> simp_all
          have hall : ∀ o1 o2 : Obj, Below w.heap.size w ((wr.alloc o1).alloc o2).drew := fun o1 o2 => ((hb.alloc hb.size o1).alloc (by have := hb.size; simp; omega) o2).drew
          have hnew : ∀ o1 o2 : Obj, Below wr.heap.size wr ((wr.alloc o1).alloc o2).drew := fun o1 o2 => (((Below.refl _ wr).alloc (Nat.le_refl _) o1).alloc (by simp) o2).drew
          have hc0 : ∀ o1 o2 : Obj, ((wr.alloc o1).alloc o2).drew.cell? ⟨w.heap.size, 0, none⟩ = some (.slice (some ⟨g, 0, none⟩) n cap) := fun o1 o2 => ((hnew o1 o2).cell (by exact z1)).trans c0
          have hc1 : ∀ o1 o2 : Obj, ((wr.alloc o1).alloc o2).drew.cell? ⟨w.heap.size + 1, 0, none⟩ = some (.slice (some ⟨g', 0, none⟩) k cbp) := fun o1 o2 => ((hnew o1 o2).cell (by exact hz)).trans c1
          have hzz : ∀ o1 o2 : Obj, w.heap.size + 1 < ((wr.alloc o1).alloc o2).drew.heap.size := fun o1 o2 => Nat.lt_of_lt_of_le hz (hnew o1 o2).size
          have HALL : Hid (∀ o1 o2 : Obj, ((wr.alloc o1).alloc o2).drew.cell? ⟨w.heap.size, 0, none⟩ = some (.slice (some ⟨g, 0, none⟩) n cap) ∧ ((wr.alloc o1).alloc o2).drew.cell? ⟨w.heap.size + 1, 0, none⟩ = some (.slice (some ⟨g', 0, none⟩) k cbp) ∧ w.heap.size + 1 < ((wr.alloc o1).alloc o2).drew.heap.size ∧ Below w.heap.size w ((wr.alloc o1).alloc o2).drew) :=
            fun o1 o2 => ⟨hc0 o1 o2, hc1 o1 o2, hzz o1 o2, hall o1 o2⟩
          clear hall hnew hc0 hc1 hzz
          rcases Nat.lt_trichotomy x.1 y.1 with ho | ho | ho
          · have hcm : cmpN x.1 y.1 = -1 := by unfold cmpN; rw [if_pos ho]
            have S := step_lt sm HX.out HY.out hx3.2.1 ho
            have K1 : Hid ((b || ltB (l.drop (i + 1)) (m.drop j)) = ltB l m) := by rw [← S.1]; exact J1.out
            have K2 : Hid ((true || ltB (m.drop j) (l.drop (i + 1))) = ltB m l) := by have := J2.out; rw [S.2, Bool.or_true] at this; rw [Bool.true_or]; exact this
            clear S J1 J2 HX HY ho
            rcases hbf with ⟨rfl, rfl⟩ | ⟨rfl, rfl⟩ | ⟨rfl, rfl⟩
            · go_wp2
              go_region
              all_goals go_wp2_with (go_at_call 20; refine (cmp_any x.1 y.1 hx3.1 hy3.1 _).mono ?_; rintro e w' ⟨rfl, rfl⟩)
              all_goals
                go_roundw
                case rel =>
                  exact ⟨false, true, i + 1, j, by omega, by omega, rfl, rfl, by go_num, rfl, K1, K2, HALL.out _ _⟩
                case measure => simp [intOf]; omega
            · go_wp2
              go_region
              all_goals go_wp2_with (go_at_call 20; refine (cmp_any x.1 y.1 hx3.1 hy3.1 _).mono ?_; rintro e w' ⟨rfl, rfl⟩)
              all_goals
                go_roundw
                case rel =>
                  exact ⟨false, true, i + 1, j, by omega, by omega, rfl, rfl, by go_num, rfl, K1, K2, HALL.out _ _⟩
                case measure => simp [intOf]; omega
            · go_wp2
              go_region
              all_goals go_wp2_with (go_at_call 20; refine (cmp_any x.1 y.1 hx3.1 hy3.1 _).mono ?_; rintro e w' ⟨rfl, rfl⟩)
              all_goals
                go_roundw
                case rel =>
                  exact ⟨true, true, i + 1, j, by omega, by omega, rfl, rfl, by go_num, rfl, K1, K2, HALL.out _ _⟩
                case measure => simp [intOf]; omega
          · have hcm : cmpN x.1 y.1 = 0 := by unfold cmpN; rw [if_neg (by omega), if_neg (by omega)]
            have S := step_eq sl sm HX.out HY.out ho
            have K1 : Hid (((b || decide (x.2 < y.2)) || ltB (l.drop (i + 1)) (m.drop (j + 1))) = ltB l m) := by rw [Bool.or_assoc, ← S.1]; exact J1.out
            have K2 : Hid (((a || decide (y.2 < x.2)) || ltB (m.drop (j + 1)) (l.drop (i + 1))) = ltB m l) := by rw [Bool.or_assoc, ← S.2]; exact J2.out
            clear S J1 J2 HX HY ho
            rcases hbf with ⟨rfl, rfl⟩ | ⟨rfl, rfl⟩ | ⟨rfl, rfl⟩
            · go_wp2
              go_region
              all_goals go_wp2_with (go_at_call 20; refine (cmp_any x.1 y.1 hx3.1 hy3.1 _).mono ?_; rintro e w' ⟨rfl, rfl⟩)
              all_goals
                go_roundw
                case rel =>
                  exact ⟨_, _, i + 1, j + 1, by omega, by omega, rfl, rfl, by go_num, by go_num, K1, K2, HALL.out _ _⟩
                case measure => simp [intOf]; omega
            · go_wp2
              go_region
              all_goals go_wp2_with (go_at_call 20; refine (cmp_any x.1 y.1 hx3.1 hy3.1 _).mono ?_; rintro e w' ⟨rfl, rfl⟩)
              all_goals
                go_roundw
                case rel =>
                  exact ⟨_, _, i + 1, j + 1, by omega, by omega, rfl, rfl, by go_num, by go_num, K1, K2, HALL.out _ _⟩
                case measure => simp [intOf]; omega
            · go_wp2
              go_region
              all_goals go_wp2_with (go_at_call 20; refine (cmp_any x.1 y.1 hx3.1 hy3.1 _).mono ?_; rintro e w' ⟨rfl, rfl⟩)
              all_goals
                go_roundw
                case rel =>
                  exact ⟨_, _, i + 1, j + 1, by omega, by omega, rfl, rfl, by go_num, by go_num, K1, K2, HALL.out _ _⟩
                case measure => simp [intOf]; omega
          · have hcm : cmpN x.1 y.1 = 1 := by unfold cmpN; rw [if_neg (by omega), if_pos ho]
            have S := step_lt sl HY.out HX.out hy3.2.1 ho
            have K1 : Hid ((true || ltB (l.drop i) (m.drop (j + 1))) = ltB l m) := by have := J1.out; rw [S.2, Bool.or_true] at this; rw [Bool.true_or]; exact this
            have K2 : Hid ((a || ltB (m.drop (j + 1)) (l.drop i)) = ltB m l) := by rw [← S.1]; exact J2.out
            clear S J1 J2 HX HY ho
            rcases hbf with ⟨rfl, rfl⟩ | ⟨rfl, rfl⟩ | ⟨rfl, rfl⟩
            · go_wp2
              go_region
              all_goals go_wp2_with (go_at_call 20; refine (cmp_any x.1 y.1 hx3.1 hy3.1 _).mono ?_; rintro e w' ⟨rfl, rfl⟩)
              all_goals
                go_roundw
                case rel =>
                  exact ⟨true, false, i, j + 1, by omega, by omega, rfl, rfl, rfl, by go_num, K1, K2, HALL.out _ _⟩
                case measure => simp [intOf]; omega
            · go_wp2
              go_region
              all_goals go_wp2_with (go_at_call 20; refine (cmp_any x.1 y.1 hx3.1 hy3.1 _).mono ?_; rintro e w' ⟨rfl, rfl⟩)
              all_goals
                go_roundw
                case rel =>
                  exact ⟨true, true, i, j + 1, by omega, by omega, rfl, rfl, rfl, by go_num, K1, K2, HALL.out _ _⟩
                case measure => simp [intOf]; omega
            · go_wp2
              go_region
              all_goals go_wp2_with (go_at_call 20; refine (cmp_any x.1 y.1 hx3.1 hy3.1 _).mono ?_; rintro e w' ⟨rfl, rfl⟩)
              all_goals
                go_roundw
                case rel =>
                  exact ⟨true, false, i, j + 1, by omega, by omega, rfl, rfl, rfl, by go_num, K1, K2, HALL.out _ _⟩
                case measure => simp [intOf]; omega
      · have hjk' : j = k := by omega
        have d1 : m.drop j = [] := List.drop_eq_nil_of_le (by have := HK.out; omega)
        have d2 : ltB [] (l.drop i) = true := by
          rw [lt_nil_left (fun y hy => (bl y (List.mem_of_mem_drop hy)).2.1)]
          cases hd : l.drop i with
          | nil => rw [List.drop_eq_nil_iff] at hd; have := HN.out; omega
          | cons _ _ => rfl
        have E1 : Hid (ltB l m = b) := by have := J1.out; rw [d1, lt_nil_right, Bool.or_false] at this; exact this.symm
        have E2 : Hid (ltB m l = true) := by have := J2.out; rw [d1, d2, Bool.or_true] at this; exact this.symm
        clear J1 J2 d1 d2 hjk' cv cu
        cases b <;> cases a
        all_goals
          go_wp2
          go_ret
          exact ⟨ret_int (by rw [E1.out, E2.out]; rfl), hb⟩
    · have d1 : l.drop i = [] := List.drop_eq_nil_of_le (by have := HN.out; omega)
      have E2 : Hid (ltB m l = a) := by have := J2.out; rw [d1, lt_nil_right, Bool.or_false] at this; exact this.symm
      by_cases hjk : j < k
      · have d2 : ltB [] (m.drop j) = true := by
          rw [lt_nil_left (fun y hy => (bm y (List.mem_of_mem_drop hy)).2.1)]
          cases hd : m.drop j with
          | nil => rw [List.drop_eq_nil_iff] at hd; have := HK.out; omega
          | cons _ _ => rfl
        have E1 : Hid (ltB l m = true) := by have := J1.out; rw [d1, d2, Bool.or_true] at this; exact this.symm
        clear J1 J2 d1 d2 cv cu
        cases b <;> cases a
        all_goals
          go_wp2
          go_ret
          exact ⟨ret_int (by rw [E1.out, E2.out]; rfl), hb⟩
      · have d2 : m.drop j = [] := List.drop_eq_nil_of_le (by have := HK.out; omega)
        have E1 : Hid (ltB l m = b) := by have := J1.out; rw [d1, d2, lt_nil_right, Bool.or_false] at this; exact this.symm
        clear J1 J2 d1 d2 cv cu
        cases b <;> cases a
        all_goals
          go_wp2
          go_ret
          exact ⟨ret_int (by rw [E1.out, E2.out]; rfl), hb⟩
end Go.Proofs.YbulkacrqeaFmt
