import Derived.Test.YbulkacrqeaFmtF1
namespace Go.Proofs.YbulkacrqeaFmt
open Go.RowKit

set_option maxRecDepth 20000 in
set_option maxHeartbeats 2000000 in
theorem check_yes (T E n cap mb sb K kcap V vcap m kk j : Nat) (pl : Nat → Option Place) (hist : Nat → List (Nat × Int)) (Rv' : Nat → Prop) (l : List (Nat × Int)) (cv : Value) (line : Int) (host : ByteArray) (x : Nat × Int) (es : List Ev) (ev : Ev) (ks vb : List Bool) (b : Bool) (w : World)
    (h0 : w.heap[T]? = some (tcFull E n cap mb sb K kcap V l.length vcap)) (hH : Hosts w pl hist Rv') (hM : HMap w mb m (fun t => (pl t).map (·.p))) (hl : EntsAt w cv l) (hx : l[kk]? = some x) (hj : firstAt (hist x.1) x.2 = some (j : Int))
    (hE : EvsAt w E es) (hev : es[j]? = some ev) (hjn : j < n) (hn : n ≤ 65536) (hK : BoolsAt w K kcap ks) (hkb : ks[j]? = some b) (hV : BoolsAt w V vcap vb) (hvl : vb.length = l.length) (hat : ltB l (entsTo ev.c 3) = false) :
    Calls Ybaf.prog 7 #[.pointer (some ⟨T, 0, none⟩), .agg #[.int .i64 line, .string host, cv, .string ⟨#[]⟩], .int .i64 kk] w fun e w' => e = .returned .nilIface ∧ BoolsAt w' V vcap (if b then vouchTo (entsTo ev.c 3) l vb l.length else vb) ∧ Moved [V] w w' := by
  obtain ⟨t0, t1, t2, t3, t4⟩ := tc_cells h0
  have HLC : Hid (EntsAt w cv l) := hl
  have hcl : ∃ ao ecap, cv = .slice ao l.length ecap ∧ ∃ g, ao = some ⟨g, 0, none⟩ ∧ g < w.heap.size ∧ w.cell? ⟨g, kk * 2, none⟩ = some (.string (nm x.1)) ∧ w.cell? ⟨g, kk * 2 + 1, none⟩ = some (.int .u64 x.2) := by
    obtain ⟨ao, ecap, e, hcells⟩ := hl.entsIn
    exact ⟨ao, ecap, e, hcells kk x hx⟩
  obtain ⟨ao, ecap, hcv, g, rfl, hg, cx0, cx1⟩ := hcl
  obtain ⟨nl, hnl⟩ : ∃ nl, nl = l.length := ⟨_, rfl⟩
  rw [← hnl] at hcv
  subst hcv
  have hxb := hl.2.1 x (List.mem_of_getElem? hx)
  have hkl := (List.getElem?_eq_some_iff.1 hx).1
  have hn3 := hl.2.2.1
  rw [← hnl] at hkl hn3 t4
  have HNL : Hid (nl = l.length) := hnl
  have zT := lt_of_block h0
  obtain ⟨o, ho⟩ : ∃ o, o = (pl x.1).map (·.p) := ⟨_, rfl⟩
  have hmb : mb < w.heap.size := by obtain ⟨_, _, h⟩ := hM.block; exact lt_of_block h
  have hlk : ∀ (o1 o2 : Obj) m, (Instr.lookup 38 (.map (some mb)) (.string (nm x.1)) false).run Ybaf.prog (((w.alloc o1).alloc o2).drewN m) = .ok (ptrOf o) (((w.alloc o1).alloc o2).drewN m) := by
    intro o1 o2 m
    rw [ho]
    exact HMap.look (hM.kept (w' := ((w.alloc o1).alloc o2).drewN m) ((heap_alloc_old _ _ (by simp; omega)).trans (heap_alloc_old _ _ hmb))) hxb.1
  have HEV : Hid (∀ (o1 o2 : Obj) m, Calls Ybaf.prog 12 #[ptrOf o, .int .u64 x.2] (((w.alloc o1).alloc o2).drewN m) fun e w' => e = .returned (.tuple #[.int .i64 j, .bool true]) ∧ w' = (((w.alloc o1).alloc o2).drewN m)) := by
    intro o1 o2 m
    exact event_q (hH.kept (w' := ((w.alloc o1).alloc o2).drewN m) (fun b hb _ => (heap_alloc_old _ _ (by simp; omega)).trans (heap_alloc_old _ _ hb))) hxb.1 ho hxb.2.1 hxb.2.2 (by rw [hj]; rfl) (by rw [hj]; rfl)
  obtain ⟨hEl, hEall⟩ := hE
  obtain ⟨hok, ev_cv, d0, d1, d2, d3, hents⟩ := hEall j ev hev
  obtain ⟨jo, jcap, hjv⟩ := hents.form
  obtain ⟨nj, hnj⟩ : ∃ nj, nj = (entsTo ev.c 3).length := ⟨_, rfl⟩
  rw [← hnj] at hjv
  subst hjv
  have HBel : Hid (∀ (o1 o2 : Obj) m, Below w.heap.size w (((w.alloc o1).alloc o2).drewN m)) := fun o1 o2 m => below_drewN (((Below.refl _ w).alloc (Nat.le_refl _) o1).alloc (by simp) o2) m
  have HAT : Hid (∀ (o1 o2 : Obj) m, (((w.alloc o1).alloc o2).drewN m).cell? ⟨w.heap.size, 2, none⟩ = some (.slice (some ⟨g, 0, none⟩) nl ecap) → Calls Ybaf.prog 13 #[.agg #[.slice jo nj jcap], .agg #[.slice (some ⟨g, 0, none⟩) nl ecap]] (((w.alloc o1).alloc o2).drewN m) fun e w' => e = .returned (.bool true) ∧ Below (((w.alloc o1).alloc o2).drewN m).heap.size (((w.alloc o1).alloc o2).drewN m) w' ∧
      w'.cell? ⟨T, 0, none⟩ = some (.slice (some ⟨E, 0, none⟩) n cap) ∧ w'.cell? ⟨E, j * 4 + 2, none⟩ = some (.slice jo nj jcap) ∧ w'.cell? ⟨w.heap.size, 2, none⟩ = some (.slice (some ⟨g, 0, none⟩) nl ecap)) := by
    intro o1 o2 m hc2
    have := atMost_any _ _ (entsTo ev.c 3) l (((w.alloc o1).alloc o2).drewN m) (EntsAt.below hents (HBel.out o1 o2 m) (Nat.le_refl _)) (EntsAt.below HLC.out (HBel.out o1 o2 m) (Nat.le_refl _))
    rw [hat] at this
    refine this.mono fun e w' ⟨he, hb⟩ => ⟨he, hb, ?_, ?_, ?_⟩
    · rw [hb.cell (by simp; omega), (HBel.out o1 o2 m).cell (by exact zT)]; exact t0
    · rw [hb.cell (by simp; omega), (HBel.out o1 o2 m).cell (by exact hEl)]; exact d2
    · rw [hb.cell (by simp; omega)]; exact hc2
  have ck := hK.cell hkb
  have zK := hK.lt
  have HENT : Hid (EntsAt w (.slice jo nj jcap) (entsTo ev.c 3)) := hents
  have HSUB : Hid _ := hat
  have HV : Hid (BoolsAt w V vcap vb ∧ vb.length = l.length) := ⟨hV, hvl⟩
  have H0 : Hid _ := h0
  clear hnl hl hx h0 hH hM ho hj hEall hents hnj hat hK hV hvl hok
  go_enter Ybaf.func7, Ybaf.ntmps7
  go_wp2
  go_quiet ((go_at_call 12; exact Calls.quiet_of_same (HEV.out _ _ _)))
  go_wp2
  have j0 : (0 : Int) ≤ (j : Int) := Int.natCast_nonneg _
  have j1 : (j : Int) < (n : Int) := by omega
  go_region_held3 (fun w' => w'.cell? ⟨T, 0, none⟩ = some (.slice (some ⟨E, 0, none⟩) n cap) ∧ w'.cell? ⟨E, j * 4 + 2, none⟩ = some (.slice jo nj jcap) ∧ w'.cell? ⟨w.heap.size, 2, none⟩ = some (.slice (some ⟨g, 0, none⟩) nl ecap))
    (go_keep) (first | (go_at_call 13; refine (HAT.out _ _ _ (by simp)).mono ?_; rintro e w' ⟨rfl, hb, k0, k1, k2⟩))
  have hW : Below w.heap.size w w' := (HBel.out _ _ _).trans (hb.mono (by simp; omega))
  rw [← hW.cell (by exact zT)] at t3
  rw [← hW.cell (by exact zK)] at ck
  have h0' : w'.heap[T]? = some (tcFull E n cap mb sb K kcap V l.length vcap) := by rw [hW.block T zT]; exact H0.out
  have hd2' : w'.cell? ⟨E, j * 4 + 2, none⟩ = some (.slice jo nj jcap) := k1
  have HVC : Hid (Calls Ybaf.prog 15 #[.pointer (some ⟨T, 0, none⟩), .int .i64 j, .agg #[.slice (some ⟨g, 0, none⟩) nl ecap]] w' fun e w'' => e = .returned (.tuple #[]) ∧ BoolsAt w'' V vcap (vouchTo (entsTo ev.c 3) l vb l.length) ∧ Moved [V] w' w'') :=
    vouch_any T E n cap V vcap j _ _ _ _ _ (entsTo ev.c 3) l vb w' h0' hjn hn hd2' (by have := hW.size; omega) (EntsAt.below HENT.out hW (Nat.le_refl _)) (EntsAt.below HLC.out hW (Nat.le_refl _)) (HV.out.1.kept (hW.block V HV.out.1.lt)) HV.out.2 HSUB.out
  have HW : Hid _ := hW
  clear h0' hd2' hW hb HEV HAT hlk
  cases b with
  | true =>
    go_wp2_with (go_at_call 15; refine HVC.out.mono ?_; rintro e w6 ⟨rfl, hv6, hm6⟩)
    go_ret
    exact ⟨rfl, hv6, ((Moved.of_below HW.out).mono (by simp)).trans hm6⟩
  | false =>
    go_wp2
    go_ret
    exact ⟨rfl, HV.out.1.kept (HW.out.block V HV.out.1.lt), (Moved.of_below HW.out).mono (by simp)⟩
end Go.Proofs.YbulkacrqeaFmt
