import Derived.Test.YbulkacrqeaFmtF2
import Derived.Stop.CallBack
import Derived.BigRegion
namespace Go.Proofs.YbulkacrqeaFmt
open Go.RowKit Go.Extern.Stop Go.Stop Go.Extern

def fmtB : ByteArray := ⟨#[116, 104, 97, 116, 32, 101, 118, 101, 110, 116, 44, 32, 111, 110, 32, 108, 105, 110, 101, 32, 37, 100, 44, 32, 104, 97, 115, 32, 115, 101, 101, 110, 32, 109, 111, 114, 101, 32, 116, 104, 97, 110, 32, 116, 104, 105, 115, 32, 99, 108, 111, 99, 107, 32, 104, 111, 108, 100, 115]⟩

theorem fmt_guard (name : String) (w : World) : (FmtStop.guard name).run Ybaf.prog w = .ok () w := by kernel_rfl
theorem fmt_printed : FmtStop.printed? fmtB 1 = some [(0, 100, false)] := by kernel_rfl
def shape3 : List UInt8 := [5, 3, 0, 0, 0, 0, 0, 0, 0, 105, 110, 116]
theorem fmt_op (name : String) (x : Int) (w : World) : (FmtStop.operand name false 100 false (.iface 3 (.int .i64 x))).run Ybaf.prog w = .ok (shape3, Go.Extern.Stop.digits 8 (x % 2 ^ 64).toNat) w := by kernel_rfl

theorem call14 (w : World) (b : Nat) (x : Int) (hc : w.cell? ⟨b, 0, none⟩ = some (.iface 3 (.int .i64 x))) :
    ∃ s, (callFunc 14 #[.string fmtB, .slice (some ⟨b, 0, none⟩) 1 1]).run Ybaf.prog w = .ok (.value (.string s)) w.drew := by
  have h1 : (callFunc 14 #[.string fmtB, .slice (some ⟨b, 0, none⟩) 1 1]).run Ybaf.prog w = ((FmtStop.sprintf #[9, 90] #[9] #[.string fmtB, .slice (some ⟨b, 0, none⟩) 1 1]).run Ybaf.prog w).andThen fun v w' => .ok (.value v) w' :=
    run_callFunc_extern Ybaf.func14 (by kernel_rfl) (by kernel_rfl) (by kernel_rfl) (by kernel_rfl) _ w
  have h2 : (FmtStop.sprintf #[9, 90] #[9] #[.string fmtB, .slice (some ⟨b, 0, none⟩) 1 1]) = (do
      FmtStop.guard "fmt.Sprintf"
      let vs ← FmtStop.cells (.slice (some ⟨b, 0, none⟩) 1 1)
      match FmtStop.printed? fmtB vs.length with
      | some ps => FmtStop.text "fmt.Sprintf" [fmtB.data.toList] (← FmtStop.readAll "fmt.Sprintf" false vs ps)
      | none => FmtStop.text "fmt.Sprintf" [fmtB.data.toList] (← vs.mapM (FmtStop.strict "fmt.Sprintf"))) := rfl
  rw [h1, h2]
  simp [fmt_guard, FmtStop.cells, loadCells, loadCellsFrom, hc, fmt_printed, FmtStop.readAll, fmt_op, FmtStop.text, go_sem]
set_option maxRecDepth 20000 in
set_option maxHeartbeats 2000000 in
theorem check_more (T E n cap mb sb K kcap V vcap m kk j : Nat) (pl : Nat → Option Place) (hist : Nat → List (Nat × Int)) (Rv' : Nat → Prop) (l : List (Nat × Int)) (cv : Value) (line : Int) (host : ByteArray) (x : Nat × Int) (es : List Ev) (ev : Ev) (w : World)
    (h0 : w.heap[T]? = some (tcFull E n cap mb sb K kcap V l.length vcap)) (hH : Hosts w pl hist Rv') (hM : HMap w mb m (fun t => (pl t).map (·.p))) (hl : EntsAt w cv l) (hx : l[kk]? = some x) (hj : firstAt (hist x.1) x.2 = some (j : Int))
    (hE : EvsAt w E es) (hev : es[j]? = some ev) (hjn : j < n) (hat : ltB l (entsTo ev.c 3) = true) :
    Calls Ybaf.prog 7 #[.pointer (some ⟨T, 0, none⟩), .agg #[.int .i64 line, .string host, cv, .string ⟨#[]⟩], .int .i64 kk] w fun e w' => ∃ C s, e = .returned (.iface 47 (.pointer (some ⟨C, 0, none⟩))) ∧ w.heap.size ≤ C ∧ w'.heap[C]? = some (.cells #[.string (nm x.1), .int .u64 x.2, .string s] 51 (0, 0)) ∧ Below w.heap.size w w' := by
  obtain ⟨t0, t1, t2, t3, t4⟩ := tc_cells h0
  have HLC : Hid (EntsAt w cv l) := hl
  have hcl : ∃ ao ecap, cv = .slice ao l.length ecap ∧ ∃ g, ao = some ⟨g, 0, none⟩ ∧ g < w.heap.size ∧ w.cell? ⟨g, kk * 2, none⟩ = some (.string (nm x.1)) ∧ w.cell? ⟨g, kk * 2 + 1, none⟩ = some (.int .u64 x.2) := by
    obtain ⟨ao, ecap, e, hcells⟩ := hl.entsIn
    exact ⟨ao, ecap, e, hcells kk x hx⟩
  obtain ⟨ao, ecap, hcv, g, rfl, hg, cx0, cx1⟩ := hcl
  obtain ⟨nl, hnl⟩ : ∃ nl, nl = l.length := ⟨_, rfl⟩
  rw [← hnl] at hcv
  subst hcv
  have hxb := hl.2.1 x (List.mem_of_getElem? hx)
  have hkl := (List.getElem?_eq_some_iff.1 hx).1
  have hn3 := hl.2.2.1
  rw [← hnl] at hkl hn3 t4
  have HNL : Hid (nl = l.length) := hnl
  have zT := lt_of_block h0
  obtain ⟨o, ho⟩ : ∃ o, o = (pl x.1).map (·.p) := ⟨_, rfl⟩
  have hmb : mb < w.heap.size := by obtain ⟨_, _, h⟩ := hM.block; exact lt_of_block h
  have hlk : ∀ (o1 o2 : Obj) m, (Instr.lookup 38 (.map (some mb)) (.string (nm x.1)) false).run Ybaf.prog (((w.alloc o1).alloc o2).drewN m) = .ok (ptrOf o) (((w.alloc o1).alloc o2).drewN m) := by
    intro o1 o2 m
    rw [ho]
    exact HMap.look (hM.kept (w' := ((w.alloc o1).alloc o2).drewN m) ((heap_alloc_old _ _ (by simp; omega)).trans (heap_alloc_old _ _ hmb))) hxb.1
  have HEV : Hid (∀ (o1 o2 : Obj) m, Calls Ybaf.prog 12 #[ptrOf o, .int .u64 x.2] (((w.alloc o1).alloc o2).drewN m) fun e w' => e = .returned (.tuple #[.int .i64 j, .bool true]) ∧ w' = (((w.alloc o1).alloc o2).drewN m)) := by
    intro o1 o2 m
    exact event_q (hH.kept (w' := ((w.alloc o1).alloc o2).drewN m) (fun b hb _ => (heap_alloc_old _ _ (by simp; omega)).trans (heap_alloc_old _ _ hb))) hxb.1 ho hxb.2.1 hxb.2.2 (by rw [hj]; rfl) (by rw [hj]; rfl)
  obtain ⟨hEl, hEall⟩ := hE
  obtain ⟨hok, ev_cv, d0, d1, d2, d3, hents⟩ := hEall j ev hev
  obtain ⟨jo, jcap, hjv⟩ := hents.form
  obtain ⟨nj, hnj⟩ : ∃ nj, nj = (entsTo ev.c 3).length := ⟨_, rfl⟩
  rw [← hnj] at hjv
  subst hjv
  have HBel : Hid (∀ (o1 o2 : Obj) m, Below w.heap.size w (((w.alloc o1).alloc o2).drewN m)) := fun o1 o2 m => below_drewN (((Below.refl _ w).alloc (Nat.le_refl _) o1).alloc (by simp) o2) m
  have HAT : Hid (∀ (o1 o2 : Obj) m, (((w.alloc o1).alloc o2).drewN m).cell? ⟨w.heap.size, 2, none⟩ = some (.slice (some ⟨g, 0, none⟩) nl ecap) → Calls Ybaf.prog 13 #[.agg #[.slice jo nj jcap], .agg #[.slice (some ⟨g, 0, none⟩) nl ecap]] (((w.alloc o1).alloc o2).drewN m) fun e w' => e = .returned (.bool false) ∧ Below (((w.alloc o1).alloc o2).drewN m).heap.size (((w.alloc o1).alloc o2).drewN m) w' ∧
      w'.cell? ⟨T, 0, none⟩ = some (.slice (some ⟨E, 0, none⟩) n cap) ∧ w'.cell? ⟨E, j * 4 + 2, none⟩ = some (.slice jo nj jcap) ∧ w'.cell? ⟨w.heap.size, 2, none⟩ = some (.slice (some ⟨g, 0, none⟩) nl ecap)) := by
    intro o1 o2 m hc2
    have := atMost_any _ _ (entsTo ev.c 3) l (((w.alloc o1).alloc o2).drewN m) (EntsAt.below hents (HBel.out o1 o2 m) (Nat.le_refl _)) (EntsAt.below HLC.out (HBel.out o1 o2 m) (Nat.le_refl _))
    rw [hat] at this
    refine this.mono fun e w' ⟨he, hb⟩ => ⟨he, hb, ?_, ?_, ?_⟩
    · rw [hb.cell (by simp; omega), (HBel.out o1 o2 m).cell (by exact zT)]; exact t0
    · rw [hb.cell (by simp; omega), (HBel.out o1 o2 m).cell (by exact hEl)]; exact d2
    · rw [hb.cell (by simp; omega)]; exact hc2
  have HENT : Hid (EntsAt w (.slice jo nj jcap) (entsTo ev.c 3)) := hents
  have HSUB : Hid _ := hat
  have H0 : Hid _ := h0
  clear hnl hl hx h0 hH hM ho hj hEall hents hnj hat hok
  go_enter Ybaf.func7, Ybaf.ntmps7
  go_wp2
  go_quiet ((go_at_call 12; exact Calls.quiet_of_same (HEV.out _ _ _)))
  go_wp2
  have j0 : (0 : Int) ≤ (j : Int) := Int.natCast_nonneg _
  have j1 : (j : Int) < (n : Int) := by omega
  go_region_held3 (fun w' => w'.cell? ⟨T, 0, none⟩ = some (.slice (some ⟨E, 0, none⟩) n cap) ∧ w'.cell? ⟨E, j * 4 + 2, none⟩ = some (.slice jo nj jcap) ∧ w'.cell? ⟨w.heap.size, 2, none⟩ = some (.slice (some ⟨g, 0, none⟩) nl ecap))
    (go_keep) (first | (go_at_call 13; refine (HAT.out _ _ _ (by simp)).mono ?_; rintro e w' ⟨rfl, hb, k0, k1, k2⟩))
  have hW : Below w.heap.size w w' := (HBel.out _ _ _).trans (hb.mono (by simp; omega))
  rw [← hW.cell (by exact hEl)] at d0
  have n0 : w'.cell? ⟨w.heap.size + 1, 0, none⟩ = some (.string (nm x.1)) := by rw [hb.cell (by simp)]; simp
  have n1 : w'.cell? ⟨w.heap.size + 1, 1, none⟩ = some (.int .u64 x.2) := by rw [hb.cell (by simp)]; simp
  have hsz := hb.size
  simp at hsz
  have z1 : w.heap.size + 1 < w'.heap.size := by omega
  have z2 : T < w'.heap.size := by omega
  have z3 : E < w'.heap.size := by omega
  obtain ⟨s, hs⟩ := call14 ((w'.alloc (.cells #[.iface 3 (.int .i64 ev.line)] 20)).drew) w'.heap.size ev.line (by simp)
  unfold fmtB at hs
  have HW : Hid _ := hW
  clear hW hb HEV HAT hlk
  go_wp2
  go_region
  go_wp2
  go_ret
  refine ⟨w'.heap.size + 1, s, rfl, ?_, ?_, ?_⟩
  · omega
  · have := heap_alloc_new (w'.alloc (.cells #[.iface 3 (.int .i64 ev.line)] 20)) (.cells #[.string (nm x.1), .int .u64 x.2, .string s] 51)
    simp only [World.size_alloc] at this
    exact this
  · have h1 : Below w.heap.size w ((w'.alloc (.cells #[.iface 3 (.int .i64 ev.line)] 20)).alloc (.cells #[.string (nm x.1), .int .u64 x.2, .string s] 51)) := (Below.alloc HW.out (by omega) _).alloc (by simp; omega) _
    exact ⟨h1.os, h1.tape, h1.output, h1.size, h1.block⟩
end Go.Proofs.YbulkacrqeaFmt
