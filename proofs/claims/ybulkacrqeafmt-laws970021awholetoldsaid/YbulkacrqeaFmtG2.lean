import Derived.Test.YbulkacrqeaFmtG1
import Derived.Deep.CutBlock
namespace Go.Proofs.YbulkacrqeaFmt
open Go.RowKit
attribute [local go_sem] Go.wp_at_zero Go.wp_at_succ

theorem EvsAt.below {w w' : World} {E : Nat} {es : List Ev} (h : EvsAt w E es) (hb : Below w.heap.size w w') : EvsAt w' E es := by
  obtain ⟨h0, hall⟩ := h
  refine ⟨Nat.lt_of_lt_of_le h0 hb.size, fun i e he => ?_⟩
  obtain ⟨hok, cv, c0, c1, c2, c3, hent⟩ := hall i e he
  refine ⟨hok, cv, ?_, ?_, ?_, ?_, EntsAt.below hent hb (Nat.le_refl _)⟩
  all_goals (rw [hb.cell (by exact h0)]; assumption)

/-- what newTraceCheck has laid, with what the law puts into its fields -/
structure Bun (w4 w' : World) (E n T mb sb : Nat) (kv vv : Value) (es : List Ev) (pl : Nat → Option Place) : Prop where
  t : w'.heap[T]? = some (.cells #[.slice (some ⟨E, 0, none⟩) n n, .map (some mb), .slice (some ⟨sb, 0, none⟩) n n, kv, vv] 41 (0, 0))
  hm : HMap w' mb n (fun t => (pl t).map (·.p))
  ho : Hosts w' pl (fun t => histTo es t n) (Rv w4 T mb sb)
  be : Below w4.heap.size w4 w'
  bT : w4.heap.size ≤ T

theorem Mid.bun {w4 w5 : World} {E n T mb sb : Nat} {kv : Value} {es : List Ev} {pl : Nat → Option Place} (M : Mid w4 w5 E n n T mb sb kv es n n n 0 pl) (hT : w4.heap.size ≤ T) : Bun w4 w5 E n T mb sb kv (.slice none 0 0) es pl :=
  ⟨M.t, M.hm, M.ho, M.be, hT⟩

theorem Bun.grown {w4 w' w'' : World} {E n T mb sb : Nat} {kv vv : Value} {es : List Ev} {pl : Nat → Option Place} (B : Bun w4 w' E n T mb sb kv vv es pl) (hb : Below w'.heap.size w' w'') : Bun w4 w'' E n T mb sb kv vv es pl := by
  have hm := B.hm.block
  obtain ⟨e1, cl, hm⟩ := hm
  exact ⟨by rw [hb.block T (lt_of_block B.t)]; exact B.t, B.hm.kept (hb.block mb (lt_of_block hm)), B.ho.kept (fun b hb' _ => hb.block b hb'), B.be.trans (hb.mono B.be.size), B.bT⟩

theorem Bun.put3 {w4 w' : World} {E n T mb sb : Nat} {kv vv : Value} {es : List Ev} {pl : Nat → Option Place} (B : Bun w4 w' E n T mb sb kv vv es pl) (v : Value) : Bun w4 (w'.setCell ⟨T, 3, none⟩ v) E n T mb sb v vv es pl := by
  obtain ⟨e1, cl, hm⟩ := B.hm.block
  have hmT : mb ≠ T := by rintro rfl; rw [B.t] at hm; simp at hm
  exact ⟨setCell_block B.t v, B.hm.kept (Below.heap_setCell _ _ _ _ hmT), B.ho.kept (fun b _ hn => Below.heap_setCell _ _ _ _ (fun e => hn (by simp [Rv] at *; simp [e]))), B.be.setCell B.bT _, B.bT⟩
theorem Bun.put4 {w4 w' : World} {E n T mb sb : Nat} {kv vv : Value} {es : List Ev} {pl : Nat → Option Place} (B : Bun w4 w' E n T mb sb kv vv es pl) (v : Value) : Bun w4 (w'.setCell ⟨T, 4, none⟩ v) E n T mb sb kv v es pl := by
  obtain ⟨e1, cl, hm⟩ := B.hm.block
  have hmT : mb ≠ T := by rintro rfl; rw [B.t] at hm; simp at hm
  exact ⟨setCell_block B.t v, B.hm.kept (Below.heap_setCell _ _ _ _ hmT), B.ho.kept (fun b _ hn => Below.heap_setCell _ _ _ _ (fun e => hn (by simp [Rv] at *; simp [e]))), B.be.setCell B.bT _, B.bT⟩

theorem tc_free {w : World} {T : Nat} {cs : Array Value} (h : w.heap[T]? = some (.cells cs 41 (0, 0))) (j : Nat) : w.frozen? ⟨T, j, none⟩ = false := by simp [World.frozen?, h]

theorem bools_made {w : World} {n : Nat} (src : List Bool) (hn : n ≤ 65536) : BoolsAt (w.alloc (.cells (madeCells #[.bool false] n) 4)) w.heap.size n (fillTo src n 0) := by
  refine BoolsAt.mk (heap_alloc_new _ _) (size_madeCells _ _) (by simp [fillTo]) (by unfold maxLen; omega) ?_
  apply List.ext_getElem?
  intro i
  by_cases hi : i < n
  · rw [List.getElem?_take_of_lt (by simpa [fillTo] using hi), Array.getElem?_toList, madeCells_get _ _ _ hi, bcells, List.getElem?_map, fillTo, List.getElem?_replicate, if_pos hi]; rfl
  · rw [List.getElem?_eq_none (by simp [fillTo, size_madeCells]; omega), List.getElem?_eq_none (by simp [bcells, fillTo]; omega)]

theorem equal_same (g cap g' cap' n : Nat) (bs : List Bool) (hbn : bs.length = n) (hn : n ≤ 65536) (w : World) (hb : BoolsAt w g cap bs) (hc : BoolsAt w g' cap' bs) :
    Calls Ybaf.prog 8 #[.slice (some ⟨g, 0, none⟩) n cap, .slice (some ⟨g', 0, none⟩) n cap'] w fun e w' => e = .returned (.bool true) ∧ ∃ k, w' = w.drewN k := by
  subst hbn
  have := equal_any g cap g' cap' bs bs hn w hb hc
  simpa using this

theorem run_assert (o : Option Addr) (w : World) : (Instr.typeAssert (.iface 47 (.pointer o)) 44 47 true).run Ybaf.prog w = .ok (.tuple #[.pointer o, .bool true]) w := by kernel_rfl

theorem quiet_shift {f : FuncId} {args : Array Value} {w : World} {v : Value} {k1 m : Nat} (h : Calls Ybaf.prog f args (w.drewN (k1 + m)) fun e w' => e = .returned v ∧ ∃ k, w' = (w.drewN (k1 + m)).drewN k) : Calls Ybaf.prog f args (w.drewN (k1 + m)) fun e w' => e = .returned v ∧ ∃ k, w' = w.drewN (k1 + k) :=
  h.mono fun _ _ ⟨he, k, hk⟩ => ⟨he, m + k, by rw [hk, World.drewN_drewN, Nat.add_assoc]⟩

theorem run_nil_err (w : World) : (binOp .neq 44 .nilIface .nilIface).run Ybaf.prog w = .ok (.bool false) w := by kernel_rfl

theorem err_cells {w : World} {b : Nat} {x0 x1 x2 : Value} (h : w.heap[b]? = some (.cells #[x0, x1, x2] 51 (0, 0))) : w.cell? ⟨b, 0, none⟩ = some x0 ∧ w.cell? ⟨b, 1, none⟩ = some x1 ∧ w.cell? ⟨b, 2, none⟩ = some x2 := by
  refine ⟨?_, ?_, ?_⟩ <;> (rw [cell_of_row w _ _ _ _ _ h]; rfl)

set_option maxRecDepth 20000 in
set_option maxHeartbeats 8000000 in
theorem law_main (ao ko po : Option Addr) (n acap nk kcap np pcap : Nat) (rs : List Raw) (ks ps : List Bool) (ec : Nat → Int) (k : Int) (w : World) (hn : rs.length = n) (hnk : ks.length = nk) (hnp : ps.length = np) (h1 : n ≤ 65536) (h2 : nk ≤ 65536) (h3 : np ≤ 65536)
    (hA : RawAt w ao rs) (hK : BoolArg w ko ks) (hP : BoolArg w po ps) (hec : ∀ x, x < 3 → 0 ≤ ec x ∧ ec x ≤ 255) (hk0 : 0 ≤ k) (hk1 : k ≤ 18446744073709551615) :
    Calls Ybaf.prog 3 #[.slice ao n acap, .slice ko nk kcap, .slice po np pcap, .agg #[.int .u8 (ec 0), .int .u8 (ec 1), .int .u8 (ec 2)], .int .u64 k] w fun e w' => e = .returned (.bool true) ∧ Below w.heap.size w w' := by
  have hmk := run_mk27 n h1
  go_enter Ybaf.func3, Ybaf.ntmps3
  go_wp2
  go_loopw [62] (fun vi wr => ∃ i : Nat, i ≤ n ∧ vi = .int .i64 i ∧ Heads w wr ec ∧ EvsTo wr (w.heap.size + 1 + 1) n (rs.map Raw.ev) i) (fun vi _ => n - (intOf vi).toNat)
  case atStart =>
    exact ⟨0, Nat.zero_le _, rfl, ⟨(three_alloc w _ _ _).1, (three_alloc w _ _ _).2.1, (((Below.refl _ _).alloc (Nat.le_refl _) _).alloc (by simp) _).alloc (by simp; omega) _⟩, EvsTo.made (three_alloc w _ _ _).2.2⟩
  case round =>
    obtain ⟨i, hi, rfl, hH, hE⟩ := hrel
    by_cases hin : i < n
    · obtain ⟨r, hr⟩ : ∃ r, rs[i]? = some r := ⟨_, List.getElem?_eq_getElem (by omega)⟩
      obtain ⟨hrok, b, off, rfl, hb, a0, a1, a2, a3, a4⟩ := hA i r hr
      have hBel := hH.2.2
      rw [← hBel.cell (by exact hb)] at a0 a1 a2 a3 a4
      have hsz := hBel.size
      have hbr : b < wr.heap.size := by omega
      have hwz : w.heap.size + 1 < wr.heap.size := lt_of_block hH.2.1
      have hwE : w.heap.size + 1 + 1 < wr.heap.size := by obtain ⟨_, h, _⟩ := hE; exact lt_of_block h
      obtain ⟨hr0, hr1, hr2⟩ := hrok
      obtain ⟨hm, hhm⟩ : ∃ hm : Nat, r.hb % 3 = (hm : Int) := ⟨(r.hb % 3).toNat, by omega⟩
      have hm3 : hm < 3 := by omega
      have hnm := nm_cell hH.2.1 hm3
      have m0 : (0 : Int) ≤ (hm : Int) := Int.natCast_nonneg _
      have m1 : (hm : Int) < (3 : Int) := by omega
      have m2 : r.hb.tmod 3 = (hm : Int) := by rw [Int.tmod_eq_emod_of_nonneg (by omega)]; exact hhm
      have m3 : IntKind.u8.wrap (hm : Int) = (hm : Int) := by rw [IntKind.wrap_u8]; omega
      have i0 : (0 : Int) ≤ (i : Int) := Int.natCast_nonneg _
      have i1 : (i : Int) < (n : Int) := by omega
      have HH : Hid (Heads w wr ec) := hH
      have HE : Hid (EvsTo wr (w.heap.size + 1 + 1) n (rs.map Raw.ev) i) := hE
      obtain ⟨cur, hcur, hcsz, -, -⟩ := hE
      obtain ⟨q0, hq0⟩ : ∃ q, wr.cell? ⟨w.heap.size + 1 + 1, i * 4, none⟩ = some q := ⟨_, by rw [cell_of_row wr _ _ _ _ _ hcur]; exact Array.getElem?_eq_getElem (by omega)⟩
      obtain ⟨q1, hq1⟩ : ∃ q, wr.cell? ⟨w.heap.size + 1 + 1, i * 4 + 1, none⟩ = some q := ⟨_, by rw [cell_of_row wr _ _ _ _ _ hcur]; exact Array.getElem?_eq_getElem (by omega)⟩
      obtain ⟨q2, hq2⟩ : ∃ q, wr.cell? ⟨w.heap.size + 1 + 1, i * 4 + 2, none⟩ = some q := ⟨_, by rw [cell_of_row wr _ _ _ _ _ hcur]; exact Array.getElem?_eq_getElem (by omega)⟩
      obtain ⟨q3, hq3⟩ : ∃ q, wr.cell? ⟨w.heap.size + 1 + 1, i * 4 + 3, none⟩ = some q := ⟨_, by rw [cell_of_row wr _ _ _ _ _ hcur]; exact Array.getElem?_eq_getElem (by omega)⟩
      have hfz : ∀ j, wr.frozen? ⟨w.heap.size + 1 + 1, j, none⟩ = false := fun j => by simp [World.frozen?, hcur]
      have HCL : Hid (∀ m, Calls Ybaf.prog 4 #[.agg #[.int .u8 (r.c 0), .int .u8 (r.c 1), .int .u8 (r.c 2)]] ((wr.alloc (.cells #[.int .u8 r.hb, .int .i64 r.line, .int .u8 (r.c 0), .int .u8 (r.c 1), .int .u8 (r.c 2)] 29)).drewN m) fun e w' => ∃ vo vn vc, e = .returned (.agg #[.slice vo vn vc]) ∧ EntsAt w' (.slice vo vn vc) (entsTo r.c 3) ∧ Below (wr.heap.size + 1) (wr.alloc (.cells #[.int .u8 r.hb, .int .i64 r.line, .int .u8 (r.c 0), .int .u8 (r.c 1), .int .u8 (r.c 2)] 29)) w' ∧ (w'.cell? ⟨wr.heap.size, 0, none⟩ = some (.int .u8 r.hb) ∧ w'.cell? ⟨wr.heap.size, 1, none⟩ = some (.int .i64 r.line) ∧ w'.cell? ⟨wr.heap.size, 2, none⟩ = some (.int .u8 (r.c 0)) ∧ w'.cell? ⟨wr.heap.size, 2 + 1, none⟩ = some (.int .u8 (r.c 1)) ∧ w'.cell? ⟨wr.heap.size, 2 + 2, none⟩ = some (.int .u8 (r.c 2)) ∧ w'.cell? ⟨w.heap.size + 1, hm, none⟩ = some (.string (nm hm)) ∧ w'.cell? ⟨w.heap.size + 1 + 1, i * 4, none⟩ = some q0 ∧ w'.cell? ⟨w.heap.size + 1 + 1, i * 4 + 1, none⟩ = some q1 ∧ w'.cell? ⟨w.heap.size + 1 + 1, i * 4 + 2, none⟩ = some q2 ∧ w'.cell? ⟨w.heap.size + 1 + 1, i * 4 + 3, none⟩ = some q3 ∧ w'.frozen? ⟨w.heap.size + 1 + 1, i * 4, none⟩ = false ∧ w'.frozen? ⟨w.heap.size + 1 + 1, i * 4 + 1, none⟩ = false ∧ w'.frozen? ⟨w.heap.size + 1 + 1, i * 4 + 2, none⟩ = false ∧ w'.frozen? ⟨w.heap.size + 1 + 1, i * 4 + 3, none⟩ = false)) := by
        intro m
        refine (clock_any r.c hr2 _).mono ?_
        rintro e w' ⟨v, rfl, h1, h2⟩
        obtain ⟨vo, vc, rfl⟩ := h1.form
        have h3 : Below (wr.heap.size + 1) (wr.alloc (.cells #[.int .u8 r.hb, .int .i64 r.line, .int .u8 (r.c 0), .int .u8 (r.c 1), .int .u8 (r.c 2)] 29)) w' := ⟨h2.os, h2.tape, h2.output, h2.size, fun k hk => h2.block k (by simpa using hk)⟩
        have hf3 : ∀ j, w'.frozen? ⟨w.heap.size + 1 + 1, j, none⟩ = false := by
          intro j
          rw [h3.frozen (by simp; omega)]
          have hb4 := (Below.refl wr.heap.size wr).alloc (Nat.le_refl _) (.cells #[.int .u8 r.hb, .int .i64 r.line, .int .u8 (r.c 0), .int .u8 (r.c 1), .int .u8 (r.c 2)] 29)
          rw [hb4.frozen (by exact hwE)]; exact hfz j
        refine ⟨vo, _, vc, rfl, h1, h3, ?_, ?_, ?_, ?_, ?_, ?_, ?_, ?_, ?_, ?_, hf3 _, hf3 _, hf3 _, hf3 _⟩
        · rw [h3.cell (by simp)]; simp
        · rw [h3.cell (by simp)]; simp
        · rw [h3.cell (by simp)]; simp
        · rw [h3.cell (by simp)]; simp
        · rw [h3.cell (by simp)]; simp
        · rw [h3.cell (by simp; omega), cell_later ((Below.refl _ wr).alloc (Nat.le_refl _) _) hnm]
        · rw [h3.cell (by simp; omega), cell_later ((Below.refl _ wr).alloc (Nat.le_refl _) _) hq0]
        · rw [h3.cell (by simp; omega), cell_later ((Below.refl _ wr).alloc (Nat.le_refl _) _) hq1]
        · rw [h3.cell (by simp; omega), cell_later ((Below.refl _ wr).alloc (Nat.le_refl _) _) hq2]
        · rw [h3.cell (by simp; omega), cell_later ((Below.refl _ wr).alloc (Nat.le_refl _) _) hq3]
      have hfz2 : ∀ j (o : Obj), (wr.alloc o).frozen? ⟨w.heap.size + 1 + 1, j, none⟩ = false := fun j o => by rw [((Below.refl wr.heap.size wr).alloc (Nat.le_refl _) o).frozen (by exact hwE)]; exact hfz j
      have f0 := hfz2 (i * 4)
      have f1 := hfz2 (i * 4 + 1)
      have f2 := hfz2 (i * 4 + 2)
      have f3 := hfz2 (i * 4 + 3)
      have HR : Hid (rs[i]? = some r) := hr
      clear hH hA hK hP hcur hcsz hfz hfz2 hr
      go_wp2
      have ne1 : wr.heap.size ≠ w.heap.size + 1 + 1 := by omega
      have ne2 : w.heap.size + 1 + 1 ≠ wr.heap.size := by omega
      go_region_held3 (fun w' => w'.cell? ⟨wr.heap.size, 0, none⟩ = some (.int .u8 r.hb) ∧ w'.cell? ⟨wr.heap.size, 1, none⟩ = some (.int .i64 r.line) ∧ w'.cell? ⟨wr.heap.size, 2, none⟩ = some (.int .u8 (r.c 0)) ∧ w'.cell? ⟨wr.heap.size, 2 + 1, none⟩ = some (.int .u8 (r.c 1)) ∧ w'.cell? ⟨wr.heap.size, 2 + 2, none⟩ = some (.int .u8 (r.c 2)) ∧ w'.cell? ⟨w.heap.size + 1, hm, none⟩ = some (.string (nm hm))) (go_keep) (first | (go_at_call 4; refine (HCL.out _).mono ?_; rintro e w' ⟨vo, vn, vc, rfl, he, hb4, k0, k1, k2, k3, k4, k5, k6, k7, k8, k9, k10, k11, k12, k13⟩))
      go_wp2
      go_roundw
      case rel =>
        have hb5 : Below wr.heap.size wr w' := ((Below.refl _ wr).alloc (Nat.le_refl _) _).trans (hb4.mono (by omega))
        have hev : (rs.map Raw.ev)[i]? = some r.ev := by rw [List.getElem?_map, HR.out]; rfl
        have hm' : r.ev.host = hm := by show (r.hb % 3).toNat = hm; omega
        have hok : r.ev.ok := ⟨by omega, hr2⟩
        have hst := EvsTo.step (v := .slice vo vn vc) HE.out hb5 hin hev hok he
        rw [hm'] at hst
        exact ⟨i + 1, by omega, by go_num, Heads.step HH.out hb5, hst⟩
      case measure => simp [intOf]; omega
    · obtain rfl : n = i := by omega
      have hes : EvsAt wr (w.heap.size + 1 + 1) (rs.map Raw.ev) := hE.all (by simpa using hn)
      obtain ⟨hh0, hh1, hB1⟩ := hH
      have e0 := ec_cell hh0 (show 0 < 3 by omega)
      have e1 := ec_cell hh0 (show 1 < 3 by omega)
      have e2 := ec_cell hh0 (show 2 < 3 by omega)
      have HES : Hid (EvsAt wr (w.heap.size + 1 + 1) (rs.map Raw.ev)) := hes
      clear hE hes hmk
      go_wp2_with fail
      refine (clock_any ec hec _).mono ?_
      rintro e w2 ⟨v, rfl, hl2, hb2⟩
      obtain ⟨vo, vc, rfl⟩ := hl2.form
      obtain ⟨nl, hnl⟩ : ∃ nl, nl = (entsTo ec 3).length := ⟨_, rfl⟩
      rw [← hnl] at hl2 ⊢
      have hn3 : nl ≤ 3 := by rw [hnl]; exact entsTo_len ec 3
      have HNL : Hid (nl = (entsTo ec 3).length) := hnl
      have HL2 : Hid (EntsAt w2 (.slice vo nl vc) (entsTo ec 3)) := hl2
      clear hnl hl2
      have hB2 : Below w.heap.size w w2 := hB1.trans (hb2.mono hB1.size)
      have hz2 : w.heap.size + 1 + 1 < w2.heap.size := by have h9 := HES.out.1; have := hb2.size; omega
      by_cases hz : nl = 0
      · subst hz
        go_wp2
        go_ret
        exact ⟨rfl, hB2.alloc hB2.size _⟩
      · obtain ⟨kk, hkk⟩ : ∃ kk : Nat, k % (nl : Int) = (kk : Int) := ⟨(k % (nl : Int)).toNat, by have := Int.emod_nonneg k (show (nl : Int) ≠ 0 by omega); omega⟩
        have hkl : kk < nl := by have := Int.emod_lt_of_pos k (show (0 : Int) < (nl : Int) by omega); omega
        have hnz : ((nl : Int) == 0) = false := by simp; omega
        have hz' : 0 < nl := by omega
        clear hz
        go_wp2
        obtain ⟨w3, hw3⟩ : ∃ w3, w3 = w2.alloc (.cells #[.slice vo nl vc] 32) := ⟨_, rfl⟩
        obtain ⟨C, hC⟩ : ∃ C, C = w2.heap.size := ⟨_, rfl⟩
        rw [← hw3, ← hC]
        have hb3 : Below w2.heap.size w2 w3 := by rw [hw3]; exact (Below.refl _ _).alloc (Nat.le_refl _) _
        have hB3 : Below wr.heap.size wr w3 := hb2.trans (hb3.mono hb2.size)
        have HH3 : Hid (Heads w w3 ec) := ⟨by rw [hB3.block _ (lt_of_block hh0)]; exact hh0, by rw [hB3.block _ (lt_of_block hh1)]; exact hh1, hB2.trans (hb3.mono hB2.size)⟩
        have hcl : w3.heap[C]? = some (.cells #[.slice vo nl vc] 32 (0, 0)) := by rw [hw3, hC]; exact heap_alloc_new _ _
        have HES3 : Hid (EvsAt w3 (w.heap.size + 1 + 1) (rs.map Raw.ev)) := HES.out.below hB3
        have HL3 : Hid (EntsAt w3 (.slice vo nl vc) (entsTo ec 3)) := EntsAt.below HL2.out hb3 (Nat.le_refl _)
        have hCw : w.heap.size + 1 + 1 < C := by rw [hC]; exact hz2
        clear hkk hnz hw3 hC hb3 hB3 hh0 hh1 hB1 hB2 hb2 HES HL2 e0 e1 e2 hz2
        go_loop [18, 19, 20] (fun va vp vx => ∃ x : Nat, x ≤ 3 ∧ vx = .int .i64 x ∧ vp = .int .i64 (entsTo ec x).length ∧ va = .int .i64 (actorTo ec kk x)) (fun _ _ vx => 3 - (intOf vx).toNat)
        case atStart => exact ⟨0, by omega, rfl, rfl, rfl⟩
        case round =>
          obtain ⟨x, hx, rfl, rfl, rfl⟩ := hrel
          by_cases hx3 : x < 3
          ·
            have cx := ec_cell HH3.out.1 hx3
            have hel := entsTo_len ec x
            have x0 : (0 : Int) ≤ (x : Int) := Int.natCast_nonneg _
            by_cases hz : ec x = 0
            · have HS : Hid (entsTo ec (x + 1) = entsTo ec x) := ents_succ_zero ec hz
              have HA : Hid (actorTo ec kk (x + 1) = actorTo ec kk x) := by show (if _ then _ else _) = _; rw [if_neg (by simp [hz])]
              go_wp2
              go_round
              case rel => exact ⟨x + 1, by omega, by go_num, by rw [HS.out], by rw [HA.out]⟩
              case measure => simp [intOf]; omega
            · have HS : Hid ((entsTo ec (x + 1)).length = (entsTo ec x).length + 1) := by rw [ents_succ ec hz]; simp [Hid]
              have hne : (ec x == 0) = false := by simpa using hz
              by_cases hp : (entsTo ec x).length = kk
              · have HA : Hid (actorTo ec kk (x + 1) = x) := by show (if _ then _ else _) = _; rw [if_pos ⟨hz, hp⟩]
                have hpe : ((entsTo ec x).length : Int) == (kk : Int) := by simp [hp]
                have HP : Hid _ := hp
                clear hp hz
                go_wp2
                go_round
                case rel => exact ⟨x + 1, by omega, by go_num, by rw [HS.out]; go_num, by rw [HA.out]⟩
                case measure => simp [intOf]; omega
              · have HA : Hid (actorTo ec kk (x + 1) = actorTo ec kk x) := by show (if _ then _ else _) = _; rw [if_neg (by simp [hp])]
                have hpe : (((entsTo ec x).length : Int) == (kk : Int)) = false := by simp; omega
                clear hp hz
                go_wp2
                go_round
                case rel => exact ⟨x + 1, by omega, by go_num, by rw [HS.out]; go_num, by rw [HA.out]⟩
                case measure => simp [intOf]; omega
          · have HX3 : Hid (x = 3) := by show x = 3; omega
            obtain ⟨a, hya, ha3, hca0, hca1⟩ : ∃ a, (entsTo ec 3)[kk]? = some (a, ec a) ∧ a < 3 ∧ 1 ≤ ec a ∧ ec a ≤ 255 ∧ actorTo ec kk x = a := by
              obtain ⟨y, hy⟩ : ∃ y, (entsTo ec 3)[kk]? = some y := ⟨_, List.getElem?_eq_getElem (by have := HNL.out; omega)⟩
              obtain ⟨q1, q2⟩ := actorTo_at ec hy
              have q3 := entsTo_lt ec 3 y (List.mem_of_getElem? hy)
              have q4 := hec y.1 q3.1
              exact ⟨y.1, by rw [hy, q2], q3.1, by omega, by omega, by rw [HX3.out]; exact q1⟩
            obtain ⟨hca1, ha⟩ := hca1
            rw [ha]
            have HYA : Hid ((entsTo ec 3)[kk]? = some (a, ec a)) := hya
            clear ha hya
            have ca := ec_cell HH3.out.1 ha3
            have a0 : (0 : Int) ≤ (a : Int) := Int.natCast_nonneg _
            have a1 : (a : Int) < 3 := by omega
            go_upto_block 4 with fail
            go_cut [22, 23, 24] from 113 to 133 (fun vj _ _ wc => vj = .int .i64 (((firstTo (rs.map Raw.ev) a (ec a) n).map (fun j => (j : Int))).getD (-1)) ∧ Below w3.heap.size w3 wc)
            case first =>
              go_wp2_with fail
              go_loopw [22, 113] (fun vj vi wr => ∃ i : Nat, i ≤ n ∧ vi = .int .i64 i ∧ vj = .int .i64 (-1) ∧ firstTo (rs.map Raw.ev) a (ec a) i = none ∧ Below w3.heap.size w3 wr) (fun _ vi _ => n - (intOf vi).toNat)
              case atStart => exact ⟨0, Nat.zero_le _, rfl, rfl, rfl, Below.refl _ _⟩
              case round =>
                obtain ⟨i, hi, rfl, rfl, hf, hb⟩ := hrel
                by_cases hin : i < n
                · obtain ⟨r, hr⟩ : ∃ r, rs[i]? = some r := ⟨_, List.getElem?_eq_getElem (by omega)⟩
                  obtain ⟨hrok, b, off, rfl, hbb, b0, b1, b2, b3, b4⟩ := hA i r hr
                  have hBr : Below w.heap.size w wr := HH3.out.2.2.trans (hb.mono HH3.out.2.2.size)
                  rw [← hBr.cell (by exact hbb)] at b0 b1 b2 b3 b4
                  obtain ⟨hr0, hr1, hr2⟩ := hrok
                  obtain ⟨hm, hhm⟩ : ∃ hm : Nat, r.hb % 3 = (hm : Int) := ⟨(r.hb % 3).toNat, by omega⟩
                  have hevi : (rs.map Raw.ev)[i]? = some r.ev := by rw [List.getElem?_map, hr]; rfl
                  have hmm : r.ev.host = hm := by show (r.hb % 3).toNat = hm; omega
                  have hra := hr2 a ha3
                  have hcC : (wr.alloc (.cells #[.int .u8 r.hb, .int .i64 r.line, .int .u8 (r.c 0), .int .u8 (r.c 1), .int .u8 (r.c 2)] 29)).cell? ⟨wr.heap.size, 2 + a, none⟩ = some (.int .u8 (r.c a)) := by
                    rw [cell_of_row _ _ _ _ _ _ (heap_alloc_new wr _)]
                    match a, ha3 with
                    | 0, _ => rfl
                    | 1, _ => rfl
                    | 2, _ => rfl
                  have HB : Hid (Below w3.heap.size w3 wr) := hb
                  have HF : Hid (firstTo (rs.map Raw.ev) a (ec a) i = none) := hf
                  have hnx : firstTo (rs.map Raw.ev) a (ec a) (i + 1) = if r.ev.host = a ∧ r.ev.c a = ec a then some i else none := by
                    conv => lhs; unfold firstTo
                    rw [hf, hevi]; rfl
                  have HNX : Hid _ := hnx
                  clear hb hf hnx hA hK hP hBr hevi hr
                  by_cases hma : hm = a
                  · subst hma
                    by_cases hcc : r.c hm = ec hm
                    · have HFF : Hid (firstTo (rs.map Raw.ev) hm (ec hm) n = some i) := firstTo_mono (by rw [HNX.out, if_pos ⟨hmm, hcc⟩]) n (by omega)
                      have hce : (r.c hm == ec hm) = true := by simpa using hcc
                      clear hcc hmm
                      go_wp2_with fail
                      go_meet
                      rw [HFF.out]
                      exact ⟨rfl, Below.alloc HB.out (Below.size HB.out) _⟩
                    · have hce : (r.c hm == ec hm) = false := by simpa using hcc
                      have HFF : Hid (firstTo (rs.map Raw.ev) hm (ec hm) (i + 1) = none) := by rw [HNX.out, if_neg (fun h => hcc h.2)]; rfl
                      clear hcc hmm
                      go_wp2
                      go_roundw
                      case rel => exact ⟨i + 1, by omega, by go_num, rfl, HFF.out, Below.alloc HB.out (Below.size HB.out) _⟩
                      case measure => simp [intOf]; omega
                  · have hce : ((hm : Int) == (a : Int)) = false := by simp; omega
                    have HFF : Hid (firstTo (rs.map Raw.ev) a (ec a) (i + 1) = none) := by rw [HNX.out, if_neg (fun h => hma (by rw [← hmm]; exact h.1))]; rfl
                    clear hmm hma
                    go_wp2
                    go_roundw
                    case rel => exact ⟨i + 1, by omega, by go_num, rfl, HFF.out, Below.alloc HB.out (Below.size HB.out) _⟩
                    case measure => simp [intOf]; omega
                · obtain rfl : n = i := by omega
                  have HB : Hid (Below w3.heap.size w3 wr) := hb
                  have HF : Hid (firstTo (rs.map Raw.ev) a (ec a) n = none) := hf
                  clear hb hf
                  go_wp2_with fail
                  go_meet
                  rw [HF.out]
                  exact ⟨rfl, HB.out⟩
            case rest =>
              obtain ⟨rfl, hb4⟩ := hcut
              obtain ⟨jv, hjv⟩ : ∃ jv, jv = ((firstTo (rs.map Raw.ev) a (ec a) n).map (fun j => (j : Int))).getD (-1) := ⟨_, rfl⟩
              rw [← hjv]
              have HJ : Hid (jv = ((firstTo (rs.map Raw.ev) a (ec a) n).map (fun j => (j : Int))).getD (-1)) := hjv
              have HH4 : Hid (Heads w wc ec) := by
                obtain ⟨q1, q2, q3⟩ := HH3.out
                exact ⟨by rw [hb4.block _ (lt_of_block q1)]; exact q1, by rw [hb4.block _ (lt_of_block q2)]; exact q2, q3.trans (hb4.mono q3.size)⟩
              have hcl4 : wc.heap[C]? = some (.cells #[.slice vo nl vc] 32 (0, 0)) := by rw [hb4.block _ (lt_of_block hcl)]; exact hcl
              have HES4 : Hid (EvsAt wc (w.heap.size + 1 + 1) (rs.map Raw.ev)) := HES3.out.below hb4
              have HL4 : Hid (EntsAt wc (.slice vo nl vc) (entsTo ec 3)) := EntsAt.below HL3.out hb4 (Nat.le_refl _)
              obtain ⟨w4, hw4⟩ : ∃ w4, w4 = wc := ⟨_, rfl⟩
              rw [← hw4] at HH4 hcl4 HES4 HL4
              rw [← hw4]
              clear hw4 hb4 HH3 hcl HES3 HL3 hjv ca
              go_wp2_with fail
              refine (newTrace_any (w.heap.size + 1 + 1) n n (rs.map Raw.ev) (by simpa using hn) h1 (Nat.le_refl _) _ HES4.out).mono ?_
              rintro e w5 ⟨T, mb, sb, kv, pl, rfl, hT4, hm4, hs4, M5⟩
              have HB5 : Hid (Bun w4 w5 (w.heap.size + 1 + 1) n T mb sb kv (.slice none 0 0) (rs.map Raw.ev) pl) := M5.bun hT4
              have hmk2 := run_mk23 n h1
              have hmk3 := run_mk23 nl (by omega)
              have hW5 : Below w.heap.size w w5 := HH4.out.2.2.trans (HB5.out.be.mono HH4.out.2.2.size)
              clear M5
              go_wp2
              obtain ⟨K, hKe⟩ : ∃ K, K = w5.heap.size := ⟨_, rfl⟩
              rw [← hKe]
              have HKE : Hid (K = w5.heap.size) := hKe
              clear hKe hmk2
              go_loopw [27, 141] (fun _ vi wr => ∃ i : Nat, i ≤ n ∧ vi = .int .i64 i ∧ BoolsAt wr K n (fillTo ks n i) ∧ Below w5.heap.size w5 wr) (fun _ vi _ => n - (intOf vi).toNat)
              case atStart => exact ⟨0, Nat.zero_le _, rfl, by rw [HKE.out]; exact bools_made ks h1, (Below.refl _ _).alloc (Nat.le_refl _) _⟩
              case round =>
                obtain ⟨i, hi, rfl, hbo, hbl⟩ := hrel
                by_cases hin : i < n
                ·
                  have hsrc : fillTo ks n (i + 1) = (fillTo ks n i).set i (ks.getD i false) := rfl
                  obtain ⟨q, hq⟩ : ∃ q, (fillTo ks n i)[i]? = some q := ⟨_, List.getElem?_eq_getElem (by rw [fillTo_length]; exact hin)⟩
                  have cK := hbo.cell hq
                  have fK := hbo.frozen i
                  have HBO : Hid (BoolsAt wr K n (fillTo ks n i)) := hbo
                  have HBL : Hid (Below w5.heap.size w5 wr) := hbl
                  have HSR : Hid _ := hsrc
                  by_cases hik : i < nk
                  · obtain ⟨b, hb⟩ : ∃ b, ks[i]? = some b := ⟨_, List.getElem?_eq_getElem (by omega)⟩
                    obtain ⟨g, off, rfl, hg, cb⟩ := hK i b hb
                    rw [← (hW5.trans (hbl.mono hW5.size)).cell (by exact hg)] at cb
                    have HGB : Hid (ks.getD i false = b) := by show ks.getD i false = b; simp [List.getD, hb]
                    clear hbo hbl hsrc hq hb hK hP hA
                    go_wp2
                    go_roundw
                    case rel => exact ⟨i + 1, by omega, by go_num, by rw [HSR.out, HGB.out]; exact BoolsAt.set HBO.out i b, Below.setCell HBL.out (by rw [← HKE.out]; exact Nat.le_refl _) _⟩
                    case measure => simp [intOf]; omega
                  · have HGB : Hid (ks.getD i false = false) := by show ks.getD i false = false; simp [List.getD, List.getElem?_eq_none (show ks.length ≤ i by omega)]
                    clear hbo hbl hsrc hq hK hP hA
                    go_wp2
                    go_roundw
                    case rel => exact ⟨i + 1, by omega, by go_num, by rw [HSR.out, HGB.out]; exact BoolsAt.set HBO.out i false, Below.setCell HBL.out (by rw [← HKE.out]; exact Nat.le_refl _) _⟩
                    case measure => simp [intOf]; omega
                · obtain rfl : n = i := by omega
                  have B6 := HB5.out.grown hbl
                  have cT3 := (tc_cells B6.t).2.2.2.1
                  have fT3 := tc_free B6.t 3
                  have HB6 : Hid (Bun w4 wr (w.heap.size + 1 + 1) n T mb sb kv (.slice none 0 0) (rs.map Raw.ev) pl) := B6
                  have HK6 : Hid (BoolsAt wr K n (fillTo ks n n)) := hbo
                  have hTK : K ≠ T := by
                    rintro rfl
                    obtain ⟨cur, hh, _⟩ := hbo.block
                    rw [B6.t] at hh; simp at hh
                  have hW6 : Below w.heap.size w wr := hW5.trans (hbl.mono hW5.size)
                  have HK5 : Hid (w4.heap.size ≤ K) := by rw [HKE.out]; exact HB5.out.be.size
                  clear B6 hbo hbl HB5 hW5 HKE hK
                  go_wp2
                  obtain ⟨w6, hw6⟩ : ∃ w6, w6 = wr.setCell ⟨T, 3, none⟩ (.slice (some ⟨K, 0, none⟩) n n) := ⟨_, rfl⟩
                  obtain ⟨V, hVe⟩ : ∃ V, V = wr.heap.size := ⟨_, rfl⟩
                  have hs6 : w6.heap.size = V := by rw [hw6, hVe]; simp [World.setCell]
                  rw [← hw6, ← hVe]
                  have HB7 : Hid (Bun w4 w6 (w.heap.size + 1 + 1) n T mb sb (.slice (some ⟨K, 0, none⟩) n n) (.slice none 0 0) (rs.map Raw.ev) pl) := by rw [hw6]; exact HB6.out.put3 _
                  have HK7 : Hid (BoolsAt w6 K n (fillTo ks n n)) := by rw [hw6]; exact HK6.out.kept (Below.heap_setCell _ _ _ _ hTK)
                  have hW7 : Below w.heap.size w w6 := by rw [hw6]; exact hW6.setCell (by have h8 := HB6.out.bT; have := HH4.out.2.2.size; simp; omega) _
                  have HS6 : Hid (w6.heap.size = V) := hs6
                  clear hw6 hVe hs6 HB6 HK6 hW6 cT3 fT3 hmk3
                  go_loopw [29, 166] (fun _ vi wr => ∃ i : Nat, i ≤ nl ∧ vi = .int .i64 i ∧ BoolsAt wr V nl (fillTo ps nl i) ∧ Below w6.heap.size w6 wr) (fun _ vi _ => nl - (intOf vi).toNat)
                  case atStart => exact ⟨0, Nat.zero_le _, rfl, by rw [← HS6.out]; exact bools_made ps (by omega), (Below.refl _ _).alloc (Nat.le_refl _) _⟩
                  case round =>
                    obtain ⟨i, hi, rfl, hbo, hbl⟩ := hrel
                    by_cases hin : i < nl
                    ·
                      have hsrc : fillTo ps nl (i + 1) = (fillTo ps nl i).set i (ps.getD i false) := rfl
                      obtain ⟨q, hq⟩ : ∃ q, (fillTo ps nl i)[i]? = some q := ⟨_, List.getElem?_eq_getElem (by rw [fillTo_length]; exact hin)⟩
                      have cV := hbo.cell hq
                      have fV := hbo.frozen i
                      have HBO : Hid (BoolsAt wr V nl (fillTo ps nl i)) := hbo
                      have HBL : Hid (Below w6.heap.size w6 wr) := hbl
                      have HSR : Hid _ := hsrc
                      by_cases hik : i < np
                      · obtain ⟨b, hb⟩ : ∃ b, ps[i]? = some b := ⟨_, List.getElem?_eq_getElem (by omega)⟩
                        obtain ⟨g, off, rfl, hg, cb⟩ := hP i b hb
                        rw [← (hW7.trans (hbl.mono hW7.size)).cell (by exact hg)] at cb
                        have HGB : Hid (ps.getD i false = b) := by show ps.getD i false = b; simp [List.getD, hb]
                        clear hbo hbl hsrc hq hb hP hA
                        go_wp2
                        go_roundw
                        case rel => exact ⟨i + 1, by omega, by go_num, by rw [HSR.out, HGB.out]; exact BoolsAt.set HBO.out i b, Below.setCell HBL.out (by rw [HS6.out]; exact Nat.le_refl _) _⟩
                        case measure => simp [intOf]; omega
                      · have HGB : Hid (ps.getD i false = false) := by show ps.getD i false = false; simp [List.getD, List.getElem?_eq_none (show ps.length ≤ i by omega)]
                        clear hbo hbl hsrc hq hP hA
                        go_wp2
                        go_roundw
                        case rel => exact ⟨i + 1, by omega, by go_num, by rw [HSR.out, HGB.out]; exact BoolsAt.set HBO.out i false, Below.setCell HBL.out (by rw [HS6.out]; exact Nat.le_refl _) _⟩
                        case measure => simp [intOf]; omega
                    · obtain rfl : nl = i := by omega
                      obtain ⟨vbL, hvbL⟩ : ∃ vbL, vbL = fillTo ps nl nl := ⟨_, rfl⟩
                      obtain ⟨ksL, hksL⟩ : ∃ ksL, ksL = fillTo ks n n := ⟨_, rfl⟩
                      rw [← hvbL] at hbo
                      rw [← hksL] at HK7
                      have hvl : vbL.length = nl := by rw [hvbL]; exact fillTo_length _ _ _
                      have hkl2 : ksL.length = n := by rw [hksL]; exact fillTo_length _ _ _
                      have HVL : Hid (vbL.length = nl ∧ ksL.length = n) := ⟨hvl, hkl2⟩
                      have hVw : w.heap.size + 1 < V := by have q1 := HS6.out; have q2 := HB7.out.be.size; have q3 := lt_of_block HH4.out.2.1; omega
                      have B8 := HB7.out.grown hbl
                      have cT4 := (tc_cells B8.t).2.2.2.2
                      have fT4 := tc_free B8.t 4
                      have hTV : V ≠ T := by
                        rintro rfl
                        obtain ⟨cur, hh, _⟩ := hbo.block
                        rw [B8.t] at hh; simp at hh
                      have hKw6 := HK7.out.lt
                      have hKV : K ≠ V := by have := HS6.out; omega
                      have HV8 : Hid (BoolsAt wr V nl vbL) := hbo
                      have HK8 : Hid (BoolsAt wr K n ksL) := HK7.out.kept (hbl.block K hKw6)
                      have hW8 : Below w.heap.size w wr := hW7.trans (hbl.mono hW7.size)
                      have HB8 : Hid (Bun w4 wr (w.heap.size + 1 + 1) n T mb sb (.slice (some ⟨K, 0, none⟩) n n) (.slice none 0 0) (rs.map Raw.ev) pl) := B8
                      have HA : Hid (RawAt w ao rs) := hA
                      clear B8 hbo hbl HB7 HK7 hW7 hvl hkl2 hvbL hksL hKw6 hP hA
                      go_wp2_with fail
                      obtain ⟨w8, hw8⟩ : ∃ w8, w8 = wr.setCell ⟨T, 4, none⟩ (.slice (some ⟨V, 0, none⟩) nl nl) := ⟨_, rfl⟩
                      rw [← hw8]
                      have HB9 : Hid (Bun w4 w8 (w.heap.size + 1 + 1) n T mb sb (.slice (some ⟨K, 0, none⟩) n n) (.slice (some ⟨V, 0, none⟩) nl nl) (rs.map Raw.ev) pl) := by rw [hw8]; exact HB8.out.put4 _
                      have HV9 : Hid (BoolsAt w8 V nl vbL) := by rw [hw8]; exact HV8.out.kept (Below.heap_setCell _ _ _ _ hTV)
                      have HK9 : Hid (BoolsAt w8 K n ksL) := by rw [hw8]; exact HK8.out.kept (Below.heap_setCell _ _ _ _ hTK)
                      have hW9 : Below w.heap.size w w8 := by rw [hw8]; exact hW8.setCell (by have h8 := HB8.out.bT; have := HH4.out.2.2.size; simp; omega) _
                      clear hw8 HB8 HV8 HK8 hW8 cT4 fT4
                      have hc1 := clone_any V nl vbL (by have := HVL.out.1; omega) w8 HV9.out
                      rw [HVL.out.1] at hc1
                      refine hc1.mono ?_
                      clear hc1
                      rintro e w9 ⟨Wt, wcap, rfl, hWt, hwt9, hb9⟩
                      have hK9 : BoolsAt w9 K n ksL := HK9.out.kept (hb9.block K HK9.out.lt)
                      have hc2 := clone_any K n ksL (by have := HVL.out.2; omega) w9 hK9
                      rw [HVL.out.2] at hc2
                      go_wp2_with fail
                      refine hc2.mono ?_
                      clear hc2
                      rintro e w10 ⟨Kc, ccap, rfl, hKc, hkc10, hb10⟩
                      have hB10 : Below w8.heap.size w8 w10 := hb9.trans (hb10.mono hb9.size)
                      have HWT : Hid (BoolsAt w10 Wt wcap vbL) := hwt9.kept (hb10.block Wt hwt9.lt)
                      have HKC : Hid (BoolsAt w10 Kc ccap ksL) := hkc10
                      have HB10 : Hid (Bun w4 w10 (w.heap.size + 1 + 1) n T mb sb (.slice (some ⟨K, 0, none⟩) n n) (.slice (some ⟨V, 0, none⟩) nl nl) (rs.map Raw.ev) pl) := HB9.out.grown hB10
                      have HV10 : Hid (BoolsAt w10 V nl vbL) := HV9.out.kept (hB10.block V HV9.out.lt)
                      have HK10 : Hid (BoolsAt w10 K n ksL) := HK9.out.kept (hB10.block K HK9.out.lt)
                      have hW10 : Below w.heap.size w w10 := hW9.trans (hB10.mono hW9.size)
                      have hWV : Wt ≠ V := by have := HV9.out.lt; omega
                      have cC : w10.cell? ⟨C, 0, none⟩ = some (.slice vo nl vc) := by
                        rw [HB10.out.be.cell (by exact lt_of_block hcl4), cell_of_row _ _ _ _ _ _ hcl4]; rfl
                      have hTWt : T ≠ Wt := by have := lt_of_block HB9.out.t; omega
                      have hKcV0 : V ≠ Kc := by have := HV9.out.lt; have := hb9.size; omega
                      have hWt2 : w.heap.size + 1 < Wt := by have q2 := HB9.out.be.size; have q3 := lt_of_block HH4.out.2.1; omega
                      clear hK9 hwt9 hkc10 hb9 hb10 hB10 HB9 HV9 HK9 hW9
                      go_wp2_with fail
                      obtain ⟨w11, hw11⟩ : ∃ w11, w11 = w10.alloc (.cells #[.int .i64 7, .string ⟨#[97]⟩, .slice vo nl vc, .string ⟨#[]⟩] 35) := ⟨_, rfl⟩
                      rw [← hw11]
                      have hb11 : Below w10.heap.size w10 w11 := by rw [hw11]; exact (Below.refl _ _).alloc (Nat.le_refl _) _
                      have hB11 := HB10.out.grown hb11
                      have hE11 := HES4.out.below hB11.be
                      have hL11 := EntsAt.below HL4.out hB11.be (Nat.le_refl _)
                      have hV11 : BoolsAt w11 V nl vbL := HV10.out.kept (hb11.block V HV10.out.lt)
                      have hK11 : BoolsAt w11 K n ksL := HK10.out.kept (hb11.block K HK10.out.lt)
                      have hT11 : w11.heap[T]? = some (tcFull (w.heap.size + 1 + 1) n n mb sb K n V (entsTo ec 3).length nl) := by rw [← HNL.out]; exact hB11.t
                      have hwt11 : BoolsAt w11 Wt wcap vbL := HWT.out.kept (hb11.block Wt HWT.out.lt)
                      have hkc11 : BoolsAt w11 Kc ccap ksL := HKC.out.kept (hb11.block Kc HKC.out.lt)
                      have hW11 : Below w.heap.size w w11 := hW10.trans (hb11.mono hW10.size)
                      have hnm11 := nm_cell (x := a) (b := w.heap.size + 1) (wr := w11) (by rw [hB11.be.block _ (lt_of_block HH4.out.2.1)]; exact HH4.out.2.1) ha3
                      have hec11 : w11.heap[w.heap.size]? = some (.cells #[.int .u8 (ec 0), .int .u8 (ec 1), .int .u8 (ec 2)] 24 (0, 0)) := by rw [hB11.be.block _ (lt_of_block HH4.out.1)]; exact HH4.out.1
                      clear hw11
                      cases hfj : firstTo (rs.map Raw.ev) a (ec a) n with
                      | none =>
                        obtain rfl : jv = -1 := by rw [HJ.out, hfj]; rfl
                        refine (check_none T (w.heap.size + 1 + 1) n n mb sb K n V nl n kk pl _ _ (entsTo ec 3) _ 7 _ (a, ec a) w11 hT11 hB11.ho hB11.hm hL11 HYA.out (by rw [first_hist, hfj]; rfl)).mono ?_
                        rintro e w12 ⟨Cb, rfl, hCb, hcb, hb12⟩
                        have hT12 : w12.heap[T]? = some (tcFull (w.heap.size + 1 + 1) n n mb sb K n V nl nl) := by rw [hb12.block T (lt_of_block hT11)]; exact hB11.t
                        obtain ⟨-, -, -, d3, d4⟩ := tc_cells hT12
                        unfold reason0 at hcb
                        obtain ⟨f0, f1, f2⟩ := err_cells hcb
                        have hnm12 := (hb12.cell (by exact World.block_lt_of_cell? w11 _ hnm11)).trans hnm11
                        have HQ1 : Hid (∀ m, Calls Ybaf.prog 8 #[.slice (some ⟨K, 0, none⟩) n n, .slice (some ⟨Kc, 0, none⟩) n ccap] (w12.drewN m) fun e w' => e = .returned (.bool true) ∧ ∃ k, w' = (w12.drewN m).drewN k) :=
                          fun m => equal_same K n Kc ccap n ksL HVL.out.2 h1 (w12.drewN m) (hK11.kept (hb12.block K hK11.lt)) (hkc11.kept (hb12.block Kc hkc11.lt))
                        have HQ2 : Hid (∀ k1 m, Calls Ybaf.prog 8 #[.slice (some ⟨V, 0, none⟩) nl nl, .slice (some ⟨Wt, 0, none⟩) nl wcap] (w12.drewN (k1 + m)) fun e w' => e = .returned (.bool true) ∧ ∃ k, w' = w12.drewN (k1 + k)) :=
                          fun k1 m => quiet_shift (equal_same V nl Wt wcap nl vbL HVL.out.1 (by omega) (w12.drewN (k1 + m)) (hV11.kept (hb12.block V hV11.lt)) (hwt11.kept (hb12.block Wt hwt11.lt)))
                        have HW12 : Hid (Below w.heap.size w w12) := hW11.trans (hb12.mono hW11.size)
                        have hta := run_assert
                        have hwra := wrap_u64 (show 0 ≤ ec a by omega) hca1
                        clear hT12 hcb hb12 hB11 hE11 hL11 hV11 hK11 hT11 hwt11 hkc11 hW11 hnm11 hec11 hb11 HB10 HWT HKC HV10 HK10 hfj HYA HES4 HL4
                        go_wp2_with fail
                        refine (HQ1.out 0).mono ?_
                        rintro e w13 ⟨rfl, k1, rfl⟩
                        go_wp2
                        go_quiet ((go_at_call 8; exact HQ2.out _ _))
                        go_wp2
                        go_ret
                        exact ⟨rfl, below_drewN (below_drewN HW12.out _) _⟩
                      | some j =>
                        obtain rfl : jv = (j : Int) := by rw [HJ.out, hfj]; rfl
                        have hjn := firstTo_lt hfj
                        obtain ⟨r, hr⟩ : ∃ r, rs[j]? = some r := ⟨_, List.getElem?_eq_getElem (by omega)⟩
                        have hev : (rs.map Raw.ev)[j]? = some r.ev := by rw [List.getElem?_map, hr]; rfl
                        obtain ⟨⟨hr0, hr1, hr2⟩, b, off, rfl, hbb, b0, b1, b2, b3, b4⟩ := HA.out j r hr
                        have hltm := lt_more r.c ec (fun x hx => (hec x hx).1)
                        have j0 : (0 : Int) ≤ (j : Int) := Int.natCast_nonneg _
                        have j1 : (j : Int) < (n : Int) := by omega
                        have hfa : firstAt (histTo (rs.map Raw.ev) a n) (ec a) = some (j : Int) := by rw [first_hist, hfj]; rfl
                        by_cases hmore : moreTo r.c ec 3 = true
                        ·
                          refine (check_more T (w.heap.size + 1 + 1) n n mb sb K n V nl n kk j pl _ _ (entsTo ec 3) _ 7 _ (a, ec a) (rs.map Raw.ev) r.ev w11 hT11 hB11.ho hB11.hm hL11 HYA.out hfa hE11 hev hjn (by show ltB _ (entsTo r.c 3) = true; rw [hltm]; exact hmore)).mono ?_
                          rintro e w12 ⟨Cb, rsn, rfl, hCb, hcb, hb12⟩
                          have hT12 : w12.heap[T]? = some (tcFull (w.heap.size + 1 + 1) n n mb sb K n V nl nl) := by rw [hb12.block T (lt_of_block hT11)]; exact hB11.t
                          obtain ⟨-, -, -, d3, d4⟩ := tc_cells hT12
                          obtain ⟨f0, f1, f2⟩ := err_cells hcb
                          have hnm12 := (hb12.cell (by exact World.block_lt_of_cell? w11 _ hnm11)).trans hnm11
                          have hec12 : w12.heap[w.heap.size]? = some (.cells #[.int .u8 (ec 0), .int .u8 (ec 1), .int .u8 (ec 2)] 24 (0, 0)) := by rw [hb12.block _ (lt_of_block hec11)]; exact hec11
                          have HQ1 : Hid (∀ m, Calls Ybaf.prog 8 #[.slice (some ⟨K, 0, none⟩) n n, .slice (some ⟨Kc, 0, none⟩) n ccap] (w12.drewN m) fun e w' => e = .returned (.bool true) ∧ ∃ k, w' = (w12.drewN m).drewN k) :=
                            fun m => equal_same K n Kc ccap n ksL HVL.out.2 h1 (w12.drewN m) (hK11.kept (hb12.block K hK11.lt)) (hkc11.kept (hb12.block Kc hkc11.lt))
                          have hV12 : BoolsAt w12 V nl vbL := hV11.kept (hb12.block V hV11.lt)
                          have hwt12 : BoolsAt w12 Wt wcap vbL := hwt11.kept (hb12.block Wt hwt11.lt)
                          have hW12 : Below w.heap.size w w12 := hW11.trans (hb12.mono hW11.size)
                          rw [← hW12.cell (by exact hbb)] at b2 b3 b4
                          have hta := run_assert
                          have hwra := wrap_u64 (show 0 ≤ ec a by omega) hca1
                          have zT := lt_of_block hT12
                          have zC := lt_of_block hcb
                          have zN := World.block_lt_of_cell? w12 _ hnm12
                          have zE := lt_of_block hec12
                          have HEC : Hid (w12.heap[w.heap.size]? = some (.cells #[.int .u8 (ec 0), .int .u8 (ec 1), .int .u8 (ec 2)] 24 (0, 0))) := hec12
                          have HV12 : Hid (BoolsAt w12 V nl vbL) := hV12
                          have HWT12 : Hid (BoolsAt w12 Wt wcap vbL) := hwt12
                          have HW12 : Hid (Below w.heap.size w w12) := hW12
                          clear hT12 hcb hb12 hB11 hE11 hL11 hV11 hK11 hT11 hwt11 hkc11 hW11 hnm11 hec11 hb11 HB10 HWT HKC HV10 HK10 hfj HYA HES4 HL4 hV12 hwt12 hW12 hec12 hev hr HA hltm hfa
                          go_wp2_with fail
                          refine (HQ1.out 0).mono ?_
                          rintro e w13 ⟨rfl, k1, hw13⟩
                          have hh13 : w13.heap = w12.heap := by rw [hw13]; rfl
                          have E13 : ∀ a, w13.cell? a = w12.cell? a := by intro a; rw [hw13]; rfl
                          rw [← E13] at d4 f0 f1 f2 hnm12 b2 b3 b4
                          rw [← hh13] at zT zC zN zE HEC
                          have HV13 : Hid (BoolsAt w13 V nl vbL) := HV12.out.kept (by rw [hh13])
                          have HWT13 : Hid (BoolsAt w13 Wt wcap vbL) := HWT12.out.kept (by rw [hh13])
                          have HW13 : Hid (Below w.heap.size w w13) := by rw [hw13]; exact below_drewN (below_drewN HW12.out _) _
                          clear hw13 hh13 E13 HV12 HWT12 HW12 HQ1 d3
                          go_wp2
                          obtain ⟨J, hJe⟩ : ∃ J, J = w13.heap.size := ⟨_, rfl⟩
                          obtain ⟨w14, hw14⟩ : ∃ w14, w14 = w13.alloc (.cells #[.int .u8 (r.c 0), .int .u8 (r.c 1), .int .u8 (r.c 2)] 24) := ⟨_, rfl⟩
                          rw [← hw14, ← hJe]
                          have hb14 : Below w13.heap.size w13 w14 := by rw [hw14]; exact (Below.refl _ _).alloc (Nat.le_refl _) _
                          have hJ14 : w14.heap[J]? = some (.cells #[.int .u8 (r.c 0), .int .u8 (r.c 1), .int .u8 (r.c 2)] 24 (0, 0)) := by rw [hw14, hJe]; exact heap_alloc_new _ _
                          have hE14 : w14.heap[w.heap.size]? = some (.cells #[.int .u8 (ec 0), .int .u8 (ec 1), .int .u8 (ec 2)] 24 (0, 0)) := by rw [hb14.block _ zE]; exact HEC.out
                          rw [← hb14.cell (by exact zT)] at d4
                          rw [← hb14.cell (by exact zC)] at f0 f1 f2
                          rw [← hb14.cell (by exact zN)] at hnm12
                          have HJ14 : Hid (w14.heap[J]? = some (.cells #[.int .u8 (r.c 0), .int .u8 (r.c 1), .int .u8 (r.c 2)] 24 (0, 0)) ∧ w14.heap[w.heap.size]? = some (.cells #[.int .u8 (ec 0), .int .u8 (ec 1), .int .u8 (ec 2)] 24 (0, 0))) := ⟨hJ14, hE14⟩
                          have HQ2 : Hid (∀ k1 m, Calls Ybaf.prog 8 #[.slice (some ⟨V, 0, none⟩) nl nl, .slice (some ⟨Wt, 0, none⟩) nl wcap] (w14.drewN (k1 + m)) fun e w' => e = .returned (.bool true) ∧ ∃ k, w' = w14.drewN (k1 + k)) :=
                            fun k1 m => quiet_shift (equal_same V nl Wt wcap nl vbL HVL.out.1 (by omega) (w14.drewN (k1 + m)) (HV13.out.kept (hb14.block V HV13.out.lt)) (HWT13.out.kept (hb14.block Wt HWT13.out.lt)))
                          have HW14 : Hid (Below w.heap.size w w14) := HW13.out.trans (hb14.mono HW13.out.size)
                          have HMO : Hid (moreTo r.c ec 3 = true) := hmore
                          clear hw14 hJe hb14 hJ14 hE14 HV13 HWT13 HW13 HEC zT zC zN zE b0 b1 b2 b3 b4 hmore
                          go_loopw [37, 38] (fun va vx wr => ∃ x m : Nat, x ≤ 3 ∧ vx = .int .i64 x ∧ va = .bool (!moreTo r.c ec x) ∧ wr = w14.drewN m) (fun _ vx _ => 3 - (intOf vx).toNat)
                          case atStart => exact ⟨0, 0, by omega, rfl, rfl, rfl⟩
                          case round =>
                            obtain ⟨x, m, hx, rfl, rfl, rfl⟩ := hrel
                            by_cases hx3 : x < 3
                            · have gx := ec_cell HJ14.out.1 hx3
                              have gy := ec_cell HJ14.out.2 hx3
                              have x0 : (0 : Int) ≤ (x : Int) := Int.natCast_nonneg _
                              have x1 : (x : Int) < 3 := by omega
                              by_cases hgt : ec x < r.c x
                              · have HS : Hid (moreTo r.c ec (x + 1) = true) := by show (moreTo r.c ec x || decide (ec x < r.c x)) = true; simp [hgt]
                                go_wp2
                                go_quiet (fail)
                                go_wp2
                                go_roundw
                                case rel => exact ⟨x + 1, _, by omega, by go_num, by rw [HS.out]; rfl, rfl⟩
                                case measure => simp [intOf]; omega
                              · have HS : Hid (moreTo r.c ec (x + 1) = moreTo r.c ec x) := by show (moreTo r.c ec x || decide (ec x < r.c x)) = _; simp [hgt]
                                go_wp2
                                go_quiet (fail)
                                go_wp2
                                go_roundw
                                case rel => exact ⟨x + 1, _, by omega, by go_num, by rw [HS.out], rfl⟩
                                case measure => simp [intOf]; omega
                            · obtain rfl : x = 3 := by omega
                              rw [HMO.out]
                              go_wp2
                              go_quiet ((go_at_call 8; exact HQ2.out _ _))
                              go_wp2
                              go_ret
                              exact ⟨rfl, below_drewN (below_drewN HW14.out _) _⟩
                        · have hmf : moreTo r.c ec 3 = false := by simpa using hmore
                          obtain ⟨bk, hbk⟩ : ∃ bk, ksL[j]? = some bk := ⟨_, List.getElem?_eq_getElem (by have := HVL.out.2; omega)⟩
                          refine (check_yes T (w.heap.size + 1 + 1) n n mb sb K n V nl n kk j pl _ _ (entsTo ec 3) _ 7 _ (a, ec a) (rs.map Raw.ev) r.ev ksL vbL bk w11 hT11 hB11.ho hB11.hm hL11 HYA.out hfa hE11 hev hjn h1 hK11 hbk hV11 (by rw [HVL.out.1, HNL.out]) (by show ltB _ (entsTo r.c 3) = false; rw [hltm]; exact hmf)).mono ?_
                          rintro e w12 ⟨rfl, hV12, hmv⟩
                          have hKV' : K ∉ [V] := by simpa using hKV
                          have hTV' : T ∉ [V] := by simpa using fun e : T = V => hTV e.symm
                          have hWV' : Wt ∉ [V] := by simpa using hWV
                          have hKcV : Kc ∉ [V] := by
                            simp only [List.mem_singleton]
                            exact fun e => hKcV0 e.symm
                          have hT12 : w12.heap[T]? = some (tcFull (w.heap.size + 1 + 1) n n mb sb K n V nl nl) := by rw [hmv.block T (lt_of_block hT11) hTV']; exact hB11.t
                          obtain ⟨-, -, -, d3, d4⟩ := tc_cells hT12
                          have hec12 : w12.heap[w.heap.size]? = some (.cells #[.int .u8 (ec 0), .int .u8 (ec 1), .int .u8 (ec 2)] 24 (0, 0)) := by rw [hmv.block _ (lt_of_block hec11) (by simp only [List.mem_singleton]; omega)]; exact hec11
                          have hK12 : BoolsAt w12 K n ksL := hK11.kept (hmv.block K hK11.lt hKV')
                          have HQ1 : Hid (∀ m, Calls Ybaf.prog 8 #[.slice (some ⟨K, 0, none⟩) n n, .slice (some ⟨Kc, 0, none⟩) n ccap] (w12.drewN m) fun e w' => e = .returned (.bool true) ∧ ∃ k, w' = (w12.drewN m).drewN k) :=
                            fun m => equal_same K n Kc ccap n ksL HVL.out.2 h1 (w12.drewN m) hK12 (hkc11.kept (hmv.block Kc hkc11.lt hKcV))
                          have hwt12 : BoolsAt w12 Wt wcap vbL := hwt11.kept (hmv.block Wt hwt11.lt hWV')
                          have hW12 : Below w.heap.size w w12 := hW11.trans (hmv.below hW11.size (fun x hx => by simp at hx; omega))
                          rw [← hW12.cell (by exact hbb)] at b2 b3 b4
                          have cKj := hK12.cell hbk
                          have hnn := run_nil_err
                          have zT := lt_of_block hT12
                          have zK := hK12.lt
                          have zE := lt_of_block hec12
                          have HEC : Hid (w12.heap[w.heap.size]? = some (.cells #[.int .u8 (ec 0), .int .u8 (ec 1), .int .u8 (ec 2)] 24 (0, 0))) := hec12
                          have HV12 : Hid (BoolsAt w12 V nl (if bk then vouchTo (entsTo r.c 3) (entsTo ec 3) vbL (entsTo ec 3).length else vbL)) := hV12
                          have HWT12 : Hid (BoolsAt w12 Wt wcap vbL) := hwt12
                          have HW12 : Hid (Below w.heap.size w w12) := hW12
                          clear hT12 hmv hB11 hE11 hL11 hV11 hK11 hT11 hwt11 hkc11 hW11 hnm11 hec11 hb11 HB10 HWT HKC HV10 HK10 hfj HYA HES4 HL4 hV12 hwt12 hW12 hec12 hev hr HA hltm hfa hK12 hbk
                          go_wp2_with fail
                          refine (HQ1.out 0).mono ?_
                          rintro e w13 ⟨rfl, k1, hw13⟩
                          have hh13 : w13.heap = w12.heap := by rw [hw13]; rfl
                          have E13 : ∀ a, w13.cell? a = w12.cell? a := by intro a; rw [hw13]; rfl
                          rw [← E13] at d4 cKj b2 b3 b4
                          rw [← hh13] at zT zK zE HEC
                          have HV13 : Hid (BoolsAt w13 V nl (if bk then vouchTo (entsTo r.c 3) (entsTo ec 3) vbL (entsTo ec 3).length else vbL)) := HV12.out.kept (by rw [hh13])
                          have HWT13 : Hid (BoolsAt w13 Wt wcap vbL) := HWT12.out.kept (by rw [hh13])
                          have HW13 : Hid (Below w.heap.size w w13) := by rw [hw13]; exact below_drewN (below_drewN HW12.out _) _
                          clear hw13 hh13 E13 HV12 HWT12 HW12 HQ1 d3
                          go_wp2
                          obtain ⟨J, hJe⟩ : ∃ J, J = w13.heap.size := ⟨_, rfl⟩
                          obtain ⟨w14, hw14⟩ : ∃ w14, w14 = w13.alloc (.cells #[.int .u8 (r.c 0), .int .u8 (r.c 1), .int .u8 (r.c 2)] 24) := ⟨_, rfl⟩
                          rw [← hw14, ← hJe]
                          have hb14 : Below w13.heap.size w13 w14 := by rw [hw14]; exact (Below.refl _ _).alloc (Nat.le_refl _) _
                          have hJ14 : w14.heap[J]? = some (.cells #[.int .u8 (r.c 0), .int .u8 (r.c 1), .int .u8 (r.c 2)] 24 (0, 0)) := by rw [hw14, hJe]; exact heap_alloc_new _ _
                          have hE14 : w14.heap[w.heap.size]? = some (.cells #[.int .u8 (ec 0), .int .u8 (ec 1), .int .u8 (ec 2)] 24 (0, 0)) := by rw [hb14.block _ zE]; exact HEC.out
                          rw [← hb14.cell (by exact zT)] at d4
                          rw [← hb14.cell (by exact zK)] at cKj
                          have HJ14 : Hid (w14.heap[J]? = some (.cells #[.int .u8 (r.c 0), .int .u8 (r.c 1), .int .u8 (r.c 2)] 24 (0, 0)) ∧ w14.heap[w.heap.size]? = some (.cells #[.int .u8 (ec 0), .int .u8 (ec 1), .int .u8 (ec 2)] 24 (0, 0))) := ⟨hJ14, hE14⟩
                          have HV14 : Hid (BoolsAt w14 V nl (if bk then vouchTo (entsTo r.c 3) (entsTo ec 3) vbL (entsTo ec 3).length else vbL)) := HV13.out.kept (hb14.block V HV13.out.lt)
                          have HWT14 : Hid (BoolsAt w14 Wt wcap vbL) := HWT13.out.kept (hb14.block Wt HWT13.out.lt)
                          have HW14 : Hid (Below w.heap.size w w14) := HW13.out.trans (hb14.mono HW13.out.size)
                          have HJW : Hid (Wt < J) := by rw [hJe]; exact HWT13.out.lt
                          have HMO : Hid (moreTo r.c ec 3 = false) := hmf
                          clear hw14 hJe hb14 hJ14 hE14 HV13 HWT13 HW13 HEC zT zK zE b0 b1 b2 b3 b4 hmore hmf
                          go_loopw [37, 38] (fun va vx wr => ∃ x m : Nat, x ≤ 3 ∧ vx = .int .i64 x ∧ va = .bool (!moreTo r.c ec x) ∧ wr = w14.drewN m) (fun _ vx _ => 3 - (intOf vx).toNat)
                          case atStart => exact ⟨0, 0, by omega, rfl, rfl, rfl⟩
                          case round =>
                            obtain ⟨x, m, hx, rfl, rfl, rfl⟩ := hrel
                            by_cases hx3 : x < 3
                            · have gx := ec_cell HJ14.out.1 hx3
                              have gy := ec_cell HJ14.out.2 hx3
                              have x0 : (0 : Int) ≤ (x : Int) := Int.natCast_nonneg _
                              have x1 : (x : Int) < 3 := by omega
                              by_cases hgt : ec x < r.c x
                              · have HS : Hid (moreTo r.c ec (x + 1) = true) := by show (moreTo r.c ec x || decide (ec x < r.c x)) = true; simp [hgt]
                                go_wp2
                                go_quiet (fail)
                                go_wp2
                                go_roundw
                                case rel => exact ⟨x + 1, _, by omega, by go_num, by rw [HS.out]; rfl, rfl⟩
                                case measure => simp [intOf]; omega
                              · have HS : Hid (moreTo r.c ec (x + 1) = moreTo r.c ec x) := by show (moreTo r.c ec x || decide (ec x < r.c x)) = _; simp [hgt]
                                go_wp2
                                go_quiet (fail)
                                go_wp2
                                go_roundw
                                case rel => exact ⟨x + 1, _, by omega, by go_num, by rw [HS.out], rfl⟩
                                case measure => simp [intOf]; omega
                            · obtain rfl : x = 3 := by omega
                              rw [HMO.out]
                              cases bk with
                              | false =>
                                have HQ2 : Hid (Calls Ybaf.prog 8 #[.slice (some ⟨V, 0, none⟩) nl nl, .slice (some ⟨Wt, 0, none⟩) nl wcap] (w14.drewN m) fun e w' => e = .returned (.bool true) ∧ ∃ k, w' = (w14.drewN m).drewN k) :=
                                  equal_same V nl Wt wcap nl vbL HVL.out.1 (by omega) (w14.drewN m) HV14.out HWT14.out
                                go_wp2_with (go_at_call 8; refine HQ2.out.mono ?_; rintro e w' ⟨rfl, k9, rfl⟩)
                                go_ret
                                exact ⟨rfl, below_drewN HW14.out _⟩
                              | true =>
                                go_wp2
                                obtain ⟨w15, hw15⟩ : ∃ w15, w15 = w14.drewN m := ⟨_, rfl⟩
                                rw [← hw15]
                                have hh15 : w15.heap = w14.heap := by rw [hw15]; rfl
                                have HJ15 : Hid (w15.heap[J]? = some (.cells #[.int .u8 (r.c 0), .int .u8 (r.c 1), .int .u8 (r.c 2)] 24 (0, 0)) ∧ w15.heap[w.heap.size]? = some (.cells #[.int .u8 (ec 0), .int .u8 (ec 1), .int .u8 (ec 2)] 24 (0, 0))) := by rw [hh15]; exact HJ14.out
                                have HV15 : Hid (BoolsAt w15 V nl (vouchTo (entsTo r.c 3) (entsTo ec 3) vbL (entsTo ec 3).length)) := HV14.out.kept (by rw [hh15])
                                have HWT15 : Hid (BoolsAt w15 Wt wcap vbL) := HWT14.out.kept (by rw [hh15])
                                have HW15 : Hid (Below w.heap.size w w15) := by rw [hw15]; exact below_drewN HW14.out _
                                have d15 : w15.cell? ⟨T, 4, none⟩ = some (.slice (some ⟨V, 0, none⟩) nl nl) := by rw [hw15]; exact d4
                                have zT15 := World.block_lt_of_cell? w15 _ d15
                                clear hw15 hh15 HJ14 HV14 HWT14 HW14 d4 cKj
                                go_loopw [41, 42] (fun vq vx wr => ∃ x : Nat, x ≤ 3 ∧ vx = .int .i64 x ∧ vq = .int .i64 (entsTo ec x).length ∧ BoolsAt wr Wt wcap (vouchTo (entsTo r.c 3) (entsTo ec 3) vbL (entsTo ec x).length) ∧ Moved [Wt] w15 wr) (fun _ vx _ => 3 - (intOf vx).toNat)
                                case atStart => exact ⟨0, by omega, rfl, rfl, HWT15.out, Moved.refl _ _⟩
                                case round =>
                                  obtain ⟨x, hx, rfl, rfl, hbw, hmw⟩ := hrel
                                  by_cases hx3 : x < 3
                                  · have gx0 := ec_cell (wr := wr) (b := J) (ec := r.c) (by rw [hmw.block J (lt_of_block HJ15.out.1) (by simp only [List.mem_singleton]; have := HJW.out; omega)]; exact HJ15.out.1) hx3
                                    have gy0 := ec_cell (wr := wr) (b := w.heap.size) (ec := ec) (by rw [hmw.block _ (lt_of_block HJ15.out.2) (by simp only [List.mem_singleton]; omega)]; exact HJ15.out.2) hx3
                                    have x0 : (0 : Int) ≤ (x : Int) := Int.natCast_nonneg _
                                    have x1 : (x : Int) < 3 := by omega
                                    have hel := entsTo_len ec x
                                    have HBW : Hid (BoolsAt wr Wt wcap (vouchTo (entsTo r.c 3) (entsTo ec 3) vbL (entsTo ec x).length)) := hbw
                                    have HMW : Hid (Moved [Wt] w15 wr) := hmw
                                    by_cases hz : ec x = 0
                                    · have HS : Hid (entsTo ec (x + 1) = entsTo ec x) := ents_succ_zero ec hz
                                      clear hbw hmw
                                      go_wp2
                                      go_roundw
                                      case rel => exact ⟨x + 1, by omega, by go_num, by rw [HS.out], by rw [HS.out]; exact HBW.out, HMW.out⟩
                                      case measure => simp [intOf]; omega
                                    · have hne : (ec x == 0) = false := by simpa using hz
                                      have HS : Hid ((entsTo ec (x + 1)).length = (entsTo ec x).length + 1) := by rw [ents_succ ec hz]; simp [Hid]
                                      have HWS := want_step r.c ec vbL hx3 hz
                                      obtain ⟨q, hq⟩ : ∃ q, q = (entsTo ec x).length := ⟨_, rfl⟩
                                      have hqn : q < nl := by
                                        have := (List.getElem?_eq_some_iff.1 (ents_at ec hx3 hz)).1
                                        rw [hq, HNL.out]; exact this
                                      obtain ⟨ob, hob⟩ : ∃ ob, (vouchTo (entsTo r.c 3) (entsTo ec 3) vbL (entsTo ec x).length)[q]? = some ob := ⟨_, List.getElem?_eq_getElem (by rw [vouchTo_length, HVL.out.1]; exact hqn)⟩
                                      have cW := hbw.cell hob
                                      have fW := hbw.frozen q
                                      rw [← hq]
                                      have HQQ : Hid (q = (entsTo ec x).length) := hq
                                      by_cases hce : r.c x = ec x
                                      · have hceb : (r.c x == ec x) = true := by simpa using hce
                                        rw [if_pos hce] at HWS
                                        have HWS' : Hid _ := HWS
                                        clear hbw hmw hz hce hob hq HWS hel
                                        go_wp2
                                        go_quiet (fail)
                                        go_wp2
                                        go_roundw
                                        case rel =>
                                          refine ⟨x + 1, by omega, by go_num, by rw [HS.out, HQQ.out]; go_num, ?_, ?_⟩
                                          · rw [HWS'.out]
                                            have h9 := BoolsAt.set (w := wr.drewN nq) (BoolsAt.kept HBW.out rfl) q true
                                            rw [HQQ.out] at h9 ⊢
                                            exact h9
                                          · have m0 : Moved [Wt] wr (wr.drewN nq) := ⟨rfl, rfl, rfl, Nat.le_refl _, fun _ _ _ => rfl⟩
                                            exact Moved.trans HMW.out (m0.trans (Moved.of_setCell (wr.drewN nq) ⟨Wt, q, none⟩ _))
                                        case measure => simp [intOf]; omega
                                      · have hceb : (r.c x == ec x) = false := by simpa using hce
                                        rw [if_neg hce] at HWS
                                        have HWS' : Hid _ := HWS
                                        clear hbw hmw hz hce hob hq HWS hel
                                        go_wp2
                                        go_quiet (fail)
                                        go_wp2
                                        go_roundw
                                        case rel =>
                                          refine ⟨x + 1, by omega, by go_num, by rw [HS.out, HQQ.out]; go_num, ?_, ?_⟩
                                          · rw [HWS'.out]
                                            exact BoolsAt.kept HBW.out rfl
                                          · exact Moved.trans HMW.out ⟨rfl, rfl, rfl, Nat.le_refl _, fun _ _ _ => rfl⟩
                                        case measure => simp [intOf]; omega
                                  · obtain rfl : x = 3 := by omega
                                    have hTb : w15.heap[T]? = wr.heap[T]? := (hmw.block T zT15 (by simpa using hTWt)).symm
                                    have d16 : wr.cell? ⟨T, 4, none⟩ = some (.slice (some ⟨V, 0, none⟩) nl nl) := by rw [World.cell?_of_block (a := ⟨T, 4, none⟩) (w := w15) hTb.symm]; exact d15
                                    have HQ2 : Hid (Calls Ybaf.prog 8 #[.slice (some ⟨V, 0, none⟩) nl nl, .slice (some ⟨Wt, 0, none⟩) nl wcap] wr fun e w' => e = .returned (.bool true) ∧ ∃ k, w' = wr.drewN k) :=
                                      equal_same V nl Wt wcap nl _ (by rw [vouchTo_length, HVL.out.1]) (by omega) wr (HV15.out.kept (hmw.block V HV15.out.lt (by simpa using fun e : V = Wt => hWV e.symm))) hbw
                                    have HWF : Hid (Below w.heap.size w wr) := HW15.out.trans (hmw.below HW15.out.size (fun y hy => by simp at hy; omega))
                                    clear hbw hmw hTb
                                    go_wp2_with (go_at_call 8; refine HQ2.out.mono ?_; rintro e w' ⟨rfl, k9, rfl⟩)
                                    go_ret
                                    exact ⟨rfl, below_drewN HWF.out _⟩
end Go.Proofs.YbulkacrqeaFmt
