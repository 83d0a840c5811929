import Derived.Test.YbulkacrqeaFmtE2
import Derived.Test.YbulkacrqeaFmtD2
import Derived.Deep.QuietTactic
import Derived.BigQuiet
import Derived.BigRegion
namespace Go.Proofs.YbulkacrqeaFmt
open Go.RowKit

theorem run_eql_ptr (o : Option Nat) (w : World) : (binOp .eql 55 (ptrOf o) (.pointer none)).run Ybaf.prog w = .ok (.bool o.isNone) w := by
  cases o <;> rfl

theorem run_guard_ptr (o : Option Nat) (w : World) : (eqGuard BinOp.eql 55 (Operand.tmp 35) (Operand.const (Value.pointer none)) (ptrOf o) (Value.pointer none)).run Ybaf.prog w = .ok () w := by
  cases o <;> rfl

theorem HostEv.not_in {w : World} {p : Nat} {av mv : Value} {h : List (Nat × Int)} (H : HostEv w p av mv h) {b : Nat} {cs : Array Value} {t : TypeId} {fr : Nat × Nat} (hb : w.heap[b]? = some (.cells cs t fr)) (h1 : t ≠ 59) (h2 : t ≠ 3) : b ∉ blocksOf p av mv := by
  obtain ⟨⟨cnt, hc0, hc1, h0⟩, hr, hm, _⟩ := H
  intro hx
  simp only [blocksOf, List.mem_cons, List.mem_append, Option.mem_toList] at hx
  rcases hx with rfl | hx | hx
  · rw [h0] at hb; simp only [Option.some.injEq, Obj.cells.injEq] at hb; exact h1 hb.2.1.symm
  · rcases hr.2 with ⟨rfl, _⟩ | ⟨g, cap, cur, rfl, _, hh, _⟩
    · simp [Value.ownBlock] at hx
    · simp [Value.ownBlock] at hx; subst hx; rw [hh] at hb; simp only [Option.some.injEq, Obj.cells.injEq] at hb; exact h2 hb.2.1.symm
  · rcases hm with ⟨rfl, _⟩ | ⟨b', rfl, hc⟩
    · simp at hx
    · simp at hx; subst hx; obtain ⟨es, cl, h⟩ := hc.block; rw [h] at hb; simp at hb

theorem ev_cells {w : World} {b : Nat} {x0 x1 x2 x3 : Value} (h : w.heap[b]? = some (.cells #[x0, x1, x2, x3] 35 (0, 0))) : w.cell? ⟨b, 1, none⟩ = some x1 ∧ w.cell? ⟨b, 2, none⟩ = some x2 := by
  refine ⟨?_, ?_⟩ <;> (rw [cell_of_row w _ _ _ _ _ h]; rfl)

theorem invK9 (key : Value) (kl : Lit) (h : keyOf Ybaf.prog 9 key = some kl) : ∃ x, key = Value.string x := by
  cases key <;> simp [keyOf, Ybaf.underlying9, mapKey] at h
  exact ⟨_, rfl⟩
theorem invV55 (v : Value) (y : DataW Unit × List MemPlace) (h : ptrElem v = some y) : ∃ c, v = ptrOf c := by
  obtain ⟨q, rfl, _⟩ := ptrElem_inv h
  exact ⟨q, rfl⟩

/-- the entry that the range has come to is a host's -/
theorem range_host {D : DataW Unit} {pl : Nat → Option Place} (hD : HData D (fun t => (pl t).map (·.p))) {c : Option Nat} {kl : Lit} {y : DataW Unit × List MemPlace} (hR : ptrElem (ptrOf c) = some y) (hat : ∀ zd, D.atKey kl zd = y.1) :
    ∃ t s, t < 3 ∧ pl t = some s ∧ c = some s.p := by
  have h1 := Maps.has_true_of_atKey hat
  obtain ⟨t, ht, rfl⟩ := hD.2 kl h1
  obtain ⟨h2, h3⟩ := hD.1 t ht
  rw [h1] at h2
  rw [ptrElem_of] at hR
  cases hR
  rw [hat] at h3
  have h4 := codeOf_inj h3
  dsimp only at h2 h4
  cases hp : pl t with
  | none => rw [hp] at h2; simp at h2
  | some s => exact ⟨t, s, ht, hp, by rw [h4, hp]; rfl⟩

theorem put_id {α : Type} (f : Nat → α) (t : Nat) (v : α) (h : f t = v) : put f t v = f := by
  funext u
  by_cases e : u = t
  · subst e; rw [put_same, h]
  · rw [put_other _ _ e]

set_option maxRecDepth 20000 in
set_option maxHeartbeats 4000000 in
theorem newTrace_any (E n cap : Nat) (es : List Ev) (hl : es.length = n) (hn : n ≤ 65536) (hnc : n ≤ cap) (w : World) (hE : EvsAt w E es) :
    Calls Ybaf.prog 5 #[.slice (some ⟨E, 0, none⟩) n cap] w fun e w' => ∃ T mb sb kv pl, e = .returned (.pointer (some ⟨T, 0, none⟩)) ∧ w.heap.size ≤ T ∧ w.heap.size ≤ mb ∧ w.heap.size ≤ sb ∧ Mid w w' E n cap T mb sb kv es n n n 0 pl := by
  have hmm := @run_makeMap Ybaf.prog
  have hm1 := run_mk39 n hn
  have hm2 := run_mk23 n hn
  go_enter Ybaf.func5, Ybaf.ntmps5
  go_wp2
  go_cut [3] (fun v3 wc => ∃ T mb sb kv, v3 = .pointer (some ⟨T, 0, none⟩) ∧ Laid0 w wc E n cap T mb sb kv)
  case first =>
    go_region
    all_goals (go_wp2_with fail)
    all_goals go_meet
    all_goals
      refine ⟨_, _, _, _, rfl, (four_alloc w _ _ _ _).2.2.2.1, ?_, ?_, ?_, ?_, ?_, (four_alloc w _ _ _ _).2.2.2.2⟩
      · first | exact (four_alloc w _ _ _ _).1 | exact (four_alloc w _ _ _ _).2.1 | exact (four_alloc w _ _ _ _).2.2.1
      · first | exact (four_alloc w _ _ _ _).1 | exact (four_alloc w _ _ _ _).2.1 | exact (four_alloc w _ _ _ _).2.2.1
      · omega
      · omega
      · omega
  case rest =>
    obtain ⟨T, mb, sb, kv, rfl, hL⟩ := hcut
    have HL : Hid (Laid0 w wc E n cap T mb sb kv) := hL
    have hBT : w.heap.size ≤ T := hL.2.2.2.1
    have hBm : w.heap.size ≤ mb := hL.2.2.2.2.1
    have hBs : w.heap.size ≤ sb := hL.2.2.2.2.2.1
    have HE : Hid (EvsAt w E es) := hE
    have HLen : Hid _ := hl
    clear hL hm1 hm2 hmm hE hl
    go_wp2
    go_loopw [23] (fun vk wr => ∃ k pl, k ≤ n ∧ vk = .int .i64 k ∧ Mid w wr E n cap T mb sb kv es k k k 0 pl) (fun vk _ => n - (intOf vk).toNat)
    case atStart => exact ⟨0, fun _ => none, Nat.zero_le _, rfl, Laid0.mid es HL.out⟩
    case round =>
      clear HL
      obtain ⟨k, pl, hk, rfl, M⟩ := hrel
      by_cases hkn : k < n
      · obtain ⟨e, he⟩ : ∃ e, es[k]? = some e := ⟨_, List.getElem?_eq_getElem (by have := HLen.out; omega)⟩
        have hE' : EvsAt w E es := HE.out
        have hEl := hE'.1
        obtain ⟨hok, cv, c0, c1, c2, c3, hents⟩ := hE'.2 k e he
        clear hE'
        rw [← M.be.cell (by exact hEl)] at c0 c1 c2 c3
        obtain ⟨ao, ecap, rfl⟩ := hents.form
        obtain ⟨ne, hne⟩ : ∃ ne, ne = (entsTo e.c 3).length := ⟨_, rfl⟩
        rw [← hne] at c2
        have hhost := hok.1
        have hT := (tc_cells M.t).2.1
        have zT : T < wr.heap.size := M.rv T (by simp [Rv])
        have HM : Hid (Mid w wr E n cap T mb sb kv es k k k 0 pl) := M
        obtain ⟨o, ho⟩ : ∃ o, o = (pl e.host).map (·.p) := ⟨_, rfl⟩
        have hlk : ∀ m, (Instr.lookup 38 (.map (some mb)) (.string (nm e.host)) false).run Ybaf.prog ((wr.alloc (.cells #[.int .i64 e.line, .string (nm e.host), .slice ao ne ecap, .string ⟨#[]⟩] 35)).drewN m) = .ok (ptrOf o) ((wr.alloc (.cells #[.int .i64 e.line, .string (nm e.host), .slice ao ne ecap, .string ⟨#[]⟩] 35)).drewN m) := by
          intro m
          rw [ho]
          have h1 : HMap ((wr.alloc (.cells #[.int .i64 e.line, .string (nm e.host), .slice ao ne ecap, .string ⟨#[]⟩] 35)).drewN m) mb k (fun t => (pl t).map (·.p)) := M.hm.kept (heap_alloc_old wr _ (M.rv mb (by simp [Rv])))
          exact h1.look hhost
        have HO : Hid _ := ho
        have HENT : Hid (EntsAt w (.slice ao (entsTo e.c 3).length ecap) (entsTo e.c 3)) := hents
        have HNE : Hid (ne = (entsTo e.c 3).length) := hne
        have heq := run_eql_ptr o
        have heg := run_guard_ptr o
        have HIE : Hid _ := he
        clear ho hents hne M he
        go_wp2
        go_quiet (fail)
        go_upto_if 36 with fail
        go_cut [6] (fun v6 wd => ∃ pl' s, v6 = .pointer (some ⟨s.p, 0, none⟩) ∧ pl' e.host = some s ∧ Mid w wd E n cap T mb sb kv es (k + 1) k k 0 pl' ∧ wd.heap[wr.heap.size]? = some (.cells #[.int .i64 e.line, .string (nm e.host), .slice ao ne ecap, .string ⟨#[]⟩] 35 (0, 0)))
        case first =>
          cases hpl : pl e.host with
          | none =>
            obtain rfl : o = none := by rw [HO.out, hpl]; rfl
            have hM1 : Mid w ((wr.alloc (.cells #[.int .i64 e.line, .string (nm e.host), .slice ao ne ecap, .string ⟨#[]⟩] 35)).drewN nq) E n cap T mb sb kv es k k k 0 pl := Mid.grown HM.out (below_drewN ((Below.refl _ wr).alloc (Nat.le_refl _) _) nq)
            have hmbl := hM1.rv mb (by simp [Rv])
            obtain ⟨w2, hrun, hH2, hg2⟩ := HMap.store (w := (((wr.alloc (.cells #[.int .i64 e.line, .string (nm e.host), .slice ao ne ecap, .string ⟨#[]⟩] 35)).drewN nq).alloc (.cells #[.slice none 0 0, .map none, .int .u64 0] 59)).drew) (hM1.hm.kept (heap_alloc_old _ _ hmbl)) (by unfold maxLen; omega) hhost (wr.heap.size + 1)
            have HM1 : Hid _ := hM1
            have HH2 : Hid _ := hH2
            have HG2 : Hid _ := hg2
            clear hM1 hH2 hg2
            go_wp2
            go_region
            go_wp2_with fail
            go_meet
            have hg3 : (((wr.alloc (.cells #[.int .i64 e.line, .string (nm e.host), .slice ao ne ecap, .string ⟨#[]⟩] 35)).drewN nq).alloc (.cells #[.slice none 0 0, .map none, .int .u64 0] 59)).grownBy w2 (some mb) := ⟨HG2.out.os, HG2.out.tape, HG2.out.output, HG2.out.size, HG2.out.block⟩
            refine ⟨put pl e.host (some ⟨wr.heap.size + 1, .slice none 0 0, .map none⟩), ⟨wr.heap.size + 1, .slice none 0 0, .map none⟩, rfl, put_same _ _ _, Mid.newHost HM1.out hhost hpl (by simp) HH2.out hg3 hBm, ?_⟩
            rw [hg3.block wr.heap.size (by simp; omega) (by simp only [ne_eq, Option.some.injEq]; have := Mid.rv HM.out mb (by simp [Rv]); omega)]
            rw [heap_alloc_old _ _ (by simp)]
            exact heap_alloc_new wr _
          | some s =>
            obtain rfl : o = some s.p := by rw [HO.out, hpl]; rfl
            go_wp2_with fail
            go_meet
            refine ⟨pl, s, rfl, hpl, ?_, heap_alloc_new wr _⟩
            have := Mid.grown HM.out (below_drewN ((Below.refl _ wr).alloc (Nat.le_refl _) (.cells #[.int .i64 e.line, .string (nm e.host), .slice ao ne ecap, .string ⟨#[]⟩] 35)) nq)
            exact ⟨this.t, this.hm.mono (by omega), this.ho, this.se, this.be⟩
        case rest =>
          obtain ⟨pl', s, rfl, hpl', M2, hev⟩ := hcut
          obtain ⟨v1, v2⟩ := ev_cells hev
          have hB2 := M2.be
          have hents2 : EntsAt wc (.slice ao ne ecap) (entsTo e.c 3) := by
            have h : EntsAt w (.slice ao ne ecap) (entsTo e.c 3) := by rw [HNE.out]; exact HENT.out
            exact EntsAt.below h hB2 (Nat.le_refl _)
          clear hlk heq heg HO c0 c1 c2 c3 hT
          go_wp2_with fail
          refine (counter_any _ _ e.host hhost _ hents2).mono ?_
          rintro e' w3 ⟨rfl, hb3⟩
          rw [getC_ents e.c (show e.host < 3 from hhost)]
          have M3 := M2.grown hb3
          have hev3 : w3.heap[wr.heap.size]? = some (.cells #[.int .i64 e.line, .string (nm e.host), .slice ao ne ecap, .string ⟨#[]⟩] 35 (0, 0)) := by rw [hb3.block _ (lt_of_block hev)]; exact hev
          have hlen := histTo_len es e.host k
          have hcb := hok.2 e.host hhost
          go_wp2_with fail
          refine (add_any s.p s.av s.mv (histTo es e.host k) k (e.c e.host) (by omega) hcb.1 hcb.2 (by omega) _ (M3.ho.ev e.host s hhost hpl')).mono ?_
          rintro e' w4 ⟨rfl, A4⟩
          have hev4 : w4.heap[wr.heap.size]? = some (.cells #[.int .i64 e.line, .string (nm e.host), .slice ao ne ecap, .string ⟨#[]⟩] 35 (0, 0)) := by
            obtain ⟨_, _, _, hmv, _⟩ := A4
            rw [hmv.block _ (lt_of_block hev3) ((M3.ho.ev e.host s hhost hpl').not_in hev3 (by decide) (by decide))]; exact hev3
          obtain ⟨pl4, M4⟩ := M3.added HIE.out hhost hpl' A4
          obtain ⟨y1, y2⟩ := ev_cells hev4
          have HM4 : Hid (Mid w w4 E n cap T mb sb kv es (k + 1) (k + 1) k 0 pl4) := M4
          have HENT2 : Hid (EntsAt w (.slice ao ne ecap) (entsTo e.c 3)) := by rw [HNE.out]; exact HENT.out
          clear M4 A4 M3 M2 hev hev3 hev4 hents2 v1 v2 hb3 hB2 hpl' hlen hcb HENT
          have hne3 : ne ≤ 3 := by rw [HNE.out]; exact entsTo_len e.c 3
          go_wp2
          go_loopw [58] (fun vj ws => ∃ j, j ≤ ne ∧ vj = .int .i64 j ∧ Mid w ws E n cap T mb sb kv es (k + 1) (k + 1) k j pl4) (fun vj _ => ne - (intOf vj).toNat)
          case atStart => exact ⟨0, Nat.zero_le _, rfl, HM4.out⟩
          case round =>
            obtain ⟨j, hj, rfl, M⟩ := hrel
            have HMs : Hid (Mid w wr E n cap T mb sb kv es (k + 1) (k + 1) k j pl4) := M
            by_cases hjn : j < ne
            · have hEE := EntsAt.below HENT2.out M.be (Nat.le_refl _)
              obtain ⟨y, hy⟩ : ∃ y, (entsTo e.c 3)[j]? = some y := ⟨_, List.getElem?_eq_getElem (by have := HNE.out; omega)⟩
              obtain ⟨ao', cap', e1, hcells⟩ := hEE.entsIn
              simp only [Value.slice.injEq] at e1
              obtain ⟨rfl, _, _⟩ := e1
              obtain ⟨g, rfl, hg, cy0, cy1⟩ := hcells j y hy
              have hyb := hEE.2.1 y (List.mem_of_getElem? hy)
              obtain ⟨t0, t1, t2, t3, t4⟩ := tc_cells M.t
              obtain ⟨cur, hcur, hcsz, hall⟩ := M.se
              obtain ⟨x, hx, hx0, hx1, hx2, -⟩ := hall k (by omega)
              have hx3 := hx2 rfl
              have cs : wr.cell? ⟨sb, k, none⟩ = some (.int .u64 x) := by rw [cell_of_row wr _ _ _ _ _ hcur]; exact hx
              have fs : wr.frozen? ⟨sb, k, none⟩ = false := by simp [World.frozen?, hcur]
              have z1 : T < wr.heap.size := M.rv T (by simp [Rv])
              have z2 : sb < wr.heap.size := M.rv sb (by simp [Rv])
              clear hEE hcells hcur hall hx M hx2
              go_wp2
              go_region
              go_wp2
              go_roundw
              case rel =>
                refine ⟨j + 1, by omega, by go_num, ?_⟩
                have m1 := Mid.seen (x := x + y.2) HMs.out (by omega) (by omega) (by omega) (by omega) hBs
                exact m1.grown (((Below.refl _ _).alloc (Nat.le_refl _) _).drew)
              case measure => simp [intOf]; omega
            · go_wp2
              go_roundw
              case rel => exact ⟨k + 1, pl4, by omega, by go_num, Mid.next HMs.out⟩
              case measure => simp [intOf]; omega
      · obtain rfl : k = n := by omega
        have hT := (tc_cells M.t).2.1
        obtain ⟨D, hD, hHD⟩ := M.hm
        have zT := M.rv T (by simp [Rv])
        have HMr : Hid (Hosts wr pl (fun t => histTo es t k) (Rv w T mb sb) ∧ Below w.heap.size w wr ∧ SeenAt wr sb k k 0 ∧ wr.heap[T]? = some (tcObj E k cap mb sb kv)) := ⟨M.ho, M.be, M.se, M.t⟩
        have HRV : Hid (∀ b, Rv w T mb sb b → b < wr.heap.size) := M.rv
        clear M
        go_wp2_with (at_range; refine wpList_range_own _ rfl (.tmp 87) 38 rfl 9 55 law9 Ybaf.underlying38 ptrElem mb k D rfl hD ?_; intro w0 hrg0 hg0 hs0)
        go_frame
        obtain ⟨r, hr⟩ : ∃ r, r = wr.heap.size := ⟨_, rfl⟩
        rw [← hr] at hrg0 hs0 ⊢
        have HR : Hid (r = wr.heap.size) := hr
        have HW0 : Hid (Hosts w0 pl (fun t => histTo es t k) (Rv w T mb sb) ∧ Below w.heap.size w w0 ∧ SeenAt w0 sb k k 0 ∧ w0.heap[T]? = some (tcObj E k cap mb sb kv)) := by
          obtain ⟨q1, q2, q3, q4⟩ := HMr.out
          refine ⟨q1.kept (fun b hb _ => hg0.block b hb (by simp)), q2.grown hg0 q2.size (by simp), q3.kept (hg0.block _ (HRV.out sb (by simp [Rv])) (by simp)), ?_⟩
          rw [hg0.block T (HRV.out T (by simp [Rv])) (by simp)]; exact q4
        have HW1 : Hid (w0.heap.size = r + 1) := hs0
        have HPL : Hid (∀ t s, t < 3 → pl t = some s → ∀ b ∈ s.blocks, b < r) := fun t s ht hs b hb => by rw [hr]; exact HMr.out.1.lt ht hs b hb
        have HRR : Hid (∀ b, Rv w T mb sb b → b < r) := fun b hb => by rw [hr]; exact HRV.out b hb
        have HRG : Hid _ := hrg0
        clear hr hg0 hs0 hrg0 hD HMr hT
        go_loopw [10] (fun _ ws => ∃ left cnt, ws.ranges Ybaf.prog 9 ptrElem mb r k D left cnt ∧ r < ws.heap.size ∧ Hosts ws pl (fun t => histTo es t k) (Rv w T mb sb) ∧ Below w.heap.size w ws ∧ SeenAt ws sb k k 0 ∧ ws.heap[T]? = some (tcObj E k cap mb sb kv)) (fun _ ws => ws.rangeLeft mb r)
        case atStart => exact ⟨_, _, HRG.out, by have := HW1.out; omega, HW0.out⟩
        case round =>
          obtain ⟨left, cnt, hrg, hrl, q1, q2, q3, q4⟩ := hrel
          have HQ : Hid (Hosts wr pl (fun t => histTo es t k) (Rv w T mb sb) ∧ Below w.heap.size w wr ∧ SeenAt wr sb k k 0 ∧ wr.heap[T]? = some (tcObj E k cap mb sb kv)) := ⟨q1, q2, q3, q4⟩
          have HRG2 : Hid (wr.ranges Ybaf.prog 9 ptrElem mb r k D left cnt) := hrg
          clear q1 q2 q3 q4 HRG HW0 HW1
          go_wp2_with (at_next; refine wpList_next_ranges _ rfl (.tmp 88) rfl 9 law9 ptrElem Value.string ptrOf invK9 invV55 mb r k D left cnt rfl hrg ?_ ?_)
          · intro _ hl0
            go_wp2
            go_ret
            obtain ⟨q1, q2, q3, q4⟩ := HQ.out
            exact ⟨T, mb, sb, kv, pl, rfl, hBT, hBm, hBs, ⟨q4, ⟨D, World.ranges.owns HRG2.out, hHD⟩, q1, q3, q2⟩⟩
          · intro x c kl y1 y2 w1 cnt1 hkey hlk hRv hat hrg1 hlt hg1 hs1 hen
            obtain ⟨t, s, ht, hs, rfl⟩ := range_host hHD hRv hat
            have hptr : ptrOf (some s.p) = .pointer (some ⟨s.p, 0, none⟩) := rfl
            have hnr : ∀ b ∈ s.blocks, b ≠ r := fun b hb e => by have := HPL.out t s ht hs b hb; omega
            have hm1 : Hosts w1 pl (fun t => histTo es t k) (Rv w T mb sb) := ⟨HQ.out.1.no, fun u s' hu hs' => (HQ.out.1.ev u s' hu hs').kept fun b hb => hg1.block b (HQ.out.1.lt hu hs' b hb) (by simp only [ne_eq, Option.some.injEq]; have := HPL.out u s' hu hs' b hb; omega), HQ.out.1.apart, HQ.out.1.free⟩
            have hrv1 : ∀ b, Rv w T mb sb b → b < w1.heap.size := fun b hb => by have := HRR.out b hb; omega
            have hkeep : ∀ b, Rv w T mb sb b → w1.heap[b]? = wr.heap[b]? := fun b hb => hg1.block b (by have := HRR.out b hb; omega) (by simp only [ne_eq, Option.some.injEq]; have := HRR.out b hb; omega)
            go_wp2_with fail
            refine (count_any s.p s.av s.mv (histTo es t k) _ (hm1.ev t s ht hs)).mono ?_
            rintro e' w5 ⟨rfl, hh5, hmv5⟩
            have hT5 := hm1.turn ht hs hrv1 (hmv5.mono (T := s.blocks) (fun x hx => Or.inl (by simp at hx; subst hx; simp [Place.blocks, blocksOf]))) s.av s.mv _ hh5 (fun b hb => Or.inl hb)
            rw [put_id pl t _ hs, put_id _ t _ rfl] at hT5
            have hg5 : w1.grownBy w5 (some s.p) := ⟨hmv5.os, hmv5.tape, hmv5.output, hmv5.size, fun b hb hne => hmv5.block b hb (by simpa using hne)⟩
            have hspb : s.p ∈ s.blocks := by simp [Place.blocks, blocksOf]
            have hsr := hnr s.p hspb
            have hsm : mb ≠ s.p := fun e => hm1.free t s ht hs s.p hspb (by simp [Rv, e])
            have HT5 : Hid (Hosts w5 pl (fun t => histTo es t k) (Rv w T mb sb) ∧ ∀ b, Rv w T mb sb b → w5.heap[b]? = wr.heap[b]?) := ⟨hT5.1, fun b hb => (hT5.2 b hb).trans (hkeep b hb)⟩
            have HR5 : Hid (w5.ranges Ybaf.prog 9 ptrElem mb r k D (fun z => left z && !z.sameKey kl) cnt1) := hrg1.kept hg5 (by simpa using hsm) (by simpa using fun e : r = s.p => hsr e.symm)
            have HS5 : Hid (r < w5.heap.size) := by have := hmv5.size; show r < _; omega
            have HB5 : Hid (Below w.heap.size w w5) := by
              have hr0 := HQ.out.2.1
              have h1 : Below w.heap.size w w1 := hr0.grown hg1 hr0.size (fun b hb => by simp at hb; subst hb; have := HRR.out T (by simp [Rv]); omega)
              exact h1.trans (hmv5.below (by rw [hs1]; exact hr0.size) (fun x hx => by
                simp at hx; subst hx
                have := hm1.free t s ht hs s.p hspb
                simp only [Rv, not_or] at this
                omega))
            have HLT : Hid (cnt1 < cnt) := hlt
            clear hT5 hg5 hh5 hmv5 hm1 hrv1 hkeep hg1 hrg1 hen hat hRv hkey hlk hs1 hnr hsr hsm hspb hs ht
            go_wp2
            go_roundw
            case rel => exact ⟨_, _, HR5.out, HS5.out, HT5.out.1, HB5.out, HQ.out.2.2.1.kept (HT5.out.2 sb (by simp [Rv])), (HT5.out.2 T (by simp [Rv])).trans HQ.out.2.2.2⟩
            case measure => rw [World.ranges.left_eq HR5.out, World.ranges.left_eq HRG2.out]; exact HLT.out
end Go.Proofs.YbulkacrqeaFmt
