import Derived.Test.YbulkacrqeaFmtG2
import Derived.Test.YbulkacrqeaFmtH1
import Derived.Test.YbulkacrqeaFmtCards
import Derived.Stop.JoinedAt
import Derived.Stop.Texts
import Derived.Stop.JoinedTold
import Derived.SevenToldRow
namespace Go.Proofs.YbulkacrqeaFmt
open Go.ChangeShapes Go.WideShapes Go.ChangeAt Go.RowKit Go.Kit Go.Deep
open Go.Extern.Stop Go.Stop Go.Extern

theorem Ybaf.own : ownKnob Ybaf.prog.godebug = none := by kernel_rfl
theorem Ybaf.laidOut : laidOutB Ybaf.pinned.checked.prog = true := by kernel_rfl

set_option maxRecDepth 20000 in
set_option maxHeartbeats 1000000 in
theorem law_big (ao ko po : Option Addr) (n acap nk kcap np pcap : Nat) (c0 c1 c2 k : Int) (w : World) (hmn : n ≤ 9223372036854775807) (hmk : nk ≤ 9223372036854775807) (hmp : np ≤ 9223372036854775807) (h : 65536 < n ∨ 65536 < nk ∨ 65536 < np) :
    Calls Ybaf.prog 3 #[.slice ao n acap, .slice ko nk kcap, .slice po np pcap, .agg #[.int .u8 c0, .int .u8 c1, .int .u8 c2], .int .u64 k] w fun e w' => e = .returned (.bool true) ∧ Below w.heap.size w w' := by
  by_cases h1 : 65536 < n
  · go_enter Ybaf.func3, Ybaf.ntmps3
    go_wp2
    go_ret
    exact ⟨rfl, (Below.refl _ _).alloc (Nat.le_refl _) _⟩
  · by_cases h2 : 65536 < nk
    · clear h
      go_enter Ybaf.func3, Ybaf.ntmps3
      go_wp2
      go_ret
      exact ⟨rfl, (Below.refl _ _).alloc (Nat.le_refl _) _⟩
    · have h3 : 65536 < np := by omega
      clear h
      go_enter Ybaf.func3, Ybaf.ntmps3
      go_wp2
      go_ret
      exact ⟨rfl, (Below.refl _ _).alloc (Nat.le_refl _) _⟩

theorem list3 {α : Type} (l : List α) (h : (⟨l⟩ : Array α).size = 3) : ∃ a b c, l = [a, b, c] := by
  match l, h with
  | [a, b, c], _ => exact ⟨a, b, c, rfl⟩

abbrev theSpec : OpenSpec := OpenSpec.ofChange Rows.lawS970021AWholeSpec

set_option maxRecDepth 100000 in
theorem t_lifted (os : Os) (started : os.Started) (H : Type) (enc : TypeId × Value → H) :
    ReturnsInTold none {} Ybaf.checked os 3 .any Input.okWide (theSpec.preRow enc Ybaf.prog Ybaf.f3 [] false []) (fun F => (theSpec.at F).post enc Ybaf.prog Ybaf.f3 false true false false) (aloneAtReturn Ybaf.prog) nothingAlways := by
  refine returnsInTold_of_row (C := Ybaf.checked) (s := theSpec) (by kernel_rfl) Ybaf.own started (by kernel_rfl) Ybaf.func3
    (OpenSpec.witness_stopped (enc := enc) (C := Ybaf.checked) false ⟨#[], #[.slice none 0 0, .slice none 0 0, .slice none 0 0, .agg #[.int .u8 0, .int .u8 0, .int .u8 0], .int .u64 0], []⟩ 8 (by kernel_rfl) (by kernel_rfl) (by kernel_rfl) (by kernel_rfl)) ?_
  intro F W base args ds gs before _ hF hval0 hW _ _ _ _ _
  have hval : ∀ (j : Nat) t v, Ybaf.f3.params[j]? = some t → args[j]? = some v → Value.okWide Ybaf.prog W .any base t v := hval0
  have hW' := hW
  obtain ⟨p, q, hA0, hV, rfl, _, _⟩ := hW
  have hA : DataW.TrodAll enc Ybaf.prog W 0 (fun _ => true) true Ybaf.f3.params.toList args.toList ds p := hA0
  rw [Ybaf.params3] at hA hval
  obtain ⟨v0, vs0, d0, ds0, p0, q0, hargs, rfl, rfl, h0, r0⟩ := trodAll_cons hA
  obtain ⟨v1, vs1, d1, ds1, p1, q1, rfl, rfl, rfl, h1, r1⟩ := trodAll_cons r0
  obtain ⟨v2, vs2, d2, ds2, p2, q2, rfl, rfl, rfl, h2, r2⟩ := trodAll_cons r1
  obtain ⟨v3, vs3, d3, ds3, p3, q3, rfl, rfl, rfl, h3, r3⟩ := trodAll_cons r2
  obtain ⟨v4, vs4, d4, ds4, p4, q4, rfl, rfl, rfl, h4, r4⟩ := trodAll_cons r3
  obtain ⟨rfl, rfl, rfl⟩ := trodAll_nil r4
  obtain rfl : args = #[v0, v1, v2, v3, v4] := by cases args; simp_all
  obtain ⟨rfl, rfl⟩ := trodVars_none hV
  obtain ⟨a0, n0, cap0, rfl⟩ := okWide_slice Ybaf.underlying22 (hval 0 22 v0 rfl rfl)
  obtain ⟨a1, n1, cap1, rfl⟩ := okWide_slice Ybaf.underlying23 (hval 1 23 v1 rfl rfl)
  obtain ⟨a2, n2, cap2, rfl⟩ := okWide_slice Ybaf.underlying23 (hval 2 23 v2 rfl rfl)
  obtain ⟨cs, rfl, hsz, _⟩ : ∃ cs, v3 = .agg cs ∧ cs.size = Ybaf.prog.cellsOf 24 ∧ Row.okWide Ybaf.prog W .any base 24 cs := by
    have := hval 3 24 v3 rfl rfl
    simpa [Value.okWide, Ybaf.underlying24] using this
  rw [Ybaf.cells24] at hsz
  obtain ⟨l⟩ := cs
  obtain ⟨c0, c1, c2, rfl⟩ := list3 l hsz
  have g0 := h0
  have g1 := h1
  have g2 := h2
  have g3 := h3
  have g4 := h4
  obtain ⟨f0, hf0⟩ := h0
  obtain ⟨f1, hf1⟩ := h1
  obtain ⟨f2, hf2⟩ := h2
  obtain ⟨f3, hf3⟩ := h3
  obtain ⟨rs, hrs, hRaw, hm0⟩ := open_raws (by simpa [Value.cells] using hf0)
  obtain ⟨ks, hks, hK, hm1⟩ := open_bools (by simpa [Value.cells] using hf1)
  obtain ⟨ps, hps, hP, hm2⟩ := open_bools (by simpa [Value.cells] using hf2)
  obtain ⟨y0, y1, y2, m, hx, hy0, hy1, hy2⟩ := trod_array3 Ybaf.underlying24 Ybaf.cells5 hf3
  obtain ⟨x0, e0, rfl, w0⟩ := DataW.trod_int Ybaf.underlying5 hy0
  obtain ⟨x1, e1, rfl, w1⟩ := DataW.trod_int Ybaf.underlying5 hy1
  obtain ⟨x2, e2, rfl, w2⟩ := DataW.trod_int Ybaf.underlying5 hy2
  simp at e0 e1 e2
  subst e0 e1 e2
  obtain ⟨k, rfl, -, -, wk⟩ := open_int Ybaf.underlying25 (hval 4 25 v4 rfl rfl) h4
  have hk := bounds_u64 wk
  unfold maxLen at hm0 hm1 hm2
  have hwalk : Calls Ybaf.prog 3 #[.slice a0 n0 cap0, .slice a1 n1 cap1, .slice a2 n2 cap2, .agg #[.int .u8 x0, .int .u8 x1, .int .u8 x2], .int .u64 k] W fun e w' => e = .returned (.bool true) ∧ Below W.heap.size W w' := by
    by_cases hbig : 65536 < n0 ∨ 65536 < n1 ∨ 65536 < n2
    · exact law_big a0 a1 a2 n0 cap0 n1 cap1 n2 cap2 x0 x1 x2 k W (by omega) (by omega) (by omega) hbig
    · exact law_main a0 a1 a2 n0 cap0 n1 cap1 n2 cap2 rs ks ps (fun x => match x with | 0 => x0 | 1 => x1 | _ => x2) k W hrs hks hps (by omega) (by omega) (by omega) hRaw hK hP (fun x hx => by
        match x, hx with
        | 0, _ => exact wf_u8_bounds w0
        | 1, _ => exact wf_u8_bounds w1
        | 2, _ => exact wf_u8_bounds w2) (by omega) (by omega)
  clear hA0 hval0 hf0 hf1 hf2 hf3 hx
  simp only [List.append_nil] at hW'
  have hlt : ∀ x ∈ p0 ++ (p1 ++ (p2 ++ (p3 ++ p4))), x.block < W.heap.size := fun x hx => by simpa using hW'.lt x hx
  refine hwalk.mono fun e W' ⟨he, hnx⟩ => ?_
  subst he
  have hargs' : DataW.TrodAll enc Ybaf.prog W' 0 (fun b => decide (b < W.heap.size)) true [22, 23, 23, 24, 25] [.slice a0 n0 cap0, .slice a1 n1 cap1, .slice a2 n2 cap2, .agg #[.int .u8 x0, .int .u8 x1, .int .u8 x2], .int .u64 k] [d0, d1, d2, d3, d4] (p0 ++ (p1 ++ (p2 ++ (p3 ++ (p4 ++ []))))) :=
    trodAll_cons_mk (Below.trod Ybaf.laidOut (by kernel_rfl) (of_decide_eq_true (by kernel_rfl)) g0 hnx (fun x hx => hlt x (by simp [hx])))
      (trodAll_cons_mk (Below.trod Ybaf.laidOut (by kernel_rfl) (of_decide_eq_true (by kernel_rfl)) g1 hnx (fun x hx => hlt x (by simp [hx])))
        (trodAll_cons_mk (Below.trod Ybaf.laidOut (by kernel_rfl) (of_decide_eq_true (by kernel_rfl)) g2 hnx (fun x hx => hlt x (by simp [hx])))
          (trodAll_cons_mk (Below.trod Ybaf.laidOut (by kernel_rfl) (of_decide_eq_true (by kernel_rfl)) g3 hnx (fun x hx => hlt x (by simp [hx])))
            (trodAll_cons_mk (Below.trod Ybaf.laidOut (by kernel_rfl) (of_decide_eq_true (by kernel_rfl)) g4 hnx (fun x hx => hlt x (by simp [hx]))) trodAll_mk0))))
  refine ⟨_, rfl, _, _, _, [], p0 ++ (p1 ++ (p2 ++ (p3 ++ (p4 ++ [])))), [], hW', ?_, hargs', rfl, hnx.frame _, fun h => by cases h⟩
  exact trodAll_mk1 (shut_bool Ybaf.underlying4 _)
end Go.Proofs.YbulkacrqeaFmt
