import Derived.Test.YbulkacrqeaFmtG1
import Derived.ProofKit
import Derived.ChangeSame
import Derived.Laws.IdiomArrays
import Derived.Deep.Slices
import Derived.OpenShut
namespace Go.Proofs.YbulkacrqeaFmt
open Go.ChangeShapes Go.WideShapes Go.ChangeAt Go.RowKit Go.Deep

theorem Ybaf.cells29 : Ybaf.prog.cellsOf 29 = 5 := by kernel_rfl
theorem Ybaf.cells24 : Ybaf.prog.cellsOf 24 = 3 := by kernel_rfl
theorem Ybaf.cells5 : Ybaf.prog.cellsOf 5 = 1 := by kernel_rfl
theorem Ybaf.cells3 : Ybaf.prog.cellsOf 3 = 1 := by kernel_rfl
theorem Ybaf.cells4 : Ybaf.prog.cellsOf 4 = 1 := by kernel_rfl

theorem wf_u8_bounds {x : Int} (h : (Lit.int .u8 x).wf = true) : 0 ≤ x ∧ x ≤ 255 := bounds_u8 h

theorem list_of {α : Type} {p : Nat → α → Prop} (n : Nat) (h : ∀ i, i < n → ∃ x, p i x) : ∃ l : List α, l.length = n ∧ ∀ i x, l[i]? = some x → p i x := by
  induction n with
  | zero => exact ⟨[], rfl, fun i r hr => by simp at hr⟩
  | succ k ih =>
    obtain ⟨rs, h1, h2⟩ := ih (fun i hi => h i (by omega))
    obtain ⟨r, hr⟩ := h k (by omega)
    refine ⟨rs ++ [r], by simp [h1], fun i r' hr' => ?_⟩
    rw [List.getElem?_append] at hr'
    split at hr'
    · exact h2 i r' hr'
    · rename_i hge
      cases hd : i - rs.length with
      | zero =>
        rw [hd] at hr'; simp at hr'; subst hr'
        obtain rfl : i = k := by omega
        exact hr
      | succ q => rw [hd] at hr'; simp at hr'

theorem list5 {α : Type} (l : List α) (h : l.length = 5) : ∃ a b c d e, l = [a, b, c, d, e] := by
  match l, h with
  | [a, b, c, d, e], _ => exact ⟨a, b, c, d, e, rfl⟩

section
variable {H : Type} {enc : TypeId × Value → H} {W : World} {base : Nat} {sp : Nat → Bool} {held : Bool}

/-- what an element of the first argument is -/
theorem raw_of {n : Nat} {cs : List Value} {x : DataW H × List MemPlace} (h : DataW.trod enc Ybaf.prog W base sp held n 29 cs = some x) :
    ∃ r : Raw, r.ok ∧ cs = [.int .u8 r.hb, .int .i64 r.line, .int .u8 (r.c 0), .int .u8 (r.c 1), .int .u8 (r.c 2)] := by
  obtain ⟨xs, m, _, rfl, hl, hlen, hf⟩ := DataW.trod_struct Ybaf.underlying29 h
  rw [Ybaf.cells29] at hl
  obtain ⟨c0, c1, c2, c3, c4, rfl⟩ := list5 cs hl
  have hlen' : xs.length = 3 := hlen
  match xs, hlen' with
  | [y0, y1, y2], _ =>
    have g0 := hf 0 _ rfl
    have g1 := hf 1 _ rfl
    have g2 := hf 2 _ rfl
    simp [Ybaf.cells5, Ybaf.cells3, Ybaf.cells24] at g0 g1 g2
    obtain ⟨a0, e0, rfl, w0⟩ := DataW.trod_int Ybaf.underlying5 g0
    obtain ⟨a1, e1, rfl, w1⟩ := DataW.trod_int Ybaf.underlying3 g1
    obtain ⟨z0, z1, z2, k, rfl, q0, q1, q2⟩ := trod_array3 Ybaf.underlying24 Ybaf.cells5 g2
    obtain ⟨a2, e2, rfl, w2⟩ := DataW.trod_int Ybaf.underlying5 q0
    obtain ⟨a3, e3, rfl, w3⟩ := DataW.trod_int Ybaf.underlying5 q1
    obtain ⟨a4, e4, rfl, w4⟩ := DataW.trod_int Ybaf.underlying5 q2
    simp at e0 e1 e2 e3 e4
    subst e0 e1 e2 e3 e4
    refine ⟨⟨a0, a1, fun x => match x with | 0 => a2 | 1 => a3 | _ => a4⟩, ⟨(wf_u8_bounds w0).1, (wf_u8_bounds w0).2, fun x hx => ?_⟩, rfl⟩
    match x, hx with
    | 0, _ => exact wf_u8_bounds w2
    | 1, _ => exact wf_u8_bounds w3
    | 2, _ => exact wf_u8_bounds w4

theorem open_raws {fuel : Nat} {ao : Option Addr} {len cap : Nat} {x : DataW H × List MemPlace} (h : DataW.trod enc Ybaf.prog W base sp held fuel 22 [.slice ao len cap] = some x) : ∃ rs : List Raw, rs.length = len ∧ RawAt W ao rs ∧ len ≤ maxLen := by
  rcases open_slice Ybaf.underlying22 h with ⟨hcs, _⟩ | ⟨a, len', cap', m, n, D, Pl, hcs, hb, hl, hm, hmm, _, hx⟩
  · simp at hcs
    obtain ⟨rfl, rfl, rfl⟩ := hcs
    exact ⟨[], rfl, fun i r hr => (by simp at hr), Nat.zero_le _⟩
  · simp at hcs
    obtain ⟨rfl, rfl, rfl⟩ := hcs
    have hlm : len ≤ m := by rw [hmm]; split <;> omega
    have hall : ∀ i, i < len → ∃ r : Raw, r.ok ∧ W.cells? base (a.add (i * 5)) 5 = some [.int .u8 r.hb, .int .i64 r.line, .int .u8 (r.c 0), .int .u8 (r.c 1), .int .u8 (r.c 2)] := by
      intro i hi
      obtain ⟨cs', h1, h2⟩ := hx i (by omega)
      rw [Ybaf.cells29] at h1
      obtain ⟨r, hr, rfl⟩ := raw_of h2
      exact ⟨r, hr, h1⟩
    have := list_of len hall
    obtain ⟨rs, h1, h2⟩ := this
    refine ⟨rs, h1, fun i r hr => ?_, by omega⟩
    obtain ⟨hok, hc⟩ := h2 i r hr
    obtain ⟨_, _, hcell⟩ := World.cells?_some hc
    obtain ⟨b, off, spot⟩ := a
    have h00 := h2 0
    have hlen0 : 0 < rs.length := by have := (List.getElem?_eq_some_iff.1 hr).1; omega
    obtain ⟨_, hc0⟩ := h00 _ (List.getElem?_eq_getElem hlen0)
    have hsp0 := (World.cells?_some hc0).2.2 0 (by omega)
    have hspot : spot = none := by simpa [Addr.add] using World.cell?_spot hsp0
    subst hspot
    have hadd : ∀ j, ((⟨b, off, none⟩ : Addr).add (i * 5)).add j = ⟨b, off + i * 5 + j, none⟩ := by
      intro j; rw [add_add, Go.WideShapes.add_plain]; congr 1; omega
    have k0 := hcell 0 (by omega)
    have k1 := hcell 1 (by omega)
    have k2 := hcell 2 (by omega)
    have k3 := hcell 3 (by omega)
    have k4 := hcell 4 (by omega)
    rw [hadd] at k0 k1 k2 k3 k4
    exact ⟨hok, b, off, rfl, World.block_lt_of_cell? W _ k0, k0, k1, k2, k3, k4⟩

theorem open_bools {fuel : Nat} {ao : Option Addr} {len cap : Nat} {x : DataW H × List MemPlace} (h : DataW.trod enc Ybaf.prog W base sp held fuel 23 [.slice ao len cap] = some x) : ∃ bs : List Bool, bs.length = len ∧ BoolArg W ao bs ∧ len ≤ maxLen := by
  rcases open_slice1 Ybaf.underlying23 Ybaf.cells4 h with ⟨hcs, _⟩ | ⟨a, len', cap', m, n, V, D, Pl, hcs, hb, hl, hm, hmm, _, hx⟩
  · simp at hcs
    obtain ⟨rfl, rfl, rfl⟩ := hcs
    exact ⟨[], rfl, fun i r hr => (by simp at hr), Nat.zero_le _⟩
  · simp at hcs
    obtain ⟨rfl, rfl, rfl⟩ := hcs
    have hlm : len ≤ m := by rw [hmm]; split <;> omega
    have hall : ∀ i, i < len → ∃ b : Bool, W.cell? (a.add i) = some (.bool b) := by
      intro i hi
      obtain ⟨h1, h2⟩ := hx i (by omega)
      obtain ⟨b, e, _⟩ := DataW.trod_bool Ybaf.underlying4 h2
      simp at e
      exact ⟨b, by rw [h1, e]⟩
    have := list_of len hall
    obtain ⟨bs, h1, h2⟩ := this
    refine ⟨bs, h1, fun i b hbb => ?_, by omega⟩
    obtain ⟨g, off, spot⟩ := a
    have hlen0 : 0 < bs.length := by have := (List.getElem?_eq_some_iff.1 hbb).1; omega
    have hsp0 := h2 0 _ (List.getElem?_eq_getElem hlen0)
    have hspot : spot = none := by simpa [Addr.add] using World.cell?_spot hsp0
    subst hspot
    have k0 := h2 i b hbb
    rw [Go.WideShapes.add_plain] at k0
    exact ⟨g, off, rfl, World.block_lt_of_cell? W _ k0, k0⟩
end
end Go.Proofs.YbulkacrqeaFmt
