import Derived.Test.YbulkacrqeaFmtG0
import Derived.Test.YbulkacrqeaFmtF3
namespace Go.Proofs.YbulkacrqeaFmt
open Go.RowKit
attribute [local go_sem] Go.wp_at_zero Go.wp_at_succ

/-- one element of the law's first argument -/
structure Raw where
  hb : Int
  line : Int
  c : Nat → Int

def Raw.ok (r : Raw) : Prop := 0 ≤ r.hb ∧ r.hb ≤ 255 ∧ ∀ x, x < 3 → 0 ≤ r.c x ∧ r.c x ≤ 255
def Raw.ev (r : Raw) : Ev := ⟨r.line, (r.hb % 3).toNat, r.c⟩

def RawAt (w : World) (ao : Option Addr) (rs : List Raw) : Prop := ∀ (i : Nat) (r : Raw), rs[i]? = some r → r.ok ∧ ∃ b off, ao = some ⟨b, off, none⟩ ∧ b < w.heap.size ∧
  w.cell? ⟨b, off + i * 5, none⟩ = some (.int .u8 r.hb) ∧ w.cell? ⟨b, off + i * 5 + 1, none⟩ = some (.int .i64 r.line) ∧ w.cell? ⟨b, off + i * 5 + 2, none⟩ = some (.int .u8 (r.c 0)) ∧ w.cell? ⟨b, off + i * 5 + 2 + 1, none⟩ = some (.int .u8 (r.c 1)) ∧ w.cell? ⟨b, off + i * 5 + 2 + 2, none⟩ = some (.int .u8 (r.c 2))
def BoolArg (w : World) (ao : Option Addr) (bs : List Bool) : Prop := ∀ (i : Nat) (b : Bool), bs[i]? = some b → ∃ g off, ao = some ⟨g, off, none⟩ ∧ g < w.heap.size ∧ w.cell? ⟨g, off + i, none⟩ = some (.bool b)

theorem run_mk27 (n : Nat) (hn : n ≤ 65536) (w : World) : (Instr.makeSlice 27 (.int .i64 n) (.int .i64 n)).run Ybaf.prog w = .ok (.slice (some ⟨w.heap.size, 0, none⟩) n n) (w.alloc (.cells (madeCells #[.int .i64 0, .string ⟨#[]⟩, .slice none 0 0, .string ⟨#[]⟩] (n * 4)) 35)) := by
  have := run_mk (z := .agg #[.int .i64 0, .string ⟨#[]⟩, .slice none 0 0, .string ⟨#[]⟩]) Ybaf.underlying27 Ybaf.info35 n (by omega) hn w
  exact this

/-- the row of events, its first i filled -/
def EvsTo (w : World) (E n : Nat) (es : List Ev) (i : Nat) : Prop :=
  ∃ cur, w.heap[E]? = some (.cells cur 35 (0, 0)) ∧ cur.size = n * 4 ∧ (0 < n → ∃ q, cur[0]? = some (.int .i64 q)) ∧ ∀ (j : Nat) (e : Ev), j < i → es[j]? = some e → e.ok ∧ ∃ cv, cur[j * 4]? = some (.int .i64 e.line) ∧ cur[j * 4 + 1]? = some (.string (nm e.host)) ∧
    cur[j * 4 + 2]? = some cv ∧ cur[j * 4 + 3]? = some (.string ⟨#[]⟩) ∧ EntsAt w cv (entsTo e.c 3)

/-- the law's own small blocks -/
def Heads (w wr : World) (ec : Nat → Int) : Prop :=
  wr.heap[w.heap.size]? = some (.cells #[.int .u8 (ec 0), .int .u8 (ec 1), .int .u8 (ec 2)] 24 (0, 0)) ∧ wr.heap[w.heap.size + 1]? = some (.cells #[.string (nm 0), .string (nm 1), .string (nm 2)] 26 (0, 0)) ∧ Below w.heap.size w wr

theorem nm_cell {wr : World} {b : Nat} (h : wr.heap[b]? = some (.cells #[.string (nm 0), .string (nm 1), .string (nm 2)] 26 (0, 0))) {x : Nat} (hx : x < 3) : wr.cell? ⟨b, x, none⟩ = some (.string (nm x)) := by
  rw [cell_of_row wr _ _ _ _ _ h]
  match x, hx with
  | 0, _ => rfl
  | 1, _ => rfl
  | 2, _ => rfl
theorem ec_cell {wr : World} {b : Nat} {ec : Nat → Int} (h : wr.heap[b]? = some (.cells #[.int .u8 (ec 0), .int .u8 (ec 1), .int .u8 (ec 2)] 24 (0, 0))) {x : Nat} (hx : x < 3) : wr.cell? ⟨b, x, none⟩ = some (.int .u8 (ec x)) := by
  rw [cell_of_row wr _ _ _ _ _ h]
  match x, hx with
  | 0, _ => rfl
  | 1, _ => rfl
  | 2, _ => rfl

theorem EntsAt.far {w w' : World} {v : Value} {l : List (Nat × Int)} {E : Nat} (h : EntsAt w v l) (hne : ∃ q, w.cell? ⟨E, 0, none⟩ = some (.int .i64 q)) (hs : ∀ b, b ≠ E → w'.heap[b]? = w.heap[b]?) (hz : w.heap.size ≤ w'.heap.size) : EntsAt w' v l := by
  obtain ⟨h1, h2, h3, ⟨rfl, rfl⟩ | ⟨g, cap, rfl, hcap, hmx, hg, hc⟩⟩ := h
  · exact ⟨h1, h2, h3, Or.inl ⟨rfl, rfl⟩⟩
  · refine ⟨h1, h2, h3, Or.inr ⟨g, cap, rfl, hcap, hmx, by omega, fun i x hx => ?_⟩⟩
    have hgE : g ≠ E := by
      rintro rfl
      obtain ⟨q, hq⟩ := hne
      cases hl : l with
      | nil => rw [hl] at hx; simp at hx
      | cons y l' =>
        have := (hc 0 y (by rw [hl]; rfl)).1
        rw [show 0 * 2 = 0 from rfl, hq] at this
        simp at this
    have e1 : ∀ o, w'.cell? ⟨g, o, none⟩ = w.cell? ⟨g, o, none⟩ := fun o => World.cell?_of_block (a := ⟨g, o, none⟩) (hs g hgE)
    rw [e1, e1]
    exact hc i x hx

theorem EvsTo.step {wr w' : World} {E n : Nat} {es : List Ev} {i : Nat} {e : Ev} {v : Value} (hE : EvsTo wr E n es i) (hb : Below wr.heap.size wr w') (hi : i < n) (he : es[i]? = some e) (hok : e.ok) (hents : EntsAt w' v (entsTo e.c 3)) :
    EvsTo ((((w'.setCell ⟨E, i * 4, none⟩ (.int .i64 e.line)).setCell ⟨E, i * 4 + 1, none⟩ (.string (nm e.host))).setCell ⟨E, i * 4 + 2, none⟩ v).setCell ⟨E, i * 4 + 3, none⟩ (.string ⟨#[]⟩)) E n es (i + 1) := by
  obtain ⟨cur, hcur, hsz, h0, hall⟩ := hE
  have hcur' : w'.heap[E]? = some (.cells cur 35 (0, 0)) := by rw [hb.block E (lt_of_block hcur)]; exact hcur
  have hint : ∃ q, w'.cell? ⟨E, 0, none⟩ = some (.int .i64 q) := by
    obtain ⟨q, hq⟩ := h0 (by omega)
    exact ⟨q, by rw [cell_of_row w' _ _ _ _ _ hcur']; exact hq⟩
  have hfar : ∀ b, b ≠ E → ((((w'.setCell ⟨E, i * 4, none⟩ (.int .i64 e.line)).setCell ⟨E, i * 4 + 1, none⟩ (.string (nm e.host))).setCell ⟨E, i * 4 + 2, none⟩ v).setCell ⟨E, i * 4 + 3, none⟩ (.string ⟨#[]⟩)).heap[b]? = w'.heap[b]? := fun b hb => by
    rw [Below.heap_setCell _ _ _ _ hb, Below.heap_setCell _ _ _ _ hb, Below.heap_setCell _ _ _ _ hb, Below.heap_setCell _ _ _ _ hb]
  have hzz : w'.heap.size ≤ ((((w'.setCell ⟨E, i * 4, none⟩ (.int .i64 e.line)).setCell ⟨E, i * 4 + 1, none⟩ (.string (nm e.host))).setCell ⟨E, i * 4 + 2, none⟩ v).setCell ⟨E, i * 4 + 3, none⟩ (.string ⟨#[]⟩)).heap.size := by simp [World.setCell]
  refine ⟨_, setCell_block (setCell_block (setCell_block (setCell_block hcur' _) _) _) _, by simpa using hsz, fun _ => ?_, fun j e' hj he' => ?_⟩
  · obtain ⟨q, hq⟩ := h0 (by omega)
    by_cases e0 : i = 0
    · subst e0
      refine ⟨e.line, ?_⟩
      have : 0 < cur.size := by omega
      simp [this]
    · refine ⟨q, ?_⟩
      have a1 : i * 4 ≠ 0 := by omega
      simp only [Array.getElem?_setIfInBounds]
      rw [if_neg (by omega), if_neg (by omega), if_neg (by omega), if_neg (by omega)]
      exact hq
  · by_cases eij : j = i
    · subst eij
      rw [he] at he'
      cases he'
      refine ⟨hok, v, ?_, ?_, ?_, ?_, hents.far hint hfar hzz⟩
      · simp only [Array.getElem?_setIfInBounds, Array.size_setIfInBounds]
        rw [if_neg (by omega), if_neg (by omega), if_neg (by omega), if_pos trivial, if_pos (by omega)]
      · simp only [Array.getElem?_setIfInBounds, Array.size_setIfInBounds]
        rw [if_neg (by omega), if_neg (by omega), if_pos trivial, if_pos (by omega)]
      · simp only [Array.getElem?_setIfInBounds, Array.size_setIfInBounds]
        rw [if_neg (by omega), if_pos trivial, if_pos (by omega)]
      · simp only [Array.getElem?_setIfInBounds, Array.size_setIfInBounds]
        rw [if_pos trivial, if_pos (by omega)]
    · obtain ⟨hok', cv, c0, c1, c2, c3, hent⟩ := hall j e' (by omega) he'
      refine ⟨hok', cv, ?_, ?_, ?_, ?_, (EntsAt.below hent hb (Nat.le_refl _)).far hint hfar hzz⟩
      all_goals
        simp only [Array.getElem?_setIfInBounds]
        rw [if_neg (by omega), if_neg (by omega), if_neg (by omega), if_neg (by omega)]
        assumption

theorem Heads.step {w wr w' : World} {ec : Nat → Int} {j0 j1 j2 j3 : Nat} {x0 x1 x2 x3 : Value} (hH : Heads w wr ec) (hb : Below wr.heap.size wr w') :
    Heads w ((((w'.setCell ⟨w.heap.size + 1 + 1, j0, none⟩ x0).setCell ⟨w.heap.size + 1 + 1, j1, none⟩ x1).setCell ⟨w.heap.size + 1 + 1, j2, none⟩ x2).setCell ⟨w.heap.size + 1 + 1, j3, none⟩ x3) ec := by
  obtain ⟨h0, h1, h2⟩ := hH
  refine ⟨?_, ?_, ?_⟩
  · rw [Below.heap_setCell _ _ _ _ (by simp; omega), Below.heap_setCell _ _ _ _ (by simp; omega), Below.heap_setCell _ _ _ _ (by simp; omega), Below.heap_setCell _ _ _ _ (by simp; omega), hb.block _ (lt_of_block h0)]; exact h0
  · rw [Below.heap_setCell _ _ _ _ (by simp), Below.heap_setCell _ _ _ _ (by simp), Below.heap_setCell _ _ _ _ (by simp), Below.heap_setCell _ _ _ _ (by simp), hb.block _ (lt_of_block h1)]; exact h1
  · exact ((((h2.trans (hb.mono h2.size)).setCell (by simp; omega) _).setCell (by simp; omega) _).setCell (by simp; omega) _).setCell (by simp; omega) _

theorem made4 (z0 z1 z2 z3 : Value) (n : Nat) (hn : 0 < n) : (madeCells #[z0, z1, z2, z3] (n * 4))[0]? = some z0 := by
  have h4 : 0 < n * 4 := by omega
  simp [madeCells, h4]

theorem EvsTo.made {w : World} {E n : Nat} {es : List Ev} (h : w.heap[E]? = some (.cells (madeCells #[.int .i64 0, .string ⟨#[]⟩, .slice none 0 0, .string ⟨#[]⟩] (n * 4)) 35 (0, 0))) : EvsTo w E n es 0 :=
  ⟨_, h, size_madeCells _ _, fun hn => ⟨0, made4 _ _ _ _ n hn⟩, fun j e hj => by omega⟩

theorem EvsTo.all {w : World} {E n : Nat} {es : List Ev} (h : EvsTo w E n es n) (hl : es.length = n) : EvsAt w E es := by
  obtain ⟨cur, hcur, hsz, h0, hall⟩ := h
  refine ⟨lt_of_block hcur, fun i e he => ?_⟩
  obtain ⟨hok, cv, c0, c1, c2, c3, hent⟩ := hall i e (by have := (List.getElem?_eq_some_iff.1 he).1; omega) he
  exact ⟨hok, cv, by rw [cell_of_row w _ _ _ _ _ hcur]; exact c0, by rw [cell_of_row w _ _ _ _ _ hcur]; exact c1, by rw [cell_of_row w _ _ _ _ _ hcur]; exact c2, by rw [cell_of_row w _ _ _ _ _ hcur]; exact c3, hent⟩

end Go.Proofs.YbulkacrqeaFmt
