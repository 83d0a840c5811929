import Derived.Test.YbulkacrqeaDoorC6
namespace Go.Proofs.YbulkacrqeaDoor
open Go.RowKit

theorem nums_getD (l : List UInt8) (i : Nat) (hi : i < l.length) : (nums l).getD i 0 = ((l[i]).toNat : Int) := by
  simp [nums, List.getD, hi]

theorem equal_row (p : Option Addr) (c : Nat) (l : List UInt8) (B : Nat) (v' : Value) (W : World) (hp : Lib.BytesIn W p l.length (nums l)) (hown : W.ownsRow B 5 1 v' l.length (bcells l)) :
    Calls Ybad.prog 8 #[.slice p l.length c, v'] W fun e w' => e = .returned (.bool true) ∧ w' = W := by
  have hown2 := hown
  rcases hown.2 with ⟨rfl, h0⟩ | ⟨g, cap, cur, rfl, _, _, _, _, _, _⟩
  · refine (Ybad.bytes_Equal_all p none l.length c 0 0 (nums l) (nums l) W (by simp) (by simpa using h0) hp (by intro h; omega)).mono ?_
    rintro e w' ⟨rfl, rfl⟩
    exact ⟨by simp, rfl⟩
  · refine (Ybad.bytes_Equal_all p (some ⟨g, 0, none⟩) l.length c l.length cap (nums l) (nums l) W (by simp) (by simp) hp ?_).mono ?_
    · intro _
      refine ⟨g, 0, rfl, fun i hi => ?_⟩
      rw [Nat.zero_add, own_cell hown2 rfl i l[i] (List.getElem?_eq_getElem hi), nums_getD l i hi]
    · rintro e w' ⟨rfl, rfl⟩
      exact ⟨by simp, rfl⟩

theorem tail_some (l : List UInt8) (a : Addr) (c : Nat) (W : World) (hlen : l.length ≤ 1048576) (hc : ∀ j (hj : j < l.length), W.cell? (a.add j) = some (.int .u8 (l[j].toNat : Int)))
    (t1 t2 : TypeId) (p1 p2 : Value) (h1 : W.cell? ⟨1, 0, none⟩ = some (.iface t1 p1)) (h2 : W.cell? ⟨2, 0, none⟩ = some (.iface t2 p2)) :
    TailOk (.slice (some a) l.length c) l W := by
  have hb1' : 1 < W.heap.size := Lib.lt_of_cell h1
  have hb2' : 2 < W.heap.size := Lib.lt_of_cell h2
  have hc' : ∀ W', Below W.heap.size W W' → ∀ j (hj : j < l.length), W'.cell? (a.add j) = some (.int .u8 (l[j].toNat : Int)) := fun W' hb j hj => by
    rw [hb.cell (Lib.lt_of_cell (hc j hj))]
    exact hc j hj
  have hcN : ∀ W', Below W.heap.size W W' → ∀ i, i < l.length → W'.cell? (a.add i) = some (.int .u8 ((nums l).getD i 0)) := fun W' hb i hi => by
    rw [hc' W' hb i hi, nums_getD l i hi]
  refine ⟨?_, ?_, ?_⟩
  · refine (Ybad.bytes_Clone_at a l.length c (nums l) W (by simp) (by omega) (hcN W (Below.refl _ _))).mono ?_
    rintro e w' ⟨v', rfl, ho, _, hb⟩
    refine ⟨v', rfl, ?_, hb⟩
    have e : (nums l).map (Value.int .u8) = bcells l := by simp [nums, bcells]
    rw [e] at ho
    exact ho
  · intro W' hb
    exact parse_row l a c W' (hc' W' hb) t1 t2 p1 p2 ((hb.cell (p := ⟨1, 0, none⟩) hb1').trans h1) ((hb.cell (p := ⟨2, 0, none⟩) hb2').trans h2)
  · intro v' W' hb ho
    exact equal_row (some a) c l _ v' W' (Lib.BytesIn.of_cells (hcN W' hb)) ho

theorem tail_nil (W : World) (t1 t2 : TypeId) (p1 p2 : Value) (h1 : W.cell? ⟨1, 0, none⟩ = some (.iface t1 p1)) (h2 : W.cell? ⟨2, 0, none⟩ = some (.iface t2 p2)) :
    TailOk (.slice none 0 0) [] W := by
  have hb1' : 1 < W.heap.size := Lib.lt_of_cell h1
  have hb2' : 2 < W.heap.size := Lib.lt_of_cell h2
  refine ⟨?_, ?_, ?_⟩
  · refine (Ybad.bytes_Clone_nil 0 0 W).mono ?_
    rintro e w' ⟨rfl, rfl⟩
    exact ⟨_, rfl, World.ownsRow_nil _ _ _ _, Below.refl _ _⟩
  · intro W' hb
    exact parse_nil 0 W' t1 t2 p1 p2 ((hb.cell (p := ⟨1, 0, none⟩) hb1').trans h1) ((hb.cell (p := ⟨2, 0, none⟩) hb2').trans h2)
  · intro v' W' hb ho
    exact equal_row none 0 [] _ v' W' (Lib.BytesIn.nil _ _ _) ho

/-! ### The digitized row -/

def BytesAt (w : World) (g cap : Nat) (bs : List UInt8) : Prop := w.ownsRow 0 5 1 (.slice (some ⟨g, 0, none⟩) bs.length cap) bs.length (bcells bs)

theorem BytesAt.cell {w : World} {g cap : Nat} {bs : List UInt8} (h : BytesAt w g cap bs) {i : Nat} {b : UInt8} (hb : bs[i]? = some b) : w.cell? ⟨g, i, none⟩ = some (.int .u8 (b.toNat : Int)) :=
  own_cell h rfl i b hb
theorem BytesAt.block {w : World} {g cap : Nat} {bs : List UInt8} (h : BytesAt w g cap bs) : ∃ cur, w.heap[g]? = some (.cells cur 5 (0, 0)) ∧ cur.size = cap ∧ bs.length ≤ cap ∧ cap ≤ maxLen ∧ cur.toList.take bs.length = bcells bs := by
  rcases h.2 with ⟨e, _⟩ | ⟨g', cap', cur, e, _, hh, h1, h2, h3, h4⟩
  · simp at e
  · simp only [Value.slice.injEq, Option.some.injEq, Addr.mk.injEq] at e
    obtain ⟨⟨rfl, _⟩, _, rfl⟩ := e
    exact ⟨cur, hh, by omega, h1, h2, by simpa using h4⟩
theorem BytesAt.mk {w : World} {g cap : Nat} {bs : List UInt8} {cur : Array Value} (hh : w.heap[g]? = some (.cells cur 5 (0, 0))) (h3 : cur.size = cap) (h1 : bs.length ≤ cap) (h2 : cap ≤ maxLen) (h4 : cur.toList.take bs.length = bcells bs) : BytesAt w g cap bs :=
  ⟨by simp [bcells], Or.inr ⟨g, cap, cur, rfl, Nat.zero_le _, hh, h1, h2, by omega, by simpa using h4⟩⟩
theorem BytesAt.frozen {w : World} {g cap : Nat} {bs : List UInt8} (h : BytesAt w g cap bs) (i : Nat) : w.frozen? ⟨g, i, none⟩ = false := by
  obtain ⟨cur, hh, _⟩ := h.block
  simp [World.frozen?, hh]
theorem lt_of_block {w : World} {p : Nat} {o : Obj} (h : w.heap[p]? = some o) : p < w.heap.size := by
  rcases Nat.lt_or_ge p w.heap.size with h' | h'
  · exact h'
  · rw [Array.getElem?_eq_none h'] at h; cases h
theorem setCell_block {w : World} {p j : Nat} {cs : Array Value} {t : TypeId} {fr : Nat × Nat} (h : w.heap[p]? = some (.cells cs t fr)) (v : Value) : (w.setCell ⟨p, j, none⟩ v).heap[p]? = some (.cells (cs.setIfInBounds j v) t fr) := by
  have hlt := lt_of_block h
  have h' : w.heap[p] = .cells cs t fr := by simpa [Array.getElem?_eq_getElem hlt] using h
  show (w.heap.modify p _)[p]? = _
  rw [Array.getElem?_eq_getElem (by simpa using hlt), Array.getElem_modify_self, h']
  rfl
theorem BytesAt.set {w : World} {g cap : Nat} {bs : List UInt8} (h : BytesAt w g cap bs) (i : Nat) (b : UInt8) : BytesAt (w.setCell ⟨g, i, none⟩ (.int .u8 (b.toNat : Int))) g cap (bs.set i b) := by
  obtain ⟨cur, hh, r1, r2, r3, r4⟩ := h.block
  refine .mk (setCell_block hh _) (by simpa using r1) (by simpa using r2) r3 ?_
  simp only [bcells, List.map_set, Array.toList_setIfInBounds, List.length_set]
  rw [← bcells, ← r4, List.take_set]

theorem madeCells_get (z : Value) (n i : Nat) (h : i < n) : (madeCells #[z] n)[i]? = some z := by
  simp [madeCells, h, Nat.mod_one]

theorem run_mk22 (n : Nat) (hn : n ≤ 1048576) (w : World) : (Instr.makeSlice 22 (.int .i64 n) (.int .i64 n)).run Ybad.prog w = .ok (.slice (some ⟨w.heap.size, 0, none⟩) n n) (w.alloc (.cells (madeCells #[.int .u8 0] n) 5)) := by
  obtain ⟨i0, hi0, hz0, hz1, hz2⟩ := info_parts (show (Ybad.prog.info? 5).map (fun i => (i.zero, i.size, i.bytes)) = some (some (.int .u8 0), 1, 1) by kernel_rfl)
  have h2 : (i0.bytes : Int) * (n : Int) ≤ 281474976710656 := by rw [hz2]; omega
  have := run_make (P := Ybad.prog) w 22 5 i0 (.int .u8 0) Ybad.underlying22 hi0 hz0 .i64 .i64 n n (by omega) (by omega) h2 (by omega)
  rw [hz1] at this
  simp at this
  exact this

def dgt (b : UInt8) : UInt8 := UInt8.ofNat (48 + b.toNat % 10)

def fillTo (src : List UInt8) (n : Nat) : Nat → List UInt8
  | 0 => List.replicate n 0
  | i + 1 => (fillTo src n i).set i (dgt (src.getD i 0))

theorem fillTo_length (src : List UInt8) (n i : Nat) : (fillTo src n i).length = n := by
  induction i with
  | zero => simp [fillTo]
  | succ i ih => simp [fillTo, ih]

theorem bytes_made {w : World} {n : Nat} (src : List UInt8) (hn : n ≤ 1048576) : BytesAt (w.alloc (.cells (madeCells #[.int .u8 0] n) 5)) w.heap.size n (fillTo src n 0) := by
  refine BytesAt.mk (heap_alloc_new _ _) (size_madeCells _ _) (by simp [fillTo]) (by unfold maxLen; omega) ?_
  apply List.ext_getElem?
  intro i
  by_cases hi : i < n
  · rw [List.getElem?_take_of_lt (by simpa [fillTo] using hi), Array.getElem?_toList, madeCells_get _ _ _ hi, bcells, List.getElem?_map, fillTo, List.getElem?_replicate, if_pos hi]; rfl
  · rw [List.getElem?_eq_none (by simp [fillTo, size_madeCells]; omega), List.getElem?_eq_none (by simp [bcells, fillTo]; omega)]
end Go.Proofs.YbulkacrqeaDoor
