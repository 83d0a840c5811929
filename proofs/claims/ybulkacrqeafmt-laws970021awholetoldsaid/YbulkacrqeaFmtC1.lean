import Derived.Test.YbulkacrqeaFmtB1
import Derived.Maps.OwnSet
import Derived.Maps.RangeWalk
namespace Go.Proofs.YbulkacrqeaFmt
open Go.RowKit Go.Maps

/-! ### the map 'byCounter' -/
theorem law49 : Keyed Ybaf.prog 49 := int_keyed Ybaf.underlying49
theorem zero3 (w : World) : (zeroValue 3).run Ybaf.prog w = .ok (.int .i64 0) w := by kernel_rfl

def okU (t : Int) : Prop := 0 ≤ t ∧ t ≤ 18446744073709551615

/-- block b is a map[uint64]int of at most n entries that holds f -/
def CMap (w : World) (b n : Nat) (f : Int → Option Int) : Prop :=
  ∃ D : DataW Unit, w.ownsMap Ybaf.prog 49 (plainElem Ybaf.prog 3) b n D ∧ ∀ t, okU t → Maps.has D (.int .u64 t) = (f t).isSome ∧ D.atKey (.int .u64 t) (.lit (.int .i64 0)) = .lit (.int .i64 ((f t).getD 0))

theorem key_u64 {t : Int} (h : okU t) : keyOf Ybaf.prog 49 (.int .u64 t) = some (.int .u64 t) := keyOf_int_mk Ybaf.underlying49 (WalkArith.wf_u64 h)

theorem CMap.made (w : World) : CMap (w.alloc (.map #[] 0)) w.heap.size 0 (fun _ => none) :=
  ⟨.map [], World.ownsMap_made w _ _ _, fun _ _ => ⟨rfl, rfl⟩⟩

theorem CMap.congr {w : World} {b n : Nat} {f g : Int → Option Int} (h : CMap w b n f) (e : ∀ t, okU t → f t = g t) : CMap w b n g := by
  obtain ⟨D, hD, hf⟩ := h
  exact ⟨D, hD, fun t ht => by rw [← e t ht]; exact hf t ht⟩

theorem CMap.look {w : World} {b n : Nat} {f : Int → Option Int} (h : CMap w b n f) {t : Int} (ht : okU t) :
    (Instr.lookup 57 (.map (some b)) (.int .u64 t) true).run Ybaf.prog w = .ok (.tuple #[.int .i64 ((f t).getD 0), .bool (f t).isSome]) w := by
  obtain ⟨D, hD, hf⟩ := h
  obtain ⟨h1, h2⟩ := hf t ht
  obtain ⟨v, ps, hrun, hv⟩ := hD.look_ok law49 Ybaf.underlying57 (zero3 w) (plainElem_int Ybaf.underlying3 (by decide)) (key_u64 ht)
  obtain ⟨c, rfl, hc, hwc⟩ := plainElem_int_inv Ybaf.underlying3 hv
  simp only [Prod.mk.injEq] at hc
  rw [h2] at hc
  have : ((f t).getD 0) = c := by
    have := hc.1
    simpa using this
  rw [hrun, h1, this]

theorem CMap.store {w : World} {b n : Nat} {f : Int → Option Int} (h : CMap w b n f) (hn : n < maxLen) {t i : Int} (ht : okU t) (hi : (Lit.int .i64 i).wf = true) :
    ∃ w', (Instr.mapUpdate 57 (.map (some b)) (.int .u64 t) (.int .i64 i)).run Ybaf.prog w = .ok () w' ∧ CMap w' b (n + 1) (fun s => if s = t then some i else f s) ∧ w.grownBy w' (some b) := by
  obtain ⟨D, hD, hf⟩ := h
  obtain ⟨w', hrun, hD', hg⟩ := hD.update law49 Ybaf.underlying57 hn (key_u64 ht) (plainElem_int Ybaf.underlying3 hi)
  refine ⟨w', hrun, ⟨_, hD', fun s hs => ?_⟩, hg⟩
  dsimp only
  by_cases e : s = t
  · subst e
    rw [if_pos rfl]
    exact ⟨has_put_same (k := .int .u64 s) hD.isMap trivial _, atKey_put_same (k := .int .u64 s) hD.isMap trivial _ _⟩
  · rw [if_neg e, has_put_other (by simpa using e), atKey_put_other (by simpa using e)]
    exact hf s hs

theorem CMap.kept {w w' : World} {b n : Nat} {f : Int → Option Int} (h : CMap w b n f) (hb : w'.heap[b]? = w.heap[b]?) : CMap w' b n f := by
  obtain ⟨D, hD, hf⟩ := h
  obtain ⟨es, clock, hh, r⟩ := hD
  exact ⟨D, ⟨es, clock, hb.trans hh, r⟩, hf⟩

theorem CMap.lt {w : World} {b n : Nat} {f : Int → Option Int} (h : CMap w b n f) : b < w.heap.size := by
  obtain ⟨D, hD, hf⟩ := h
  exact hD.lt

theorem CMap.block {w : World} {b n : Nat} {f : Int → Option Int} (h : CMap w b n f) : ∃ es clock, w.heap[b]? = some (.map es clock) := by
  obtain ⟨D, ⟨es, clock, hh, r⟩, hf⟩ := h
  exact ⟨es, clock, hh⟩

theorem CMap.mono {w : World} {b n m : Nat} {f : Int → Option Int} (h : CMap w b n f) (hm : n ≤ m) : CMap w b m f := by
  obtain ⟨D, hD, hf⟩ := h
  exact ⟨D, hD.mono hm, hf⟩

/-! ### a host's events: (position, own counter), in the trace's order -/
def firstAt (h : List (Nat × Int)) (t : Int) : Option Int := (h.find? (fun x => x.2 == t)).map (fun x => (x.1 : Int))

theorem firstAt_snoc (h : List (Nat × Int)) (i : Nat) (own t : Int) : firstAt (h ++ [(i, own)]) t = (firstAt h t).or (if t = own then some (i : Int) else none) := by
  unfold firstAt
  rw [List.find?_append]
  by_cases e : t = own
  · subst e; cases hh : h.find? (fun x => x.2 == t) <;> simp
  · have : ([(i, own)] : List (Nat × Int)).find? (fun x => x.2 == t) = none := by simp; omega
    rw [this, if_neg e]
    cases hh : h.find? (fun x => x.2 == t) <;> simp

/-- the own counters are 1, 2, 3 and on -/
def seqOwn (h : List (Nat × Int)) : Prop := ∀ (i : Nat) (x : Nat × Int), h[i]? = some x → x.2 = (i : Int) + 1

theorem firstAt_seq {h : List (Nat × Int)} (hs : seqOwn h) (k : Nat) : firstAt h ((k : Int) + 1) = h[k]?.map (fun x => (x.1 : Int)) := by
  unfold firstAt
  congr 1
  cases hk : h[k]? with
  | none =>
    rw [List.find?_eq_none]
    intro x hx
    obtain ⟨i, hi⟩ := List.getElem?_of_mem hx
    have h1 := hs i x hi
    have h2 := (List.getElem?_eq_some_iff.1 hi).1
    rw [List.getElem?_eq_none_iff] at hk
    simp; omega
  | some y =>
    rw [List.find?_eq_some_iff_getElem]
    have h1 := hs k y hk
    obtain ⟨hlt, rfl⟩ := List.getElem?_eq_some_iff.1 hk
    refine ⟨by simpa using h1, k, hlt, rfl, ?_⟩
    intro j hj
    have := hs j h[j] (List.getElem?_eq_getElem (by omega))
    simp; omega

def HostEv (w : World) (p : Nat) (av mv : Value) (h : List (Nat × Int)) : Prop :=
  (∃ cnt : Int, 0 ≤ cnt ∧ cnt ≤ 65536 ∧ w.heap[p]? = some (.cells #[av, mv, .int .u64 cnt] 59 (0, 0))) ∧ w.ownsRow 0 3 1 av h.length (h.map fun x => .int .i64 x.1) ∧
  ((mv = .map none ∧ seqOwn h) ∨ ∃ b, mv = .map (some b) ∧ CMap w b h.length (firstAt h)) ∧ (∀ x ∈ h, x.1 < 65536 ∧ 0 ≤ x.2 ∧ x.2 ≤ 255) ∧ h.length ≤ 65536

/-- the blocks of a host -/
def blocksOf (p : Nat) (av mv : Value) : List Nat := p :: (av.ownBlock.toList ++ (match mv with | .map (some b) => [b] | _ => []))

theorem HostEv.kept {w w' : World} {p : Nat} {av mv : Value} {h : List (Nat × Int)} (H : HostEv w p av mv h) (hb : ∀ b ∈ blocksOf p av mv, w'.heap[b]? = w.heap[b]?) : HostEv w' p av mv h := by
  obtain ⟨⟨cnt, hc0, hc1, h0⟩, ⟨h1, h1'⟩, h2, h3⟩ := H
  refine ⟨⟨cnt, hc0, hc1, (hb p (by simp [blocksOf])).trans h0⟩, ⟨h1, ?_⟩, ?_, h3⟩
  · rcases h1' with h | ⟨g, cap, cur, rfl, hg, hh, r⟩
    · exact Or.inl h
    · exact Or.inr ⟨g, cap, cur, rfl, hg, (hb g (by simp [blocksOf, Value.ownBlock])).trans hh, r⟩
  · rcases h2 with h | ⟨b, rfl, hc⟩
    · exact Or.inl h
    · exact Or.inr ⟨b, rfl, hc.kept (hb b (by simp [blocksOf]))⟩

theorem HostEv.lt {w : World} {p : Nat} {av mv : Value} {h : List (Nat × Int)} (H : HostEv w p av mv h) : ∀ b ∈ blocksOf p av mv, b < w.heap.size := by
  obtain ⟨⟨cnt, hc0, hc1, h0⟩, h1, h2, h3⟩ := H
  intro b hb
  simp only [blocksOf, List.mem_cons, List.mem_append, Option.mem_toList] at hb
  rcases hb with rfl | hb | hb
  · exact (Array.getElem?_eq_some_iff.1 h0).1
  · exact (h1.lt b hb).2
  · rcases h2 with ⟨rfl, _⟩ | ⟨b', rfl, hc⟩
    · simp at hb
    · simp at hb; subst hb; exact hc.lt

end Go.Proofs.YbulkacrqeaFmt
