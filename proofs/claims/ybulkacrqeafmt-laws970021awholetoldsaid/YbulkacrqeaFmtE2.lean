import Derived.Test.YbulkacrqeaFmtE1
import Derived.Deep.DeepCutAuto
namespace Go.Proofs.YbulkacrqeaFmt
open Go.RowKit

theorem run_mk {t e : TypeId} {z : Value} {bytes : Nat} (ht : Ybaf.prog.underlying t = some (.slice e)) (hinfo : (Ybaf.prog.info? e).map (fun i => (i.zero, i.size, i.bytes)) = some (some z, z.cells.size, bytes)) (n : Nat) (hb : bytes * n ≤ 281474976710656) (hn : n ≤ 65536) (w : World) :
    (Instr.makeSlice t (.int .i64 n) (.int .i64 n)).run Ybaf.prog w = .ok (.slice (some ⟨w.heap.size, 0, none⟩) n n) (w.alloc (.cells (madeCells z.cells (n * z.cells.size)) e)) := by
  obtain ⟨i0, hi0, hz0, hz1, hz2⟩ := info_parts hinfo
  have h2 : ((bytes * n : Nat) : Int) ≤ 281474976710656 := by omega
  rw [Int.natCast_mul, ← hz2] at h2
  have := run_make (P := Ybaf.prog) w t e i0 z ht hi0 hz0 .i64 .i64 n n (by omega) (by omega) h2 (by omega)
  rw [hz1] at this
  simpa using this

theorem run_mk39 (n : Nat) (hn : n ≤ 65536) (w : World) : (Instr.makeSlice 39 (.int .i64 n) (.int .i64 n)).run Ybaf.prog w = .ok (.slice (some ⟨w.heap.size, 0, none⟩) n n) (w.alloc (.cells (madeCells #[.int .u64 0] n) 49)) := by
  have := run_mk (z := .int .u64 0) Ybaf.underlying39 Ybaf.info49 n (by omega) hn w
  rw [show n * (Value.int IntKind.u64 0).cells.size = n from Nat.mul_one n] at this
  exact this
theorem run_mk23 (n : Nat) (hn : n ≤ 65536) (w : World) : (Instr.makeSlice 23 (.int .i64 n) (.int .i64 n)).run Ybaf.prog w = .ok (.slice (some ⟨w.heap.size, 0, none⟩) n n) (w.alloc (.cells (madeCells #[.bool false] n) 4)) := by
  have := run_mk (z := .bool false) Ybaf.underlying23 Ybaf.info4 n (by omega) hn w
  rw [show n * (Value.bool false).cells.size = n from Nat.mul_one n] at this
  exact this

/-- the struct traceCheck and the blocks beneath it, as newTraceCheck lays them -/
def Laid0 (w wc : World) (E n cap T mb sb : Nat) (kv : Value) : Prop :=
  wc.heap[T]? = some (.cells #[.slice (some ⟨E, 0, none⟩) n cap, .map (some mb), .slice (some ⟨sb, 0, none⟩) n n, kv, .slice none 0 0] 41 (0, 0)) ∧ wc.heap[mb]? = some (.map #[] 0) ∧ wc.heap[sb]? = some (.cells (madeCells #[.int .u64 0] n) 49 (0, 0)) ∧
  w.heap.size ≤ T ∧ w.heap.size ≤ mb ∧ w.heap.size ≤ sb ∧ Below w.heap.size w wc

theorem four_alloc (w : World) (A B C D : Obj) : ((((w.alloc A).alloc B).alloc C).alloc D).drew.heap[w.heap.size]? = some A ∧ ((((w.alloc A).alloc B).alloc C).alloc D).drew.heap[w.heap.size + 1]? = some B ∧ ((((w.alloc A).alloc B).alloc C).alloc D).drew.heap[w.heap.size + 1 + 1]? = some C ∧
    ((((w.alloc A).alloc B).alloc C).alloc D).drew.heap[w.heap.size + 1 + 1 + 1]? = some D ∧ Below w.heap.size w ((((w.alloc A).alloc B).alloc C).alloc D).drew := by
  obtain ⟨h1, h2, h3⟩ := three_alloc w A B C
  have h4 := heap_alloc_new (((w.alloc A).alloc B).alloc C) D
  simp only [World.size_alloc] at h4
  refine ⟨?_, ?_, ?_, h4, ?_⟩
  · show ((((w.alloc A).alloc B).alloc C).alloc D).heap[w.heap.size]? = _
    rw [heap_alloc_old _ _ (by simp; omega)]; exact h1
  · show ((((w.alloc A).alloc B).alloc C).alloc D).heap[w.heap.size + 1]? = _
    rw [heap_alloc_old _ _ (by simp)]; exact h2
  · show ((((w.alloc A).alloc B).alloc C).alloc D).heap[w.heap.size + 1 + 1]? = _
    rw [heap_alloc_old _ _ (by simp)]; exact h3
  · exact (((((Below.refl _ w).alloc (Nat.le_refl _) A).alloc (by simp) B).alloc (by simp; omega) C).alloc (by simp; omega) D).drew

def Rv (w : World) (T mb sb b : Nat) : Prop := b < w.heap.size ∨ b = T ∨ b = mb ∨ b = sb

def tcObj (E n cap mb sb : Nat) (kv : Value) : Obj := .cells #[.slice (some ⟨E, 0, none⟩) n cap, .map (some mb), .slice (some ⟨sb, 0, none⟩) n n, kv, .slice none 0 0] 41 (0, 0)

/-- the row 'seen': what is ahead of k may hold anything small, k itself at most 255 for each of j entries, what is behind k holds 0 -/
def SeenAt (w : World) (sb n k j : Nat) : Prop :=
  ∃ cur, w.heap[sb]? = some (.cells cur 49 (0, 0)) ∧ cur.size = n ∧ ∀ i, i < n → ∃ x : Int, cur[i]? = some (.int .u64 x) ∧ 0 ≤ x ∧ x ≤ 765 ∧ (i = k → x ≤ 255 * j) ∧ (k < i → x = 0)

structure Mid (w wc : World) (E n cap T mb sb : Nat) (kv : Value) (es : List Ev) (m k k' j : Nat) (pl : Nat → Option Place) : Prop where
  t : wc.heap[T]? = some (tcObj E n cap mb sb kv)
  hm : HMap wc mb m (fun t => (pl t).map (·.p))
  ho : Hosts wc pl (fun t => histTo es t k) (Rv w T mb sb)
  se : SeenAt wc sb n k' j
  be : Below w.heap.size w wc

theorem Mid.rv {w wc : World} {E n cap T mb sb : Nat} {kv : Value} {es : List Ev} {m k k' j : Nat} {pl : Nat → Option Place} (H : Mid w wc E n cap T mb sb kv es m k k' j pl) : ∀ b, Rv w T mb sb b → b < wc.heap.size := by
  rintro b (h | rfl | rfl | rfl)
  · exact Nat.lt_of_lt_of_le h H.be.size
  · exact lt_of_block H.t
  · obtain ⟨_, _, h⟩ := H.hm.block; exact lt_of_block h
  · obtain ⟨_, h, _⟩ := H.se; exact lt_of_block h

theorem SeenAt.kept {w w' : World} {sb n k j : Nat} (h : SeenAt w sb n k j) (hb : w'.heap[sb]? = w.heap[sb]?) : SeenAt w' sb n k j := by
  obtain ⟨cur, hh, r⟩ := h
  exact ⟨cur, hb.trans hh, r⟩

/-- new blocks, and nothing else -/
theorem Mid.grown {w wc w' : World} {E n cap T mb sb : Nat} {kv : Value} {es : List Ev} {m k k' j : Nat} {pl : Nat → Option Place} (H : Mid w wc E n cap T mb sb kv es m k k' j pl) (hb : Below wc.heap.size wc w') : Mid w w' E n cap T mb sb kv es m k k' j pl := by
  have hr := H.rv
  refine ⟨?_, H.hm.kept (hb.block _ (hr mb (by simp [Rv]))), H.ho.kept (fun b hb' _ => hb.block b hb'), H.se.kept (hb.block _ (hr sb (by simp [Rv]))), H.be.trans (hb.mono H.be.size)⟩
  rw [hb.block _ (hr T (by simp [Rv]))]; exact H.t

/-- 'm[host] = h' for a host without an event, its struct in a new block -/
theorem Mid.newHost {w wc w2 : World} {E n cap T mb sb : Nat} {kv : Value} {es : List Ev} {m k k' j : Nat} {pl : Nat → Option Place} (H : Mid w wc E n cap T mb sb kv es m k k' j pl) {t p : Nat} (ht : t < 3) (hp : pl t = none) (hsz : wc.heap.size = p)
    (h2 : HMap w2 mb (m + 1) (fun s => if s = t then some p else (pl s).map (·.p))) (hg : ((wc.alloc (.cells #[.slice none 0 0, .map none, .int .u64 0] 59))).grownBy w2 (some mb)) (hB : w.heap.size ≤ mb) :
    Mid w w2 E n cap T mb sb kv es (m + 1) k k' j (put pl t (some ⟨p, .slice none 0 0, .map none⟩)) := by
  have hr := H.rv
  have hmb := H.hm.block
  have hblk : ∀ b, b < wc.heap.size → b ≠ mb → w2.heap[b]? = wc.heap[b]? := fun b hb hne => by
    rw [hg.block b (by simp; omega) (by simpa using hne), heap_alloc_old _ _ hb]
  have hTm : T ≠ mb := by rintro rfl; obtain ⟨es', cl, h⟩ := hmb; rw [H.t] at h; simp [tcObj] at h
  have hsm : sb ≠ mb := by rintro rfl; obtain ⟨es', cl, h⟩ := hmb; obtain ⟨cur, hh, _⟩ := H.se; rw [hh] at h; simp at h
  refine ⟨?_, ?_, ?_, H.se.kept (hblk sb (hr sb (by simp [Rv])) hsm), ?_⟩
  · rw [hblk T (hr T (by simp [Rv])) hTm]; exact H.t
  · have e : (fun s => if s = t then some p else (pl s).map (·.p)) = fun s => (put pl t (some ⟨p, .slice none 0 0, .map none⟩) s).map (·.p) := by
      funext s
      by_cases e : s = t
      · subst e; rw [if_pos rfl, put_same]; rfl
      · rw [if_neg e, put_other _ _ e]
    rw [← e]; exact h2
  · refine H.ho.new ht hp (by omega) hr ?_ (fun b hb hn => hblk b hb (fun e => hn (by simp [Rv, e])))
    rw [hg.block p (by simp; omega) (by simp only [ne_eq, Option.some.injEq]; have := hr mb (by simp [Rv]); omega)]
    rw [← hsz]; exact heap_alloc_new _ _
  · exact ((H.be.alloc H.be.size _).grown hg (by have := H.be.size; simp; omega) (fun k hk => by simp at hk; omega))

theorem hist_put {es : List Ev} {k : Nat} {e : Ev} (he : es[k]? = some e) : (fun t => histTo es t (k + 1)) = put (fun t => histTo es t k) e.host (histTo es e.host k ++ [(k, e.c e.host)]) := by
  funext t
  by_cases h : t = e.host
  · subst h; rw [put_same, histTo_hit he rfl]
  · rw [put_other _ _ h, histTo_miss he (Ne.symm h)]

/-- behind 'h.add(i, own)' -/
theorem Mid.added {w wc w' : World} {E n cap T mb sb : Nat} {kv : Value} {es : List Ev} {m k k' j : Nat} {pl : Nat → Option Place} (H : Mid w wc E n cap T mb sb kv es m k k' j pl) {e : Ev} (he : es[k]? = some e) (ht : e.host < 3) {s : Place} (hs : pl e.host = some s)
    (A : AddPost wc s.p s.av s.mv (histTo es e.host k) k (e.c e.host) w') : ∃ pl', Mid w w' E n cap T mb sb kv es m (k + 1) k' j pl' := by
  obtain ⟨av, mv, h1, h2, h3⟩ := A
  have hr := H.rv
  obtain ⟨q1, q2⟩ := H.ho.turn ht hs hr h2 av mv _ h1 h3
  refine ⟨_, ⟨?_, ?_, by rw [hist_put he]; exact q1, H.se.kept (q2 sb (by simp [Rv])), ?_⟩⟩
  · rw [q2 T (by simp [Rv])]; exact H.t
  · have e : (fun t => (put pl e.host (some ⟨s.p, av, mv⟩) t).map (·.p)) = fun t => (pl t).map (·.p) := by
      funext t
      by_cases h : t = e.host
      · subst h; rw [put_same, hs]; rfl
      · rw [put_other _ _ h]
    rw [e]
    exact H.hm.kept (q2 mb (by simp [Rv]))
  · refine H.be.trans (h2.below H.be.size (fun x hx => ?_))
    have := H.ho.free e.host s ht hs x hx
    simp only [Rv, not_or] at this
    omega

/-- behind a store into 'seen' -/
theorem Mid.seen {w wc : World} {E n cap T mb sb : Nat} {kv : Value} {es : List Ev} {m k k' j : Nat} {pl : Nat → Option Place} (H : Mid w wc E n cap T mb sb kv es m k k' j pl) {x : Int} (hk : k' < n) (hx0 : 0 ≤ x) (hx1 : x ≤ 255 * (j + 1 : Nat)) (hj : j < 3) (hB : w.heap.size ≤ sb) :
    Mid w (wc.setCell ⟨sb, k', none⟩ (.int .u64 x)) E n cap T mb sb kv es m k k' (j + 1) pl := by
  have hr := H.rv
  have hTs : T ≠ sb := by rintro rfl; obtain ⟨cur, hh, _⟩ := H.se; rw [H.t] at hh; simp [tcObj] at hh
  have hms : mb ≠ sb := by rintro rfl; obtain ⟨cur, hh, _⟩ := H.se; obtain ⟨es', cl, h⟩ := H.hm.block; rw [hh] at h; simp at h
  refine ⟨?_, H.hm.kept (Below.heap_setCell _ _ _ _ hms), H.ho.kept (fun b _ hn => Below.heap_setCell _ _ _ _ (fun e => hn (by simp [Rv] at *; simp [e]))), ?_, H.be.setCell hB _⟩
  · rw [Below.heap_setCell _ _ _ _ hTs]; exact H.t
  · obtain ⟨cur, hh, hsz, hall⟩ := H.se
    refine ⟨_, setCell_block hh _, by simpa using hsz, fun i hi => ?_⟩
    by_cases e : i = k'
    · subst e
      exact ⟨x, by simp [hsz, hi], hx0, by omega, fun _ => hx1, fun h => by omega⟩
    · obtain ⟨y, h1, h2, h3, h4, h5⟩ := hall i hi
      exact ⟨y, by rw [Array.getElem?_setIfInBounds, if_neg (by omega)]; exact h1, h2, h3, fun h => absurd h e, h5⟩

theorem SeenAt.next {w : World} {sb n k j : Nat} (h : SeenAt w sb n k j) : SeenAt w sb n (k + 1) 0 := by
  obtain ⟨cur, hh, hsz, hall⟩ := h
  refine ⟨cur, hh, hsz, fun i hi => ?_⟩
  obtain ⟨y, h1, h2, h3, h4, h5⟩ := hall i hi
  exact ⟨y, h1, h2, h3, fun e => by rw [h5 (by omega)]; omega, fun e => h5 (by omega)⟩

theorem Mid.next {w wc : World} {E n cap T mb sb : Nat} {kv : Value} {es : List Ev} {m k k' j : Nat} {pl : Nat → Option Place} (H : Mid w wc E n cap T mb sb kv es m k k' j pl) : Mid w wc E n cap T mb sb kv es m k (k' + 1) 0 pl :=
  ⟨H.t, H.hm, H.ho, H.se.next, H.be⟩

theorem madeCells_get (z : Value) (n i : Nat) (h : i < n) : (madeCells #[z] n)[i]? = some z := by
  simp [madeCells, h, Nat.mod_one]

theorem Laid0.mid {w wc : World} {E n cap T mb sb : Nat} {kv : Value} (es : List Ev) (h : Laid0 w wc E n cap T mb sb kv) : Mid w wc E n cap T mb sb kv es 0 0 0 0 (fun _ => none) := by
  obtain ⟨h1, h2, h3, h4, h5, h6, h7⟩ := h
  refine ⟨h1, HMap.made h2, ⟨fun _ _ _ => rfl, fun _ _ _ h => (by cases h), fun _ _ _ _ _ _ _ h => (by cases h), fun _ _ _ h => (by cases h)⟩, ⟨_, h3, size_madeCells _ _, fun i hi => ⟨0, madeCells_get _ _ _ hi, by omega, by omega, fun _ => by omega, fun _ => rfl⟩⟩, h7⟩

end Go.Proofs.YbulkacrqeaFmt
