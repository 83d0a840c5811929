import Derived.Test.YbulkacrqeaFmtC7
import Derived.Test.YbulkacrqeaFmtD1
namespace Go.Proofs.YbulkacrqeaFmt
open Go.RowKit Go.Maps

/-- one event of the trace -/
structure Ev where
  line : Int
  host : Nat
  c : Nat → Int

def Ev.ok (e : Ev) : Prop := e.host < 3 ∧ (∀ x, x < 3 → 0 ≤ e.c x ∧ e.c x ≤ 255)

/-- the events of host t among the first k -/
def histTo (es : List Ev) (t : Nat) : Nat → List (Nat × Int)
  | 0 => []
  | k + 1 => match es[k]? with
    | some e => if e.host = t then histTo es t k ++ [(k, e.c t)] else histTo es t k
    | none => histTo es t k

theorem histTo_len (es : List Ev) (t k : Nat) : (histTo es t k).length ≤ k := by
  induction k with
  | zero => simp [histTo]
  | succ k ih =>
    unfold histTo
    split
    · split
      · simp; omega
      · omega
    · omega

theorem histTo_hit {es : List Ev} {t k : Nat} {e : Ev} (he : es[k]? = some e) (h : e.host = t) : histTo es t (k + 1) = histTo es t k ++ [(k, e.c t)] := by
  conv => lhs; unfold histTo
  rw [he]; simp [h]
theorem histTo_miss {es : List Ev} {t k : Nat} {e : Ev} (he : es[k]? = some e) (h : e.host ≠ t) : histTo es t (k + 1) = histTo es t k := by
  conv => lhs; unfold histTo
  rw [he]; simp [h]

/-- the counter that the clock of e holds for t -/
theorem getC_ents (c : Nat → Int) {k t : Nat} (ht : t < k) : getC (entsTo c k) t = c t := by
  by_cases h0 : c t = 0
  · rw [h0]
    apply getC_none
    intro x hx e
    have := entsTo_lt c k x hx
    rw [e] at this
    exact this.2.2 (by rw [this.2.1, h0])
  · have : (t, c t) ∈ entsTo c k := by
      induction k with
      | zero => omega
      | succ k ih =>
        unfold entsTo
        rw [List.mem_append]
        by_cases e : t = k
        · subst e; right; rw [if_neg h0]; simp
        · left; exact ih (by omega)
    obtain ⟨i, hi⟩ := List.getElem?_of_mem this
    exact getC_at (entsTo_sorted c k) hi

/-! ### the map 'hosts' -/
theorem law9 : Keyed Ybaf.prog 9 := string_keyed Ybaf.underlying9
theorem zero55 (w : World) : (zeroValue 55).run Ybaf.prog w = .ok (.pointer none) w := by kernel_rfl

def ptrElem : Value → Option (DataW Unit × List MemPlace)
  | .pointer none => some (.lit (.int .i64 (-1)), [])
  | .pointer (some ⟨b, 0, none⟩) => some (.lit (.int .i64 b), [])
  | _ => Option.none

def ptrOf : Option Nat → Value
  | none => .pointer none
  | some b => .pointer (some ⟨b, 0, none⟩)
def codeOf : Option Nat → DataW Unit
  | none => .lit (.int .i64 (-1))
  | some b => .lit (.int .i64 b)

theorem ptrElem_of (q : Option Nat) : ptrElem (ptrOf q) = some (codeOf q, []) := by cases q <;> rfl

theorem ptrElem_inv {v : Value} {z : DataW Unit × List MemPlace} (h : ptrElem v = some z) : ∃ q, v = ptrOf q ∧ z = (codeOf q, []) := by
  unfold ptrElem at h
  split at h
  · cases h; exact ⟨none, rfl, rfl⟩
  · cases h; exact ⟨some _, rfl, rfl⟩
  · cases h

theorem codeOf_inj {q q' : Option Nat} (h : codeOf q = codeOf q') : q = q' := by
  cases q with
  | none => cases q' with
    | none => rfl
    | some b => simp only [codeOf, DataW.lit.injEq, Lit.int.injEq] at h; omega
  | some a => cases q' with
    | none => simp only [codeOf, DataW.lit.injEq, Lit.int.injEq] at h; omega
    | some b => simp only [codeOf, DataW.lit.injEq, Lit.int.injEq] at h; congr 1; omega

def keyH (t : Nat) : Lit := .string (nm t).data.toList

theorem nm_size (t : Nat) : (nm t).size = 1 := by match t with | 0 => rfl | 1 => rfl | _ + 2 => rfl

theorem key_nm {t : Nat} : keyOf Ybaf.prog 9 (.string (nm t)) = some (keyH t) := WideMaps.keyOf_string_mk Ybaf.underlying9 (by rw [nm_size]; unfold maxLen; omega)

theorem keyH_ne {a b : Nat} (ha : a < 3) (hb : b < 3) (h : a ≠ b) : keyH a ≠ keyH b := by
  match a, ha, b, hb with
  | 0, _, 0, _ => exact absurd rfl h
  | 0, _, 1, _ => simp [keyH, nm]
  | 0, _, 2, _ => simp [keyH, nm]
  | 1, _, 0, _ => simp [keyH, nm]
  | 1, _, 1, _ => exact absurd rfl h
  | 1, _, 2, _ => simp [keyH, nm]
  | 2, _, 0, _ => simp [keyH, nm]
  | 2, _, 1, _ => simp [keyH, nm]
  | 2, _, 2, _ => exact absurd rfl h

/-- what a datum of the map 'hosts' says -/
def HData (D : DataW Unit) (q : Nat → Option Nat) : Prop :=
  (∀ t, t < 3 → Maps.has D (keyH t) = (q t).isSome ∧ D.atKey (keyH t) (codeOf none) = codeOf (q t)) ∧ ∀ kl, Maps.has D kl = true → ∃ t, t < 3 ∧ kl = keyH t

def HMap (w : World) (b n : Nat) (q : Nat → Option Nat) : Prop := ∃ D : DataW Unit, w.ownsMap Ybaf.prog 9 ptrElem b n D ∧ HData D q

theorem HMap.made {w : World} {b : Nat} (h : w.heap[b]? = some (.map #[] 0)) : HMap w b 0 (fun _ => none) := by
  refine ⟨.map [], ⟨#[], 0, h, ⟨by simp, MapKept.stamped_empty 0, by simp⟩, Nat.le_refl _, rfl⟩, fun t _ => ⟨rfl, rfl⟩, fun kl h => by simp [Maps.has] at h⟩

theorem HMap.look {w : World} {b n : Nat} {q : Nat → Option Nat} (h : HMap w b n q) {t : Nat} (ht : t < 3) :
    (Instr.lookup 38 (.map (some b)) (.string (nm t)) false).run Ybaf.prog w = .ok (ptrOf (q t)) w := by
  obtain ⟨D, hD, h1, h2⟩ := h
  obtain ⟨v, ps, hrun, hv⟩ := hD.lookup law9 Ybaf.underlying38 (zero55 w) (ptrElem_of none) key_nm
  obtain ⟨q', rfl, e⟩ := ptrElem_inv hv
  simp only [Prod.mk.injEq] at e
  rw [(h1 t ht).2] at e
  rw [hrun, codeOf_inj e.1]

theorem HMap.store {w : World} {b n : Nat} {q : Nat → Option Nat} (h : HMap w b n q) (hn : n < maxLen) {t : Nat} (ht : t < 3) (p : Nat) :
    ∃ w', (Instr.mapUpdate 38 (.map (some b)) (.string (nm t)) (.pointer (some ⟨p, 0, none⟩))).run Ybaf.prog w = .ok () w' ∧ HMap w' b (n + 1) (fun s => if s = t then some p else q s) ∧ w.grownBy w' (some b) := by
  obtain ⟨D, hD, h1, h2⟩ := h
  obtain ⟨w', hrun, hD', hg⟩ := hD.update law9 Ybaf.underlying38 hn (key_nm (t := t)) (ptrElem_of (some p))
  refine ⟨w', hrun, ⟨_, hD', fun s hs => ?_, fun kl hk => ?_⟩, hg⟩
  · dsimp only
    by_cases e : s = t
    · subst e
      rw [if_pos rfl]
      exact ⟨has_put_same (k := keyH s) hD.isMap trivial _, atKey_put_same (k := keyH s) hD.isMap trivial _ _⟩
    · rw [if_neg e, has_put_other (keyH_ne hs ht e), atKey_put_other (keyH_ne hs ht e)]
      exact h1 s hs
  · by_cases e : kl = keyH t
    · exact ⟨t, ht, e⟩
    · rw [has_put_other e] at hk
      exact h2 kl hk

theorem HMap.kept {w w' : World} {b n : Nat} {q : Nat → Option Nat} (h : HMap w b n q) (hb : w'.heap[b]? = w.heap[b]?) : HMap w' b n q := by
  obtain ⟨D, ⟨es, clock, hh, r⟩, hq⟩ := h
  exact ⟨D, ⟨es, clock, hb.trans hh, r⟩, hq⟩
theorem HMap.block {w : World} {b n : Nat} {q : Nat → Option Nat} (h : HMap w b n q) : ∃ es clock, w.heap[b]? = some (.map es clock) := by
  obtain ⟨D, ⟨es, clock, hh, r⟩, hq⟩ := h
  exact ⟨es, clock, hh⟩
theorem HMap.mono {w : World} {b n m : Nat} {q : Nat → Option Nat} (h : HMap w b n q) (hm : n ≤ m) : HMap w b m q := by
  obtain ⟨D, hD, hq⟩ := h
  exact ⟨D, hD.mono hm, hq⟩

/-! ### the three hosts, apart -/
/-- a host's place: its struct's block, its slice, its map -/
structure Place where
  p : Nat
  av : Value
  mv : Value
def Place.blocks (s : Place) : List Nat := blocksOf s.p s.av s.mv

/-- what the hosts are: 'pl t': where host t lies, if it has an event; none of their blocks is one of 'Rv' -/
structure Hosts (w : World) (pl : Nat → Option Place) (hist : Nat → List (Nat × Int)) (Rv : Nat → Prop) : Prop where
  no : ∀ t, t < 3 → pl t = none → hist t = []
  ev : ∀ t s, t < 3 → pl t = some s → HostEv w s.p s.av s.mv (hist t)
  apart : ∀ t u s r, t < 3 → u < 3 → t ≠ u → pl t = some s → pl u = some r → ∀ b ∈ s.blocks, b ∉ r.blocks
  free : ∀ t s, t < 3 → pl t = some s → ∀ b ∈ s.blocks, ¬ Rv b

theorem Hosts.lt {w : World} {pl : Nat → Option Place} {hist : Nat → List (Nat × Int)} {Rv : Nat → Prop} (H : Hosts w pl hist Rv) {t : Nat} {s : Place} (ht : t < 3) (hs : pl t = some s) : ∀ b ∈ s.blocks, b < w.heap.size :=
  (H.ev t s ht hs).lt

/-- nothing of the hosts has turned -/
theorem Hosts.kept {w w' : World} {pl : Nat → Option Place} {hist : Nat → List (Nat × Int)} {Rv : Nat → Prop} (H : Hosts w pl hist Rv) (h : ∀ b, b < w.heap.size → ¬ Rv b → w'.heap[b]? = w.heap[b]?) : Hosts w' pl hist Rv :=
  ⟨H.no, fun t s ht hs => (H.ev t s ht hs).kept fun b hb => h b (H.lt ht hs b hb) (H.free t s ht hs b hb), H.apart, H.free⟩

def put {α : Type} (f : Nat → α) (t : Nat) (v : α) : Nat → α := fun u => if u = t then v else f u
theorem put_same {α : Type} (f : Nat → α) (t : Nat) (v : α) : put f t v t = v := by simp [put]
theorem put_other {α : Type} (f : Nat → α) {t u : Nat} (v : α) (h : u ≠ t) : put f t v u = f u := by simp [put, h]

/-- a host that has no event yet gets a struct in a new block -/
theorem Hosts.new {w w' : World} {pl : Nat → Option Place} {hist : Nat → List (Nat × Int)} {Rv : Nat → Prop} (H : Hosts w pl hist Rv) {t p : Nat} (ht : t < 3) (hp : pl t = none) (hpn : w.heap.size ≤ p) (hR : ∀ b, Rv b → b < w.heap.size)
    (h0 : w'.heap[p]? = some (.cells #[.slice none 0 0, .map none, .int .u64 0] 59 (0, 0))) (h : ∀ b, b < w.heap.size → ¬ Rv b → w'.heap[b]? = w.heap[b]?) : Hosts w' (put pl t (some ⟨p, .slice none 0 0, .map none⟩)) hist Rv := by
  have hb : (Place.blocks ⟨p, .slice none 0 0, .map none⟩) = [p] := rfl
  refine ⟨?_, ?_, ?_, ?_⟩
  · intro u hu hn
    by_cases e : u = t
    · subst e; rw [put_same] at hn; cases hn
    · rw [put_other _ _ e] at hn; exact H.no u hu hn
  · intro u s hu hs
    by_cases e : u = t
    · subst e; rw [put_same] at hs; cases hs
      rw [H.no u ht hp]
      exact ⟨⟨0, by omega, by omega, h0⟩, World.ownsRow_nil _ _ _ _, Or.inl ⟨rfl, fun i x hx => by simp at hx⟩, by simp, by simp⟩
    · rw [put_other _ _ e] at hs
      exact (H.ev u s hu hs).kept fun b hb => h b (H.lt hu hs b hb) (H.free u s hu hs b hb)
  · intro u v s r hu hv huv hs hr b hbs hbr
    by_cases e : u = t
    · subst e; rw [put_same] at hs; cases hs
      rw [put_other _ _ (Ne.symm huv)] at hr
      rw [hb] at hbs; simp at hbs; subst hbs
      have := H.lt hv hr _ hbr
      omega
    · rw [put_other _ _ e] at hs
      by_cases e2 : v = t
      · subst e2; rw [put_same] at hr; cases hr
        rw [hb] at hbr; simp at hbr; subst hbr
        have := H.lt hu hs _ hbs
        omega
      · rw [put_other _ _ e2] at hr
        exact H.apart u v s r hu hv huv hs hr b hbs hbr
  · intro u s hu hs b hbs
    by_cases e : u = t
    · subst e; rw [put_same] at hs; cases hs
      rw [hb] at hbs; simp at hbs; subst hbs
      intro hr; have := hR _ hr; omega
    · rw [put_other _ _ e] at hs
      exact H.free u s hu hs b hbs

/-- behind a call that moves the blocks of host t alone -/
theorem Hosts.turn {w w' : World} {pl : Nat → Option Place} {hist : Nat → List (Nat × Int)} {Rv : Nat → Prop} (H : Hosts w pl hist Rv) {t : Nat} {s : Place} (ht : t < 3) (hs : pl t = some s) (hR : ∀ b, Rv b → b < w.heap.size)
    (hm : Moved s.blocks w w') (av mv : Value) (h : List (Nat × Int)) (he : HostEv w' s.p av mv h) (hn : ∀ b ∈ blocksOf s.p av mv, b ∈ s.blocks ∨ w.heap.size ≤ b) :
    Hosts w' (put pl t (some ⟨s.p, av, mv⟩)) (put hist t h) Rv ∧ (∀ b, Rv b → w'.heap[b]? = w.heap[b]?) := by
  refine ⟨⟨?_, ?_, ?_, ?_⟩, fun b hb => hm.block b (hR b hb) (fun hx => H.free t s ht hs b hx hb)⟩
  · intro u hu hno
    by_cases e : u = t
    · subst e; rw [put_same] at hno; cases hno
    · rw [put_other _ _ e] at hno; rw [put_other _ _ e]; exact H.no u hu hno
  · intro u r hu hr
    by_cases e : u = t
    · subst e; rw [put_same] at hr; cases hr; rw [put_same]; exact he
    · rw [put_other _ _ e] at hr; rw [put_other _ _ e]
      exact (H.ev u r hu hr).kept fun b hb => hm.block b (H.lt hu hr b hb) (fun hx => H.apart u t r s hu ht e hr hs b hb hx)
  · intro u v r r' hu hv huv hr hr' b hb hb'
    by_cases e : u = t
    · subst e; rw [put_same] at hr; cases hr
      rw [put_other _ _ (Ne.symm huv)] at hr'
      rcases hn b hb with h1 | h1
      · exact H.apart u v s r' hu hv huv hs hr' b h1 hb'
      · have := H.lt hv hr' b hb'; omega
    · rw [put_other _ _ e] at hr
      by_cases e2 : v = t
      · subst e2; rw [put_same] at hr'; cases hr'
        rcases hn b hb' with h1 | h1
        · exact H.apart u v r s hu hv huv hr hs b hb h1
        · have := H.lt hu hr b hb; omega
      · rw [put_other _ _ e2] at hr'
        exact H.apart u v r r' hu hv huv hr hr' b hb hb'
  · intro u r hu hr b hb
    by_cases e : u = t
    · subst e; rw [put_same] at hr; cases hr
      rcases hn b hb with h1 | h1
      · exact H.free u s hu hs b h1
      · intro hr; have := hR b hr; omega
    · rw [put_other _ _ e] at hr
      exact H.free u r hu hr b hb

/-! ### the events in memory -/
def EvsAt (w : World) (E : Nat) (es : List Ev) : Prop :=
  E < w.heap.size ∧ ∀ (i : Nat) (e : Ev), es[i]? = some e → e.ok ∧ ∃ cv, w.cell? ⟨E, i * 4, none⟩ = some (.int .i64 e.line) ∧ w.cell? ⟨E, i * 4 + 1, none⟩ = some (.string (nm e.host)) ∧ w.cell? ⟨E, i * 4 + 2, none⟩ = some cv ∧
    w.cell? ⟨E, i * 4 + 3, none⟩ = some (.string ⟨#[]⟩) ∧ EntsAt w cv (entsTo e.c 3)

end Go.Proofs.YbulkacrqeaFmt
