import Derived.Test.YbulkacrqeaFmtE3
import Derived.Test.YbulkacrqeaFmtA5
import Derived.Deep.RegionWith
namespace Go.Proofs.YbulkacrqeaFmt
open Go.RowKit

def reason0 : ByteArray := ⟨#[116, 104, 101, 32, 116, 114, 97, 99, 101, 32, 104, 111, 108, 100, 115, 32, 110, 111, 32, 101, 118, 101, 110, 116, 32, 111, 102, 32, 116, 104, 97, 116, 32, 104, 111, 115, 116, 32, 119, 105, 116, 104, 32, 116, 104, 97, 116, 32, 99, 111, 117, 110, 116, 101, 114]⟩

def tcFull (E n cap mb sb K kcap V nv vcap : Nat) : Obj := .cells #[.slice (some ⟨E, 0, none⟩) n cap, .map (some mb), .slice (some ⟨sb, 0, none⟩) n n, .slice (some ⟨K, 0, none⟩) n kcap, .slice (some ⟨V, 0, none⟩) nv vcap] 41 (0, 0)

theorem event_q {w : World} {pl : Nat → Option Place} {hist : Nat → List (Nat × Int)} {Rv' : Nat → Prop} (hH : Hosts w pl hist Rv') {t : Nat} (ht : t < 3) {o : Option Nat} (ho : o = (pl t).map (·.p)) {c : Int} (hc0 : 1 ≤ c) (hc1 : c ≤ 255) {j : Int} {f : Bool} (hj : j = (firstAt (hist t) c).getD 0) (hf : f = (firstAt (hist t) c).isSome) :
    Calls Ybaf.prog 12 #[ptrOf o, .int .u64 c] w fun e w' => e = .returned (.tuple #[.int .i64 j, .bool f]) ∧ w' = w := by
  subst hj hf ho
  cases hp : pl t with
  | none =>
    rw [hH.no t ht hp]
    exact event_nil c w
  | some s => exact event_any s.p s.av s.mv (hist t) c hc0 hc1 w (hH.ev t s ht hp)

theorem third_alloc (w : World) (A B C : Obj) (m : Nat) : ((((w.alloc A).alloc B).drewN m).alloc C).heap[w.heap.size + 1 + 1]? = some C := by
  have := heap_alloc_new (((w.alloc A).alloc B).drewN m) C
  simp only [World.heap_drewN, World.size_alloc] at this
  exact this

set_option maxRecDepth 20000 in
set_option maxHeartbeats 1000000 in
theorem check_none (T E n cap mb sb K kcap V vcap m kk : Nat) (pl : Nat → Option Place) (hist : Nat → List (Nat × Int)) (Rv' : Nat → Prop) (l : List (Nat × Int)) (cv : Value) (line : Int) (host : ByteArray) (x : Nat × Int) (w : World)
    (h0 : w.heap[T]? = some (tcFull E n cap mb sb K kcap V l.length vcap)) (hH : Hosts w pl hist Rv') (hM : HMap w mb m (fun t => (pl t).map (·.p))) (hl : EntsAt w cv l) (hx : l[kk]? = some x) (hno : firstAt (hist x.1) x.2 = none) :
    Calls Ybaf.prog 7 #[.pointer (some ⟨T, 0, none⟩), .agg #[.int .i64 line, .string host, cv, .string ⟨#[]⟩], .int .i64 kk] w fun e w' => ∃ C, e = .returned (.iface 47 (.pointer (some ⟨C, 0, none⟩))) ∧ w.heap.size ≤ C ∧ w'.heap[C]? = some (.cells #[.string (nm x.1), .int .u64 x.2, .string reason0] 51 (0, 0)) ∧ Below w.heap.size w w' := by
  obtain ⟨t0, t1, t2, t3, t4⟩ := tc_cells h0
  obtain ⟨ao, ecap, rfl, hcells⟩ := hl.entsIn
  obtain ⟨g, rfl, hg, cx0, cx1⟩ := hcells kk x hx
  have hxb := hl.2.1 x (List.mem_of_getElem? hx)
  have hkl := (List.getElem?_eq_some_iff.1 hx).1
  have hn3 := hl.2.2.1
  obtain ⟨nl, hnl⟩ : ∃ nl, nl = l.length := ⟨_, rfl⟩
  rw [← hnl] at hkl hn3 t4 ⊢
  have zT := lt_of_block h0
  obtain ⟨o, ho⟩ : ∃ o, o = (pl x.1).map (·.p) := ⟨_, rfl⟩
  have hmb : mb < w.heap.size := by obtain ⟨_, _, h⟩ := hM.block; exact lt_of_block h
  have hlk : ∀ (o1 o2 : Obj) m, (Instr.lookup 38 (.map (some mb)) (.string (nm x.1)) false).run Ybaf.prog (((w.alloc o1).alloc o2).drewN m) = .ok (ptrOf o) (((w.alloc o1).alloc o2).drewN m) := by
    intro o1 o2 m
    rw [ho]
    exact HMap.look (hM.kept (w' := ((w.alloc o1).alloc o2).drewN m) ((heap_alloc_old _ _ (by simp; omega)).trans (heap_alloc_old _ _ hmb))) hxb.1
  have HEV : Hid (∀ (o1 o2 : Obj) m, Calls Ybaf.prog 12 #[ptrOf o, .int .u64 x.2] (((w.alloc o1).alloc o2).drewN m) fun e w' => e = .returned (.tuple #[.int .i64 0, .bool false]) ∧ w' = (((w.alloc o1).alloc o2).drewN m)) := by
    intro o1 o2 m
    exact event_q (hH.kept (w' := ((w.alloc o1).alloc o2).drewN m) (fun b hb _ => (heap_alloc_old _ _ (by simp; omega)).trans (heap_alloc_old _ _ hb))) hxb.1 ho hxb.2.1 hxb.2.2 (by rw [hno]; rfl) (by rw [hno]; rfl)
  clear hnl hcells hl hx h0 hH hM ho hno
  go_enter Ybaf.func7, Ybaf.ntmps7
  go_wp2
  go_quiet ((go_at_call 12; exact Calls.quiet_of_same (HEV.out _ _ _)))
  go_wp2
  go_ret
  refine ⟨_, rfl, by omega, third_alloc w _ _ _ nq, ?_⟩
  exact (below_drewN (((Below.refl _ w).alloc (Nat.le_refl _) _).alloc (by simp) _) nq).alloc (by simp; omega) _
end Go.Proofs.YbulkacrqeaFmt
