import Derived.Test.Qxb6003347aSeq
import Derived.Laws.CopyOwn
import Derived.Laws.Cover3
import Derived.RangeFuncFrom
namespace Go.Proofs.Qxb6003347a
open Go.RowKit Go.Shelf Go.WideShapes
attribute [local go_sem] Oper.semAt_some

/-- The world in which the loop begins: six variables of the call's own behind V. -/
def start (V : World) (a b c d e f : Value) : World :=
  (((((V.alloc (.cells #[a] 36)).alloc (.cells #[b] 3)).alloc (.cells #[c] 3)).alloc (.cells #[d] 4)).alloc (.cells #[e] 36)).alloc (.cells #[f] 9)

theorem start_size (V : World) (a b c d e f : Value) : (start V a b c d e f).heap.size = V.heap.size + 6 := by
  unfold start; simp
theorem start_below (V : World) (a b c d e f : Value) : Below V.heap.size V (start V a b c d e f) := by
  unfold start
  exact ((((((Below.refl _ _).alloc (Nat.le_refl _) _).alloc (by simp) _).alloc (by simp; omega) _).alloc (by simp; omega) _).alloc (by simp; omega) _).alloc (by simp; omega) _
theorem cell_new' (w : World) (v : Value) (t : TypeId) : (w.alloc (.cells #[v] t)).cell? ⟨w.heap.size, 0, none⟩ = some v ∧ (w.alloc (.cells #[v] t)).frozen? ⟨w.heap.size, 0, none⟩ = false := by simp
theorem cell_old' {w : World} {k : Nat} {v : Value} (o : Obj) (h : w.cell? ⟨k, 0, none⟩ = some v ∧ w.frozen? ⟨k, 0, none⟩ = false) : (w.alloc o).cell? ⟨k, 0, none⟩ = some v ∧ (w.alloc o).frozen? ⟨k, 0, none⟩ = false := by
  have hlt := World.block_lt_of_cell? _ _ h.1
  have hb := (Below.refl w.heap.size w).alloc (Nat.le_refl _) o
  exact ⟨(hb.cell (p := ⟨k, 0, none⟩) hlt).trans h.1, (hb.frozen (p := ⟨k, 0, none⟩) hlt).trans h.2⟩
theorem start_cells (V : World) (a b c d e f : Value) :
    ((start V a b c d e f).cell? ⟨V.heap.size, 0, none⟩ = some a ∧ (start V a b c d e f).frozen? ⟨V.heap.size, 0, none⟩ = false) ∧
    ((start V a b c d e f).cell? ⟨V.heap.size + 1, 0, none⟩ = some b ∧ (start V a b c d e f).frozen? ⟨V.heap.size + 1, 0, none⟩ = false) ∧
    ((start V a b c d e f).cell? ⟨V.heap.size + 2, 0, none⟩ = some c ∧ (start V a b c d e f).frozen? ⟨V.heap.size + 2, 0, none⟩ = false) ∧
    ((start V a b c d e f).cell? ⟨V.heap.size + 3, 0, none⟩ = some d ∧ (start V a b c d e f).frozen? ⟨V.heap.size + 3, 0, none⟩ = false) ∧
    ((start V a b c d e f).cell? ⟨V.heap.size + 4, 0, none⟩ = some e ∧ (start V a b c d e f).frozen? ⟨V.heap.size + 4, 0, none⟩ = false) ∧
    ((start V a b c d e f).cell? ⟨V.heap.size + 5, 0, none⟩ = some f ∧ (start V a b c d e f).frozen? ⟨V.heap.size + 5, 0, none⟩ = false) := by
  have h1 := cell_new' V a 36
  have h2 := cell_new' (V.alloc (.cells #[a] 36)) b 3
  have h3 := cell_new' ((V.alloc (.cells #[a] 36)).alloc (.cells #[b] 3)) c 3
  have h4 := cell_new' (((V.alloc (.cells #[a] 36)).alloc (.cells #[b] 3)).alloc (.cells #[c] 3)) d 4
  have h5 := cell_new' ((((V.alloc (.cells #[a] 36)).alloc (.cells #[b] 3)).alloc (.cells #[c] 3)).alloc (.cells #[d] 4)) e 36
  have h6 := cell_new' (((((V.alloc (.cells #[a] 36)).alloc (.cells #[b] 3)).alloc (.cells #[c] 3)).alloc (.cells #[d] 4)).alloc (.cells #[e] 36)) f 9
  simp only [World.size_alloc] at h2 h3 h4 h5 h6
  unfold start
  exact ⟨cell_old' _ (cell_old' _ (cell_old' _ (cell_old' _ (cell_old' _ h1)))), cell_old' _ (cell_old' _ (cell_old' _ (cell_old' _ h2))), cell_old' _ (cell_old' _ (cell_old' _ h3)), cell_old' _ (cell_old' _ h4), cell_old' _ h5, h6⟩

/-- What is known when the members have been gathered. -/
structure Ready (w V : World) (sv : Value) (ss ys : List ByteArray) (p : ByteArray) (st m : Int) (ay : Option Addr) (gy : Nat) : Prop where
  bel : Below w.heap.size w V
  lt : w.heap.size < V.heap.size
  zero : 0 < w.heap.size
  m0 : V.cell? ⟨0, 0, none⟩ = some (.int .i64 m)
  stc : V.cell? ⟨w.heap.size, 0, none⟩ = some (.int .i64 st)
  flds : Fields V.heap.size V.heap.size V.heap.size V sv ss
  addr : 0 < ys.length → ay = some ⟨gy, 0, none⟩
  yrow : ∀ i, i < ys.length → V.cell? ⟨gy, i, none⟩ = some (.string (ys.getD i ByteArray.empty))
  ysum : ys.map bl = Plain.LM (bl p) (ss.map bl)
  cnt : ys.length ≤ 67108864
  clean : Plain.Clean (bl p)

/-- How many rounds there are to be. -/
def rounds (st : Int) (len : Nat) : Int := if 0 < st ∧ st < (len : Int) then st else len

/-- The loop's invariant: pre has come, each as it must be; no end has been reached. -/
structure Inv (w V : World) (ys : List ByteArray) (st : Int) (ay : Option Addr) (cy gy : Nat) (pre : List ByteArray) (W : World) : Prop where
  eq : pre = ys.take pre.length
  le : pre.length ≤ ys.length
  more : 0 < st → (pre.length : Int) < st
  cA : W.cell? ⟨V.heap.size, 0, none⟩ = some (.slice ay ys.length cy)
  cB : W.cell? ⟨V.heap.size + 1, 0, none⟩ = some (.int .i64 (rounds st ys.length))
  cC : W.cell? ⟨V.heap.size + 2, 0, none⟩ = some (.int .i64 pre.length)
  fC : W.frozen? ⟨V.heap.size + 2, 0, none⟩ = false
  cD : W.cell? ⟨V.heap.size + 3, 0, none⟩ = some (.bool true)
  fD : W.frozen? ⟨V.heap.size + 3, 0, none⟩ = false
  cS : W.cell? ⟨w.heap.size, 0, none⟩ = some (.int .i64 st)
  cY : ∀ i, i < ys.length → W.cell? ⟨gy, i, none⟩ = some (.string (ys.getD i ByteArray.empty))
/-- .. and where the body has broken off: either what came was not as it must be, or all that was asked for has come. -/
structure InvX (V : World) (ys : List ByteArray) (st : Int) (pre : List ByteArray) (W : World) : Prop where
  cB : W.cell? ⟨V.heap.size + 1, 0, none⟩ = some (.int .i64 (rounds st ys.length))
  cC : pre.map bl <+: ys.map bl → W.cell? ⟨V.heap.size + 2, 0, none⟩ = some (.int .i64 (rounds st ys.length))
  cD : pre.map bl <+: ys.map bl → W.cell? ⟨V.heap.size + 3, 0, none⟩ = some (.bool true)

theorem Inv.kept {w V : World} {ys : List ByteArray} {st : Int} {ay : Option Addr} {cy gy : Nat} : Own (Inv w V ys st ay cy gy) := fun _ _ _ _ hs hg hr =>
  ⟨hs.eq, hs.le, hs.more, cell_kept hs.cA hg hr, cell_kept hs.cB hg hr, cell_kept hs.cC hg hr, (frozen_kept hs.cC hg hr).trans hs.fC, cell_kept hs.cD hg hr, (frozen_kept hs.cD hg hr).trans hs.fD, cell_kept hs.cS hg hr, fun i hi => cell_kept (hs.cY i hi) hg hr⟩
theorem InvX.kept {V : World} {ys : List ByteArray} {st : Int} : Own (InvX V ys st) := fun _ _ _ _ hs hg hr =>
  ⟨cell_kept hs.cB hg hr, fun h => cell_kept (hs.cC h) hg hr, fun h => cell_kept (hs.cD h) hg hr⟩

/-! ### What one round does -/
theorem eq_of_bl {x y : ByteArray} (h : bl x = bl y) : x = y := by
  have : x.data = y.data := Array.toList_inj.1 h
  cases x; cases y
  exact congrArg ByteArray.mk this
theorem take_next {ys pre : List ByteArray} {x : ByteArray} (he : pre = ys.take pre.length) (hl : pre.length < ys.length) (hx : x = ys.getD pre.length ByteArray.empty) : pre ++ [x] = ys.take (pre ++ [x]).length := by
  have e : x = ys[pre.length] := by rw [hx, List.getD_eq_getElem?_getD, List.getElem?_eq_getElem hl]; rfl
  rw [List.length_append, List.length_singleton, List.take_succ_eq_append_getElem hl, ← e, ← he]
theorem not_prefix {ys pre : List ByteArray} {x : ByteArray} (hl : pre.length < ys.length) (hx : x ≠ ys.getD pre.length ByteArray.empty) : ¬ (pre ++ [x]).map bl <+: ys.map bl := by
  rintro ⟨r, hr⟩
  have h1 : (ys.map bl)[pre.length]? = some (bl x) := by
    rw [← hr]
    simp
  rw [List.getElem?_map, List.getElem?_eq_getElem hl] at h1
  have h2 : bl ys[pre.length] = bl x := by simpa using h1
  exact hx (by rw [List.getD_eq_getElem?_getD, List.getElem?_eq_getElem hl]; exact (eq_of_bl h2).symm)

theorem cell_set_other {W : World} {a b : Nat} {v u : Value} {i : Nat} (h : W.cell? ⟨b, i, none⟩ = some u) (hne : b ≠ a) : (W.setCell ⟨a, 0, none⟩ v).cell? ⟨b, i, none⟩ = some u := by
  rw [World.cell?_of_block (w := W) (Below.heap_setCell W ⟨a, 0, none⟩ v b hne)]
  exact h

theorem Inv.step {w V : World} {ys : List ByteArray} {st : Int} {ay : Option Addr} {cy gy : Nat} {pre : List ByteArray} {W : World} {x : ByteArray} (h : Inv w V ys st ay cy gy pre W)
    (hlt : w.heap.size < V.heap.size) (hgy : gy < V.heap.size) (hl : pre.length < ys.length) (hx : x = ys.getD pre.length ByteArray.empty) (hm : 0 < st → (pre.length : Int) + 1 < st) :
    Inv w V ys st ay cy gy (pre ++ [x]) (W.setCell ⟨V.heap.size + 2, 0, none⟩ (.int .i64 ((pre.length : Int) + 1))) where
  eq := take_next h.eq hl hx
  le := by simp; omega
  more := fun h0 => by have := hm h0; simp; omega
  cA := cell_set_other h.cA (by omega)
  cB := cell_set_other h.cB (by omega)
  cC := by
    rw [World.cell?_setCell_same' _ _ _ (by rw [h.cC]; rfl)]
    simp
  fC := by rw [World.frozen?_setCell]; exact h.fC
  cD := cell_set_other h.cD (by omega)
  fD := by rw [World.frozen?_setCell]; exact h.fD
  cS := cell_set_other h.cS (by omega)
  cY := fun i hi => cell_set_other (h.cY i hi) (by omega)

theorem Inv.bad {w V : World} {ys : List ByteArray} {st : Int} {ay : Option Addr} {cy gy : Nat} {pre : List ByteArray} {W : World} {x : ByteArray} (h : Inv w V ys st ay cy gy pre W)
    (hl : pre.length < ys.length) (hx : x ≠ ys.getD pre.length ByteArray.empty) : InvX V ys st (pre ++ [x]) (W.setCell ⟨V.heap.size + 3, 0, none⟩ (.bool false)) where
  cB := cell_set_other h.cB (by omega)
  cC := fun hp => absurd hp (not_prefix hl hx)
  cD := fun hp => absurd hp (not_prefix hl hx)

theorem Inv.full {w V : World} {ys : List ByteArray} {st : Int} {ay : Option Addr} {cy gy : Nat} {pre : List ByteArray} {W : World} {x : ByteArray} (h : Inv w V ys st ay cy gy pre W)
    (hl : pre.length < ys.length) (h0 : 0 < st) (hm : st ≤ (pre.length : Int) + 1) : InvX V ys st (pre ++ [x]) (W.setCell ⟨V.heap.size + 2, 0, none⟩ (.int .i64 ((pre.length : Int) + 1))) where
  cB := cell_set_other h.cB (by omega)
  cC := fun _ => by
    have := h.more h0
    rw [World.cell?_setCell_same' _ _ _ (by rw [h.cC]; rfl)]
    unfold rounds
    split <;> (congr 2; omega)
  cD := fun _ => cell_set_other h.cD (by omega)

theorem kept_set {n₁ c1 c2 : Nat} {W : World} {a : Nat} {v : Value} (h : a = c1 ∨ a = c2) : Kept n₁ c1 c2 W (W.setCell ⟨a, 0, none⟩ v) := fun k _ h1 h2 => by
  refine Below.heap_setCell W ⟨a, 0, none⟩ v k ?_
  show k ≠ a
  rcases h with rfl | rfl
  · exact h1
  · exact h2

theorem seq_of {w V : World} {sv : Value} {ss ys : List ByteArray} {p : ByteArray} {st m : Int} {ay : Option Addr} {gy : Nat} (hR : Ready w V sv ss ys p st m ay gy) (a b c d : Value) :
    SeqStopsK Fence.wide 8 Try.prog 37 #[.pointer (some ⟨V.heap.size + 1 + 1 + 1 + 1, 0, none⟩), .pointer (some ⟨V.heap.size + 1 + 1 + 1 + 1 + 1, 0, none⟩)] (fun x : ByteArray => #[Value.string x]) (Kept (V.heap.size + 6) (V.heap.size + 2) (V.heap.size + 3))
      (fun zs => zs.map bl = Plain.LM (bl p) (ss.map bl)) (fun pre => pre.map bl <+: Plain.LM (bl p) (ss.map bl)) (Plain.LM (bl p) (ss.map bl)).length (start V a b c d sv (.string p)) := by
  have hc := start_cells V a b c d sv (.string p)
  have hb := start_below V a b c d sv (.string p)
  have h0 := hR.zero
  have hl := hR.lt
  refine it37_stops 8 (by omega) (V.heap.size + 4) (V.heap.size + 5) _ _ _ sv ss p m hR.clean _ (start_size ..).symm (by omega) ⟨by omega, by omega, by omega⟩ ⟨by omega, by omega, by omega⟩ hc.2.2.2.2.1.1 hc.2.2.2.2.2.1 ((hb.cell (p := ⟨0, 0, none⟩) (by show 0 < V.heap.size; omega)).trans hR.m0) ?_
  rcases hR.flds with h | ⟨b', cap, e, h1, h2, h3, h4⟩
  · exact .inl h
  · exact .inr ⟨b', cap, e, ⟨by omega, by omega, by omega⟩, h2, h3, fun i hi => (hb.cell (p := ⟨b', 0 + i, none⟩) h1.1).trans (h4 i hi)⟩

theorem inv0 {w V : World} {sv : Value} {ss ys : List ByteArray} {p : ByteArray} {st m : Int} {ay : Option Addr} {gy : Nat} (hR : Ready w V sv ss ys p st m ay gy) (cy : Nat) {N0 : Int} (hN : rounds st ys.length = N0) :
    Inv w V ys st ay cy gy [] (start V (.slice ay ys.length cy) (.int .i64 N0) (.int .i64 0) (.bool true) sv (.string p)) ∧ Below w.heap.size w (start V (.slice ay ys.length cy) (.int .i64 N0) (.int .i64 0) (.bool true) sv (.string p)) := by
  have hc := start_cells V (.slice ay ys.length cy) (.int .i64 N0) (.int .i64 0) (.bool true) sv (.string p)
  have hb := start_below V (.slice ay ys.length cy) (.int .i64 N0) (.int .i64 0) (.bool true) sv (.string p)
  have hl := hR.lt
  refine ⟨⟨rfl, by simp, fun h => by simpa using h, hc.1.1, by rw [hN]; exact hc.2.1.1, hc.2.2.1.1, hc.2.2.1.2, hc.2.2.2.1.1, hc.2.2.2.1.2, (hb.cell (p := ⟨w.heap.size, 0, none⟩) hl).trans hR.stc, fun i hi => ?_⟩, hR.bel.trans (hb.mono (by omega))⟩
  have h1 := hR.yrow i hi
  exact (hb.cell (p := ⟨gy, i, none⟩) (World.block_lt_of_cell? _ _ h1)).trans h1

theorem rounds_lt {st : Int} {k len : Nat} (hk : k < len) (h : 0 < st → (k : Int) < st) : (k : Int) < rounds st len := by
  unfold rounds
  split <;> omega
theorem rounds_all {st : Int} {len : Nat} (h : 0 < st → (len : Int) < st) : rounds st len = len := by
  unfold rounds
  rw [if_neg]; intro hh; have := h hh.1; omega

theorem keptK_b {n₁ c1 c2 : Nat} {w : World} (hn : n₁ = w.heap.size) (W : World) (l : Nat) (o o' : Obj) (hl : w.heap.size ≤ l) (_ : W.heap[l]? = some o) (_ : o.isCells = false) (_ : o.isWalk = false) : Kept n₁ c1 c2 W (W.putObj l o') := fun k hk _ _ => by
  show (W.heap.setIfInBounds l o')[k]? = _
  rw [Array.getElem?_setIfInBounds, if_neg (by omega)]

end Go.Proofs.Qxb6003347a
