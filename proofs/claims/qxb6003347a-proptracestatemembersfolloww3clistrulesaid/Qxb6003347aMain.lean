import Derived.Test.Qxb6003347aTail
namespace Go.Proofs.Qxb6003347a
open Go.RowKit Go.Shelf Go.WideShapes
attribute [local go_sem] Oper.semAt_some

/-- The text: true, and nothing that was there has turned. -/
def Fine (w : World) (e : Ending) (w' : World) : Prop := e = .returned (.bool true) ∧ Below w.heap.size w w'

def stamp : ByteArray := ⟨#[116, 97, 108, 108, 121, 99, 108, 111, 99, 107, 61]⟩

/-- A row of strings at whatever address. -/
def RowAt (w : World) (x : Addr) (n : Nat) (ss : List ByteArray) : Prop := ∀ i, i < n → w.cell? (x.add i) = some (.string (ss.getD i ByteArray.empty))

theorem RowAt.plain {w : World} {x : Addr} {n : Nat} {ss : List ByteArray} (h : RowAt w x n ss) (h0 : 0 < n) : ∃ b off, x = ⟨b, off, none⟩ ∧ ∀ i, i < n → w.cell? ⟨b, off + i, none⟩ = some (.string (ss.getD i ByteArray.empty)) := by
  obtain ⟨b, off, spot⟩ := x
  have hs : spot = none := by simpa [Addr.add] using World.cell?_spot (h 0 h0)
  subst hs
  exact ⟨b, off, rfl, fun i hi => by rw [← add_plain]; exact h i hi⟩

theorem RowAt.alloc {w : World} {x : Addr} {n : Nat} {ss : List ByteArray} (h : RowAt w x n ss) (o : Obj) : RowAt (w.alloc o) x n ss := fun i hi => by
  rw [World.cell?_alloc_lt]
  · exact h i hi
  · exact World.block_lt_of_cell? _ _ (h i hi)

theorem bytes11 (x : Addr) (n c : Nat) (ss : List ByteArray) (p : ByteArray) (st : Int) (w : World) (hn : n ≤ maxLen) (hp : p.size ≤ maxLen) (hz : ∀ i, i < n → (ss.getD i ByteArray.empty).size ≤ maxLen) (hc : RowAt w x n ss) :
    Calls Try.prog 11 #[.slice (some x) n c, .string p, .int .i64 st] w fun e w' => SomeBool e ∧ w' = w := by
  by_cases h0 : n = 0
  · subst h0; exact bytes11_none _ _ _ _ _ hp
  · obtain ⟨b, off, rfl, hc'⟩ := hc.plain (by omega)
    exact bytes11_some b off n c ss p st w hn hp hz hc'

theorem big12 (x : Addr) (n c : Nat) (ss : List ByteArray) (w : World) (hn : n ≤ maxLen) (hc : RowAt w x n ss) :
    Calls Try.prog 12 #[.slice (some x) n c] w fun e w' => BigTold n ss e ∧ w' = w := by
  by_cases h0 : n = 0
  · subst h0
    exact (big12_none _ _ _).mono fun _ _ h => ⟨.inr ⟨h.1, by omega, fun i hi => by omega⟩, h.2⟩
  · obtain ⟨b, off, rfl, hc'⟩ := hc.plain (by omega)
    exact big12_some b off n c ss w hn hc'

theorem RowAt.below {w w' : World} {x : Addr} {n : Nat} {ss : List ByteArray} (h : RowAt w x n ss) (hb : Below w.heap.size w w') : RowAt w' x n ss := fun i hi => by
  rw [hb.cell (World.block_lt_of_cell? _ _ (h i hi))]
  exact h i hi

theorem own_block {w : World} {base e g n cap : Nat} {xs : List Value} (h : w.ownsRow base e 1 (.slice (some ⟨g, 0, none⟩) n cap) n xs) : ∃ cur : List Value, w.heap[g]? = some (.cells cur.toArray e (0, 0)) ∧ cur.length = cap := by
  rcases h.2 with ⟨h', _⟩ | ⟨g', cap', cur, h', _, hg, _, _, hs, _⟩
  · simp at h'
  · simp only [Value.slice.injEq, Option.some.injEq, Addr.mk.injEq, and_true, true_and] at h'
    obtain ⟨rfl, rfl⟩ := h'
    exact ⟨cur.toList, by simpa using hg, by simpa using hs⟩

theorem row_cells {w : World} {x : Addr} {n : Nat} {ss : List ByteArray} (hl : n = ss.length) (h : RowAt w x n ss) : ∀ j v, (ss.map Value.string)[j]? = some v → w.cell? (x.add j) = some v := by
  intro j v hj
  rw [List.getElem?_map] at hj
  cases e : ss[j]? with
  | none => rw [e] at hj; cases hj
  | some s =>
    rw [e] at hj
    simp at hj
    subst hj
    have hjl : j < ss.length := (List.getElem?_eq_some_iff.1 e).1
    rw [h j (by omega)]
    simp [List.getD, e]

theorem strs_one (ss : List ByteArray) : ∀ v ∈ ss.map Value.string, v.oneCell' = true := by
  intro v hv
  obtain ⟨s, _, rfl⟩ := List.mem_map.1 hv
  rfl

theorem copied {w : World} {g n : Nat} {cur : List Value} {ss : List ByteArray} (hl : (ss.map Value.string).length = n) (hc : cur.length = n) (h : Hid (w.heap[g]? = some (.cells (splice cur 0 (ss.map Value.string)).toArray 9 (0, 0)))) :
    ∀ i, i < n → w.cell? ⟨g, 0 + i, none⟩ = some (.string (ss.getD i ByteArray.empty)) := by
  intro i hi
  have e : splice cur 0 (ss.map Value.string) = ss.map Value.string := by
    unfold splice
    rw [List.take_zero, List.nil_append, List.drop_eq_nil_of_le (by omega), List.append_nil]
  have h' := h.out
  rw [e] at h'
  have hil : i < ss.length := by rw [List.length_map] at hl; omega
  unfold World.cell?
  simp [h', hil, List.getD]

theorem rounds_cases (st : Int) (len : Nat) : (¬ 0 < st ∧ rounds st len = (len : Int)) ∨ (0 < st ∧ st < (len : Int) ∧ rounds st len = st) ∨ (0 < st ∧ ¬ st < (len : Int) ∧ rounds st len = (len : Int)) := by
  unfold rounds
  by_cases h0 : 0 < st
  · by_cases h1 : st < (len : Int)
    · exact .inr (.inl ⟨h0, h1, by rw [if_pos ⟨h0, h1⟩]⟩)
    · exact .inr (.inr ⟨h0, h1, by rw [if_neg (fun h => h1 h.2)]⟩)
  · exact .inl ⟨h0, by rw [if_neg (fun h => h0 h.1)]⟩

theorem str_ne {x y : ByteArray} (h : ¬ x = y) : (x.toList == y.toList) = false := by
  rw [ByteArray.toList_eq, ByteArray.toList_eq]
  simp only [beq_eq_false_iff_ne, ne_eq]
  exact fun e => h (eq_of_bl e)

theorem own_shape {w V : World} {v : Value} {ys : List ByteArray} (h : Own13 w V v ys) : ∃ ay cy gy, v = .slice ay ys.length cy ∧ (0 < ys.length → ay = some ⟨gy, 0, none⟩) ∧ ∀ i, i < ys.length → V.cell? ⟨gy, i, none⟩ = some (.string (ys.getD i ByteArray.empty)) := by
  have h1 := h.1
  rcases h.1.2 with ⟨rfl, h0⟩ | ⟨g, cap, cur, rfl, _⟩
  · exact ⟨none, 0, 0, by rw [h0], fun hh => by omega, fun i hi => by omega⟩
  · refine ⟨some ⟨g, 0, none⟩, cap, g, rfl, fun _ => rfl, fun i hi => ?_⟩
    rw [h1.cellAt i (by omega), List.getElem?_map, List.getElem?_eq_getElem hi, List.getD_eq_getElem?_getD, List.getElem?_eq_getElem hi]
    rfl

theorem ready_some {w wb w4 V : World} {n : Nat} {ss ys : List ByteArray} {p : ByteArray} {st m : Int} {v : Value} (hB1 : Below w.heap.size w wb) (hlt1 : w.heap.size < wb.heap.size) (h0w : 0 < w.heap.size)
    (hm1 : wb.cell? ⟨0, 0, none⟩ = some (.int .i64 m)) (hst1 : wb.cell? ⟨w.heap.size, 0, none⟩ = some (.int .i64 st)) (hB4 : Below wb.heap.size wb w4) (hlt4 : wb.heap.size < w4.heap.size)
    (hrow4 : ∀ i, i < n → w4.cell? ⟨wb.heap.size, 0 + i, none⟩ = some (.string (ss.getD i ByteArray.empty))) (hn4 : n ≤ 4096) (hz4 : ∀ i, i < n → (ss.getD i ByteArray.empty).size ≤ 4096) (hnl : n = ss.length)
    (hP : Plain.Clean (bl p)) (hys : ys.map bl = Plain.LM (bl p) (ss.map bl)) (hown : Own13 w4 V v ys) (hcnt : ys.length ≤ 4097 * n) :
    ∃ ay cy gy, v = .slice ay ys.length cy ∧ Ready w V (.slice (some ⟨wb.heap.size, 0, none⟩) n n) ss ys p st m ay gy := by
  obtain ⟨ay, cy, gy, hv, ha, hr⟩ := own_shape hown
  subst hnl
  have hb5 := hown.2
  have hsz := hb5.size
  have hk : ∀ k i u, k < wb.heap.size → wb.cell? ⟨k, i, none⟩ = some u → V.cell? ⟨k, i, none⟩ = some u := fun k i u hk h =>
    (hb5.cell (p := ⟨k, i, none⟩) (show k < w4.heap.size by omega)).trans ((hB4.cell (p := ⟨k, i, none⟩) hk).trans h)
  refine ⟨ay, cy, gy, hv, ⟨hB1.trans ((hB4.mono (by omega)).trans (hb5.mono (by omega))), by omega, h0w, hk 0 0 _ (by omega) hm1, hk _ 0 _ hlt1 hst1, .inr ⟨wb.heap.size, ss.length, rfl, ⟨by omega, by omega, by omega⟩, hn4, hz4, ?_⟩, ha, hr, hys, by omega, hP⟩⟩
  exact fun i hi => (hb5.cell (p := ⟨wb.heap.size, 0 + i, none⟩) hlt4).trans (hrow4 i hi)

set_option maxRecDepth 100000 in
set_option maxHeartbeats 4000000 in
theorem main_some (x : Addr) (n c : Nat) (ss : List ByteArray) (p : ByteArray) (st : Int) (w : World) (m : Int) (hm : w.cell? ⟨0, 0, none⟩ = some (.int .i64 m)) (hn : n ≤ maxLen) (hnl : Hid (n = ss.length)) (hp : p.size ≤ maxLen)
    (hz : ∀ i, i < n → (ss.getD i ByteArray.empty).size ≤ maxLen) (hc : RowAt w x n ss)
    (hP : Hid (Plain.Clean (bl p))) (hpp : (p.toList.isEmpty = true) ∨ (p.toList.isEmpty = false ∧ (p.toList == [116, 97, 108, 108, 121, 99, 108, 111, 99, 107, 61]) = true)) :
    Calls Try.prog 4 #[.slice (some x) n c, .string p, .int .i64 st] w (Fine w) := by
  obtain ⟨i0, hi, hz0, hz1, hz2⟩ := info_parts Try.info9
  refine (callsIn_wide (n := 9)).1 ?_
  refine callsIn_of_wp_marks Try.func4 rfl trivial ?_ rfl
  simp only [Try.ntmps4, List.size_toArray, List.length_cons, List.length_nil, Nat.reduceAdd, Nat.reduceSub, Array.replicate_succ, Array.replicate_zero, List.push_toArray, List.append_toArray, List.nil_append, List.cons_append]
  refine wpIn_wide.2 ?_
  go_wp2_with (fail)
  have hB1 : Below w.heap.size w (w.alloc (.cells #[.int .i64 st] 3)) := (Below.refl _ _).alloc (Nat.le_refl _) _
  have hlt1 : w.heap.size < (w.alloc (.cells #[.int .i64 st] 3)).heap.size := by simp
  have hst1 : (w.alloc (.cells #[.int .i64 st] 3)).cell? ⟨w.heap.size, 0, none⟩ = some (.int .i64 st) := by simp
  have hc1 : RowAt (w.alloc (.cells #[.int .i64 st] 3)) x n ss := hc.alloc _
  have hm1 := (hB1.cell (p := ⟨0, 0, none⟩) (World.block_lt_of_cell? _ _ hm)).trans hm
  have hnl2 : Hid ((ss.map Value.string).length = n) := by show _ = _; rw [List.length_map]; exact hnl.out.symm
  have h0w : 0 < w.heap.size := World.block_lt_of_cell? _ _ hm
  clear hc hm
  generalize w.alloc (.cells #[.int .i64 st] 3) = wb at *
  refine (bytes11 _ _ _ ss _ _ _ hn hp hz hc1).mono ?_
  rintro e wb ⟨⟨bb, rfl⟩, rfl⟩
  cases bb
  · go_wp2
    exact ⟨_, results_tmp rfl _ _ _, rfl, hB1⟩
  rcases hpp with he | ⟨he, he2⟩
  all_goals
    go_wp2_with (fail)
    refine (big12 _ _ _ ss _ hn hc1).mono ?_
    rintro e wb ⟨hbt, rfl⟩
    rcases hbt with rfl | ⟨rfl, hn4, hz4⟩
    · go_wp2
      exact ⟨_, results_tmp rfl _ _ _, rfl, hB1⟩
    · go_wp2_with (first
        | (at_make; refine wpList_make_full _ rfl _ _ 36 rfl wb.heap.size 9 i0 (.string ⟨#[]⟩) 1 Try.underlying36 hi hz0 hz1 .i64 .i64 _ _ n rfl rfl rfl rfl (by rw [hz2]; omega) hn (Nat.le_refl _) ?_; intro w3 hown3 hg3; obtain ⟨cur, hcur, hcl⟩ := own_block hown3; have hB3 := (Below.refl wb.heap.size wb).grown hg3 (Nat.le_refl _) (fun k h => by cases h))
        | (have _t := hB3; refine wpList_copy_splice rfl (.tmp 31) (.tmp 32) 36 36 rfl 9 Try.underlying36 (by kernel_rfl) _ _ _ _ _ _ rfl rfl wb.heap.size 0 cur 9 hcur (ss.map Value.string) (by rw [hnl2.out]; exact (Nat.min_self n).symm) (fun _ => ⟨rfl, x, rfl, row_cells hnl.out (hc1.below hB3)⟩) (by rw [hnl2.out, hcl]; omega) (strs_one _) wb.heap.size wb hB3 (Nat.le_refl _) ?_; intro w4 hg4 hB4; have hF4 := copied hnl2.out hcl hg4; have hlt4 : wb.heap.size < w4.heap.size := (Array.getElem?_eq_some_iff.1 hg4.out).1; clear hown3 hg3 hcur hcl hB3 hg4))
      have hrow4 : ∀ i, i < n → w4.cell? ⟨wb.heap.size, 0 + i, none⟩ = some (.string (ss.getD i ByteArray.empty)) := hF4
      refine (lm13 _ _ _ _ ss _ _ hn4 hnl hz4 hlt4 hrow4).mono ?_
      rintro e V ⟨v, ys, rfl, hys, hown, hcnt⟩
      obtain ⟨ay, cy, gy, hv, hR⟩ : ∃ ay cy gy, v = .slice ay ys.length cy ∧ Ready w V (.slice (some ⟨wb.heap.size, 0, none⟩) n n) ss ys p st m ay gy := ready_some hB1 hlt1 h0w hm1 hst1 hB4 hlt4 hrow4 hn4 hz4 hnl.out hP.out hys hown hcnt
      rw [hv]
      clear hv hown hys hrow4 hF4 hlt4 hB4 hc1 hz hz4 hst1 hm1 hB1 hlt1
      have hlV := hR.lt
      have hstc := hR.stc
      have hcy := hR.cnt
      have hcs : (¬ 0 < st ∧ rounds st ys.length = (ys.length : Int)) ∨ (0 < st ∧ st < (ys.length : Int) ∧ rounds st ys.length = st) ∨ (0 < st ∧ ¬ st < (ys.length : Int) ∧ rounds st ys.length = (ys.length : Int)) := rounds_cases st ys.length
      rcases hcs with ⟨hs0, hrd⟩ | ⟨hs0, hs1, hrd⟩ | ⟨hs0, hs1, hrd⟩
      all_goals
        have HR : Hid (_ = _) := hrd
        clear hrd
        go_wp2_with (go_at_call 14; refine (tsm14 _ _ _ _ _).mono ?_; rintro e w' ⟨rfl, rfl⟩)
        refine (wpIn_wide (n := 9)).1 ?_
        change Code.wpIn _ _ _ _ _ _ (start V (.slice ay ys.length cy) (.int .i64 _) (.int .i64 0) (.bool true) _ (.string p))
        refine wpIn_rangeFunc_ownF (F := Fence.wide) rfl (by omega) (gf := 37) (lb := #[.pointer (some ⟨V.heap.size + 1 + 1 + 1 + 1, 0, none⟩), .pointer (some ⟨V.heap.size + 1 + 1 + 1 + 1 + 1, 0, none⟩)]) rfl trivial (enters_of Try.func37 (by kernel_rfl) rfl)
          (seq_of hR _ _ _ _) (fun h k => h.trans k) (keptK_b (start_size ..).symm) (Below.refl _ _) (fun _ => rfl)
          (fun pre W => Inv w V ys st ay cy gy pre W ∧ Below w.heap.size w W) (fun cc pre W => (cc = .exit 0 ∧ InvX V ys st pre W) ∧ Below w.heap.size w W)
          (OwnFrom.and (Own.from Inv.kept _) (ownFrom_below (Nat.le_refl _) (by rw [start_size]; omega)))
          (fun cc => OwnFrom.and (Own.from (fun s A B row hs hg hr => ⟨hs.1, InvX.kept s A B row hs.2 hg hr⟩) _) (ownFrom_below (Nat.le_refl _) (by rw [start_size]; omega)))
          (inv0 hR cy HR.out) ?_ ?_ ?_ ?_ ?_
        rotate_left
        · intro l x W K hK
          have HK : Hid (K _ W) := hK
          clear hK
          gi_wp2
          exact HK.out
        · rintro l pre y W ⟨hI, hB⟩ hl
          have hlen : pre.length < ys.length := by rw [← hR.ysum, List.length_map] at hl; exact hl
          have hA : W.cell? ⟨V.heap.size, 0, none⟩ = some (.slice (some ⟨gy, 0, none⟩) ys.length cy) := by rw [← hR.addr (by omega)]; exact hI.cA
          have hBc : W.cell? ⟨V.heap.size + 1, 0, none⟩ = some (.int .i64 (rounds st ys.length)) := hI.cB
          have hC : W.cell? ⟨V.heap.size + 1 + 1, 0, none⟩ = some (.int .i64 pre.length) := hI.cC
          have fC : W.frozen? ⟨V.heap.size + 1 + 1, 0, none⟩ = false := hI.fC
          have hDc : W.cell? ⟨V.heap.size + 1 + 1 + 1, 0, none⟩ = some (.bool true) := hI.cD
          have fD : W.frozen? ⟨V.heap.size + 1 + 1 + 1, 0, none⟩ = false := hI.fD
          have hSc : W.cell? ⟨w.heap.size, 0, none⟩ = some (.int .i64 st) := hI.cS
          have hYc := hI.cY _ hlen
          obtain ⟨z, hz⟩ : ∃ z, Hid (ys.getD pre.length ByteArray.empty = z) := ⟨_, rfl⟩
          rw [hz.out] at hYc
          obtain ⟨N0, hN0⟩ : ∃ N0, Hid (rounds st ys.length = N0) := ⟨_, rfl⟩
          rw [hN0.out] at hBc
          have hNlt : (pre.length : Int) < N0 := by rw [← hN0.out]; exact rounds_lt hlen hI.more
          have hgy : gy < V.heap.size := World.block_lt_of_cell? _ _ (hR.yrow _ hlen)
          clear hl
          by_cases hyz : y = z
          · subst hyz
            have hq : (y.toList == y.toList) = true := by simp
            gi_wp2
            all_goals first
              | exact ⟨KeepsOthers.setCell _ _ _, kept_set (.inl rfl), hI.step hlV hgy hlen hz.out.symm (fun h => by omega), hB.setCell (p := ⟨V.heap.size + 2, 0, none⟩) (by show _ ≤ V.heap.size + 2; omega) _⟩
              | exact ⟨KeepsOthers.setCell _ _ _, ⟨rfl, hI.full hlen (by omega) (by omega)⟩, hB.setCell (p := ⟨V.heap.size + 2, 0, none⟩) (by show _ ≤ V.heap.size + 2; omega) _⟩
          · have hq : (y.toList == z.toList) = false := str_ne hyz
            have hyn : y ≠ ys.getD pre.length ByteArray.empty := by rw [hz.out]; exact hyz
            have HYN : Hid (y ≠ ys.getD pre.length ByteArray.empty) := hyn
            clear hyz hyn
            gi_wp2
            exact ⟨KeepsOthers.setCell _ _ _, ⟨rfl, hI.bad hlen HYN.out⟩, hB.setCell (p := ⟨V.heap.size + 3, 0, none⟩) (by show _ ≤ V.heap.size + 3; omega) _⟩
        · rintro D zs W hD hS ⟨hI, hB⟩ hK
          have hzl : zs.length = ys.length := by have := congrArg List.length hS; rw [← hR.ysum, List.length_map, List.length_map] at this; exact this
          have hBc : W.cell? ⟨V.heap.size + 1, 0, none⟩ = some (.int .i64 ys.length) := by rw [hI.cB, rounds_all (fun h => by have := hI.more h; omega)]
          have hC : W.cell? ⟨V.heap.size + 1 + 1, 0, none⟩ = some (.int .i64 ys.length) := by rw [← hzl]; exact hI.cC
          have hDc : W.cell? ⟨V.heap.size + 1 + 1 + 1, 0, none⟩ = some (.bool true) := hI.cD
          rw [start_size] at hD
          clear hS hzl hI
          gi_wp2
          go_wp2
          refine ⟨by simp, .inl ⟨_, _, rfl, run_takeDeferred hK, ?_⟩⟩
          exact ⟨_, results_tmp rfl _ _ _, rfl, hB.trans (belowK_b (w := w) (Nat.le_refl _) W D _ _ (by omega) hK rfl rfl)⟩
        · rintro D cc pre W hD hS ⟨⟨rfl, hX⟩, hB⟩ hK
          have hS' : pre.map bl <+: ys.map bl := by rw [hR.ysum]; exact hS
          obtain ⟨N0, hN0⟩ : ∃ N0, rounds st ys.length = N0 := ⟨_, rfl⟩
          have hBc : W.cell? ⟨V.heap.size + 1, 0, none⟩ = some (.int .i64 N0) := by rw [← hN0]; exact hX.cB
          have hC : W.cell? ⟨V.heap.size + 1 + 1, 0, none⟩ = some (.int .i64 N0) := by rw [← hN0]; exact hX.cC hS'
          have hDc : W.cell? ⟨V.heap.size + 1 + 1 + 1, 0, none⟩ = some (.bool true) := hX.cD hS'
          rw [start_size] at hD
          clear hS hS' hX hN0
          gi_wp2
          go_wp2
          refine ⟨by simp, .inl ⟨_, _, rfl, run_takeDeferred hK, ?_⟩⟩
          exact ⟨_, results_tmp rfl _ _ _, rfl, hB.trans (belowK_b (w := w) (Nat.le_refl _) W D _ _ (by omega) hK rfl rfl)⟩
theorem lm13_nil (p : ByteArray) (w : World) : Calls Try.prog 13 #[.slice none 0 0, .string p] w fun e w' => ∃ v, e = .returned v ∧ Hid (v = .slice none 0 0) ∧ w' = w :=
  (lm13_none p w).mono fun _ _ h => ⟨_, h.1, rfl, h.2⟩

theorem ready_nil {w wb : World} {p : ByteArray} {st m : Int} {v : Value} (hB1 : Below w.heap.size w wb) (hlt1 : w.heap.size < wb.heap.size) (h0w : 0 < w.heap.size)
    (hm1 : wb.cell? ⟨0, 0, none⟩ = some (.int .i64 m)) (hst1 : wb.cell? ⟨w.heap.size, 0, none⟩ = some (.int .i64 st)) (hP : Plain.Clean (bl p)) (hv : Hid (v = .slice none 0 0)) :
    ∃ ay cy gy, ∃ ys : List ByteArray, v = .slice ay ys.length cy ∧ Ready w wb (.slice none 0 0) [] ys p st m ay gy :=
  ⟨none, 0, 0, [], hv, ⟨hB1, hlt1, h0w, hm1, hst1, .inl ⟨rfl, rfl⟩, fun h => absurd h (by simp), fun i hi => absurd hi (by simp), rfl, by simp, hP⟩⟩

set_option maxRecDepth 100000 in
set_option maxHeartbeats 4000000 in
theorem main_nil (p : ByteArray) (st : Int) (w : World) (m : Int) (hm : w.cell? ⟨0, 0, none⟩ = some (.int .i64 m)) (hp : p.size ≤ maxLen)
    (hP : Hid (Plain.Clean (bl p))) (hpp : (p.toList.isEmpty = true) ∨ (p.toList.isEmpty = false ∧ (p.toList == [116, 97, 108, 108, 121, 99, 108, 111, 99, 107, 61]) = true)) :
    Calls Try.prog 4 #[.slice none 0 0, .string p, .int .i64 st] w (Fine w) := by
  refine (callsIn_wide (n := 9)).1 ?_
  refine callsIn_of_wp_marks Try.func4 rfl trivial ?_ rfl
  simp only [Try.ntmps4, List.size_toArray, List.length_cons, List.length_nil, Nat.reduceAdd, Nat.reduceSub, Array.replicate_succ, Array.replicate_zero, List.push_toArray, List.append_toArray, List.nil_append, List.cons_append]
  refine wpIn_wide.2 ?_
  go_wp2_with (fail)
  have hB1 : Below w.heap.size w (w.alloc (.cells #[.int .i64 st] 3)) := (Below.refl _ _).alloc (Nat.le_refl _) _
  have hlt1 : w.heap.size < (w.alloc (.cells #[.int .i64 st] 3)).heap.size := by simp
  have hst1 : (w.alloc (.cells #[.int .i64 st] 3)).cell? ⟨w.heap.size, 0, none⟩ = some (.int .i64 st) := by simp
  have hm1 := (hB1.cell (p := ⟨0, 0, none⟩) (World.block_lt_of_cell? _ _ hm)).trans hm
  have h0w : 0 < w.heap.size := World.block_lt_of_cell? _ _ hm
  clear hm
  generalize w.alloc (.cells #[.int .i64 st] 3) = wb at *
  refine (bytes11_none _ _ _ _ _ hp).mono ?_
  rintro e wb ⟨⟨bb, rfl⟩, rfl⟩
  cases bb
  · go_wp2
    exact ⟨_, results_tmp rfl _ _ _, rfl, hB1⟩
  rcases hpp with he | ⟨he, he2⟩
  all_goals
    go_wp2_with (go_at_call 12; refine (big12_none _ _ _).mono ?_; rintro e wb ⟨rfl, rfl⟩)
    refine (lm13_nil _ _).mono ?_
    rintro e V ⟨v, rfl, hv0, rfl⟩
    obtain ⟨ay, cy, gy, ys, hv, hR⟩ := ready_nil hB1 hlt1 h0w hm1 hst1 hP.out hv0
    rw [hv]
    clear hv hv0 hst1 hm1 hB1 hlt1
    have hlV := hR.lt
    have hstc := hR.stc
    have hcy := hR.cnt
    have hcs : (¬ 0 < st ∧ rounds st ys.length = (ys.length : Int)) ∨ (0 < st ∧ st < (ys.length : Int) ∧ rounds st ys.length = st) ∨ (0 < st ∧ ¬ st < (ys.length : Int) ∧ rounds st ys.length = (ys.length : Int)) := rounds_cases st ys.length
    rcases hcs with ⟨hs0, hrd⟩ | ⟨hs0, hs1, hrd⟩ | ⟨hs0, hs1, hrd⟩
    all_goals
      have HR : Hid (_ = _) := hrd
      clear hrd
      go_wp2_with (go_at_call 14; refine (tsm14 _ _ _ _ _).mono ?_; rintro e w' ⟨rfl, rfl⟩)
      refine (wpIn_wide (n := 9)).1 ?_
      change Code.wpIn _ _ _ _ _ _ (start V (.slice ay ys.length cy) (.int .i64 _) (.int .i64 0) (.bool true) _ (.string p))
      refine wpIn_rangeFunc_ownF (F := Fence.wide) rfl (by omega) (gf := 37) (lb := #[.pointer (some ⟨V.heap.size + 1 + 1 + 1 + 1, 0, none⟩), .pointer (some ⟨V.heap.size + 1 + 1 + 1 + 1 + 1, 0, none⟩)]) rfl trivial (enters_of Try.func37 (by kernel_rfl) rfl)
        (seq_of hR _ _ _ _) (fun h k => h.trans k) (keptK_b (start_size ..).symm) (Below.refl _ _) (fun _ => rfl)
        (fun pre W => Inv w V ys st ay cy gy pre W ∧ Below w.heap.size w W) (fun cc pre W => (cc = .exit 0 ∧ InvX V ys st pre W) ∧ Below w.heap.size w W)
        (OwnFrom.and (Own.from Inv.kept _) (ownFrom_below (Nat.le_refl _) (by rw [start_size]; omega)))
        (fun cc => OwnFrom.and (Own.from (fun s A B row hs hg hr => ⟨hs.1, InvX.kept s A B row hs.2 hg hr⟩) _) (ownFrom_below (Nat.le_refl _) (by rw [start_size]; omega)))
        (inv0 hR cy HR.out) ?_ ?_ ?_ ?_ ?_
      rotate_left
      · intro l x W K hK
        have HK : Hid (K _ W) := hK
        clear hK
        gi_wp2
        exact HK.out
      · rintro l pre y W ⟨hI, hB⟩ hl
        have hlen : pre.length < ys.length := by rw [← hR.ysum, List.length_map] at hl; exact hl
        have hA : W.cell? ⟨V.heap.size, 0, none⟩ = some (.slice (some ⟨gy, 0, none⟩) ys.length cy) := by rw [← hR.addr (by omega)]; exact hI.cA
        have hBc : W.cell? ⟨V.heap.size + 1, 0, none⟩ = some (.int .i64 (rounds st ys.length)) := hI.cB
        have hC : W.cell? ⟨V.heap.size + 1 + 1, 0, none⟩ = some (.int .i64 pre.length) := hI.cC
        have fC : W.frozen? ⟨V.heap.size + 1 + 1, 0, none⟩ = false := hI.fC
        have hDc : W.cell? ⟨V.heap.size + 1 + 1 + 1, 0, none⟩ = some (.bool true) := hI.cD
        have fD : W.frozen? ⟨V.heap.size + 1 + 1 + 1, 0, none⟩ = false := hI.fD
        have hSc : W.cell? ⟨w.heap.size, 0, none⟩ = some (.int .i64 st) := hI.cS
        have hYc := hI.cY _ hlen
        obtain ⟨z, hz⟩ : ∃ z, Hid (ys.getD pre.length ByteArray.empty = z) := ⟨_, rfl⟩
        rw [hz.out] at hYc
        obtain ⟨N0, hN0⟩ : ∃ N0, Hid (rounds st ys.length = N0) := ⟨_, rfl⟩
        rw [hN0.out] at hBc
        have hNlt : (pre.length : Int) < N0 := by rw [← hN0.out]; exact rounds_lt hlen hI.more
        have hgy : gy < V.heap.size := World.block_lt_of_cell? _ _ (hR.yrow _ hlen)
        clear hl
        by_cases hyz : y = z
        · subst hyz
          have hq : (y.toList == y.toList) = true := by simp
          gi_wp2
          all_goals first
            | exact ⟨KeepsOthers.setCell _ _ _, kept_set (.inl rfl), hI.step hlV hgy hlen hz.out.symm (fun h => by omega), hB.setCell (p := ⟨V.heap.size + 2, 0, none⟩) (by show _ ≤ V.heap.size + 2; omega) _⟩
            | exact ⟨KeepsOthers.setCell _ _ _, ⟨rfl, hI.full hlen (by omega) (by omega)⟩, hB.setCell (p := ⟨V.heap.size + 2, 0, none⟩) (by show _ ≤ V.heap.size + 2; omega) _⟩
        · have hq : (y.toList == z.toList) = false := str_ne hyz
          have hyn : y ≠ ys.getD pre.length ByteArray.empty := by rw [hz.out]; exact hyz
          have HYN : Hid (y ≠ ys.getD pre.length ByteArray.empty) := hyn
          clear hyz hyn
          gi_wp2
          exact ⟨KeepsOthers.setCell _ _ _, ⟨rfl, hI.bad hlen HYN.out⟩, hB.setCell (p := ⟨V.heap.size + 3, 0, none⟩) (by show _ ≤ V.heap.size + 3; omega) _⟩
      · rintro D zs W hD hS ⟨hI, hB⟩ hK
        have hzl : zs.length = ys.length := by have := congrArg List.length hS; rw [← hR.ysum, List.length_map, List.length_map] at this; exact this
        have hBc : W.cell? ⟨V.heap.size + 1, 0, none⟩ = some (.int .i64 ys.length) := by rw [hI.cB, rounds_all (fun h => by have := hI.more h; omega)]
        have hC : W.cell? ⟨V.heap.size + 1 + 1, 0, none⟩ = some (.int .i64 ys.length) := by rw [← hzl]; exact hI.cC
        have hDc : W.cell? ⟨V.heap.size + 1 + 1 + 1, 0, none⟩ = some (.bool true) := hI.cD
        rw [start_size] at hD
        clear hS hzl hI
        gi_wp2
        go_wp2
        refine ⟨by simp, .inl ⟨_, _, rfl, run_takeDeferred hK, ?_⟩⟩
        exact ⟨_, results_tmp rfl _ _ _, rfl, hB.trans (belowK_b (w := w) (Nat.le_refl _) W D _ _ (by omega) hK rfl rfl)⟩
      · rintro D cc pre W hD hS ⟨⟨rfl, hX⟩, hB⟩ hK
        have hS' : pre.map bl <+: ys.map bl := by rw [hR.ysum]; exact hS
        obtain ⟨N0, hN0⟩ : ∃ N0, rounds st ys.length = N0 := ⟨_, rfl⟩
        have hBc : W.cell? ⟨V.heap.size + 1, 0, none⟩ = some (.int .i64 N0) := by rw [← hN0]; exact hX.cB
        have hC : W.cell? ⟨V.heap.size + 1 + 1, 0, none⟩ = some (.int .i64 N0) := by rw [← hN0]; exact hX.cC hS'
        have hDc : W.cell? ⟨V.heap.size + 1 + 1 + 1, 0, none⟩ = some (.bool true) := hX.cD hS'
        rw [start_size] at hD
        clear hS hS' hX hN0
        gi_wp2
        go_wp2
        refine ⟨by simp, .inl ⟨_, _, rfl, run_takeDeferred hK, ?_⟩⟩
        exact ⟨_, results_tmp rfl _ _ _, rfl, hB.trans (belowK_b (w := w) (Nat.le_refl _) W D _ _ (by omega) hK rfl rfl)⟩

set_option maxRecDepth 100000 in
set_option maxHeartbeats 4000000 in
theorem main_other (a : Option Addr) (n c : Nat) (p : ByteArray) (st : Int) (w : World) (he : p.toList.isEmpty = false) (he2 : (p.toList == [116, 97, 108, 108, 121, 99, 108, 111, 99, 107, 61]) = false)
    (h11 : ∀ W, Below w.heap.size w W → Calls Try.prog 11 #[.slice a n c, .string p, .int .i64 st] W fun e w' => SomeBool e ∧ w' = W) :
    Calls Try.prog 4 #[.slice a n c, .string p, .int .i64 st] w (Fine w) := by
  have hB1 : Below w.heap.size w (w.alloc (.cells #[.int .i64 st] 3)) := (Below.refl _ _).alloc (Nat.le_refl _) _
  have h := h11 _ hB1
  clear h11
  refine (callsIn_wide (n := 9)).1 ?_
  refine callsIn_of_wp_marks Try.func4 rfl trivial ?_ rfl
  simp only [Try.ntmps4, List.size_toArray, List.length_cons, List.length_nil, Nat.reduceAdd, Nat.reduceSub, Array.replicate_succ, Array.replicate_zero, List.push_toArray, List.append_toArray, List.nil_append, List.cons_append]
  refine wpIn_wide.2 ?_
  go_wp2_with (fail)
  refine h.mono ?_
  rintro e w1 ⟨⟨bb, rfl⟩, rfl⟩
  cases bb
  · go_wp2
    exact ⟨_, results_tmp rfl _ _ _, rfl, hB1⟩
  · go_wp2
    exact ⟨_, results_tmp rfl _ _ _, rfl, hB1⟩
end Go.Proofs.Qxb6003347a
