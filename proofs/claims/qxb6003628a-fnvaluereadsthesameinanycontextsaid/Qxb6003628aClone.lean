import Derived.Test.Qxb6003628aStr
namespace Go.Proofs.Qxb6003628a
open Go.RowKit Go.WideShapes

theorem str18 (b off n c s : Nat) (d : Nat → Nat) (w : World) (hn : n ≤ c) (hc : c ≤ 4611686018427387904) (hs : s < n) (hq : d s = 34) (hd : ∀ i, i < n → d i < 256) (hr : Row w b off n d) :
    Calls Try.prog 18 #[.slice (some ⟨b, off, none⟩) n c, .int .i64 s] w fun e w' => e = .returned (.int .i64 (Plain.strEnd n d s)) ∧ w' = w := by
  have h := str25 b off n c s d w hn hc hs hq hd hr
  clear hr hd hq
  go_enter Try.func18, Try.ntmps18
  go_wp2_with (go_at_call 25; refine h.mono ?_; rintro e w ⟨rfl, rfl⟩)
  go_ret
  exact ⟨rfl, rfl⟩

set_option maxHeartbeats 1000000 in
theorem esc23 (b off n c s : Nat) (d : Nat → Nat) (w : World) (hn : n ≤ 4611686018427387904) (hs : s < n) (hr : Row w b off n d) :
    Calls Try.prog 23 #[.slice (some ⟨b, off, none⟩) n c, .int .i64 s] w fun e w' => e = .returned (.int .i64 (Plain.strEnd n d s)) ∧ w' = w := by
  go_enter Try.func23, Try.ntmps23
  go_wp2
  go_loop [5] (fun v => ∃ i : Nat, v = .int .i64 i ∧ s < i ∧ i ≤ n + 1 ∧ (i ≤ n → Plain.esc n d i = Plain.strEnd n d s) ∧ (i = n + 1 → n = Plain.strEnd n d s)) (fun v => n + 1 - (intOf v).toNat)
  case atStart => exact ⟨s + 1, by go_num, by omega, by omega, fun _ => rfl, fun h => by omega⟩
  case round =>
    obtain ⟨i, rfl, hsi, hin, h1, h2⟩ := hrel
    have H1 : Hid (i ≤ n → Plain.esc n d i = Plain.strEnd n d s) := h1
    have H2 : Hid (i = n + 1 → n = Plain.strEnd n d s) := h2
    clear h1 h2
    by_cases hlt : i < n
    · have hci := hr i hlt
      by_cases hb : d i = 92
      · have hb' : ((d i : Int) == 92) = true := by simp; omega
        have H1' : Hid (i + 2 ≤ n → Plain.esc n d (i + 2) = Plain.strEnd n d s) := fun h => by rw [← H1.out (by omega)]; exact (Plain.esc_bs n d i (by omega) hb).symm
        have H2' : Hid (i + 2 = n + 1 → n = Plain.strEnd n d s) := fun h => by rw [← H1.out (by omega)]; exact (Plain.esc_bs_end n d i (by omega) hb).symm
        clear hb H1 H2
        go_wp2
        go_round
        case rel => exact ⟨i + 2, by go_num, by omega, by omega, H1'.out, H2'.out⟩
        case measure => simp [intOf]; omega
      · have hb' : ((d i : Int) == 92) = false := by simp; omega
        by_cases hq : d i = 34
        · have hq' : ((d i : Int) == 34) = true := by simp; omega
          have H3 : Hid (Plain.strEnd n d s = i + 1) := by show _ = _; rw [← H1.out (by omega)]; exact Plain.esc_quote n d i hlt hq
          clear hb hq H1 H2
          go_wp2
          go_ret
          exact ⟨ret_int (by have := H3.out; omega), rfl⟩
        · have hq' : ((d i : Int) == 34) = false := by simp; omega
          have H1' : Hid (Plain.esc n d (i + 1) = Plain.strEnd n d s) := by show _ = _; rw [← H1.out (by omega)]; exact (Plain.esc_other n d i hlt hb hq).symm
          clear hb hq H1 H2
          go_wp2
          go_round
          case rel => exact ⟨i + 1, by go_num, by omega, by omega, fun _ => H1'.out, fun h => by omega⟩
          case measure => simp [intOf]; omega
    · have H3 : Hid (n = Plain.strEnd n d s) := by
        by_cases h : i = n
        · show _ = _; rw [← H1.out (by omega), h]; exact (Plain.esc_end _ _ _ rfl).symm
        · exact H2.out (by omega)
      clear H1 H2
      go_wp2
      go_ret
      exact ⟨ret_int (by have := H3.out; omega), rfl⟩

theorem Try.info5 : (Try.prog.info? 5).map (fun i => (i.zero, i.size, i.bytes)) = some (some (.int .u8 0), 1, 1) := by kernel_rfl

/-- The bytes at whatever address. -/
def RowAt (w : World) (x : Addr) (n : Nat) (d : Nat → Nat) : Prop := ∀ i, i < n → w.cell? (x.add i) = some (.int .u8 (d i : Int))
theorem RowAt.plain {w : World} {x : Addr} {n : Nat} {d : Nat → Nat} (h : RowAt w x n d) (h0 : 0 < n) : ∃ b off, x = ⟨b, off, none⟩ ∧ Row w b off n d := by
  obtain ⟨b, off, spot⟩ := x
  have hs : spot = none := by simpa [Addr.add] using World.cell?_spot (h 0 h0)
  subst hs
  exact ⟨b, off, rfl, fun i hi => by rw [← add_plain]; exact h i hi⟩
theorem Row.at {w : World} {b off n : Nat} {d : Nat → Nat} (h : Row w b off n d) : RowAt w ⟨b, off, none⟩ n d := fun i hi => by rw [add_plain]; exact h i hi
theorem Row.below {w w' : World} {b off n : Nat} {d : Nat → Nat} (h : Row w b off n d) (hb : Below w.heap.size w w') : Row w' b off n d := fun i hi => by
  rw [hb.cell (World.block_lt_of_cell? _ _ (h i hi))]; exact h i hi
theorem RowAt.below {w w' : World} {x : Addr} {n : Nat} {d : Nat → Nat} (h : RowAt w x n d) (hb : Below w.heap.size w w') : RowAt w' x n d := fun i hi => by
  rw [hb.cell (World.block_lt_of_cell? _ _ (h i hi))]; exact h i hi

/-- The copy, k bytes of it done. -/
structure Cl (w wr : World) (g n k : Nat) (d : Nat → Nat) : Prop where
  done : ∀ j, j < k → wr.cell? ⟨g, j, none⟩ = some (.int .u8 (d j : Int))
  rest : ∀ j, k ≤ j → j < n → wr.cell? ⟨g, j, none⟩ = some (.int .u8 0)
  frz : ∀ j, wr.frozen? ⟨g, j, none⟩ = false
  bel : Below w.heap.size w wr
  lt : w.heap.size < wr.heap.size

theorem Cl.made {w w1 : World} {n : Nat} (d : Nat → Nat) (hown : w1.ownsRow w.heap.size 5 1 (.slice (some ⟨w.heap.size, 0, none⟩) n n) n (madeCells (Value.int .u8 0).cells (n * 1)).toList) (hg : w.grownBy w1 none) : Cl w w1 w.heap.size n 0 d where
  done := fun j hj => by omega
  rest := fun j _ hj => by
    rw [hown.cellAt j (by omega)]
    show (madeCells #[Value.int .u8 0] (n * 1)).toList[j]? = _
    rw [toList_madeCells_one, List.getElem?_replicate, if_pos (by omega)]
  frz := fun j => hown.frozenAt j
  bel := (Below.refl _ _).grown hg (Nat.le_refl _) (fun k h => by cases h)
  lt := by
    rcases hown.2 with ⟨h', _⟩ | ⟨g, cap, cur, h', _, hh, _⟩
    · simp at h'
    · simp only [Value.slice.injEq, Option.some.injEq, Addr.mk.injEq, and_true, true_and] at h'
      obtain ⟨rfl, _⟩ := h'
      exact (Array.getElem?_eq_some_iff.1 hh).1

theorem Cl.step {w wr : World} {g n k : Nat} {d : Nat → Nat} (h : Cl w wr g n k d) (hk : k < n) (hg : w.heap.size ≤ g) : Cl w (wr.setCell ⟨g, k, none⟩ (.int .u8 (d k : Int))) g n (k + 1) d where
  done := fun j hj => by
    by_cases e : j = k
    · subst e; exact World.cell?_setCell_same' _ _ _ (by rw [h.rest j (Nat.le_refl _) hk]; rfl)
    · rw [World.cell?_setCell_other _ _ _ _ (fun e' => e (by simpa using e'.symm))]
      exact h.done j (by omega)
  rest := fun j a b => by
    rw [World.cell?_setCell_other _ _ _ _ (fun e' => by simp at e' <;> omega)]
    exact h.rest j (by omega) b
  frz := fun j => by rw [World.frozen?_setCell]; exact h.frz j
  bel := h.bel.setCell (p := ⟨g, k, none⟩) hg _
  lt := by simpa [World.setCell] using h.lt

set_option maxHeartbeats 1000000 in
theorem clone10_some (x : Addr) (n c : Nat) (d : Nat → Nat) (w : World) (hn : n ≤ 1048576) (hr : RowAt w x n d) :
    Calls Try.prog 10 #[.slice (some x) n c] w fun e w' => e = .returned (.slice (some ⟨w.heap.size, 0, none⟩) n n) ∧ Row w' w.heap.size 0 n d ∧ Below w.heap.size w w' ∧ w.heap.size < w'.heap.size := by
  obtain ⟨i0, hi, hz0, hz1, hz2⟩ := info_parts Try.info5
  have q22 : ∀ (w : World) (a : Option Addr) (n c : Nat), (binOp .eql 22 (.slice a n c) (.slice none 0 0)).run Try.prog w = .ok (.bool a.isNone) w := fun w a n c => by
    simp only [binOp]; simp [run_equal_slice_nil w 22 5 a n c Try.underlying22]
  go_enter Try.func10, Try.ntmps10
  go_wp2_with (at_make; refine wpList_make_full _ rfl _ _ 22 rfl w.heap.size 5 i0 (.int .u8 0) 1 Try.underlying22 hi hz0 hz1 .i64 .i64 _ _ n rfl rfl rfl rfl (by rw [hz2]; omega) (by unfold maxLen; omega) (Nat.le_refl _) ?_; intro w1 hown hg; have hcl := Cl.made d hown hg; clear hown hg)
  go_loopw [4] (fun v wr => ∃ k : Nat, v = .int .i64 k ∧ k ≤ n ∧ Cl w wr w.heap.size n k d) (fun v _ => n - (intOf v).toNat)
  case atStart => exact ⟨0, rfl, by omega, hcl⟩
  case round =>
    obtain ⟨k, rfl, hk, h⟩ := hrel
    clear hcl
    by_cases hlt : k < n
    · obtain ⟨b, off, rfl, hr'⟩ := hr.plain (by omega)
      have hc1 : wr.cell? ⟨b, off + k, none⟩ = some (.int .u8 (d k : Int)) := (h.bel.cell (p := ⟨b, off + k, none⟩) (World.block_lt_of_cell? _ _ (hr' k hlt))).trans (hr' k hlt)
      have hc2 := h.rest k (Nat.le_refl _) hlt
      have hf := h.frz k
      have HS : Hid (Cl w (wr.setCell ⟨w.heap.size, k, none⟩ (.int .u8 (d k : Int))) w.heap.size n (k + 1) d) := h.step hlt (Nat.le_refl _)
      clear h hr hr'
      go_wp2
      go_roundw
      case rel => exact ⟨k + 1, by go_num, by omega, HS.out⟩
      case measure => simp [intOf]; omega
    · clear hr
      go_wp2
      go_ret
      refine ⟨rfl, fun i hi => ?_, h.bel, h.lt⟩
      rw [Nat.zero_add]
      exact h.done i (by omega)

set_option maxHeartbeats 1000000 in
theorem clone10_nil (w : World) : Calls Try.prog 10 #[.slice none 0 0] w fun e w' => e = .returned (.slice none 0 0) ∧ w' = w := by
  have q22 : ∀ (w : World) (a : Option Addr) (n c : Nat), (binOp .eql 22 (.slice a n c) (.slice none 0 0)).run Try.prog w = .ok (.bool a.isNone) w := fun w a n c => by
    simp only [binOp]; simp [run_equal_slice_nil w 22 5 a n c Try.underlying22]
  go_enter Try.func10, Try.ntmps10
  go_wp2
  go_ret
  exact ⟨rfl, rfl⟩
end Go.Proofs.Qxb6003628a
