import Derived.Test.Qxb6600069aEnd
namespace Go.Proofs.Qxb6600069a
open Go.RowKit Go.WideShapes

theorem Try.info5 : (Try.prog.info? 5).map (fun i => (i.zero, i.size, i.bytes)) = some (some (.int .u8 0), 1, 1) := by kernel_rfl

theorem vint {k : IntKind} {a b : Int} (h : a = b) : Value.int k a = .int k b := by rw [h]

def rowL (f : Nat → Nat) (k : Nat) : List Value := (List.range k).map fun i => Value.int .u8 (f i : Int)
theorem rowL_succ (f : Nat → Nat) (k : Nat) : rowL f (k + 1) = rowL f k ++ [.int .u8 (f k : Int)] := by unfold rowL; rw [List.range_succ]; simp

/-- k bytes of the copy have been laid. -/
structure Jn (w wr : World) (N k : Nat) (f : Nat → Nat) : Prop where
  own : wr.ownsRow w.heap.size 5 1 (.slice (some ⟨w.heap.size, 0, none⟩) k N) k (rowL f k)
  bel : Below w.heap.size w wr

theorem Jn.step {w wr w1 : World} {N k : Nat} {f : Nat → Nat} {o : Obj} (h : Jn w wr N k f) (hown : w1.ownsRow w.heap.size 5 1 (.slice (some ⟨w.heap.size, 0, none⟩) (k + 1) N) (k + 1) (rowL f k ++ [.int .u8 (f k : Int)])) (hg : (wr.alloc o).grownBy w1 (some w.heap.size)) : Jn w w1 N (k + 1) f where
  own := by rw [rowL_succ]; exact hown
  bel := (h.bel.alloc h.bel.size o).grown hg (by have := h.bel.size; simp; omega) (fun j e => by cases e; exact Nat.le_refl _)

theorem Jn.row {w wr : World} {N k : Nat} {f : Nat → Nat} (h : Jn w wr N k f) : Row wr w.heap.size 0 k f := by
  intro i hi
  rw [Nat.zero_add, h.own.cellAt i (by omega)]
  unfold rowL
  rw [List.getElem?_map, List.getElem?_range hi]
  rfl

set_option maxHeartbeats 2000000 in
theorem append16 (w w1 : World) (b off n c : Nat) (f : Nat → Nat) (hn : n ≤ 1048576) (hb : b < w.heap.size) (hr : Row w b off n f) (hj0 : Jn w w1 n 0 f) :
    Calls Try.prog 16 #[.slice (some ⟨w.heap.size, 0, none⟩) 0 n, .slice (some ⟨b, off, none⟩) n c] w1 fun e w' => e = .returned (.slice (some ⟨w.heap.size, 0, none⟩) n n) ∧ Jn w w' n n f := by
  obtain ⟨i0, hi, hz0, hz1, hz2⟩ := info_parts Try.info5
  go_enter Try.func16, Try.ntmps16
  go_wp2
  go_loopw [0, 5] (fun v7 v8 wr => ∃ k : Nat, v8 = .int .i64 k ∧ k ≤ n ∧ v7 = .slice (some ⟨w.heap.size, 0, none⟩) k n ∧ Jn w wr n k f) (fun _ v8 _ => n - (intOf v8).toNat)
  case atStart => exact ⟨0, rfl, by omega, rfl, hj0⟩
  case round =>
    obtain ⟨k, rfl, hk, rfl, hj⟩ := hrel
    clear hj0
    by_cases hlt : k < n
    · have hck : wr.cell? ⟨b, off + k, none⟩ = some (.int .u8 (f k : Int)) := (hj.bel.cell (p := ⟨b, off + k, none⟩) hb).trans (hr k hlt)
      have hroom : k + 1 ≤ n := by omega
      clear hr
      go_wp2_with (at_builtin; refine wpList_append_fits _ rfl _ _ 22 rfl w.heap.size 5 i0 1 Try.underlying22 hi hz1 w.heap.size k n _ rfl (hj.own.alloc _) ⟨wr.heap.size, 0, none⟩ 1 1 [.int .u8 (f k : Int)] rfl rfl (cell_one_new _ _ _) (by simp [Value.oneCell']) hroom ?_; intro w2 hown hg; have hj2 := hj.step hown hg; clear hown hg)
      go_roundw
      case rel => exact ⟨k + 1, by go_num, by omega, rfl, hj2⟩
      case measure => simp [intOf]; omega
    · have HK : Hid (k = n) := (by omega : k = n)
      have HJ : Hid (Jn w wr n k f) := hj
      clear hj
      go_wp2
      go_ret
      have := HJ.out
      rw [HK.out] at this
      exact ⟨by rw [HK.out]; rfl, this⟩

set_option maxHeartbeats 2000000 in
theorem clone14 (w : World) (b off n c : Nat) (f : Nat → Nat) (hn : n ≤ 1048576) (hb : b < w.heap.size) (hr : Row w b off n f) :
    Calls Try.prog 14 #[.slice (some ⟨b, off, none⟩) n c] w fun e w' => e = .returned (.slice (some ⟨w.heap.size, 0, none⟩) n n) ∧ Jn w w' n n f := by
  obtain ⟨i0, hi, hz0, hz1, hz2⟩ := info_parts Try.info5
  have q22 : ∀ (w : World) (a : Option Addr) (n c : Nat), (binOp .eql 22 (.slice a n c) (.slice none 0 0)).run Try.prog w = .ok (.bool a.isNone) w := fun w a n c => by
    simp only [binOp]; simp [run_equal_slice_nil w 22 5 a n c Try.underlying22]
  go_enter Try.func14, Try.ntmps14
  go_wp2_with (first
    | (at_make; refine wpList_make_own _ rfl _ _ 22 rfl w.heap.size 5 i0 (.int .u8 0) 1 Try.underlying22 hi hz0 hz1 .i64 .i64 _ n rfl rfl (by omega) (by rw [hz2]; omega) (by unfold maxLen; omega) (Nat.le_refl _) ?_; intro w1 hown hg; have hj0 : Jn w w1 n 0 f := ⟨hown, (Below.refl _ _).grown hg (Nat.le_refl _) (fun k h => by cases h)⟩; clear hown hg)
    | (go_at_call 16; refine (append16 w _ b off n c f hn hb hr hj0).mono ?_; rintro e w' ⟨rfl, hj⟩))
  go_ret
  exact ⟨rfl, hj⟩

theorem zzv17 (a : Option Addr) (n c : Nat) (s : Nat) (dl : Bool) (w : World) (h : Calls Try.prog 30 #[.slice a n c, .int .i64 s] w (Ve n s dl w)) : Calls Try.prog 17 #[.slice a n c, .int .i64 s] w (Ve n s dl w) := by
  go_enter Try.func17, Try.ntmps17
  go_wp2_with (go_at_call 30; refine h.mono ?_; rintro e w' ⟨r, rfl, h1, h2, h3, rfl⟩; have H3 : Hid (decide (r = s) = dl) := h3; clear h3)
  go_ret
  exact ⟨r, rfl, h1, h2, H3.out, rfl⟩

theorem zz20 (a : Option Addr) (n c : Nat) (st : Int) (w : World) (hn : n ≤ maxLen) :
    Calls Try.prog 20 #[.slice a n c, .int .i64 st] w fun e w' => e = .returned (.bool (decide (n ≤ 1048576))) ∧ w' = w := by
  unfold maxLen at hn
  by_cases h : 1048576 < n
  · go_enter Try.func20, Try.ntmps20
    go_wp2
    go_ret
    exact ⟨ret_bool (decide_eq_false (by omega)).symm, rfl⟩
  · go_enter Try.func20, Try.ntmps20
    go_wp2
    go_ret
    exact ⟨ret_bool (decide_eq_true (by omega)).symm, rfl⟩

/-- Where the bounds do not hold. -/
theorem early (a : Option Addr) (n c : Nat) (st : Int) (w : World) (hn : n ≤ maxLen) (h : 1048576 < n ∨ st < 0 ∨ (n : Int) ≤ st) :
    Calls Try.prog 5 #[.slice a n c, .int .i64 st] w fun e w' => e = .returned (.bool true) ∧ Below w.heap.size w w' := by
  have hz := zz20 a n c st w hn
  unfold maxLen at hn
  by_cases h0 : n ≤ 1048576
  · rw [decide_eq_true h0] at hz
    by_cases h2 : st < 0
    · clear h
      go_enter Try.func5, Try.ntmps5
      go_wp2_with (go_at_call 20; refine hz.mono ?_; rintro e w ⟨rfl, rfl⟩)
      go_ret
      exact ⟨rfl, Below.refl _ _⟩
    · have h3 : (n : Int) ≤ st := by omega
      clear h
      go_enter Try.func5, Try.ntmps5
      go_wp2_with (go_at_call 20; refine hz.mono ?_; rintro e w ⟨rfl, rfl⟩)
      go_ret
      exact ⟨rfl, Below.refl _ _⟩
  · rw [decide_eq_false h0] at hz
    clear h
    go_enter Try.func5, Try.ntmps5
    go_wp2_with (go_at_call 20; refine hz.mono ?_; rintro e w ⟨rfl, rfl⟩)
    go_ret
    exact ⟨rfl, Below.refl _ _⟩

theorem val30 (b off n c s : Nat) (d : Nat → Nat) (w : World) (hn : n ≤ 1048576) (hs : s < n) (hd : ∀ i, i < n → d i < 256) (hr : Row w b off n d) :
    Calls Try.prog 30 #[.slice (some ⟨b, off, none⟩) n c, .int .i64 s] w (Ve n s (isDelim (d s)) w) := by
  by_cases h1 : d s = 34
  · exact val30_str b off n c s d w hn hs hr h1
  · by_cases h2 : d s = 123 ∨ d s = 91
    · exact val30_brk b off n c s d w hn hs hr h2
    · exact val30_atom b off n c s d w hn hs hd hr h1 (by omega) (by omega)

theorem main (b off n c s : Nat) (d : Nat → Nat) (w : World) (hn : n ≤ 1048576) (hs : s < n) (hd : ∀ i, i < n → d i < 256) (hb : b < w.heap.size) (hr : Row w b off n d) :
    Calls Try.prog 5 #[.slice (some ⟨b, off, none⟩) n c, .int .i64 s] w fun e w' => e = .returned (.bool true) ∧ Below w.heap.size w w' := by
  have hz := zz20 (some ⟨b, off, none⟩) n c s w (by unfold maxLen; omega)
  rw [decide_eq_true hn] at hz
  have hcl := clone14 w b off n c d hn hb hr
  clear hr
  go_enter Try.func5, Try.ntmps5
  go_wp2_with (fail)
  refine hz.mono ?_
  rintro e w ⟨rfl, rfl⟩
  go_wp2_with (fail)
  refine hcl.mono ?_
  rintro e w1 ⟨rfl, hj⟩
  clear hcl hz
  have hr1 := hj.row
  go_wp2_with (fail)
  refine (zzv17 _ _ _ _ _ _ (val30 _ _ _ _ _ d _ hn hs hd hr1)).mono ?_
  rintro e w1 ⟨r, rfl, h1, h2, h3, rfl⟩
  have hcs : w1.cell? ⟨w.heap.size, s, none⟩ = some (.int .u8 (d s : Int)) := by have := hr1 s hs; rwa [Nat.zero_add] at this
  have h4 : ((r : Int) == (s : Int)) = isDelim (d s) := by
    rw [← h3]
    by_cases e : r = s
    · rw [decide_eq_true e, e]; simp
    · rw [decide_eq_false e]; simp; omega
  clear h3
  go_wp2_with (go_at_call 13; refine (delim13 _ _).mono ?_; rintro e w' ⟨rfl, rfl⟩)
  go_ret
  exact ⟨ret_bool (by simp), hj.bel⟩
end Go.Proofs.Qxb6600069a
