import Derived.Test.Qxb6001480aRows
import Derived.WalkKit
import Derived.ProofKit
import Derived.WalkMore
import Derived.Outline
import Derived.Laws.Runes
import Derived.Laws.RangeAny
import Derived.Laws.Externs
import Derived.RegionTactic
import Derived.Deep.QuietTactic
import Derived.BigQuiet
namespace Go.Proofs.Qxb6001480a
open Go.RowKit

/-- " \t\n\r" -/
def spc : ByteArray := ⟨#[32, 9, 10, 13]⟩

theorem ret_bool {a b : Bool} (h : a = b) : Ending.returned (.bool a) = .returned (.bool b) := by rw [h]
theorem ret_int {k : IntKind} {a b : Int} (h : a = b) : Ending.returned (.int k a) = .returned (.int k b) := by rw [h]

theorem validRune_any (r : Int) (w : World) : Calls Try.prog 12 #[.int .i32 r] w fun e w' => e = .returned (.bool (Go.validRune r)) ∧ w' = w := by
  go_enter Try.func12, Try.ntmps12
  go_wp2
  all_goals go_ret
  all_goals first | exact ⟨ret_bool (a := true) (decide_eq_true (by omega)).symm, rfl⟩ | exact ⟨ret_bool (a := false) (decide_eq_false (by omega)).symm, rfl⟩

theorem indexByte_any (s : ByteArray) (c : Int) (w : World) : Calls Try.prog 11 #[.string s, .int .u8 c] w fun e w' => e = .returned (.int .i64 (firstIdx s c.toNat.toUInt8)) ∧ w' = w := by
  go_enter Try.func11, Try.ntmps11
  go_wp2
  rw [run_callFunc_extern Try.func16 (by kernel_rfl) (by kernel_rfl) (by kernel_rfl) (e := Extern.BytealgIndexByte.indexByte) (by kernel_rfl), run_indexByte_string]
  simp only [Result.andThen]
  rw [Oper.upon_value]
  go_wp2
  go_ret
  exact ⟨rfl, rfl⟩

theorem spc_ascii : ∀ b ∈ spc.data.toList, b.toNat < 128 := by decide

theorem indexByte_none (s : ByteArray) (b : UInt8) (h : firstIdx s b = -1) (w : World) : Calls Try.prog 11 #[.string s, .int .u8 b.toNat] w fun e w' => e = .returned (.int .i64 (-1)) ∧ w' = w :=
  (indexByte_any s b.toNat w).mono fun _ _ hh => ⟨hh.1.trans (ret_int (by rw [← h]; congr 1; simp)), hh.2⟩

theorem below_drewN (w : World) (n B : Nat) : Below B w (w.drewN n) := ⟨rfl, rfl, rfl, Nat.le_refl _, fun _ _ => rfl⟩

set_option maxRecDepth 1000000 in
set_option maxHeartbeats 1000000 in
theorem idx_high2 (r : Int) (w : World) (t : ByteArray) (ht : Utf8.encode r = t) (hn : t.size = 2) (hl : 128 ≤ (t[1]'(by omega)).toNat) (h : 128 ≤ r) (h1 : r ≤ 2147483647) (h2 : r ≠ 65533) :
    Calls Try.prog 10 #[.string spc, .int .i32 r] w fun e w' => e = .returned (.int .i64 (-1)) ∧ Below w.heap.size w w' := by
  have hb : decide (r < 128) = false := by simp; omega
  have h3 : (r == 65533) = false := by simpa using h2
  have hs : spc.size = 4 := rfl
  have hsb : (spc[1]'(by omega)).toNat < 128 := spc_ascii _ (by show spc.data[1] ∈ _; exact Array.getElem_mem_toList _)
  have hne : (((spc[1]'(by omega)).toNat : Int) != ((t[1]'(by omega)).toNat : Int)) = true := by simp; omega
  have hi : Hid (firstIdx (spc.extract 2 4) (t[1]'(by omega)) = -1) := firstIdx_ascii spc 2 4 _ spc_ascii hl
  have hw2 : IntKind.i64.wrap (1 + 1) = 2 := by decide
  have hw3 : IntKind.i64.wrap 2 = 2 := by decide
  go_enter Try.func10, Try.ntmps10
  go_wp2_with (go_at_call 12; refine (validRune_any _ _).mono ?_; rintro e w' ⟨rfl, rfl⟩)
  · go_ret
    exact ⟨rfl, Below.refl _ _⟩
  · go_step3
    go_wp2
    refine wp_loop_rounds 1 ?_
    rw [rounds_succ]
    go_wp2
    go_step3
    go_wp2
    go_quiet (fail)
    go_wp2
    go_quiet ((go_at_call 11; exact (indexByte_none _ _ hi.out _).mono fun _ _ hh => ⟨hh.1, _, hh.2⟩))
    go_wp2
    rw [Exit.noGoto_ret]
    go_wp2
    rw [Exit.noGoto_ret]
    go_wp2
    go_ret
    exact ⟨rfl, below_drewN _ _ _⟩

set_option maxRecDepth 1000000 in
set_option maxHeartbeats 1000000 in
theorem idx_high3 (r : Int) (w : World) (t : ByteArray) (ht : Utf8.encode r = t) (hn : t.size = 3) (hl : 128 ≤ (t[2]'(by omega)).toNat) (h : 128 ≤ r) (h1 : r ≤ 2147483647) (h2 : r ≠ 65533) :
    Calls Try.prog 10 #[.string spc, .int .i32 r] w fun e w' => e = .returned (.int .i64 (-1)) ∧ Below w.heap.size w w' := by
  have hb : decide (r < 128) = false := by simp; omega
  have h3 : (r == 65533) = false := by simpa using h2
  have hs : spc.size = 4 := rfl
  have hsb : (spc[2]'(by omega)).toNat < 128 := spc_ascii _ (by show spc.data[2] ∈ _; exact Array.getElem_mem_toList _)
  have hne : (((spc[2]'(by omega)).toNat : Int) != ((t[2]'(by omega)).toNat : Int)) = true := by simp; omega
  have hi : Hid (firstIdx (spc.extract 3 4) (t[2]'(by omega)) = -1) := firstIdx_ascii spc 3 4 _ spc_ascii hl
  have hw2 : IntKind.i64.wrap (2 + 1) = 3 := by decide
  have hw3 : IntKind.i64.wrap 3 = 3 := by decide
  go_enter Try.func10, Try.ntmps10
  go_wp2_with (go_at_call 12; refine (validRune_any _ _).mono ?_; rintro e w' ⟨rfl, rfl⟩)
  · go_ret
    exact ⟨rfl, Below.refl _ _⟩
  · go_step3
    go_wp2
    refine wp_loop_rounds 1 ?_
    rw [rounds_succ]
    go_wp2
    go_step3
    go_wp2
    go_quiet (fail)
    go_wp2
    go_quiet ((go_at_call 11; exact (indexByte_none _ _ hi.out _).mono fun _ _ hh => ⟨hh.1, _, hh.2⟩))
    go_wp2
    rw [Exit.noGoto_ret]
    go_wp2
    rw [Exit.noGoto_ret]
    go_wp2
    go_ret
    exact ⟨rfl, below_drewN _ _ _⟩

set_option maxRecDepth 1000000 in
set_option maxHeartbeats 1000000 in
theorem idx_high4 (r : Int) (w : World) (t : ByteArray) (ht : Utf8.encode r = t) (hn : t.size = 4) (hl : 128 ≤ (t[3]'(by omega)).toNat) (h : 128 ≤ r) (h1 : r ≤ 2147483647) (h2 : r ≠ 65533) :
    Calls Try.prog 10 #[.string spc, .int .i32 r] w fun e w' => e = .returned (.int .i64 (-1)) ∧ Below w.heap.size w w' := by
  have hb : decide (r < 128) = false := by simp; omega
  have h3 : (r == 65533) = false := by simpa using h2
  have hs : spc.size = 4 := rfl
  have hsb : (spc[3]'(by omega)).toNat < 128 := spc_ascii _ (by show spc.data[3] ∈ _; exact Array.getElem_mem_toList _)
  have hne : (((spc[3]'(by omega)).toNat : Int) != ((t[3]'(by omega)).toNat : Int)) = true := by simp; omega
  have hi : Hid (firstIdx (spc.extract 4 4) (t[3]'(by omega)) = -1) := firstIdx_ascii spc 4 4 _ spc_ascii hl
  have hw2 : IntKind.i64.wrap (3 + 1) = 4 := by decide
  have hw3 : IntKind.i64.wrap 4 = 4 := by decide
  go_enter Try.func10, Try.ntmps10
  go_wp2_with (go_at_call 12; refine (validRune_any _ _).mono ?_; rintro e w' ⟨rfl, rfl⟩)
  · go_ret
    exact ⟨rfl, Below.refl _ _⟩
  · go_step3
    go_wp2
    refine wp_loop_rounds 1 ?_
    rw [rounds_succ]
    go_wp2
    go_step3
    go_wp2
    go_quiet (fail)
    go_wp2
    go_quiet ((go_at_call 11; exact (indexByte_none _ _ hi.out _).mono fun _ _ hh => ⟨hh.1, _, hh.2⟩))
    go_wp2
    rw [Exit.noGoto_ret]
    go_wp2
    rw [Exit.noGoto_ret]
    go_wp2
    go_ret
    exact ⟨rfl, below_drewN _ _ _⟩

end Go.Proofs.Qxb6001480a
