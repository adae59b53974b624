import Derived.Test.Qxb6001480aWalkA
import Derived.Test.Qxb6001480aPlain
import Derived.Laws.RangeString
import Derived.LoopTactic
namespace Go.Proofs.Qxb6001480a
open Go.RowKit

theorem below_iter (w : World) (s : ByteArray) (pos : Nat) : Below w.heap.size w (w.iter s pos) := (Below.refl _ _).alloc (Nat.le_refl _) _

set_option maxRecDepth 1000000 in
set_option maxHeartbeats 1000000 in
theorem idx_err (w : World) :
    Calls Try.prog 10 #[.string spc, .int .i32 65533] w fun e w' => e = .returned (.int .i64 (-1)) ∧ Below w.heap.size w w' := by
  have hs : spc.size = 4 := rfl
  go_enter Try.func10, Try.ntmps10
  go_wp2
  go_loopw [4] (fun v w' => ∃ pos : Nat, w' = w.iter spc pos ∧ v = .int .i64 0) (fun _ w' => spc.size - w'.iterPos w.heap.size)
  case atStart => exact ⟨0, rfl, rfl⟩
  case round =>
    obtain ⟨pos, rfl, rfl⟩ := hrel
    by_cases hp : pos < spc.size
    · have ha : (spc[pos]'hp).toNat < 128 := spc_ascii _ (by show spc.data[pos] ∈ _; exact Array.getElem_mem_toList _)
      have hnx : ∀ ty, (Instr.next (.pointer (some ⟨w.heap.size, 0, none⟩)) true ty).run Try.prog (w.iter spc pos) = _ := fun ty => run_next_ascii w spc pos ty hp ha
      have hne : (((spc[pos]'hp).toNat : Int) == 65533) = false := by simp; omega
      go_wp2
      go_roundw
      case rel => exact ⟨pos + 1, rfl, rfl⟩
      case measure => simp; omega
    · have hnx : ∀ ty, (Instr.next (.pointer (some ⟨w.heap.size, 0, none⟩)) true ty).run Try.prog (w.iter spc pos) = _ := fun ty => run_next_end w spc pos ty hp
      go_wp2
      go_ret
      exact ⟨rfl, below_iter _ _ _⟩

set_option maxRecDepth 1000000 in
set_option maxHeartbeats 1000000 in
theorem idx_low (r : Int) (w : World) (h0 : 0 ≤ r) (h1 : r < 128) :
    Calls Try.prog 10 #[.string spc, .int .i32 r] w fun e w' => e = .returned (.int .i64 (firstIdx spc r.toNat.toUInt8)) ∧ Below w.heap.size w w' := by
  have hm : r % 256 = r := by omega
  go_enter Try.func10, Try.ntmps10
  go_wp2_with (go_at_call 11; refine (indexByte_any _ _ _).mono ?_; rintro e w' ⟨rfl, rfl⟩)
  go_ret
  exact ⟨rfl, Below.refl _ _⟩
end Go.Proofs.Qxb6001480a
