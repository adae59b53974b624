import Derived.Test.Qxb6600069aRows
import Derived.WalkKit
import Derived.ProofKit
import Derived.WalkMore
import Derived.Outline
import Derived.RegionTactic
import Derived.Deep.QuietTactic
import Derived.BigQuiet
import Derived.LoopTactic
import Derived.Laws.Cover3
import Derived.Laws.Externs
import Derived.OwnWalk
import Derived.OpenShut
import Derived.Maps.AppendAt
namespace Go.Proofs.Qxb6600069a
open Go.RowKit Go.WideShapes

theorem ret_bool {a b : Bool} (h : a = b) : Ending.returned (.bool a) = .returned (.bool b) := by rw [h]
theorem ret_int {k : IntKind} {a b : Int} (h : a = b) : Ending.returned (.int k a) = .returned (.int k b) := by rw [h]
theorem ne_b (x n : Nat) (h : ¬ x = n) : ((x : Int) == (n : Int)) = false := by simp; omega

def isSp (c : Nat) : Bool := c == 32 || c == 9 || c == 10 || c == 13
def isDelim (c : Nat) : Bool := isSp c || c == 44 || c == 125 || c == 93

/-- Bytes in a row of plain cells. -/
def Row (w : World) (b off n : Nat) (d : Nat → Nat) : Prop := ∀ i, i < n → w.cell? ⟨b, off + i, none⟩ = some (.int .u8 (d i : Int))

theorem sp28 (x : Nat) (w : World) : Calls Try.prog 28 #[.int .u8 x] w fun e w' => e = .returned (.bool (isSp x)) ∧ w' = w := by
  by_cases h32 : x = 32
  · subst h32; go_enter Try.func28, Try.ntmps28; go_wp2; go_ret; exact ⟨rfl, rfl⟩
  by_cases h9 : x = 9
  · subst h9; go_enter Try.func28, Try.ntmps28; go_wp2; go_ret; exact ⟨rfl, rfl⟩
  by_cases h10 : x = 10
  · subst h10; go_enter Try.func28, Try.ntmps28; go_wp2; go_ret; exact ⟨rfl, rfl⟩
  by_cases h13 : x = 13
  · subst h13; go_enter Try.func28, Try.ntmps28; go_wp2; go_ret; exact ⟨rfl, rfl⟩
  have e32 : ((x : Int) == 32) = false := ne_b x 32 h32
  have e9 : ((x : Int) == 9) = false := ne_b x 9 h9
  have e10 : ((x : Int) == 10) = false := ne_b x 10 h10
  have e13 : ((x : Int) == 13) = false := ne_b x 13 h13
  have hp : Hid (isSp x = false) := by
    show _ = _
    simp [isSp]; omega
  clear h32 h9 h10 h13
  go_enter Try.func28, Try.ntmps28
  go_wp2
  go_ret
  exact ⟨ret_bool hp.out.symm, rfl⟩

theorem delim13 (x : Nat) (w : World) : Calls Try.prog 13 #[.int .u8 x] w fun e w' => e = .returned (.bool (isDelim x)) ∧ w' = w := by
  by_cases h44 : x = 44
  · subst h44; go_enter Try.func13, Try.ntmps13; go_wp2; go_ret; exact ⟨rfl, rfl⟩
  by_cases h93 : x = 93
  · subst h93; go_enter Try.func13, Try.ntmps13; go_wp2; go_ret; exact ⟨rfl, rfl⟩
  by_cases h125 : x = 125
  · subst h125; go_enter Try.func13, Try.ntmps13; go_wp2; go_ret; exact ⟨rfl, rfl⟩
  have e44 : ((x : Int) == 44) = false := ne_b x 44 h44
  have e93 : ((x : Int) == 93) = false := ne_b x 93 h93
  have e125 : ((x : Int) == 125) = false := ne_b x 125 h125
  have hp : Hid (isDelim x = isSp x) := by
    show _ = _
    unfold isDelim
    rw [beq_false_of_ne h44, beq_false_of_ne h125, beq_false_of_ne h93]
    simp
  clear h44 h93 h125
  go_enter Try.func13, Try.ntmps13
  go_wp2_with (go_at_call 28; refine (sp28 _ _).mono ?_; rintro e w' ⟨rfl, rfl⟩)
  go_ret
  exact ⟨ret_bool (by rw [hp.out]), rfl⟩

def dl : ByteArray := ⟨#[44, 93, 125, 32, 9, 10, 13]⟩

theorem idx34 (s : ByteArray) (c : Int) (w : World) : Calls Try.prog 34 #[.string s, .int .u8 c] w fun e w' => e = .returned (.int .i64 (firstIdx s c.toNat.toUInt8)) ∧ w' = w := by
  go_enter Try.func34, Try.ntmps34
  go_wp2
  rw [run_callFunc_extern Try.func35 (by kernel_rfl) (by kernel_rfl) (by kernel_rfl) (e := Extern.BytealgIndexByte.indexByte) (by kernel_rfl), run_indexByte_string]
  simp only [Result.andThen]
  rw [Oper.upon_value]
  go_wp2
  go_ret
  exact ⟨rfl, rfl⟩

theorem idx33 (s : ByteArray) (c : Int) (w : World) : Calls Try.prog 33 #[.string s, .int .u8 c] w fun e w' => e = .returned (.int .i64 (firstIdx s c.toNat.toUInt8)) ∧ w' = w := by
  go_enter Try.func33, Try.ntmps33
  go_wp2_with (go_at_call 34; refine (idx34 _ _ _).mono ?_; rintro e w' ⟨rfl, rfl⟩)
  go_ret
  exact ⟨rfl, rfl⟩

theorem dl_sign : ∀ x : Nat, x < 256 → decide (firstIdx dl x.toUInt8 < 0) = !isDelim x := by decide +kernel

/-- Where the byte stands in the list of delimiters. -/
def At (x : Nat) (w : World) (e : Ending) (w' : World) : Prop := ∃ z : Int, e = .returned (.int .i64 z) ∧ decide (z < 0) = !isDelim x ∧ w' = w

theorem idxd (x : Nat) (hx : x < 256) (w : World) : Calls Try.prog 33 #[.string dl, .int .u8 x] w (At x w) :=
  (idx33 dl x w).mono fun e w' ⟨h1, h2⟩ => ⟨_, h1, by rw [← dl_sign x hx]; simp, h2⟩
end Go.Proofs.Qxb6600069a
