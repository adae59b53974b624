import Derived.Test.Qxb6003628aRows
import Derived.Test.Qxb6003628aPlain
import Derived.WalkKit
import Derived.ProofKit
import Derived.WalkMore
import Derived.Outline
import Derived.RegionTactic
import Derived.Deep.QuietTactic
import Derived.BigQuiet
import Derived.LoopTactic
import Derived.Laws.Cover3
import Derived.OwnWalk
import Derived.Lib.Bytes
import Derived.Shelf.Bytes.SlIndexAt
namespace Go.Proofs.Qxb6003628a
open Go.RowKit

theorem ret_bool {a b : Bool} (h : a = b) : Ending.returned (.bool a) = .returned (.bool b) := by rw [h]
theorem ret_int {k : IntKind} {a b : Int} (h : a = b) : Ending.returned (.int k a) = .returned (.int k b) := by rw [h]
theorem ne_b (x n : Nat) (h : ¬ x = n) : ((x : Int) == (n : Int)) = false := by simp; omega

theorem sp9 (x : Nat) (w : World) : Calls Try.prog 9 #[.int .u8 x] w fun e w' => e = .returned (.bool (Plain.isSp x)) ∧ w' = w := by
  by_cases h32 : x = 32
  · subst h32
    go_enter Try.func9, Try.ntmps9
    go_wp2
    go_ret
    exact ⟨rfl, rfl⟩
  by_cases h9 : x = 9
  · subst h9
    go_enter Try.func9, Try.ntmps9
    go_wp2
    go_ret
    exact ⟨rfl, rfl⟩
  by_cases h10 : x = 10
  · subst h10
    go_enter Try.func9, Try.ntmps9
    go_wp2
    go_ret
    exact ⟨rfl, rfl⟩
  by_cases h13 : x = 13
  · subst h13
    go_enter Try.func9, Try.ntmps9
    go_wp2
    go_ret
    exact ⟨rfl, rfl⟩
  have e32 : ((x : Int) == 32) = false := ne_b x 32 h32
  have e9 : ((x : Int) == 9) = false := ne_b x 9 h9
  have e10 : ((x : Int) == 10) = false := ne_b x 10 h10
  have e13 : ((x : Int) == 13) = false := ne_b x 13 h13
  have hp : Hid (Plain.isSp x = false) := by
    show _ = _
    simp [Plain.isSp]; omega
  clear h32 h9 h10 h13
  go_enter Try.func9, Try.ntmps9
  go_wp2
  go_ret
  exact ⟨ret_bool hp.out.symm, rfl⟩

theorem delim26 (x : Nat) (w : World) : Calls Try.prog 26 #[.int .u8 x] w fun e w' => e = .returned (.bool (Plain.isDelim x)) ∧ w' = w := by
  by_cases h32 : x = 32
  · subst h32
    go_enter Try.func26, Try.ntmps26
    go_wp2
    go_ret
    exact ⟨rfl, rfl⟩
  by_cases h9 : x = 9
  · subst h9
    go_enter Try.func26, Try.ntmps26
    go_wp2
    go_ret
    exact ⟨rfl, rfl⟩
  by_cases h10 : x = 10
  · subst h10
    go_enter Try.func26, Try.ntmps26
    go_wp2
    go_ret
    exact ⟨rfl, rfl⟩
  by_cases h13 : x = 13
  · subst h13
    go_enter Try.func26, Try.ntmps26
    go_wp2
    go_ret
    exact ⟨rfl, rfl⟩
  by_cases h44 : x = 44
  · subst h44
    go_enter Try.func26, Try.ntmps26
    go_wp2
    go_ret
    exact ⟨rfl, rfl⟩
  by_cases h125 : x = 125
  · subst h125
    go_enter Try.func26, Try.ntmps26
    go_wp2
    go_ret
    exact ⟨rfl, rfl⟩
  by_cases h93 : x = 93
  · subst h93
    go_enter Try.func26, Try.ntmps26
    go_wp2
    go_ret
    exact ⟨rfl, rfl⟩
  have e32 : ((x : Int) == 32) = false := ne_b x 32 h32
  have e9 : ((x : Int) == 9) = false := ne_b x 9 h9
  have e10 : ((x : Int) == 10) = false := ne_b x 10 h10
  have e13 : ((x : Int) == 13) = false := ne_b x 13 h13
  have e44 : ((x : Int) == 44) = false := ne_b x 44 h44
  have e125 : ((x : Int) == 125) = false := ne_b x 125 h125
  have e93 : ((x : Int) == 93) = false := ne_b x 93 h93
  have hp : Hid (Plain.isDelim x = false) := by
    show _ = _
    simp [Plain.isDelim, Plain.isSp]; omega
  clear h32 h9 h10 h13 h44 h125 h93
  go_enter Try.func26, Try.ntmps26
  go_wp2
  go_ret
  exact ⟨ret_bool hp.out.symm, rfl⟩

theorem ends19 (x : Nat) (w : World) : Calls Try.prog 19 #[.int .u8 x] w fun e w' => e = .returned (.bool (Plain.isDelim x)) ∧ w' = w := by
  by_cases h32 : x = 32
  · subst h32
    have hs : Plain.isSp 32 = true := by decide
    go_enter Try.func19, Try.ntmps19
    go_wp2_with (go_at_call 9; refine (sp9 _ _).mono ?_; rintro e w' ⟨rfl, rfl⟩)
    go_ret
    exact ⟨rfl, rfl⟩
  by_cases h9 : x = 9
  · subst h9
    have hs : Plain.isSp 9 = true := by decide
    go_enter Try.func19, Try.ntmps19
    go_wp2_with (go_at_call 9; refine (sp9 _ _).mono ?_; rintro e w' ⟨rfl, rfl⟩)
    go_ret
    exact ⟨rfl, rfl⟩
  by_cases h10 : x = 10
  · subst h10
    have hs : Plain.isSp 10 = true := by decide
    go_enter Try.func19, Try.ntmps19
    go_wp2_with (go_at_call 9; refine (sp9 _ _).mono ?_; rintro e w' ⟨rfl, rfl⟩)
    go_ret
    exact ⟨rfl, rfl⟩
  by_cases h13 : x = 13
  · subst h13
    have hs : Plain.isSp 13 = true := by decide
    go_enter Try.func19, Try.ntmps19
    go_wp2_with (go_at_call 9; refine (sp9 _ _).mono ?_; rintro e w' ⟨rfl, rfl⟩)
    go_ret
    exact ⟨rfl, rfl⟩
  by_cases h44 : x = 44
  · subst h44
    have hs : Plain.isSp 44 = false := by decide
    go_enter Try.func19, Try.ntmps19
    go_wp2_with (go_at_call 9; refine (sp9 _ _).mono ?_; rintro e w' ⟨rfl, rfl⟩)
    go_ret
    exact ⟨rfl, rfl⟩
  by_cases h125 : x = 125
  · subst h125
    have hs : Plain.isSp 125 = false := by decide
    go_enter Try.func19, Try.ntmps19
    go_wp2_with (go_at_call 9; refine (sp9 _ _).mono ?_; rintro e w' ⟨rfl, rfl⟩)
    go_ret
    exact ⟨rfl, rfl⟩
  by_cases h93 : x = 93
  · subst h93
    have hs : Plain.isSp 93 = false := by decide
    go_enter Try.func19, Try.ntmps19
    go_wp2_with (go_at_call 9; refine (sp9 _ _).mono ?_; rintro e w' ⟨rfl, rfl⟩)
    go_ret
    exact ⟨rfl, rfl⟩
  have e32 : ((x : Int) == 32) = false := ne_b x 32 h32
  have e9 : ((x : Int) == 9) = false := ne_b x 9 h9
  have e10 : ((x : Int) == 10) = false := ne_b x 10 h10
  have e13 : ((x : Int) == 13) = false := ne_b x 13 h13
  have e44 : ((x : Int) == 44) = false := ne_b x 44 h44
  have e125 : ((x : Int) == 125) = false := ne_b x 125 h125
  have e93 : ((x : Int) == 93) = false := ne_b x 93 h93
  have hs : Plain.isSp x = false := by simp [Plain.isSp]; omega
  have hp : Hid (Plain.isDelim x = false) := by
    show _ = _
    simp [Plain.isDelim, Plain.isSp]; omega
  clear h32 h9 h10 h13 h44 h125 h93
  go_enter Try.func19, Try.ntmps19
  go_wp2_with (go_at_call 9; refine (sp9 _ _).mono ?_; rintro e w' ⟨rfl, rfl⟩)
  go_ret
  exact ⟨ret_bool hp.out.symm, rfl⟩

end Go.Proofs.Qxb6003628a
