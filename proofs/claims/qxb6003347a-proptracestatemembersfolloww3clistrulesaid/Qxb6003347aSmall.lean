import Derived.Test.Qxb6003347aRows
import Derived.Test.Qxb6003347aPlain
import Derived.Test.Qxb6003347aShelf
import Derived.WalkKit
import Derived.ProofKit
import Derived.WalkMore
import Derived.Outline
import Derived.RegionTactic
import Derived.Deep.QuietTactic
import Derived.BigQuiet
import Derived.LoopTactic
namespace Go.Proofs.Qxb6003347a
open Go.RowKit

theorem ret_bool {a b : Bool} (h : a = b) : Ending.returned (.bool a) = .returned (.bool b) := by rw [h]
theorem ret_int {k : IntKind} {a b : Int} (h : a = b) : Ending.returned (.int k a) = .returned (.int k b) := by rw [h]

theorem u8_eq (c : UInt8) (n : Nat) (h : n < 256) : (((c.toNat : Nat) : Int) == (n : Int)) = (c == UInt8.ofNat n) := by
  rw [Bool.eq_iff_iff]
  simp
  constructor
  · intro e
    have : c.toNat = n := by omega
    rw [← this]; simp
  · intro e
    rw [e]; simp; omega

theorem sp_yes (c : UInt8) (h : Plain.sp c = true) : c = 32 ∨ c = 9 := by simpa [Plain.sp] using h
theorem sp_no (c : UInt8) (h : Plain.sp c = false) : c.toNat ≠ 32 ∧ c.toNat ≠ 9 := by
  simp [Plain.sp] at h
  refine ⟨fun e => h.1 ?_, fun e => h.2 ?_⟩
  · rw [← UInt8.toNat_inj]; exact e
  · rw [← UInt8.toNat_inj]; exact e

theorem sp36 (c : UInt8) (w : World) : Calls Try.prog 36 #[.int .u8 c.toNat] w fun e w' => e = .returned (.bool (Plain.sp c)) ∧ w' = w := by
  cases h : Plain.sp c with
  | true =>
    rcases sp_yes c h with rfl | rfl
    · go_enter Try.func36, Try.ntmps36
      go_wp2
      go_ret
      exact ⟨rfl, rfl⟩
    · go_enter Try.func36, Try.ntmps36
      go_wp2
      go_ret
      exact ⟨rfl, rfl⟩
  | false =>
    have h1 : ((c.toNat : Int) == 32) = false := by have := sp_no c h; simp; omega
    have h2 : ((c.toNat : Int) == 9) = false := by have := sp_no c h; simp; omega
    go_enter Try.func36, Try.ntmps36
    go_wp2
    go_ret
    exact ⟨rfl, rfl⟩

theorem sp48 (c : UInt8) (w : World) : Calls Try.prog 48 #[.int .u8 c.toNat] w fun e w' => e = .returned (.bool (Plain.sp c)) ∧ w' = w := by
  cases h : Plain.sp c with
  | true =>
    rcases sp_yes c h with rfl | rfl
    · go_enter Try.func48, Try.ntmps48
      go_wp2
      go_ret
      exact ⟨rfl, rfl⟩
    · go_enter Try.func48, Try.ntmps48
      go_wp2
      go_ret
      exact ⟨rfl, rfl⟩
  | false =>
    have h1 : ((c.toNat : Int) == 32) = false := by have := sp_no c h; simp; omega
    have h2 : ((c.toNat : Int) == 9) = false := by have := sp_no c h; simp; omega
    go_enter Try.func48, Try.ntmps48
    go_wp2
    go_ret
    exact ⟨rfl, rfl⟩

theorem len_list (t : ByteArray) : t.data.toList.length = t.size := by simp
/-- The last byte. -/
theorem last_form (t : ByteArray) (h : 0 < t.size) : t.data.toList = t.data.toList.take (t.size - 1) ++ [t[t.size - 1]'(by omega)] := by
  have hl : t.size - 1 < t.data.toList.length := by simp; omega
  have := List.take_succ_eq_append_getElem hl
  rw [List.take_of_length_le (by simp; omega)] at this
  exact this
theorem ext_list (t : ByteArray) (a b : Nat) : (t.extract a b).data.toList = (t.data.toList.drop a).take (b - a) := by
  rw [ByteArray.data_extract, Array.toList_extract]

theorem trim_step (t : ByteArray) (h0 : 0 < t.size) (h : Plain.sp (t[t.size - 1]'(by omega)) = true) : Plain.trimR (t.extract 0 (t.size - 1)).data.toList = Plain.trimR t.data.toList := by
  rw [ext_list]
  conv => rhs; rw [last_form t h0]
  rw [Plain.trimR_snoc_sp _ _ h]
  simp
theorem trim_stop (t : ByteArray) (h0 : 0 < t.size) (h : Plain.sp (t[t.size - 1]'(by omega)) = false) : Plain.trimR t.data.toList = t.data.toList := by
  have e := last_form t h0
  rw [e, Plain.trimR_snoc _ _ h]

set_option maxHeartbeats 400000 in
theorem trimR40 (s : ByteArray) (w : World) (hs : s.size ≤ 1073741824) :
    Calls Try.prog 40 #[.string s] w fun e w' => ∃ t : ByteArray, e = .returned (.string t) ∧ t.data.toList = Plain.trimR s.data.toList ∧ w' = w := by
  go_enter Try.func40, Try.ntmps40
  go_wp2
  go_loop [0] (fun v => ∃ t : ByteArray, v = .string t ∧ Plain.trimR t.data.toList = Plain.trimR s.data.toList ∧ t.size ≤ s.size) (fun v => match v with | .string t => t.size | _ => 0)
  case atStart => exact ⟨s, rfl, rfl, Nat.le_refl _⟩
  case round =>
    obtain ⟨t, rfl, ht, hle⟩ := hrel
    have HT : Hid (Plain.trimR t.data.toList = Plain.trimR s.data.toList) := ht
    clear ht
    by_cases h0 : 0 < t.size
    · cases hsp : Plain.sp (t[t.size - 1]'(by omega)) with
      | true =>
        go_wp2_with (go_at_call 48; refine (sp48 _ _).mono ?_; rintro e w' ⟨rfl, rfl⟩)
        go_round
        case rel => exact ⟨_, rfl, by rw [← HT.out]; exact trim_step t h0 hsp, by simp; omega⟩
        case measure => simp; omega
      | false =>
        go_wp2_with (go_at_call 48; refine (sp48 _ _).mono ?_; rintro e w' ⟨rfl, rfl⟩)
        go_ret
        refine ⟨t, rfl, ?_, rfl⟩
        rw [← HT.out]; exact (trim_stop t h0 hsp).symm
    · go_wp2
      go_ret
      refine ⟨t, rfl, ?_, rfl⟩
      have : t.data.toList = [] := List.eq_nil_of_length_eq_zero (by rw [len_list]; omega)
      rw [← HT.out, this]; rfl
end Go.Proofs.Qxb6003347a
