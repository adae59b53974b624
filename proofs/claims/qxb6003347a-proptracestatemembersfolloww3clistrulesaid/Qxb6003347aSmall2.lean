import Derived.Test.Qxb6003347aSmall
namespace Go.Proofs.Qxb6003347a
open Go.RowKit

theorem head_form (t : ByteArray) (h : 0 < t.size) : t.data.toList = t[0] :: t.data.toList.drop 1 := by
  have hl : 0 < t.data.toList.length := by rw [len_list]; exact h
  have := List.drop_eq_getElem_cons hl
  rw [List.drop_zero] at this
  exact this
theorem trimL_step (t : ByteArray) (h0 : 0 < t.size) (h : Plain.sp t[0] = true) : Plain.trimL (t.extract 1 t.size).data.toList = Plain.trimL t.data.toList := by
  rw [ext_list]
  conv => rhs; rw [head_form t h0]
  unfold Plain.trimL
  rw [List.dropWhile_cons, if_pos h, List.take_of_length_le]
  rw [List.length_drop, len_list]; omega
theorem trimL_stop (t : ByteArray) (h0 : 0 < t.size) (h : Plain.sp t[0] = false) : Plain.trimL t.data.toList = t.data.toList := by
  rw [head_form t h0]
  unfold Plain.trimL
  rw [List.dropWhile_cons, if_neg (by rw [h]; simp)]

set_option maxHeartbeats 800000 in
theorem trim27 (s : ByteArray) (w : World) (hs : s.size ≤ 1073741824) :
    Calls Try.prog 27 #[.string s] w fun e w' => ∃ t : ByteArray, e = .returned (.string t) ∧ t.data.toList = Plain.trim s.data.toList ∧ w' = w := by
  go_enter Try.func27, Try.ntmps27
  go_wp2
  go_loop [0] (fun v => ∃ t : ByteArray, v = .string t ∧ Plain.trimL t.data.toList = Plain.trimL s.data.toList ∧ t.size ≤ s.size) (fun v => match v with | .string t => t.size | _ => 0)
  case atStart => exact ⟨s, rfl, rfl, Nat.le_refl _⟩
  case round =>
    obtain ⟨t, rfl, ht, hle⟩ := hrel
    have HT : Hid (Plain.trimL t.data.toList = Plain.trimL s.data.toList) := ht
    clear ht
    by_cases hgo : ∃ h0 : 0 < t.size, Plain.sp t[0] = true
    · obtain ⟨h0, hsp⟩ := hgo
      go_wp2_with (go_at_call 36; refine (sp36 _ _).mono ?_; rintro e w' ⟨rfl, rfl⟩)
      go_round
      case rel => exact ⟨_, rfl, by rw [← HT.out]; exact trimL_step t h0 hsp, by simp; omega⟩
      case measure => simp; omega
    · have HL : Hid (t.data.toList = Plain.trimL s.data.toList) := by
        show _ = _
        rw [← HT.out]
        by_cases h0 : 0 < t.size
        · exact (trimL_stop t h0 (by cases h : Plain.sp t[0] with | true => exact absurd ⟨h0, h⟩ hgo | false => rfl)).symm
        · rw [List.eq_nil_of_length_eq_zero (show t.data.toList.length = 0 by rw [len_list]; omega)]; rfl
      have hsp : ∀ h0 : 0 < t.size, Plain.sp t[0] = false := fun h0 => by cases h : Plain.sp t[0] with | true => exact absurd ⟨h0, h⟩ hgo | false => rfl
      clear hgo HT
      by_cases h0 : 0 < t.size
      · have hsp' := hsp h0
        clear hsp
        go_wp2_with (go_at_call 36; refine (sp36 _ _).mono ?_; rintro e w' ⟨rfl, rfl⟩)
        go_loop [0] (fun v => ∃ t2 : ByteArray, v = .string t2 ∧ Plain.trimR t2.data.toList = Plain.trimR t.data.toList ∧ t2.size ≤ s.size) (fun v => match v with | .string t => t.size | _ => 0)
        case atStart => exact ⟨t, rfl, rfl, hle⟩
        case round =>
          obtain ⟨t2, rfl, ht2, hle2⟩ := hrel
          have HT : Hid (Plain.trimR t2.data.toList = Plain.trimR t.data.toList) := ht2
          clear ht2
          by_cases h2 : 0 < t2.size
          · cases hsp2 : Plain.sp (t2[t2.size - 1]'(by omega)) with
            | true =>
              go_wp2_with (go_at_call 36; refine (sp36 _ _).mono ?_; rintro e w' ⟨rfl, rfl⟩)
              go_round
              case rel => exact ⟨_, rfl, by rw [← HT.out]; exact trim_step t2 h2 hsp2, by simp; omega⟩
              case measure => simp; omega
            | false =>
              go_wp2_with (go_at_call 36; refine (sp36 _ _).mono ?_; rintro e w' ⟨rfl, rfl⟩)
              go_ret
              refine ⟨t2, rfl, ?_, rfl⟩
              unfold Plain.trim
              rw [← HL.out, ← HT.out]; exact (trim_stop t2 h2 hsp2).symm
          · go_wp2
            go_ret
            refine ⟨t2, rfl, ?_, rfl⟩
            have : t2.data.toList = [] := List.eq_nil_of_length_eq_zero (by rw [len_list]; omega)
            unfold Plain.trim
            rw [← HL.out, ← HT.out, this]; rfl
      · clear hsp
        go_wp2_with (go_at_call 36; refine (sp36 _ _).mono ?_; rintro e w' ⟨rfl, rfl⟩)
        go_loop [0] (fun v => ∃ t2 : ByteArray, v = .string t2 ∧ Plain.trimR t2.data.toList = Plain.trimR t.data.toList ∧ t2.size ≤ s.size) (fun v => match v with | .string t => t.size | _ => 0)
        case atStart => exact ⟨t, rfl, rfl, hle⟩
        case round =>
          obtain ⟨t2, rfl, ht2, hle2⟩ := hrel
          have HT : Hid (Plain.trimR t2.data.toList = Plain.trimR t.data.toList) := ht2
          clear ht2
          by_cases h2 : 0 < t2.size
          · cases hsp2 : Plain.sp (t2[t2.size - 1]'(by omega)) with
            | true =>
              go_wp2_with (go_at_call 36; refine (sp36 _ _).mono ?_; rintro e w' ⟨rfl, rfl⟩)
              go_round
              case rel => exact ⟨_, rfl, by rw [← HT.out]; exact trim_step t2 h2 hsp2, by simp; omega⟩
              case measure => simp; omega
            | false =>
              go_wp2_with (go_at_call 36; refine (sp36 _ _).mono ?_; rintro e w' ⟨rfl, rfl⟩)
              go_ret
              refine ⟨t2, rfl, ?_, rfl⟩
              unfold Plain.trim
              rw [← HL.out, ← HT.out]; exact (trim_stop t2 h2 hsp2).symm
          · go_wp2
            go_ret
            refine ⟨t2, rfl, ?_, rfl⟩
            have : t2.data.toList = [] := List.eq_nil_of_length_eq_zero (by rw [len_list]; omega)
            unfold Plain.trim
            rw [← HL.out, ← HT.out, this]; rfl

theorem pre_short (s p : ByteArray) (h : s.size < p.size) : p.data.toList.isPrefixOf s.data.toList = false := by
  rw [Bool.eq_false_iff]
  intro hh
  have := (List.isPrefixOf_iff_prefix.1 hh).length_le
  rw [len_list, len_list] at this
  omega
theorem pre_all (s p : ByteArray) (k : Nat) (h : p.size ≤ k) (he : p.data.toList.take k = s.data.toList.take k) : p.data.toList.isPrefixOf s.data.toList = true := by
  rw [List.isPrefixOf_iff_prefix]
  rw [List.take_of_length_le (by rw [len_list]; exact h)] at he
  rw [he]
  exact List.take_prefix _ _
theorem pre_step (s p : ByteArray) (k : Nat) (h1 : k < s.size) (h2 : k < p.size) (he : p.data.toList.take k = s.data.toList.take k) (hb : ((s[k].toNat : Int) != (p[k].toNat : Int)) = false) : p.data.toList.take (k + 1) = s.data.toList.take (k + 1) := by
  rw [List.take_succ_eq_append_getElem (by rw [len_list]; exact h2), List.take_succ_eq_append_getElem (by rw [len_list]; exact h1), he]
  have : s[k] = p[k] := by
    rw [← UInt8.toNat_inj]
    simp at hb
    omega
  show _ ++ [p[k]] = _ ++ [s[k]]
  rw [this]
theorem pre_part (s p : ByteArray) (k : Nat) (h1 : k < s.size) (h2 : k < p.size) (hb : ((s[k].toNat : Int) != (p[k].toNat : Int)) = true) : p.data.toList.isPrefixOf s.data.toList = false := by
  rw [Bool.eq_false_iff]
  intro hh
  obtain ⟨q, hq⟩ := List.isPrefixOf_iff_prefix.1 hh
  have e : s.data.toList[k]? = p.data.toList[k]? := by rw [← hq, List.getElem?_append_left (by rw [len_list]; exact h2)]
  rw [List.getElem?_eq_getElem (by rw [len_list]; exact h1), List.getElem?_eq_getElem (by rw [len_list]; exact h2)] at e
  have : s[k] = p[k] := Option.some.inj e
  rw [this] at hb
  simp at hb

set_option maxHeartbeats 800000 in
theorem pre22 (s p : ByteArray) (w : World) (hs : s.size ≤ 1073741824) :
    Calls Try.prog 22 #[.string s, .string p] w fun e w' => e = .returned (.bool (p.data.toList.isPrefixOf s.data.toList)) ∧ ∃ n, w' = w.drewN n := by
  by_cases hl : s.size < p.size
  · go_enter Try.func22, Try.ntmps22
    go_wp2
    go_ret
    exact ⟨ret_bool (pre_short s p hl).symm, 0, rfl⟩
  · go_enter Try.func22, Try.ntmps22
    go_wp2
    go_loopw [5] (fun i wr => ∃ k n : Nat, i = .int .i64 k ∧ k ≤ p.size ∧ p.data.toList.take k = s.data.toList.take k ∧ wr = w.drewN n) (fun i _ => p.size - (intOf i).toNat)
    case atStart => exact ⟨0, 0, rfl, Nat.zero_le _, by simp, rfl⟩
    case round =>
      obtain ⟨k, n, rfl, hk, heq, rfl⟩ := hrel
      have HE : Hid (p.data.toList.take k = s.data.toList.take k) := heq
      clear heq
      by_cases hlt : k < p.size
      · have h1 : (k : Int) < (s.size : Int) := by omega
        have h2 : (k : Int) < (p.size : Int) := by omega
        go_wp2
        go_quiet (fail)
        go_wp2
        · go_ret
          exact ⟨ret_bool (pre_part s p k (by omega) hlt (by assumption)).symm, n + nq, by rw [World.drewN_drewN]⟩
        · go_roundw
          case rel => exact ⟨k + 1, n + nq, by go_num, by omega, pre_step s p k (by omega) hlt HE.out (by assumption), rfl⟩
          case measure => simp [intOf]; omega
      · go_wp2
        go_ret
        exact ⟨ret_bool (pre_all s p k (by omega) HE.out).symm, _, rfl⟩
end Go.Proofs.Qxb6003347a
