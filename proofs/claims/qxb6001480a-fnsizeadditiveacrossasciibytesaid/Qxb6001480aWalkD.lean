import Derived.Test.Qxb6001480aWalkC
namespace Go.Proofs.Qxb6001480a
open Go.RowKit

theorem zz_any (a b : ByteArray) (c : Int) (w : World) (ha : a.size ≤ maxLen) (hb : b.size ≤ maxLen) :
    Calls Try.prog 5 #[.string a, .string b, .int .u8 c] w fun e w' => e = .returned (.bool (decide (a.size + b.size ≤ 1048576))) ∧ w' = w := by
  unfold maxLen at ha hb
  by_cases h1 : 1048576 < a.size
  · go_enter Try.func5, Try.ntmps5
    go_wp2
    go_ret
    exact ⟨ret_bool (decide_eq_false (by omega)).symm, rfl⟩
  · by_cases h2 : 1048576 < b.size
    · go_enter Try.func5, Try.ntmps5
      go_wp2
      go_ret
      exact ⟨ret_bool (decide_eq_false (by omega)).symm, rfl⟩
    · by_cases h3 : 1048576 < a.size + b.size
      · go_enter Try.func5, Try.ntmps5
        go_wp2
        go_ret
        exact ⟨ret_bool (decide_eq_false (by omega)).symm, rfl⟩
      · go_enter Try.func5, Try.ntmps5
        go_wp2
        go_ret
        exact ⟨ret_bool (decide_eq_true (by omega)).symm, rfl⟩

theorem space_any (c : Nat) (w : World) (hc : c < 256) :
    Calls Try.prog 7 #[.int .u8 c] w fun e w' => e = .returned (.bool (!Plain.counts c)) ∧ w' = w := by
  by_cases h1 : c = 32
  · subst h1
    go_enter Try.func7, Try.ntmps7
    go_wp2
    go_ret
    exact ⟨rfl, rfl⟩
  · by_cases h2 : c = 9
    · subst h2
      go_enter Try.func7, Try.ntmps7
      go_wp2
      go_ret
      exact ⟨rfl, rfl⟩
    · by_cases h3 : c = 10
      · subst h3
        go_enter Try.func7, Try.ntmps7
        go_wp2
        go_ret
        exact ⟨rfl, rfl⟩
      · by_cases h4 : c = 13
        · subst h4
          go_enter Try.func7, Try.ntmps7
          go_wp2
          go_ret
          exact ⟨rfl, rfl⟩
        · have e1 : (((c : Nat) : Int) == 32) = false := by simp; omega
          have e2 : (((c : Nat) : Int) == 9) = false := by simp; omega
          have e3 : (((c : Nat) : Int) == 10) = false := by simp; omega
          have e4 : (((c : Nat) : Int) == 13) = false := by simp; omega
          have hk : Hid (Plain.counts c = true) := by
            show Plain.counts c = true
            unfold Plain.counts
            have : (c == 32) = false ∧ (c == 9) = false ∧ (c == 10) = false ∧ (c == 13) = false := by simp; omega
            rw [this.1, this.2.1, this.2.2.1, this.2.2.2]; rfl
          go_enter Try.func7, Try.ntmps7
          go_wp2
          go_ret
          exact ⟨ret_bool (by rw [hk.out]; rfl), rfl⟩

theorem conv_one (W : World) (c : Nat) (t : TypeId) :
    (convert 24 9 (.slice (some ⟨W.heap.size, 0, none⟩) 1 1)).run Try.prog (W.alloc (.cells #[.int .u8 c] t)) = .ok (.string ⟨#[UInt8.ofNat c]⟩) (W.alloc (.cells #[.int .u8 c] t)) := by
  rw [run_convert_bytes_string _ 24 9 5 _ 1 1 Try.underlying24 Try.underlying5 Try.underlying9]
  rw [run_bytesToString _ _ 1 1 [(c : Int)]]
  · rfl
  · have h := run_loadCells_list (P := Try.prog) (W.alloc (.cells #[.int .u8 c] t)) ⟨W.heap.size, 0, none⟩ [.int .u8 c] (by
      intro j v hj
      match j, hj with
      | 0, hj => simp at hj; subst hj; simp [Addr.add])
    exact h

theorem size_eq (s : ByteArray) (n : Nat) (h : Hid (Plain.sz s.data.toList = n)) (w : World) (hs : s.size ≤ 1073741824) :
    Calls Try.prog 6 #[.string s] w fun e w' => e = .returned (.int .i64 n) ∧ Below w.heap.size w w' :=
  (size_any s w hs).mono fun _ _ hh => ⟨by rw [hh.1, h.out], hh.2⟩

set_option maxRecDepth 1000000 in
set_option maxHeartbeats 1000000 in
theorem main (a b : ByteArray) (c : Nat) (w : World) (h1 : a.size ≤ 524288) (h2 : b.size ≤ 524288) (h0 : a.size + b.size ≤ 1048576) (h3 : c < 128) :
    Calls Try.prog 3 #[.string a, .string b, .int .u8 c] w fun e w' => e = .returned (.bool true) ∧ Below w.heap.size w w' := by
  have hz : decide (a.size + b.size ≤ 1048576) = true := decide_eq_true h0
  obtain ⟨na, ha⟩ : ∃ n, Hid (Plain.sz a.data.toList = n) := ⟨_, rfl⟩
  obtain ⟨nb, hb⟩ : ∃ n, Hid (Plain.sz b.data.toList = n) := ⟨_, rfl⟩
  have hla : na ≤ 524288 := by have := Plain.sz_le _ a.data.toList (Nat.le_refl _); rw [ha.out] at this; have e : a.data.toList.length = a.size := by simp
                               omega
  have hlb : nb ≤ 524288 := by have := Plain.sz_le _ b.data.toList (Nat.le_refl _); rw [hb.out] at this; have e : b.data.toList.length = b.size := by simp
                               omega
  have hu : (UInt8.ofNat c).toNat = c := by simp; omega
  have hm : Hid (Plain.sz (a ++ ⟨#[UInt8.ofNat c]⟩ ++ b).data.toList = na + (if Plain.counts c then 1 else 0) + nb) := by
    show _ = _
    have := Plain.sz_mid a.data.toList b.data.toList (UInt8.ofNat c) (by rw [hu]; exact h3)
    rw [hu, ha.out, hb.out] at this
    rw [← this]
    simp
  have hn : Hid (Plain.sz (a ++ ⟨#[194, 160]⟩ ++ b).data.toList = na + 1 + nb) := by
    show _ = _
    have := Plain.sz_mid2 a.data.toList b.data.toList
    rw [ha.out, hb.out] at this
    rw [← this]
    simp
  have hs1 : (a ++ (⟨#[UInt8.ofNat c]⟩ : ByteArray) ++ b).size ≤ 1073741824 := by rw [ByteArray.size_append, ByteArray.size_append]; show a.size + 1 + b.size ≤ _; omega
  have hs2 : (a ++ (⟨#[194, 160]⟩ : ByteArray) ++ b).size ≤ 1073741824 := by rw [ByteArray.size_append, ByteArray.size_append]; show a.size + 2 + b.size ≤ _; omega
  have hcv := conv_one
  clear hu
  cases hc : Plain.counts c
  all_goals
    rw [hc] at hm
    have hd : (!!Plain.counts c) = Plain.counts c := by simp
    go_enter Try.func3, Try.ntmps3
    go_wp2_with (go_at_call 5; refine (zz_any _ _ _ _ (by unfold maxLen; omega) (by unfold maxLen; omega)).mono ?_; rintro e w' ⟨rfl, rfl⟩)
    refine (size_eq _ _ ha _ (by omega)).mono ?_
    rintro e w1 ⟨rfl, hb1⟩
    go_wp2_with (fail)
    refine (size_eq _ _ hb _ (by omega)).mono ?_
    rintro e w2 ⟨rfl, hb2⟩
    go_wp2_with (go_at_call 7; refine (space_any _ _ (by omega)).mono ?_; rintro e w' ⟨rfl, rfl⟩)
    refine (size_eq _ _ hm _ hs1).mono ?_
    rintro e w3 ⟨rfl, hb3⟩
    go_wp2_with (fail)
    refine (size_eq _ _ hn _ hs2).mono ?_
    rintro e w4 ⟨rfl, hb4⟩
    go_wp2_with (fail)
    go_ret
    refine ⟨rfl, ?_⟩
    have g1 := hb1.size
    have g2 := hb2.size
    have g3 := hb3.size
    simp at g3
    exact ((hb1.trans (hb2.mono (by omega))).alloc (by omega) _).trans ((hb3.mono (by simp; omega)).trans (hb4.mono (by omega)))
end Go.Proofs.Qxb6001480a
