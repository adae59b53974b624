import Derived.Test.Qxb6003347aSmall2
namespace Go.Proofs.Qxb6003347a
open Go.RowKit

theorem index_inv (P : List UInt8) (hne : P ≠ []) (l : List UInt8) :
    (Lib.index l P = -1 → ∀ j, ¬ P <+: l.drop j) ∧ (∀ o : Nat, Lib.index l P = o → P <+: l.drop o ∧ o + P.length ≤ l.length ∧ ∀ j, j < o → ¬ P <+: l.drop j) := by
  induction l with
  | nil =>
    rw [Lib.index, if_neg (by simpa using hne)]
    exact ⟨fun _ j => by simpa using hne, fun o h => by omega⟩
  | cons c l ih =>
    have hge := Lib.index_ge l P
    rw [Lib.index]
    by_cases hp : P.isPrefixOf (c :: l) = true
    · rw [if_pos hp]
      refine ⟨fun h => by omega, fun o h => ?_⟩
      obtain rfl : o = 0 := by omega
      have hp' := List.isPrefixOf_iff_prefix.1 hp
      exact ⟨by simpa using hp', by simpa using hp'.length_le, fun j hj => by omega⟩
    · rw [if_neg hp]
      have hp' : ¬ P <+: c :: l := fun h => hp (List.isPrefixOf_iff_prefix.2 h)
      by_cases hn : Lib.index l P = -1
      · rw [if_pos (by simpa using hn)]
        refine ⟨fun _ j => ?_, fun o h => by omega⟩
        cases j with
        | zero => simpa using hp'
        | succ j => simpa using ih.1 hn j
      · rw [if_neg (by simpa using hn)]
        refine ⟨fun h => by omega, fun o h => ?_⟩
        obtain ⟨o, rfl⟩ : ∃ o', o = o' + 1 := ⟨o - 1, by omega⟩
        obtain ⟨h1, h2, h3⟩ := ih.2 o (by omega)
        refine ⟨by simpa using h1, by simp; omega, fun j hj => ?_⟩
        cases j with
        | zero => simpa using hp'
        | succ j => simpa using h3 j (by omega)

theorem drop_at (s : ByteArray) (k : Nat) (h : k < s.size) : s.data.toList.drop k = s[k] :: s.data.toList.drop (k + 1) := List.drop_eq_getElem_cons (by rw [len_list]; exact h)

theorem scan_end (s : ByteArray) (k : Nat) (h : s.size ≤ k) : Plain.scan [] true (s.data.toList.drop k) = none := by
  rw [List.drop_eq_nil_of_le (by rw [len_list]; exact h)]; rfl

theorem map_succ (o : Option Nat) (k : Nat) : (o.map (· + 1)).map (· + k) = o.map (· + (k + 1)) := by
  cases o with
  | none => rfl
  | some i => simp only [Option.map_some, Option.some.injEq]; omega

set_option maxHeartbeats 800000 in
theorem ms38_empty (s : ByteArray) (w : World) (hs : s.size ≤ 1073741824) :
    Calls Try.prog 38 #[.string s, .string ⟨#[]⟩] w fun e w' => e = .returned (.int .i64 (Plain.msInt (Plain.scan [] true s.data.toList))) ∧ w' = w := by
  go_enter Try.func38, Try.ntmps38
  go_wp2
  go_loop [5] (fun i => ∃ k : Nat, i = .int .i64 k ∧ k ≤ s.size ∧ Plain.scan [] true s.data.toList = (Plain.scan [] true (s.data.toList.drop k)).map (· + k)) (fun i => s.size - (intOf i).toNat)
  case atStart => exact ⟨0, rfl, Nat.zero_le _, by simp⟩
  case round =>
    obtain ⟨k, rfl, hk, hsc⟩ := hrel
    have HS : Hid (Plain.scan [] true s.data.toList = (Plain.scan [] true (s.data.toList.drop k)).map (· + k)) := hsc
    clear hsc
    by_cases hlt : k < s.size
    · by_cases hc : s[k] = 44
      · have h1 : ((s[k].toNat : Int) != 44) = false := by rw [hc]; rfl
        have HN : Hid (Plain.scan [] true s.data.toList = (Plain.scan [] true (s.data.toList.drop (k + 1))).map (· + (k + 1))) := by
          show _ = _
          rw [HS.out, drop_at s k hlt, Plain.scan_pass _ _ (.inl hc), map_succ]
        clear hc HS
        go_wp2_with (go_at_call 48; refine (sp48 _ _).mono ?_; rintro e w' ⟨rfl, rfl⟩)
        go_round
        case rel => exact ⟨k + 1, by go_num, by omega, HN.out⟩
        case measure => simp [intOf]; omega
      · have h1 : ((s[k].toNat : Int) != 44) = true := by
          simp
          intro e
          exact hc (by rw [← UInt8.toNat_inj]; show s[k].toNat = 44; omega)
        cases hsp : Plain.sp s[k] with
        | true =>
          have HN : Hid (Plain.scan [] true s.data.toList = (Plain.scan [] true (s.data.toList.drop (k + 1))).map (· + (k + 1))) := by
            show _ = _
            rw [HS.out, drop_at s k hlt, Plain.scan_pass _ _ (.inr hsp), map_succ]
          clear hc HS
          go_wp2_with (go_at_call 48; refine (sp48 _ _).mono ?_; rintro e w' ⟨rfl, rfl⟩)
          go_round
          case rel => exact ⟨k + 1, by go_num, by omega, HN.out⟩
          case measure => simp [intOf]; omega
        | false =>
          have HN : Hid (Plain.msInt (Plain.scan [] true s.data.toList) = k) := by
            show _ = _
            rw [HS.out, drop_at s k hlt, Plain.scan_stop _ _ hc hsp]
            simp [Plain.msInt]
          clear hc HS
          go_wp2_with (go_at_call 48; refine (sp48 _ _).mono ?_; rintro e w' ⟨rfl, rfl⟩)
          go_ret
          exact ⟨ret_int HN.out.symm, rfl⟩
    · go_wp2
      go_ret
      exact ⟨ret_int (by rw [HS.out, scan_end s k (by omega)]; rfl), rfl⟩

theorem idx49 (s p : ByteArray) (r : Int) (h : Hid (Lib.index s.data.toList p.data.toList = r)) (m : Int) (w : World) (hs : s.size ≤ 1073741824) (hm : w.cell? ⟨0, 0, none⟩ = some (.int .i64 m)) :
    Calls Try.prog 49 #[.string s, .string p] w fun e w' => e = .returned (.int .i64 r) ∧ w' = w :=
  (Try.strings_Index s p m w (by omega) hm).mono fun _ _ hh => ⟨by rw [hh.1, h.out], hh.2⟩

theorem good_iff (s : ByteArray) (P : List UInt8) (i : Nat) (t : ByteArray) (ht : t.data.toList = Plain.trimR (s.extract 0 i).data.toList) (hp : P <+: s.data.toList.drop i) :
    Plain.good P true s.data.toList i ↔ (t.size = 0 ∨ ∃ h : t.size - 1 < t.size, t[t.size - 1] = 44) := by
  unfold Plain.good
  rw [Plain.st_iff]
  have e : s.data.toList.take i = (s.extract 0 i).data.toList := by rw [ext_list]; simp
  rw [e, ← ht]
  have e1 : t.data.toList = [] ↔ t.size = 0 := by rw [← len_list]; exact List.length_eq_zero_iff.symm
  have e2 : t.data.toList.getLast? = some 44 ↔ ∃ h : t.size - 1 < t.size, t[t.size - 1] = 44 := by
    by_cases h0 : 0 < t.size
    · rw [last_form t h0, List.getLast?_concat]
      exact ⟨fun h => ⟨by omega, Option.some.inj h⟩, fun h => by rw [h.2]⟩
    · rw [e1.2 (by omega)]
      exact ⟨fun h => by simp at h, fun h => by obtain ⟨h, _⟩ := h; omega⟩
  rw [e1, e2]
  exact ⟨fun h => h.2, fun h => ⟨hp, h⟩⟩

set_option maxHeartbeats 800000 in
theorem ms38_some (s p : ByteArray) (w : World) (m : Int) (hm : w.cell? ⟨0, 0, none⟩ = some (.int .i64 m)) (hs : s.size ≤ 1073741824) (hp0 : 0 < p.size) (hP : Hid (Plain.Clean p.data.toList)) :
    Calls Try.prog 38 #[.string s, .string p] w fun e w' => e = .returned (.int .i64 (Plain.msInt (Plain.scan p.data.toList true s.data.toList))) ∧ w' = w := by
  have hne : Hid (p.data.toList ≠ []) := fun e => by rw [← len_list, e] at hp0; simp at hp0
  have hpe : p.toList.isEmpty = false := by rw [ByteArray.toList_eq]; simpa using hne.out
  go_enter Try.func38, Try.ntmps38
  go_wp2
  go_loop [7] (fun i => ∃ k : Nat, i = .int .i64 k ∧ k ≤ s.size ∧ ∀ j, j < k → ¬ Plain.good p.data.toList true s.data.toList j) (fun i => s.size - (intOf i).toNat)
  case atStart => exact ⟨0, rfl, Nat.zero_le _, fun j hj => by omega⟩
  case round =>
    obtain ⟨k, rfl, hk, hng⟩ := hrel
    have HG : Hid (∀ j, j < k → ¬ Plain.good p.data.toList true s.data.toList j) := hng
    clear hng
    have hx : (s.extract k s.size).data.toList = s.data.toList.drop k := by
      rw [ext_list, List.take_of_length_le (by rw [List.length_drop, len_list]; omega)]
    obtain ⟨r, hr⟩ : ∃ r, Hid (Lib.index (s.extract k s.size).data.toList p.data.toList = r) := ⟨_, rfl⟩
    have hinv := index_inv p.data.toList hne.out (s.data.toList.drop k)
    rw [← hx, hr.out] at hinv
    have hge : -1 ≤ r := by rw [← hr.out]; exact Lib.index_ge _ _
    have hsz : (s.extract k s.size).size = s.size - k := by simp
    by_cases hm1 : r = -1
    · subst hm1
      have HN : Hid (Plain.msInt (Plain.scan p.data.toList true s.data.toList) = -1) := by
        show _ = _
        rw [Plain.scan_no _ _ true]
        · rfl
        · intro j _ hg
          by_cases hjk : j < k
          · exact HG.out j hjk hg
          · have := hinv.1 rfl (j - k)
            rw [hx, List.drop_drop, show k + (j - k) = j by omega] at this
            exact this hg.1
      clear hinv hx
      go_wp2_with (go_at_call 49; refine (idx49 _ _ _ hr m _ (by omega) hm).mono ?_; rintro e w' ⟨rfl, rfl⟩)
      go_ret
      exact ⟨ret_int HN.out.symm, rfl⟩
    · obtain ⟨o, rfl⟩ : ∃ o : Nat, r = o := ⟨r.toNat, by omega⟩
      obtain ⟨i1, i2, i3⟩ := hinv.2 o rfl
      rw [hx, List.drop_drop] at i1
      rw [hx, List.length_drop, len_list, len_list] at i2
      have HO : Hid (p.data.toList <+: s.data.toList.drop (k + o)) := i1
      have HJ : Hid (∀ j, j < k + o → ¬ Plain.good p.data.toList true s.data.toList j) := by
        intro j hj hg
        by_cases hjk : j < k
        · exact HG.out j hjk hg
        · have := i3 (j - k) (by omega)
          rw [hx, List.drop_drop, show k + (j - k) = j by omega] at this
          exact this hg.1
      clear hinv hx i1 i3 HG
      go_wp2_with (go_at_call 49; refine (idx49 _ _ _ hr m _ (by omega) hm).mono ?_; rintro e w' ⟨rfl, rfl⟩)
      refine (trimR40 _ _ (by simp; omega)).mono ?_
      rintro e w' ⟨t, rfl, ht, rfl⟩
      have hts : t.size ≤ s.size := by
        have := Plain.trimR_le (s.extract 0 (o + k)).data.toList
        rw [← ht, len_list, len_list] at this
        have e2 : (s.extract 0 (o + k)).size ≤ s.size := by simp; omega
        omega
      have HI : Hid (Plain.good p.data.toList true s.data.toList (o + k) ↔ (t.size = 0 ∨ ∃ h : t.size - 1 < t.size, t[t.size - 1] = 44)) :=
        good_iff s p.data.toList (o + k) t ht (by rw [Nat.add_comm]; exact HO.out)
      have HY : Hid (Plain.good p.data.toList true s.data.toList (o + k) → Plain.msInt (Plain.scan p.data.toList true s.data.toList) = (o : Int) + k) := by
        intro hg
        rw [Plain.scan_least _ hP.out hne.out _ true (o + k) (by rw [Nat.add_comm]; exact HJ.out) hg]
        simp [Plain.msInt]
      clear ht HO
      by_cases h0 : t.size = 0
      · have hte : t.toList.isEmpty = true := by rw [ByteArray.toList_eq, List.eq_nil_of_length_eq_zero (show t.data.toList.length = 0 by rw [len_list]; exact h0)]; rfl
        have HR := HY.out (HI.out.2 (.inl h0))
        have HR' : Hid (_ = _) := HR
        clear h0 HR HY HI
        go_wp2
        go_ret
        exact ⟨ret_int HR'.out.symm, rfl⟩
      · have hte : t.toList.isEmpty = false := by
          rw [ByteArray.toList_eq]
          cases h : t.data.toList with
          | nil => rw [← len_list, h] at h0; exact absurd rfl h0
          | cons a l => rfl
        have hpos : 1 ≤ t.size := by omega
        by_cases h4 : (t[t.size - 1]'(by omega)) = 44
        · have h5 : (((t[t.size - 1]'(by omega)).toNat : Int) == 44) = true := by rw [h4]; rfl
          have HR := HY.out (HI.out.2 (.inr ⟨by omega, h4⟩))
          have HR' : Hid (_ = _) := HR
          clear h0 h4 HR HY HI
          go_wp2
          go_ret
          exact ⟨ret_int HR'.out.symm, rfl⟩
        · have h5 : (((t[t.size - 1]'(by omega)).toNat : Int) == 44) = false := by
            simp
            intro e
            exact h4 (by rw [← UInt8.toNat_inj]; show (t[t.size - 1]'(by omega)).toNat = 44; omega)
          have HR : Hid (¬ Plain.good p.data.toList true s.data.toList (o + k)) := fun hg => by
            rcases HI.out.1 hg with h | ⟨_, h⟩
            · exact h0 h
            · exact h4 h
          clear h0 h4 HY HI
          go_wp2
          go_round
          case rel =>
            refine ⟨o + k + 1, by go_num, by omega, fun j hj hg => ?_⟩
            by_cases hjk : j = o + k
            · subst hjk; exact HR.out hg
            · exact HJ.out j (by omega) hg
          case measure => simp [intOf]; omega
end Go.Proofs.Qxb6003347a
