import Derived.Test.Qxb6003347aSmall3
namespace Go.Proofs.Qxb6003347a
open Go.RowKit

/-- The slice value holds the strings ss in its first cells. -/
def Strs (w : World) (b off n : Nat) (ss : List ByteArray) : Prop := n = ss.length ∧ ∀ i, i < n → w.cell? ⟨b, off + i, none⟩ = some (.string (ss.getD i ByteArray.empty))

def SomeBool (e : Ending) : Prop := ∃ b : Bool, e = .returned (.bool b)
/-- What zzFieldsTooBig tells: too big; or all is small. -/
def BigTold (n : Nat) (ss : List ByteArray) (e : Ending) : Prop := (e = .returned (.bool true)) ∨ (e = .returned (.bool false) ∧ n ≤ 4096 ∧ ∀ i, i < n → (ss.getD i ByteArray.empty).size ≤ 4096)

set_option maxHeartbeats 800000 in
theorem bytes11_none (a : Option Addr) (c : Nat) (p : ByteArray) (st : Int) (w : World) (hp : p.size ≤ maxLen) :
    Calls Try.prog 11 #[.slice a 0 c, .string p, .int .i64 st] w fun e w' => SomeBool e ∧ w' = w := by
  unfold maxLen at hp
  go_enter Try.func11, Try.ntmps11
  go_wp2
  refine wp_loop_rounds 1 ?_
  rw [rounds_succ]
  go_wp2
  all_goals (go_ret; exact ⟨⟨_, rfl⟩, rfl⟩)

set_option maxHeartbeats 800000 in
theorem bytes11_some (b off n c : Nat) (ss : List ByteArray) (p : ByteArray) (st : Int) (w : World) (hn : n ≤ maxLen) (hp : p.size ≤ maxLen) (hz : ∀ i, i < n → (ss.getD i ByteArray.empty).size ≤ maxLen)
    (hc : ∀ i, i < n → w.cell? ⟨b, off + i, none⟩ = some (.string (ss.getD i ByteArray.empty))) :
    Calls Try.prog 11 #[.slice (some ⟨b, off, none⟩) n c, .string p, .int .i64 st] w fun e w' => SomeBool e ∧ w' = w := by
  unfold maxLen at hp hn hz
  go_enter Try.func11, Try.ntmps11
  go_wp2
  · go_ret
    exact ⟨⟨_, rfl⟩, rfl⟩
  go_loop [7, 8] (fun z i => ∃ (k : Nat) (q : Int), i = .int .i64 k ∧ z = .int .i64 q ∧ 0 ≤ q ∧ q ≤ 1048576 ∧ k ≤ n) (fun _ i => n - (intOf i).toNat)
  case atStart => exact ⟨0, _, rfl, rfl, by omega, by omega, by omega⟩
  case round =>
    obtain ⟨k, q, rfl, rfl, hq0, hq1, hk⟩ := hrel
    by_cases hlt : k < n
    · have hck := hc k hlt
      have hzk := hz k hlt
      obtain ⟨s, hs⟩ : ∃ s, s = ss.getD k ByteArray.empty := ⟨_, rfl⟩
      rw [← hs] at hck hzk
      clear hs hc hz
      go_wp2
      · go_ret
        exact ⟨⟨_, rfl⟩, rfl⟩
      · go_ret
        exact ⟨⟨_, rfl⟩, rfl⟩
      · go_round
        case rel => exact ⟨k + 1, _, by go_num, rfl, by omega, by omega, by omega⟩
        case measure => simp [intOf]; omega
    · clear hc hz
      go_wp2
      all_goals (go_ret; exact ⟨⟨_, rfl⟩, rfl⟩)

set_option maxHeartbeats 800000 in
theorem big12_none (a : Option Addr) (c : Nat) (w : World) :
    Calls Try.prog 12 #[.slice a 0 c] w fun e w' => e = .returned (.bool false) ∧ w' = w := by
  go_enter Try.func12, Try.ntmps12
  go_wp2
  refine wp_loop_rounds 1 ?_
  rw [rounds_succ]
  go_wp2
  go_ret
  exact ⟨rfl, rfl⟩

set_option maxHeartbeats 800000 in
theorem big12_some (b off n c : Nat) (ss : List ByteArray) (w : World) (hn : n ≤ maxLen)
    (hc : ∀ i, i < n → w.cell? ⟨b, off + i, none⟩ = some (.string (ss.getD i ByteArray.empty))) :
    Calls Try.prog 12 #[.slice (some ⟨b, off, none⟩) n c] w fun e w' => BigTold n ss e ∧ w' = w := by
  unfold maxLen at hn
  go_enter Try.func12, Try.ntmps12
  go_wp2
  · go_ret
    exact ⟨.inl rfl, rfl⟩
  have hn4 : n ≤ 4096 := by omega
  go_loop [3] (fun i => ∃ (k : Nat), i = .int .i64 k ∧ k ≤ n ∧ ∀ i, i < k → (ss.getD i ByteArray.empty).size ≤ 4096) (fun i => n - (intOf i).toNat)
  case atStart => exact ⟨0, rfl, by omega, fun i hi => by omega⟩
  case round =>
    obtain ⟨k, rfl, hk, hal⟩ := hrel
    have HA : Hid (∀ i, i < k → (ss.getD i ByteArray.empty).size ≤ 4096) := hal
    clear hal
    by_cases hlt : k < n
    · have hck := hc k hlt
      obtain ⟨s, hs⟩ : ∃ s, s = ss.getD k ByteArray.empty := ⟨_, rfl⟩
      rw [← hs] at hck
      have HS : Hid (s = ss.getD k ByteArray.empty) := hs
      clear hs hc
      go_wp2
      · go_ret
        exact ⟨.inl rfl, rfl⟩
      · go_round
        case rel =>
          refine ⟨k + 1, by go_num, by omega, fun i hi => ?_⟩
          by_cases hik : i = k
          · subst hik
            rw [← HS.out]
            omega
          · exact HA.out i (by omega)
        case measure => simp [intOf]; omega
    · clear hc
      go_wp2
      go_ret
      exact ⟨.inr ⟨rfl, hn4, fun i hi => HA.out i (by omega)⟩, rfl⟩
end Go.Proofs.Qxb6003347a
