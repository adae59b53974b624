import Derived.Test.Qxb6003628aFixed
import Derived.Test.Qxb6003628aJoin
import Derived.Test.Qxb6003628aCtx
namespace Go.Proofs.Qxb6003628a
open Go.RowKit Go.WideShapes

def UpTo (k : Nat) (v : Value) : Prop := ∃ i : Nat, v = .int .i64 i ∧ i ≤ k

def SomeBool (w : World) (e : Ending) (w' : World) : Prop := ∃ β : Bool, e = .returned (.bool β) ∧ w' = w

set_option maxHeartbeats 1000000 in
theorem zz15_any (a as' at' : Option Addr) (n c ns cs nt ct : Nat) (p : Int) (st : Bool) (w : World) (hn : n ≤ maxLen) (hns : ns ≤ maxLen) (hnt : nt ≤ maxLen) :
    Calls Try.prog 15 #[.slice a n c, .int .i64 p, .bool st, .slice as' ns cs, .slice at' nt ct] w (SomeBool w) := by
  unfold maxLen at hn hns hnt
  go_enter Try.func15, Try.ntmps15
  go_wp2
  all_goals go_ret
  all_goals exact ⟨_, rfl, rfl⟩

set_option maxHeartbeats 1000000 in
theorem zz15_true (a as' at' : Option Addr) (n c ns cs nt ct : Nat) (p : Int) (st : Bool) (w : World) (hn : n ≤ 65536) (hns : ns ≤ 65536) (hnt : nt ≤ 65536) :
    Calls Try.prog 15 #[.slice a n c, .int .i64 p, .bool st, .slice as' ns cs, .slice at' nt ct] w fun e w' => e = .returned (.bool true) ∧ w' = w := by
  go_enter Try.func15, Try.ntmps15
  go_wp2
  go_ret
  exact ⟨rfl, rfl⟩

set_option maxRecDepth 1000000 in
set_option maxHeartbeats 4000000 in
/-- Where the bounds do not hold. -/
theorem early4 (a as' at' : Option Addr) (n c ns cs nt ct : Nat) (p : Int) (st : Bool) (w : World) (hn : n ≤ maxLen) (hns : ns ≤ maxLen) (hnt : nt ≤ maxLen)
    (h : 65536 < n ∨ 65536 < ns ∨ 65536 < nt ∨ p < 0 ∨ (n : Int) < p) :
    Calls Try.prog 4 #[.slice a n c, .int .i64 p, .bool st, .slice as' ns cs, .slice at' nt ct] w fun e w' => e = .returned (.bool true) ∧ Below w.heap.size w w' := by
  have hz := zz15_any a as' at' n c ns cs nt ct p st w hn hns hnt
  unfold maxLen at hn hns hnt
  go_enter Try.func4, Try.ntmps4
  go_wp2_with (fail)
  refine hz.mono ?_
  rintro e w ⟨β, rfl, rfl⟩
  clear hz
  cases β with
  | false =>
    clear h
    go_wp2
    go_ret
    exact ⟨rfl, Below.refl _ _⟩
  | true =>
    by_cases h1 : 65536 < n
    · clear h
      go_wp2
      go_ret
      exact ⟨rfl, Below.refl _ _⟩
    by_cases h2 : 65536 < ns
    · clear h
      go_wp2
      go_ret
      exact ⟨rfl, Below.refl _ _⟩
    by_cases h3 : 65536 < nt
    · clear h
      go_wp2
      go_ret
      exact ⟨rfl, Below.refl _ _⟩
    by_cases h4 : p < 0
    · clear h
      go_wp2
      go_ret
      exact ⟨rfl, Below.refl _ _⟩
    · have h5 : (n : Int) < p := by omega
      clear h
      go_wp2
      go_ret
      exact ⟨rfl, Below.refl _ _⟩

/-- The comma's own slice. -/
theorem comma_facts (w : World) (m : Nat) {w6 : World} (h : w6 = (w.drewN m).alloc (.cells #[.int .u8 44] 5)) :
    Below w.heap.size w w6 ∧ w6.heap.size = w.heap.size + 1 ∧ Sl w6.heap.size w6 (some ⟨w.heap.size, 0, none⟩) 1 1 (fun _ => 44) := by
  have h1 : Below (w.drewN m).heap.size (w.drewN m) w6 := by rw [h]; exact (Below.refl _ _).alloc (Nat.le_refl _) _
  have h2 : w6.heap.size = (w.drewN m).heap.size + 1 := by rw [h]; simp
  have h0 : ∀ u : World, (u.alloc (.cells #[.int .u8 44] 5)).cell? ⟨u.heap.size, 0, none⟩ = some (.int .u8 44) := fun u => by simp
  have h3 : w6.cell? ⟨(w.drewN m).heap.size, 0, none⟩ = some (.int .u8 44) := by rw [h]; exact h0 _
  have h2' : w6.heap.size = w.heap.size + 1 := h2
  refine ⟨Below.undrew h1, h2', Nat.le_refl _, by omega, fun _ => ⟨_, _, rfl, by omega, fun i hi => ?_⟩, fun _ _ => by omega⟩
  have hi0 : i = 0 := by omega
  subst hi0
  exact h3

/-- What is asked of a slice that came in. -/
structure In (w : World) (a : Option Addr) (n c : Nat) (d : Nat → Nat) : Prop where
  cl : ∀ w', Below w.heap.size w w' → Calls Try.prog 10 #[.slice a n c] w' (Cp n d w')
  row : 0 < n → ∃ b off, a = some ⟨b, off, none⟩ ∧ Row w b off n d

set_option maxRecDepth 1000000 in
set_option maxHeartbeats 4000000 in
/-- Where a byte of the white space is none. -/
theorem notWs4 (a as' at' : Option Addr) (n c ns cs nt ct p k : Nat) (ds : Nat → Nat) (st : Bool) (w : World) (hn : n ≤ 65536) (hns : ns ≤ 65536) (hnt : nt ≤ 65536) (hp : p ≤ n)
    (hi : 0 < ns → ∃ b off, as' = some ⟨b, off, none⟩ ∧ Row w b off ns ds) (hk : k < ns) (hsp : Plain.isSp (ds k) = false) :
    Calls Try.prog 4 #[.slice a n c, .int .i64 p, .bool st, .slice as' ns cs, .slice at' nt ct] w fun e w' => e = .returned (.bool true) ∧ Below w.heap.size w w' := by
  have hz := zz15_true a as' at' n c ns cs nt ct p st w hn hns hnt
  obtain ⟨b, off, rfl, hr⟩ := hi (by omega)
  have HS : Hid (Plain.isSp (ds k) = false) := hsp
  clear hi hsp
  have k1 : decide ((p : Int) < 0) = false := by simp
  have k2 : decide (n < p) = false := by simp; omega
  have k3 : decide ((n : Int) < (p : Int)) = false := by simp; omega
  have k4 : decide ((65536 : Int) < (n : Int)) = false := by simp; omega
  have k5 : decide ((65536 : Int) < (ns : Int)) = false := by simp; omega
  have k6 : decide ((65536 : Int) < (nt : Int)) = false := by simp; omega
  go_enter Try.func4, Try.ntmps4
  go_wp2_with (go_at_call 15; refine hz.mono ?_; rintro e w ⟨rfl, rfl⟩)
  go_loopw [11] (fun v wr => ∃ i : Nat, v = .int .i64 i ∧ i ≤ k ∧ wr = w) (fun v _ => k - (intOf v).toNat)
  case atStart => exact ⟨0, rfl, by omega, rfl⟩
  case round =>
    obtain ⟨i, rfl, hik, rfl⟩ := hrel
    have hci := hr i (by omega)
    cases hsi : Plain.isSp (ds i) with
    | true =>
      have hne : i ≠ k := fun e => by rw [e, HS.out] at hsi; cases hsi
      go_wp2_with (go_at_call 9; refine (sp9 _ _).mono ?_; rintro e w' ⟨rfl, rfl⟩)
      go_roundw
      case rel => exact ⟨i + 1, by go_num, by omega, trivial⟩
      case measure => simp [intOf]; omega
    | false =>
      go_wp2_with (go_at_call 9; refine (sp9 _ _).mono ?_; rintro e w' ⟨rfl, rfl⟩)
      go_ret
      exact ⟨rfl, Below.refl _ _⟩
end Go.Proofs.Qxb6003628a
