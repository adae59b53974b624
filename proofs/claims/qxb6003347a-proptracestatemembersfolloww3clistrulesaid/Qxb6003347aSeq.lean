import Derived.Test.Qxb6003347aIter
namespace Go.Proofs.Qxb6003347a
open Go.RowKit Go.Shelf
attribute [local go_sem] Oper.semAt_some

set_option maxHeartbeats 800000 in
theorem lm13_none (p : ByteArray) (w : World) :
    Calls Try.prog 13 #[.slice none 0 0, .string p] w fun e w' => e = .returned (.slice none 0 0) ∧ w' = w := by
  go_enter Try.func13, Try.ntmps13
  go_wp2
  refine wp_loop_rounds 1 ?_
  rw [rounds_succ]
  go_wp2
  go_ret
  exact ⟨rfl, rfl⟩

theorem tsm28 (a : Option Addr) (n c : Nat) (p : ByteArray) (w : World) :
    Calls Try.prog 28 #[.slice a n c, .string p] w fun e w' => e = .returned (.func (.func 37) #[] #[.pointer (some ⟨w.heap.size, 0, none⟩), .pointer (some ⟨w.heap.size + 1, 0, none⟩)]) ∧
      w' = (w.alloc (.cells #[.slice a n c] 36)).alloc (.cells #[.string p] 9) := by
  go_enter Try.func28, Try.ntmps28
  go_wp2
  go_ret
  exact ⟨rfl, rfl⟩

theorem tsm14 (a : Option Addr) (n c : Nat) (p : ByteArray) (w : World) :
    Calls Try.prog 14 #[.slice a n c, .string p] w fun e w' => e = .returned (.func (.func 37) #[] #[.pointer (some ⟨w.heap.size, 0, none⟩), .pointer (some ⟨w.heap.size + 1, 0, none⟩)]) ∧
      w' = (w.alloc (.cells #[.slice a n c] 36)).alloc (.cells #[.string p] 9) := by
  go_enter Try.func14, Try.ntmps14
  go_wp2_with (go_at_call 28; refine (tsm28 _ _ _ _ _).mono ?_; rintro e w' ⟨rfl, rfl⟩)
  go_ret
  exact ⟨rfl, rfl⟩

set_option maxRecDepth 100000 in
set_option maxHeartbeats 1000000 in
theorem it37_nil (n l Bs Bp : Nat) (J : List ByteArray → World → Prop) (W : World) (hBs : W.cell? ⟨Bs, 0, none⟩ = some (.slice none 0 0)) (h0 : J [] W) :
    CallsIn Fence.wide n Try.prog 37 #[.func (.yield l) #[] #[], .pointer (some ⟨Bs, 0, none⟩), .pointer (some ⟨Bp, 0, none⟩)] W fun e W' => (∃ v, e = .returned v) ∧ J [] W' := by
  refine callsIn_of_wp Try.func37 rfl trivial ?_ rfl
  simp only [Try.ntmps37, List.size_toArray, List.length_cons, List.length_nil, Nat.reduceAdd, Nat.reduceSub, Array.replicate_succ, Array.replicate_zero, List.push_toArray, List.append_toArray, List.nil_append, List.cons_append]
  gi_wp2
  gi_loopw [10] (fun i wr => i = .int .i64 0 ∧ J [] wr) (fun _ _ => 0)
  case atStart => exact ⟨rfl, h0⟩
  case round =>
    obtain ⟨rfl, hJs⟩ := hrel
    gi_wp2
    go_end0
    exact ⟨⟨_, rfl⟩, hJs⟩

/-- The fields as the iterator finds them: nil and none; or a row of strings. -/
def Fields (n₁ c1 c2 : Nat) (W : World) (sv : Value) (ss : List ByteArray) : Prop :=
  (sv = .slice none 0 0 ∧ ss = []) ∨ ∃ b cap, sv = .slice (some ⟨b, 0, none⟩) ss.length cap ∧ (b < n₁ ∧ b ≠ c1 ∧ b ≠ c2) ∧ ss.length ≤ 4096 ∧ (∀ i, i < ss.length → (ss.getD i ByteArray.empty).size ≤ 4096) ∧
    ∀ i, i < ss.length → W.cell? ⟨b, 0 + i, none⟩ = some (.string (ss.getD i ByteArray.empty))

theorem it37_stops (n : Nat) (hn : 1 ≤ n) (Bs Bp n₁ c1 c2 : Nat) (sv : Value) (ss : List ByteArray) (p : ByteArray) (m : Int) (hP : Plain.Clean (bl p)) (w : World) (hn₁ : n₁ = w.heap.size)
    (hbs : Bs < n₁) (hbp : Bp < n₁ ∧ Bp ≠ c1 ∧ Bp ≠ c2) (hb0 : 0 < n₁ ∧ 0 ≠ c1 ∧ 0 ≠ c2)
    (hBs : w.cell? ⟨Bs, 0, none⟩ = some sv) (hBp : w.cell? ⟨Bp, 0, none⟩ = some (.string p)) (hm : w.cell? ⟨0, 0, none⟩ = some (.int .i64 m)) (hF : Fields n₁ c1 c2 w sv ss) :
    SeqStopsK Fence.wide n Try.prog 37 #[.pointer (some ⟨Bs, 0, none⟩), .pointer (some ⟨Bp, 0, none⟩)] (fun x : ByteArray => #[Value.string x]) (Kept n₁ c1 c2)
      (fun ys => ys.map bl = Plain.LM (bl p) (ss.map bl)) (fun pre => pre.map bl <+: Plain.LM (bl p) (ss.map bl)) (Plain.LM (bl p) (ss.map bl)).length w := fun l J Jx W hW _ _ hY h0 => by
  subst hn₁
  have hBs' := (hW.cell (p := ⟨Bs, 0, none⟩) hbs).trans hBs
  have hBp' := (hW.cell (p := ⟨Bp, 0, none⟩) hbp.1).trans hBp
  have hm' := (hW.cell (p := ⟨0, 0, none⟩) hb0.1).trans hm
  rcases hF with ⟨rfl, rfl⟩ | ⟨b, cap, rfl, hb, hl, hz, hc⟩
  · exact (it37_nil n l Bs Bp J W hBs' h0).mono fun e W' ⟨he, hj⟩ => ⟨he, .inl ⟨[], rfl, hj⟩⟩
  · exact it37 n hn l Bs Bp _ c1 c2 b 0 ss.length cap ss p m _ rfl rfl hl hz hP hb hbp hb0 J Jx hY W hBs' hBp' hm' (fun i hi => (hW.cell (p := ⟨b, 0 + i, none⟩) hb.1).trans (hc i hi)) h0
end Go.Proofs.Qxb6003347a
