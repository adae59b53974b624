import Derived.Test.Qxb6003628aOps
namespace Go.Proofs.Qxb6003628a
open Go.RowKit Go.WideShapes

theorem Sl.pre {B : Nat} {W : World} {a : Option Addr} {n c : Nat} {d : Nat → Nat} (h : Sl B W a n c d) {e : Nat} (he : e ≤ n) : Sl B W a e c d :=
  ⟨Nat.le_trans he h.nc, h.cb, fun h0 => by obtain ⟨b, off, e', hlt, hr⟩ := h.row (by omega); exact ⟨b, off, e', hlt, fun i hi => hr i (by omega)⟩, fun i hi => h.byt i (by omega)⟩

set_option maxHeartbeats 1000000 in
theorem clone10_none (c : Nat) (w : World) : Calls Try.prog 10 #[.slice none 0 c] w fun e w' => e = .returned (.slice none 0 0) ∧ w' = w := by
  have q22 : ∀ (w : World) (a : Option Addr) (n c : Nat), (binOp .eql 22 (.slice a n c) (.slice none 0 0)).run Try.prog w = .ok (.bool a.isNone) w := fun w a n c => by
    simp only [binOp]; simp [run_equal_slice_nil w 22 5 a n c Try.underlying22]
  go_enter Try.func10, Try.ntmps10
  go_wp2
  go_ret
  exact ⟨rfl, rfl⟩

/-- A copy was made, or the slice was nil. -/
def Cp (n : Nat) (d : Nat → Nat) (W : World) (e : Ending) (W' : World) : Prop :=
  ∃ a', e = .returned (.slice a' n n) ∧ Sl W'.heap.size W' a' n n d ∧ Below W.heap.size W W'

theorem cloneS (B : Nat) (a : Option Addr) (n c : Nat) (d : Nat → Nat) (W : World) (h : Sl B W a n c d) (hnil : a = none → n = 0) :
    Calls Try.prog 10 #[.slice a n c] W (Cp n d W) := by
  have hb := Nat.le_trans h.nc h.cb
  cases a with
  | none =>
    obtain rfl := hnil rfl
    exact (clone10_none c W).mono fun e w' ⟨h1, h2⟩ => ⟨none, h1, Sl.empty _ _ _ _ _ (by omega), by rw [h2]; exact Below.refl _ _⟩
  | some x =>
    have hr : RowAt W x n d := by
      by_cases h0 : 0 < n
      · obtain ⟨b, off, e, _, hr⟩ := h.row h0
        cases e
        exact hr.at
      · exact fun i hi => by omega
    exact (clone10_some x n c d W hb hr).mono fun e w' ⟨h1, h2, h3, h4⟩ => ⟨_, h1, ⟨Nat.le_refl _, hb, fun _ => ⟨_, _, rfl, h4, h2⟩, h.byt⟩, h3⟩

/-- What Value hands back, told by slices. -/
def ValS (bw : Nat) (W : World) (d : Nat → Nat) (q E L : Nat) (r : Ending) (W' : World) : Prop :=
  ∃ av cv, r = .returned (.slice av L cv) ∧ Sl bw W' av L cv (fun t => d (q + t)) ∧ Mv bw W W' E

theorem valueS (bw : Nat) (a : Option Addr) (n c p : Nat) (d : Nat → Nat) (W : World) (hw : Wa bw W a n c p) (hs : Sl bw W a n c d) (hp : p ≤ n) (q E L : Nat)
    (hq : Hid (Plain.skip n d p = q)) (hE : Hid (Plain.valEnd n d q = E)) (hL : E = q + L) :
    Calls Try.prog 16 #[.pointer (some ⟨bw, 0, none⟩)] W (ValS bw W d q E L) := by
  have hcb := hs.cb
  have hnc := hs.nc
  by_cases h0 : n = 0
  · subst h0
    have hp0 : p = 0 := by omega
    subst hp0
    have hq0 : q = 0 := by rw [← hq.out]; exact Plain.find_end _ _ _ _ (Nat.le_refl _)
    subst hq0
    have hE0 : E = 0 := by have := Plain.valEnd_bounds 0 d 0 (Nat.le_refl _); rw [hE.out] at this; omega
    subst hE0
    have hL0 : L = 0 := by omega
    subst hL0
    refine (val16_none bw c a W hw.w0 hw.w1).mono fun e W' h => ?_
    obtain ⟨⟨av, rfl⟩, m, rfl⟩ := h
    exact ⟨av, c, rfl, Sl.empty _ _ _ _ _ hcb, (Mv.refl hw.w1 hw.wf).drewN m⟩
  · obtain ⟨b, off, rfl, hb, hr⟩ := hs.row (by omega)
    have hk : Wk bw W b off n c p d := ⟨hw.w0, hw.w1, hw.wf, by omega, hp, hnc, hcb, hr⟩
    have hbo := Plain.skip_spec n d p hp
    rw [hq.out] at hbo
    have hvb := Plain.valEnd_bounds n d q hbo.2.1
    rw [hE.out] at hvb
    have key : Calls Try.prog 16 #[.pointer (some ⟨bw, 0, none⟩)] W (Val bw W b off q E) := by
      by_cases hqn : q < n
      · by_cases h34 : d q = 34
        · exact val16_str bw b off n c p q d W hk hs.byt hq hqn h34 E ((Plain.valEnd_str n d q hqn h34).1.symm.trans hE.out)
        · cases hop : Plain.isOpen (d q) with
          | true => exact val16_brk bw b off n c p q d W hk hs.byt hq hqn hop E ((Plain.valEnd_brk n d q hqn hop).1.symm.trans hE.out)
          | false => exact val16_atom bw b off n c p q d W hk hq hqn h34 hop E ((Plain.valEnd_atom n d q hqn h34 hop).symm.trans hE.out)
      · have hqn' : q = n := by omega
        subst hqn'
        have hE' : E = q := by omega
        rw [hE']
        exact val16_end bw b off q c p d W hk hq
    refine key.mono fun e W' h => ?_
    obtain ⟨av, cv, rfl, hav, h1, h2, hmv⟩ := h
    have hl : E - q = L := by omega
    rw [hl] at h1 ⊢
    refine ⟨av, cv, rfl, ⟨h1, h2, fun hl0 => ⟨b, off + q, hav (by omega), hb, fun i hi => ?_⟩, fun i hi => hs.byt _ (by omega)⟩, hmv⟩
    rw [Nat.add_assoc]
    exact hmv.row (by omega) hr (q + i) (by omega)

theorem skipS (B : Nat) (a : Option Addr) (n c p : Nat) (d : Nat → Nat) (W : World) (hs : Sl B W a n c d) (hp : p ≤ n) (q : Nat) (hq : Hid (Plain.skip n d p = q)) :
    Calls Try.prog 17 #[.slice a n c, .int .i64 p] W fun e w' => e = .returned (.int .i64 q) ∧ w' = W := by
  have hb := Nat.le_trans hs.nc hs.cb
  by_cases h0 : n = 0
  · subst h0
    have hp0 : p = 0 := by omega
    subst hp0
    have hq0 : q = 0 := by rw [← hq.out]; exact Plain.find_end _ _ _ _ (Nat.le_refl _)
    subst hq0
    exact skip17_none a c W
  · obtain ⟨b, off, rfl, _, hr⟩ := hs.row (by omega)
    have := skip17_some b off n c p d W hb hp hr
    rw [hq.out] at this
    exact this

def SameS (W : World) (e : Ending) (W' : World) : Prop := e = .returned (.bool true) ∧ ∃ m, W' = W.drewN m

theorem sameS (B B' : Nat) (a a' : Option Addr) (n c c' : Nat) (d d' : Nat → Nat) (W : World) (hs : Sl B W a n c d) (hs' : Sl B' W a' n c' d') (hd : ∀ t, t < n → d' t = d t) :
    Calls Try.prog 20 #[.slice a n c, .slice a' n c'] W (SameS W) := by
  have hb := Nat.le_trans hs.nc hs.cb
  by_cases h0 : n = 0
  · subst h0
    exact same20_none a a' c c' W
  · obtain ⟨b, off, rfl, _, hr⟩ := hs.row (by omega)
    obtain ⟨b', off', rfl, _, hr'⟩ := hs'.row (by omega)
    exact same20_some b off b' off' n c c' d W hb hr (fun i hi => by rw [← hd i hi]; exact hr' i hi)

/-- A walker laid anew over a slice. -/
theorem Sl.walker {W : World} {a : Option Addr} {n c : Nat} {d : Nat → Nat} (h : Sl W.heap.size W a n c d) (o : Obj) : Sl W.heap.size (W.alloc o) a n c d ∧ Below W.heap.size W (W.alloc o) ∧ (W.alloc o).heap.size = W.heap.size + 1 :=
  have hb : Below W.heap.size W (W.alloc o) := (Below.refl _ _).alloc (Nat.le_refl _) o
  ⟨h.below hb (Nat.le_refl _), hb, by simp⟩
end Go.Proofs.Qxb6003628a
