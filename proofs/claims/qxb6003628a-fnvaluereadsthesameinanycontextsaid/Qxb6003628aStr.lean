import Derived.Test.Qxb6003628aBytes
import Derived.Lib.IndexLaws
namespace Go.Proofs.Qxb6003628a
open Go.RowKit

theorem vint {k : IntKind} {a b : Int} (h : a = b) : Value.int k a = .int k b := by rw [h]

/-- The bytes d 0, .., d (n - 1) lie from ⟨b, off⟩ on. -/
def Row (w : World) (b off n : Nat) (d : Nat → Nat) : Prop := ∀ i, i < n → w.cell? ⟨b, off + i, none⟩ = some (.int .u8 (d i : Int))

/-- The first quote among m bytes, or -1. -/
def Idx (m : Nat) (d : Nat → Nat) (r : Int) : Prop := (r = -1 ∧ ∀ j, j < m → d j ≠ 34) ∨ ∃ k : Nat, r = k ∧ k < m ∧ d k = 34 ∧ ∀ j, j < k → d j ≠ 34

theorem idx_of (m : Nat) (d : Nat → Nat) (hd : ∀ i, i < m → d i < 256) : Idx m d (Lib.indexByte (Lib.bytesOf ((List.range m).map fun i => (d i : Int))) 34) := by
  have hg : ∀ k, (Lib.bytesOf ((List.range m).map fun i => (d i : Int)))[k]? = if k < m then some (UInt8.ofNat (d k)) else none := by
    intro k
    unfold Lib.bytesOf
    rw [List.getElem?_map, List.getElem?_map]
    by_cases h : k < m
    · rw [List.getElem?_range h, if_pos h]; simp
    · rw [if_neg h, List.getElem?_eq_none (by simp; omega)]; rfl
  have h34 : ∀ k, k < m → (UInt8.ofNat (d k) = 34 ↔ d k = 34) := by
    intro k hk
    have := hd k hk
    constructor
    · intro e
      have := congrArg UInt8.toNat e
      simp at this
      omega
    · intro e; rw [e]; rfl
  obtain ⟨r, hr⟩ : ∃ r, Lib.indexByte (Lib.bytesOf ((List.range m).map fun i => (d i : Int))) 34 = r := ⟨_, rfl⟩
  rw [hr]
  have hge : -1 ≤ r := by rw [← hr]; exact Lib.indexByte_ge _ _
  by_cases h1 : r = -1
  · left
    subst h1
    refine ⟨rfl, fun j hj e => ?_⟩
    have := Lib.indexByte_none hr j
    rw [hg, if_pos hj, (h34 j hj).2 e] at this
    exact this rfl
  · right
    obtain ⟨o, rfl⟩ : ∃ o : Nat, r = o := ⟨r.toNat, by omega⟩
    obtain ⟨a, b⟩ := Lib.indexByte_some hr
    rw [hg] at a
    by_cases ho : o < m
    · rw [if_pos ho] at a
      refine ⟨o, rfl, ho, (h34 o ho).1 (Option.some.inj a), fun j hj e => ?_⟩
      have := b j hj
      rw [hg, if_pos (by omega), (h34 j (by omega)).2 e] at this
      exact this rfl
    · rw [if_neg ho] at a; cases a

theorem idx27 (a : Addr) (m c : Nat) (d : Nat → Nat) (w : World) (hd : ∀ i, i < m → d i < 256) (hc : ∀ i, i < m → w.cell? (a.add i) = some (.int .u8 (d i : Int))) :
    Calls Try.prog 27 #[.slice (some a) m c, .int .u8 34] w fun e w' => ∃ r, e = .returned (.int .i64 r) ∧ Idx m d r ∧ w' = w := by
  have hrun := Lib.run_indexByteAt (P := Try.prog) w a m c ((List.range m).map fun i => (d i : Int)) (by simp) (fun i hi => by rw [hc i hi]; simp [List.getD, hi]) 34
  have hidx := idx_of m d hd
  go_enter Try.func27, Try.ntmps27
  go_wp2
  rw [run_callFunc_extern Try.func28 (by kernel_rfl) (by kernel_rfl) (by kernel_rfl) (e := Extern.BytealgIndexByte.indexByte) (by kernel_rfl), hrun]
  simp only [Result.andThen]
  rw [Oper.upon_value]
  go_wp2
  go_ret
  exact ⟨_, rfl, hidx, rfl⟩

set_option maxHeartbeats 1000000 in
theorem str25 (b off n c s : Nat) (d : Nat → Nat) (w : World) (hn : n ≤ c) (hc : c ≤ 4611686018427387904) (hs : s < n) (hq : d s = 34) (hd : ∀ i, i < n → d i < 256) (hr : Row w b off n d) :
    Calls Try.prog 25 #[.slice (some ⟨b, off, none⟩) n c, .int .i64 s] w fun e w' => e = .returned (.int .i64 (Plain.strEnd n d s)) ∧ w' = w := by
  go_enter Try.func25, Try.ntmps25
  go_wp2
  go_loop [5] (fun v => ∃ i : Nat, v = .int .i64 i ∧ s < i ∧ i ≤ n ∧ d (i - 1) = 34 ∧ Plain.esc n d i = Plain.strEnd n d s) (fun v => n - (intOf v).toNat)
  case atStart => exact ⟨s + 1, by go_num, by omega, by omega, by simpa using hq, rfl⟩
  case round =>
    obtain ⟨i, rfl, hsi, hin, hqi, hes⟩ := hrel
    have HQ : Hid (d (i - 1) = 34) := hqi
    have HE : Hid (Plain.esc n d i = Plain.strEnd n d s) := hes
    clear hqi hes
    by_cases hlt : i < n
    · have hci : ¬ c = i := by omega
      have hrow : ∀ t, t < n - i → w.cell? ((⟨b, off + i, none⟩ : Addr).add t) = some (.int .u8 ((fun t => d (i + t)) t : Int)) := fun t ht => by
        have := hr (i + t) (by omega)
        rw [WideShapes.add_plain, Nat.add_assoc]; exact this
      go_wp2_with (fail)
      refine (idx27 _ _ _ (fun t => d (i + t)) _ (fun t ht => hd _ (by omega)) hrow).mono ?_
      rintro e w ⟨r, rfl, hix, rfl⟩
      clear hrow
      rcases hix with ⟨rfl, hno⟩ | ⟨k, rfl, hk, hqk, hno⟩
      · have HN : Hid (n = Plain.strEnd n d s) := by
          show _ = _
          rw [← HE.out]
          exact (Plain.esc_none n d (n - i) i (Nat.le_refl _) hin (fun j a b => by have : d (i + (j - i)) ≠ 34 := hno (j - i) (by omega); rwa [show i + (j - i) = j by omega] at this)).symm
        clear hno
        go_wp2
        go_ret
        exact ⟨ret_int (by have := HN.out; omega), rfl⟩
      · obtain ⟨e, he⟩ : ∃ e, i + k = e := ⟨_, rfl⟩
        have he' : (i : Int) + (k : Int) = (e : Int) := by omega
        have HQE : Hid (d e = 34) := by show _ = _; rw [← he]; exact hqk
        have HNO : Hid (∀ j, i ≤ j → j < e → d j ≠ 34) := fun j a b => by have : d (i + (j - i)) ≠ 34 := hno (j - i) (by omega); rwa [show i + (j - i) = j by omega] at this
        have hei : i ≤ e := by omega
        have hen : e < n := by omega
        clear hqk hno he
        go_wp2
        go_loop [8, 9] (fun v8 v9 => ∃ j t : Nat, v8 = .bool (t % 2 == 1) ∧ v9 = .int .i64 j ∧ j + t + 1 = e ∧ i ≤ j + 1 ∧ ∀ m, e - t ≤ m → m < e → d m = 92) (fun _ v => (intOf v).toNat)
        case atStart => exact ⟨e - 1, 0, rfl, vint (by omega), by omega, by omega, fun m a b => by omega⟩
        case round =>
          obtain ⟨j, t, rfl, rfl, hjt, hij, hbs⟩ := hrel
          have HB : Hid (∀ m, e - t ≤ m → m < e → d m = 92) := hbs
          have HJ : Hid (j + t + 1 = e) := hjt
          have hje : j < e := by omega
          clear hbs hjt
          have hcj := hr j (by omega)
          by_cases h92 : d j = 92
          · have hji : i ≤ j := by
              by_cases h : i ≤ j
              · exact h
              · have : j = i - 1 := by omega
                rw [this, HQ.out] at h92; omega
            have hb : ((d j : Int) == 92) = true := by simp; omega
            have HB' : Hid (∀ m, e - (t + 1) ≤ m → m < e → d m = 92) := fun m a b => by
              have := HJ.out
              by_cases hm : m = j
              · rw [hm]; exact h92
              · exact HB.out m (by omega) b
            have HP : Hid ((!(t % 2 == 1)) = ((t + 1) % 2 == 1)) := by
              show _ = _
              rcases Nat.mod_two_eq_zero_or_one t with h | h
              · rw [h, show (t + 1) % 2 = 1 by omega]; rfl
              · rw [h, show (t + 1) % 2 = 0 by omega]; rfl
            clear h92 HB
            go_wp2
            go_round
            case rel => exact ⟨j - 1, t + 1, congrArg Value.bool HP.out, vint (by omega), by have := HJ.out; omega, by omega, HB'.out⟩
            case measure => simp [intOf]; omega
          · have hb : ((d j : Int) == 92) = false := by simp; omega
            have HR : Hid (Plain.strEnd n d s = if t % 2 = 0 then e + 1 else Plain.esc n d (e + 1)) := by
              show _ = _
              rw [← HE.out]
              have := HJ.out
              exact Plain.esc_run n d e hen HQE.out (e - i) i t (Nat.le_refl _) (by omega) HNO.out HB.out (fun _ => by rw [show e - t - 1 = j by omega]; exact h92)
            clear h92 HB
            rcases Nat.mod_two_eq_zero_or_one t with h | h
            · have hp : (t % 2 == 1) = false := by rw [h]; rfl
              have HR' : Hid (Plain.strEnd n d s = e + 1) := by show _ = _; rw [HR.out, if_pos h]
              clear h HR
              go_wp2
              go_ret
              exact ⟨ret_int (by have := HR'.out; omega), rfl⟩
            · have hp : (t % 2 == 1) = true := by rw [h]; rfl
              have HR' : Hid (Plain.esc n d (e + 1) = Plain.strEnd n d s) := by show _ = _; rw [HR.out, if_neg (by omega)]
              clear h HR
              go_wp2
              go_round
              case rel => exact ⟨e + 1, by go_num, by omega, by omega, by rw [Nat.add_sub_cancel]; exact HQE.out, HR'.out⟩
              case measure => simp [intOf]; omega
    · obtain rfl : i = n := by omega
      have HN : Hid (i = Plain.strEnd i d s) := by show _ = _; rw [← HE.out]; exact (Plain.esc_end _ _ _ rfl).symm
      by_cases hci : c = i
      · go_wp2_with (fail)
        refine (idx27 _ _ _ (fun _ => 0) _ (fun t ht => by omega) (fun t ht => by omega)).mono ?_
        rintro e w ⟨r, rfl, hix, rfl⟩
        rcases hix with ⟨rfl, hno⟩ | ⟨k, rfl, hk, _⟩
        · clear hno
          go_wp2
          go_ret
          exact ⟨ret_int (by have := HN.out; omega), rfl⟩
        · omega
      · go_wp2_with (fail)
        refine (idx27 _ _ _ (fun _ => 0) _ (fun t ht => by omega) (fun t ht => by omega)).mono ?_
        rintro e w ⟨r, rfl, hix, rfl⟩
        rcases hix with ⟨rfl, hno⟩ | ⟨k, rfl, hk, _⟩
        · clear hno
          go_wp2
          go_ret
          exact ⟨ret_int (by have := HN.out; omega), rfl⟩
        · omega
end Go.Proofs.Qxb6003628a
