import Derived.Test.Qxb6600091aSmall
import Derived.Laws.IdiomStrings
import Derived.Laws.Concat
import Derived.WalkSpells
/- b1Itoa (8), at numbers of at most nine digits. -/
namespace Go.Proofs.Qxb6600091a.sm
open Go.RowKit

/-! ### plain: the digits of u, D of them, read back -/
def dgt (u D i : Nat) : Nat := 48 + u / 10 ^ (D - 1 - i) % 10
theorem dgt_dig (u D i : Nat) : isDig (dgt u D i) := by unfold isDig dgt; omega
theorem V_dgt (u D : Nat) (hu : u < 10 ^ D) : ∀ k, k ≤ D → V (dgt u D) k = u / 10 ^ (D - k)
  | 0, _ => by simp [V]; rw [Nat.div_eq_of_lt hu]
  | k + 1, h => by
    have ih := V_dgt u D hu k (by omega)
    simp only [V]
    rw [ih]
    unfold dgt
    have e : D - k = (D - (k + 1)) + 1 := by omega
    have e2 : D - 1 - k = D - (k + 1) := by omega
    rw [e, Nat.pow_succ, ← Nat.div_div_eq_div_mul, e2]
    omega
theorem V_all (u D : Nat) (hu : u < 10 ^ D) : V (dgt u D) D = u := by
  rw [V_dgt u D hu D (Nat.le_refl _)]
  simp

/-! ### the buffer: from place m on, the digits of u -/
def Buf (wr : World) (g m u : Nat) : Prop :=
  (∀ j, j < 20 → ∃ x, wr.cell? ⟨g, j, none⟩ = some x) ∧ (∀ o, wr.frozen? ⟨g, o, none⟩ = false) ∧ ∀ j, m ≤ j → j < 20 → wr.cell? ⟨g, j, none⟩ = some (.int .u8 ((48 + u / 10 ^ (19 - j) % 10 : Nat) : Int))

theorem buf_start (w : World) (u : Nat) : Buf (w.alloc (.cells #[.int .u8 0, .int .u8 0, .int .u8 0, .int .u8 0, .int .u8 0, .int .u8 0, .int .u8 0, .int .u8 0, .int .u8 0, .int .u8 0, .int .u8 0, .int .u8 0, .int .u8 0, .int .u8 0, .int .u8 0, .int .u8 0, .int .u8 0, .int .u8 0, .int .u8 0, .int .u8 0] 34)) w.heap.size 20 u := by
  refine ⟨fun j hj => ?_, fun o => ?_, fun j h1 h2 => absurd h1 (by omega)⟩
  · refine ⟨.int .u8 0, ?_⟩
    rw [World.cell?_alloc_mark]
    have e : ∀ A : Array Value, A = Array.replicate 20 (.int .u8 0) → A[j]? = some (.int .u8 0) := fun A h => by subst h; simp [hj]
    exact e _ rfl
  · rw [World.frozen?_alloc_mark]; simp

theorem buf_step {wr : World} {g m u : Nat} (hm : m < 20) (h : Buf wr g (m + 1) u) (v : Int) (hv : v = ((48 + u / 10 ^ (19 - m) % 10 : Nat) : Int)) : Buf (wr.setCell ⟨g, m, none⟩ (.int .u8 v)) g m u := by
  have same : (wr.setCell ⟨g, m, none⟩ (.int .u8 v)).cell? ⟨g, m, none⟩ = some (.int .u8 v) := by
    obtain ⟨x, hx⟩ := h.1 m hm
    exact World.cell?_setCell_same _ _ _ hx
  have other : ∀ o, o ≠ m → (wr.setCell ⟨g, m, none⟩ (.int .u8 v)).cell? ⟨g, o, none⟩ = wr.cell? ⟨g, o, none⟩ := fun o ho =>
    World.cell?_setCell_other _ _ _ _ (by intro e; injection e with _ e; exact ho e.symm)
  refine ⟨fun j hj => ?_, fun o => by rw [World.frozen?_setCell]; exact h.2.1 o, fun j hj1 hj2 => ?_⟩
  · by_cases e : j = m
    · subst e; exact ⟨_, same⟩
    · rw [other j e]; exact h.1 j hj
  · by_cases e : j = m
    · subst e
      rw [same, hv]
    · rw [other j e]; exact h.2.2 j (by omega) hj2

/-- the digits as a string's bytes -/
def dl (u D : Nat) : List UInt8 := (List.range D).map fun i => UInt8.ofNat (dgt u D i)
theorem dl_len (u D : Nat) : (dl u D).length = D := by simp [dl]
theorem dl_at (u D i : Nat) (h : i < (dl u D).length) : (dl u D)[i].toNat = dgt u D i := by
  have := dgt_dig u D i
  unfold isDig at this
  simp [dl, UInt8.toNat_ofNat']
  omega

theorem buf_string {wr : World} {g m u : Nat} (hm : m < 20) (h : Buf wr g m u) (cap : Nat) : (convert 22 9 (.slice (some ⟨g, m, none⟩) (20 - m) cap)).run Try.prog wr = .ok (.string ⟨(dl u (20 - m)).toArray⟩) wr := by
  have := run_convert_bytes_back (P := Try.prog) wr 22 9 5 ⟨g, m, none⟩ cap (dl u (20 - m)) Try.underlying22 Try.underlying5 Try.underlying9 (fun j hj => by
    have hj' : j < 20 - m := by rw [dl_len] at hj; exact hj
    rw [Go.WideShapes.add_plain, h.2.2 (m + j) (by omega) (by omega), dl_at]
    unfold dgt
    rw [show 20 - m - 1 - j = 19 - (m + j) by omega])
  rw [dl_len] at this
  exact this

theorem len34 : Try.prog.arrayLen 34 = 20 := by kernel_rfl
theorem elem34 : Try.prog.underlying 34 = some (.array (Try.prog.arrayLen 34) (Try.prog.elem 34)) := by kernel_rfl
theorem size34 (w : World) : (sizeOf (Try.prog.elem 34)).run Try.prog w = .ok 1 w := by kernel_rfl
theorem slice_buf (g m : Nat) (hm : m < 20) (w : World) : (Instr.sliceAt 34 (.pointer (some ⟨g, 0, none⟩)) (some (.int .i64 (m : Int))) none none).run Try.prog w = .ok (.slice (some ⟨g, m, none⟩) (20 - m) (20 - m)) w := by
  rw [run_sliceAt_array_l w 34 ⟨g, 0, none⟩ elem34 .i64 (m : Int) (by omega) (by rw [len34]; omega), size34, len34]
  simp only [Result.andThen, slicedAt, Int.toNat_natCast, Nat.mul_one]
  rw [if_neg (by omega), Go.WideShapes.add_plain, Nat.zero_add]

/-- what the loop holds: place m + 1, the rest z of u -/
def Rest (u m z : Nat) : Prop := z = u / 10 ^ (19 - m) ∧ (m = 19 ∨ 0 < z)
theorem rest_next {u m z : Nat} (hm : m ≤ 19) (hu : u < 1000000000) (h : Rest u m z) (hz : z / 10 ≠ 0) : ∃ m', m = m' + 1 ∧ Rest u m' (z / 10) := by
  obtain ⟨h1, _⟩ := h
  have hpos : 0 < m := by
    rcases Nat.eq_zero_or_pos m with rfl | h
    · exfalso
      have e : u / 10 ^ (19 - 0) = 0 := Nat.div_eq_of_lt (Nat.lt_of_lt_of_le hu (by decide))
      rw [e] at h1
      subst h1
      simp at hz
    · exact h
  obtain ⟨m', rfl⟩ : ∃ m', m = m' + 1 := ⟨m - 1, by omega⟩
  refine ⟨m', rfl, ?_, .inr (by omega)⟩
  rw [h1, show 19 - m' = (19 - (m' + 1)) + 1 by omega, Nat.pow_succ, Nat.div_div_eq_div_mul]
theorem rest_end {u m z : Nat} (hm : m ≤ 19) (hu : u < 1000000000) (h : Rest u m z) (hz : z / 10 = 0) : u < 10 ^ (20 - m) ∧ 20 - m ≤ 9 := by
  obtain ⟨h1, h2⟩ := h
  constructor
  · have e : u / 10 ^ (20 - m) = 0 := by
      rw [show 20 - m = (19 - m) + 1 by omega, Nat.pow_succ, ← Nat.div_div_eq_div_mul, ← h1]; exact hz
    exact (Nat.div_eq_zero_iff_lt (Nat.pow_pos (by omega))).1 e
  · rcases h2 with rfl | h2
    · omega
    · rw [h1] at h2
      have hle : 10 ^ (19 - m) ≤ u := by
        rcases Nat.lt_or_ge u (10 ^ (19 - m)) with h | h
        · rw [Nat.div_eq_of_lt h] at h2; omega
        · exact h
      rcases Nat.lt_or_ge (19 - m) 9 with h | h
      · omega
      · exfalso
        have : 10 ^ 9 ≤ 10 ^ (19 - m) := Nat.pow_le_pow_right (by omega) h
        have e9 : (10 : Nat) ^ 9 = 1000000000 := by decide
        omega
theorem rest_dig {u m z : Nat} (h : Rest u m z) : (48 + (z : Int) % 10) = ((48 + u / 10 ^ (19 - m) % 10 : Nat) : Int) := by
  rw [← h.1]; omega

/-- the text of v: its digits, behind a minus where v is negative -/
def Txt (v : Int) (s : ByteArray) : Prop := ∃ D, 1 ≤ D ∧ D ≤ 9 ∧ v.natAbs < 10 ^ D ∧ s.data.toList = if v < 0 then 45 :: dl v.natAbs D else dl v.natAbs D

theorem txt_pos {u D : Nat} {s : ByteArray} (h1 : 1 ≤ D) (h9 : D ≤ 9) (hu : u < 10 ^ D) (hs : s.data.toList = dl u D) : Txt (u : Int) s :=
  ⟨D, h1, h9, by simpa using hu, by rw [if_neg (by omega), hs]; simp⟩
theorem txt_neg {u D : Nat} {s : ByteArray} (h0 : 1 ≤ u) (h1 : 1 ≤ D) (h9 : D ≤ 9) (hu : u < 10 ^ D) (hs : s.data.toList = dl u D) : Txt (-(u : Int)) (⟨#[45]⟩ ++ s) :=
  ⟨D, h1, h9, by simpa using hu, by rw [if_pos (by omega), ByteArray.data_append, Array.toList_append, hs]; simp⟩

set_option maxHeartbeats 400000 in
theorem itoa_pos (u : Nat) (w : World) (hu : u < 1000000000) :
    Calls Try.prog 8 #[.int .i64 (u : Int)] w fun e w' => ∃ s : ByteArray, e = .returned (.string s) ∧ Txt u s ∧ Below w.heap.size w w' := by
  go_enter Try.func8, Try.ntmps8
  go_wp2
  go_loopw [3, 5] (fun n i wr => ∃ m z : Nat, m ≤ 19 ∧ i = .int .i64 ((m : Int) + 1) ∧ n = .int .u64 z ∧ z ≤ 1000000000 ∧ Hid (Rest u m z) ∧ Hid (Buf wr w.heap.size (m + 1) u) ∧ Below w.heap.size w wr ∧ w.heap.size < wr.heap.size) (fun n _ _ => (intOf n).toNat)
  case atStart => exact ⟨19, u, by omega, rfl, by go_num, by omega, ⟨by simp, .inl rfl⟩, buf_start w u, (Below.refl _ _).alloc (Nat.le_refl _) _, by simp⟩
  case round =>
    obtain ⟨m, z, hm, rfl, rfl, hz1, HZ, HB, hbel, hsz⟩ := hrel
    obtain ⟨x, hx⟩ := HB.out.1 m (by omega)
    have hfz := HB.out.2.1 m
    have R : Hid (Buf (wr.setCell ⟨w.heap.size, m, none⟩ (.int .u8 (48 + (z : Int) % 10))) w.heap.size m u) := buf_step (by omega) HB.out _ (rest_dig HZ.out)
    have R2 : Hid (Below w.heap.size w (wr.setCell ⟨w.heap.size, m, none⟩ (.int .u8 (48 + (z : Int) % 10)))) := hbel.setCell (p := ⟨w.heap.size, m, none⟩) (Nat.le_refl _) _
    have hcv := buf_string (by omega) R.out
    have hsl := slice_buf w.heap.size m (by omega)
    clear hbel HB
    by_cases hz0 : z / 10 = 0
    · have hq : ((z : Int) / 10 == 0) = true := by simp; omega
      have hE := rest_end hm hu HZ.out hz0
      have HE : Hid (u < 10 ^ (20 - m) ∧ 20 - m ≤ 9) := hE
      have hm11 : 11 ≤ m := by omega
      clear hE
      obtain ⟨s, hs⟩ : ∃ s, s = (⟨(dl u (20 - m)).toArray⟩ : ByteArray) := ⟨_, rfl⟩
      rw [← hs] at hcv
      have hsd : s.data.toList = dl u (20 - m) := by rw [hs]
      have hss : s.size = 20 - m := by rw [hs]; show (dl u (20 - m)).toArray.size = _; simp [dl_len]
      have TXT : Hid (Txt (u : Int) s) := txt_pos (by omega) HE.out.2 HE.out.1 hsd
      clear hss
      clear hz0 hs hsd
      go_wp2
      go_ret
      exact ⟨_, rfl, TXT.out, R2.out⟩
    · have hq : ((z : Int) / 10 == 0) = false := by simp; omega
      go_wp2
      go_roundw
      case rel =>
        obtain ⟨m', rfl, hR⟩ := rest_next hm hu HZ.out hz0
        exact ⟨m', z / 10, by omega, by go_num, by go_num, by omega, hR, R, R2.out, by simpa [World.setCell] using hsz⟩
      case measure => simp [intOf]; omega

set_option maxHeartbeats 400000 in
theorem itoa_neg (u : Nat) (w : World) (h1 : 1 ≤ u) (hu : u < 1000000000) :
    Calls Try.prog 8 #[.int .i64 (-(u : Int))] w fun e w' => ∃ s : ByteArray, e = .returned (.string s) ∧ Txt (-(u : Int)) s ∧ Below w.heap.size w w' := by
  go_enter Try.func8, Try.ntmps8
  go_wp2
  go_loopw [3, 5] (fun n i wr => ∃ m z : Nat, m ≤ 19 ∧ i = .int .i64 ((m : Int) + 1) ∧ n = .int .u64 z ∧ z ≤ 1000000000 ∧ Hid (Rest u m z) ∧ Hid (Buf wr w.heap.size (m + 1) u) ∧ Below w.heap.size w wr ∧ w.heap.size < wr.heap.size) (fun n _ _ => (intOf n).toNat)
  case atStart => exact ⟨19, u, by omega, rfl, by go_num, by omega, ⟨by simp, .inl rfl⟩, buf_start w u, (Below.refl _ _).alloc (Nat.le_refl _) _, by simp⟩
  case round =>
    obtain ⟨m, z, hm, rfl, rfl, hz1, HZ, HB, hbel, hsz⟩ := hrel
    obtain ⟨x, hx⟩ := HB.out.1 m (by omega)
    have hfz := HB.out.2.1 m
    have R : Hid (Buf (wr.setCell ⟨w.heap.size, m, none⟩ (.int .u8 (48 + (z : Int) % 10))) w.heap.size m u) := buf_step (by omega) HB.out _ (rest_dig HZ.out)
    have R2 : Hid (Below w.heap.size w (wr.setCell ⟨w.heap.size, m, none⟩ (.int .u8 (48 + (z : Int) % 10)))) := hbel.setCell (p := ⟨w.heap.size, m, none⟩) (Nat.le_refl _) _
    have hcv := buf_string (by omega) R.out
    have hsl := slice_buf w.heap.size m (by omega)
    clear hbel HB
    by_cases hz0 : z / 10 = 0
    · have hq : ((z : Int) / 10 == 0) = true := by simp; omega
      have hE := rest_end hm hu HZ.out hz0
      have HE : Hid (u < 10 ^ (20 - m) ∧ 20 - m ≤ 9) := hE
      have hm11 : 11 ≤ m := by omega
      clear hE
      obtain ⟨s, hs⟩ : ∃ s, s = (⟨(dl u (20 - m)).toArray⟩ : ByteArray) := ⟨_, rfl⟩
      rw [← hs] at hcv
      have hsd : s.data.toList = dl u (20 - m) := by rw [hs]
      have hss : s.size = 20 - m := by rw [hs]; show (dl u (20 - m)).toArray.size = _; simp [dl_len]
      have TXT : Hid (Txt (-(u : Int)) (⟨#[45]⟩ ++ s)) := txt_neg h1 (by omega) HE.out.2 HE.out.1 hsd
      have ha1 : ∀ w, (Op.stringOp .add (⟨#[45]⟩ : ByteArray) s).run Try.prog w = .ok (.string (⟨#[45]⟩ ++ s)) w := fun w => run_string_add_sum w _ _ (by have : (⟨#[45]⟩ : ByteArray).size = 1 := rfl; omega)
      clear hz0 hs hsd
      go_wp2
      go_ret
      exact ⟨_, rfl, TXT.out, R2.out⟩
    · have hq : ((z : Int) / 10 == 0) = false := by simp; omega
      go_wp2
      go_roundw
      case rel =>
        obtain ⟨m', rfl, hR⟩ := rest_next hm hu HZ.out hz0
        exact ⟨m', z / 10, by omega, by go_num, by go_num, by omega, hR, R, R2.out, by simpa [World.setCell] using hsz⟩
      case measure => simp [intOf]; omega
end Go.Proofs.Qxb6600091a.sm
