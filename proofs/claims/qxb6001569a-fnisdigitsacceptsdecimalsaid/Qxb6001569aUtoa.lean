import Derived.Test.Qxb6001569aRows
import Derived.WalkKit
import Derived.WalkLawsBesides
import Derived.Laws.IdiomStrings
import Derived.Lib.AppendStr
import Derived.Laws.Concat
import Derived.Deep.Slices
/- isDigits (10), ZZisDigits (7), zzUtoaB1 (8). -/
namespace Go.Proofs.Qxb6001569a.dg
open Go.RowKit

/-- every byte is an ASCII digit -/
def Digs (s : ByteArray) : Prop := ∀ b ∈ s.data.toList, 48 ≤ b.toNat ∧ b.toNat ≤ 57
theorem digs_at {s : ByteArray} (h : Digs s) (k : Nat) (hk : k < s.size) : 48 ≤ s[k].toNat ∧ s[k].toNat ≤ 57 :=
  h _ (List.getElem_mem (l := s.data.toList) (n := k) (by simpa using hk))

set_option maxHeartbeats 400000 in
theorem digits_yes (s : ByteArray) (w : World) (hs : s.size ≤ maxLen) (hp : 0 < s.size) (hd : Digs s) :
    Calls Try.prog 10 #[.string s] w fun e w' => e = .returned (.bool true) ∧ w = w' := by
  unfold maxLen at hs
  have HD : Hid (Digs s) := hd
  clear hd
  go_enter Try.func10, Try.ntmps10
  go_wp2
  go_loop [3] (fun i => ∃ k : Nat, k ≤ s.size ∧ i = .int .i64 k) (fun i => s.size - (intOf i).toNat)
  case atStart => exact ⟨0, Nat.zero_le _, rfl⟩
  case round =>
    obtain ⟨k, hk, rfl⟩ := hrel
    by_cases hlt : k < s.size
    · go_wp2
      · exfalso; have h := digs_at HD.out k hlt; omega
      · go_round
        case rel => exact ⟨k + 1, by omega, by go_num⟩
        case measure => simp [intOf]; omega
      · exfalso; have h := digs_at HD.out k hlt; omega
    · have he : s.toList.isEmpty = false := by
        rw [Go.ByteArray.toList_eq, List.isEmpty_eq_false_iff_exists_mem]
        have : s.data.toList.length ≠ 0 := by rw [Array.length_toList]; show s.size ≠ 0; omega
        exact List.exists_mem_of_length_pos (by omega)
      go_wp2
      go_ret
      exact ⟨rfl, rfl⟩

set_option maxHeartbeats 400000 in
/-- the first byte lies below the digits: refused -/
theorem digits_no (s : ByteArray) (w : World) (hs : s.size ≤ maxLen) (hp : 0 < s.size) (hd : s[0].toNat < 48) :
    Calls Try.prog 10 #[.string s] w fun e w' => e = .returned (.bool false) ∧ w = w' := by
  unfold maxLen at hs
  have hp' : (0 : Int) < (s.size : Int) := by omega
  have hd' : ((s[0].toNat : Nat) : Int) < 48 := by omega
  go_enter Try.func10, Try.ntmps10
  go_wp2
  refine wp_loop_rounds 1 ?_
  rw [rounds_succ]
  go_wp2
  go_ret
  exact ⟨rfl, rfl⟩

theorem zz_yes (s : ByteArray) (w : World) (hs : s.size ≤ maxLen) (hp : 0 < s.size) (hd : Digs s) :
    Calls Try.prog 7 #[.string s] w fun e w' => e = .returned (.bool true) ∧ w = w' := by
  have HD : Hid (Digs s) := hd
  clear hd
  go_enter Try.func7, Try.ntmps7
  go_wp2_with (go_at_call 10; refine (digits_yes _ _ hs hp HD.out).mono ?_; rintro e w' ⟨rfl, rfl⟩)
  go_ret
  exact ⟨rfl, rfl⟩
theorem zz_no (s : ByteArray) (w : World) (hs : s.size ≤ maxLen) (hp : 0 < s.size) (hd : s[0].toNat < 48) :
    Calls Try.prog 7 #[.string s] w fun e w' => e = .returned (.bool false) ∧ w = w' := by
  have HD : Hid (s[0].toNat < 48) := hd
  clear hd
  go_enter Try.func7, Try.ntmps7
  go_wp2_with (go_at_call 10; refine (digits_no _ _ hs hp HD.out).mono ?_; rintro e w' ⟨rfl, rfl⟩)
  go_ret
  exact ⟨rfl, rfl⟩

/-- the buffer at block g: from place m on, digits -/
def Buf (wr : World) (g m : Nat) : Prop :=
  (∀ j, j < 20 → ∃ u, wr.cell? ⟨g, j, none⟩ = some u) ∧ (∀ o, wr.frozen? ⟨g, o, none⟩ = false) ∧ ∀ j, m ≤ j → j < 20 → ∃ d : UInt8, 48 ≤ d.toNat ∧ d.toNat ≤ 57 ∧ wr.cell? ⟨g, j, none⟩ = some (.int .u8 (d.toNat : Int))

theorem buf_start (w : World) : Buf (w.alloc (.cells #[.int .u8 0, .int .u8 0, .int .u8 0, .int .u8 0, .int .u8 0, .int .u8 0, .int .u8 0, .int .u8 0, .int .u8 0, .int .u8 0, .int .u8 0, .int .u8 0, .int .u8 0, .int .u8 0, .int .u8 0, .int .u8 0, .int .u8 0, .int .u8 0, .int .u8 0, .int .u8 0] 29)) w.heap.size 20 := by
  refine ⟨fun j hj => ?_, fun o => ?_, fun j h1 h2 => absurd h1 (by omega)⟩
  · refine ⟨.int .u8 0, ?_⟩
    rw [World.cell?_alloc_mark]
    have e : ∀ A : Array Value, A = Array.replicate 20 (.int .u8 0) → A[j]? = some (.int .u8 0) := fun A h => by subst h; simp [hj]
    exact e _ rfl
  · rw [World.frozen?_alloc_mark]; simp

theorem buf_step {wr : World} {g m : Nat} (hm : m < 20) (h : Buf wr g (m + 1)) (v : Int) (d : UInt8) (hv : v = (d.toNat : Int)) (h1 : 48 ≤ d.toNat) (h2 : d.toNat ≤ 57) : Buf (wr.setCell ⟨g, m, none⟩ (.int .u8 v)) g m := by
  have same : (wr.setCell ⟨g, m, none⟩ (.int .u8 v)).cell? ⟨g, m, none⟩ = some (.int .u8 v) := by
    obtain ⟨u, hu⟩ := h.1 m hm
    exact World.cell?_setCell_same _ _ _ hu
  have other : ∀ o, o ≠ m → (wr.setCell ⟨g, m, none⟩ (.int .u8 v)).cell? ⟨g, o, none⟩ = wr.cell? ⟨g, o, none⟩ := fun o ho =>
    World.cell?_setCell_other _ _ _ _ (by intro e; injection e with _ e; exact ho e.symm)
  refine ⟨fun j hj => ?_, fun o => by rw [World.frozen?_setCell]; exact h.2.1 o, fun j hj1 hj2 => ?_⟩
  · by_cases e : j = m
    · subst e; exact ⟨_, same⟩
    · rw [other j e]; exact h.1 j hj
  · by_cases e : j = m
    · subst e
      exact ⟨d, h1, h2, by rw [same, hv]⟩
    · rw [other j e]; exact h.2.2 j (by omega) hj2

/-- the bytes from place m on, as one string -/
theorem buf_string {wr : World} {g m : Nat} (hm : m < 20) (h : Buf wr g m) : ∃ s : ByteArray, s.size = 20 - m ∧ Digs s ∧
    ∀ cap, (convert 26 9 (.slice (some ⟨g, m, none⟩) (20 - m) cap)).run Try.prog wr = .ok (.string s) wr := by
  have key : ∀ i, i < 20 - m → ∃ d : UInt8, 48 ≤ d.toNat ∧ d.toNat ≤ 57 ∧ wr.cell? ⟨g, m + i, none⟩ = some (.int .u8 (d.toNat : Int)) := fun i hi => h.2.2 (m + i) (by omega) (by omega)
  obtain ⟨f, hf⟩ := Go.Deep.choose_lt key
  have hlen : ((List.range (20 - m)).map f).length = 20 - m := by simp
  refine ⟨⟨((List.range (20 - m)).map f).toArray⟩, ?_, fun b hb => ?_, fun cap => ?_⟩
  · show (((List.range (20 - m)).map f).toArray).size = _
    simp
  · have hb' : b ∈ (List.range (20 - m)).map f := by simpa using hb
    obtain ⟨k, hk, rfl⟩ := List.mem_map.1 hb'
    exact ⟨(hf k (List.mem_range.1 hk)).1, (hf k (List.mem_range.1 hk)).2.1⟩
  · have := run_convert_bytes_back (P := Try.prog) wr 26 9 5 ⟨g, m, none⟩ cap ((List.range (20 - m)).map f) Try.underlying26 Try.underlying5 Try.underlying9 (fun j hj => by
      have hj' : j < 20 - m := by simpa using hj
      rw [Go.WideShapes.add_plain]
      simp only [List.getElem_map, List.getElem_range]
      exact (hf j hj').2.2)
    rw [hlen] at this
    exact this

theorem len29 : Try.prog.arrayLen 29 = 20 := by kernel_rfl
theorem elem29 : Try.prog.underlying 29 = some (.array (Try.prog.arrayLen 29) (Try.prog.elem 29)) := by kernel_rfl
theorem size29 (w : World) : (sizeOf (Try.prog.elem 29)).run Try.prog w = .ok 1 w := by kernel_rfl
theorem slice_buf (g m : Nat) (hm : m < 20) (w : World) : (Instr.sliceAt 29 (.pointer (some ⟨g, 0, none⟩)) (some (.int .i64 (m : Int))) none none).run Try.prog w = .ok (.slice (some ⟨g, m, none⟩) (20 - m) (20 - m)) w := by
  rw [run_sliceAt_array_l w 29 ⟨g, 0, none⟩ elem29 .i64 (m : Int) (by omega) (by rw [len29]; omega), size29, len29]
  simp only [Result.andThen, slicedAt, Int.toNat_natCast, Nat.mul_one]
  rw [if_neg (by omega), Go.WideShapes.add_plain, Nat.zero_add]

theorem pow_step {z m : Nat} (h : z < 10 ^ (m + 1)) : z / 10 < 10 ^ m := by
  rw [Nat.pow_succ] at h
  omega
theorem dig_of (z : Nat) : ∃ d : UInt8, (48 + (z : Int) % 10) = (d.toNat : Int) ∧ 48 ≤ d.toNat ∧ d.toNat ≤ 57 := by
  refine ⟨UInt8.ofNat (48 + z % 10), ?_, ?_, ?_⟩ <;> simp [UInt8.toNat_ofNat'] <;> omega

set_option maxHeartbeats 400000 in
theorem utoa_any (z : Nat) (w : World) (hz : z ≤ 18446744073709551615) :
    Calls Try.prog 8 #[.int .u64 z] w fun e w' => ∃ s : ByteArray, e = .returned (.string s) ∧ s.size ≤ 20 ∧ 0 < s.size ∧ Digs s ∧ Below w.heap.size w w' := by
  have HZ0 : Hid (z < 10 ^ (19 + 1)) := by show z < 10 ^ 20; omega
  go_enter Try.func8, Try.ntmps8
  go_wp2
  go_loopw [0, 4] (fun n i wr => ∃ m z : Nat, m ≤ 19 ∧ i = .int .i64 ((m : Int) + 1) ∧ n = .int .u64 z ∧ z ≤ 18446744073709551615 ∧ Hid (z < 10 ^ (m + 1)) ∧ Hid (Buf wr w.heap.size (m + 1)) ∧ Below w.heap.size w wr ∧ w.heap.size < wr.heap.size) (fun n _ _ => (intOf n).toNat)
  case atStart => exact ⟨19, z, by omega, rfl, rfl, hz, HZ0, buf_start w, (Below.refl _ _).alloc (Nat.le_refl _) _, by simp⟩
  case round =>
    obtain ⟨m, z, hm, rfl, rfl, hz1, HZ, HB, hbel, hsz⟩ := hrel
    obtain ⟨u, hu⟩ := HB.out.1 m (by omega)
    have hfz := HB.out.2.1 m
    obtain ⟨d, hd, hd1, hd2⟩ := dig_of z
    have R : Hid (Buf (wr.setCell ⟨w.heap.size, m, none⟩ (.int .u8 (48 + (z : Int) % 10))) w.heap.size m) := buf_step (by omega) HB.out _ d hd hd1 hd2
    have R2 : Hid (Below w.heap.size w (wr.setCell ⟨w.heap.size, m, none⟩ (.int .u8 (48 + (z : Int) % 10)))) := hbel.setCell (p := ⟨w.heap.size, m, none⟩) (Nat.le_refl _) _
    obtain ⟨s, hs1, hs2, hcv⟩ := buf_string (by omega) R.out
    have HS : Hid (s.size = 20 - m ∧ Digs s) := ⟨hs1, hs2⟩
    have hsl := slice_buf w.heap.size m (by omega)
    clear hd hd1 hd2 hbel HB hs1 hs2
    by_cases hz0 : z / 10 = 0
    · have hq : ((z : Int) / 10 == 0) = true := by simp; omega
      clear hz0
      go_wp2
      go_ret
      exact ⟨s, rfl, by have := HS.out.1; omega, by have := HS.out.1; omega, HS.out.2, R2.out⟩
    · have hq : ((z : Int) / 10 == 0) = false := by simp; omega
      go_wp2
      go_roundw
      case rel =>
        have hp := pow_step HZ.out
        obtain ⟨m', rfl⟩ : ∃ m', m = m' + 1 := by
          cases m with
          | zero => simp at hp; omega
          | succ m' => exact ⟨m', rfl⟩
        exact ⟨m', z / 10, by omega, by go_num, by go_num, by omega, hp, R, R2.out, by simpa [World.setCell] using hsz⟩
      case measure => simp [intOf]; omega
end Go.Proofs.Qxb6001569a.dg
