import Derived.Test.Qxb6001569aUtoa
import Derived.WalkSpells
/- the law's walk: FnIsDigitsAcceptsDecimal (4) -/
namespace Go.Proofs.Qxb6001569a.dg
open Go.RowKit

theorem info5 : (Try.prog.info? 5).map (fun i => (i.zero, i.size, i.bytes)) = some (some (.int .u8 0), 1, 1) := by kernel_rfl

/-! ### strings -/
theorem first_of (c : UInt8) (p : ByteArray) (h : 0 < ((⟨#[c]⟩ : ByteArray) ++ p).size) : ((⟨#[c]⟩ : ByteArray) ++ p)[0] = c := by
  have e : ((⟨#[c]⟩ : ByteArray) ++ p).data = #[c] ++ p.data := by simp
  show ((⟨#[c]⟩ : ByteArray) ++ p).data[0] = c
  simp [e]
theorem size_of (c : UInt8) (p : ByteArray) : ((⟨#[c]⟩ : ByteArray) ++ p).size = 1 + p.size := by
  rw [ByteArray.size_append]; rfl

/-- k noughts and the bytes of s, as one string -/
def pad (k : Nat) (s : ByteArray) : ByteArray := ⟨(List.replicate k (48 : UInt8) ++ s.data.toList).toArray⟩
theorem pad_size (k : Nat) (s : ByteArray) : (pad k s).size = k + s.size := by
  show ((List.replicate k (48 : UInt8) ++ s.data.toList).toArray).size = _
  simp
theorem pad_digs (k : Nat) (s : ByteArray) (h : Digs s) : Digs (pad k s) := by
  intro b hb
  have hb' : b ∈ List.replicate k (48 : UInt8) ++ s.data.toList := by simpa [pad] using hb
  rcases List.mem_append.1 hb' with h1 | h1
  · have := (List.mem_replicate.1 h1).2
    subst this
    decide
  · exact h b h1

theorem pad_cells (k : Nat) (s : ByteArray) : List.replicate k (Value.int .u8 48) ++ Lib.strCells s = (List.replicate k (48 : UInt8) ++ s.data.toList).map (fun b => Value.int .u8 (b.toNat : Int)) := by
  simp [Lib.strCells]

theorem conv_pad {w' : World} {base g k cap : Nat} {s : ByteArray} (hown : w'.ownsRow base 5 1 (.slice (some ⟨g, 0, none⟩) (k + s.size) cap) (k + s.size) (List.replicate k (.int .u8 48) ++ Lib.strCells s)) :
    (convert 26 9 (.slice (some ⟨g, 0, none⟩) (k + s.size) cap)).run Try.prog w' = .ok (.string (pad k s)) w' := by
  have hlen : (List.replicate k (48 : UInt8) ++ s.data.toList).length = k + s.size := by simp
  have := run_convert_bytes_back (P := Try.prog) w' 26 9 5 ⟨g, 0, none⟩ cap (List.replicate k (48 : UInt8) ++ s.data.toList) Try.underlying26 Try.underlying5 Try.underlying9 (fun j hj => by
    rw [Go.WideShapes.add_plain, Nat.zero_add, hown.cellAt j (by rw [hlen] at hj; omega), pad_cells, List.getElem?_map, List.getElem?_eq_getElem hj]
    rfl)
  rw [hlen] at this
  exact this

/-! ### the walk -/
set_option maxHeartbeats 1000000 in
theorem walk (z k : Nat) (w : World) (hz : z ≤ 18446744073709551615) (hk : k ≤ 65536) :
    Calls Try.prog 4 #[.int .u64 z, .int .i64 k] w fun e w' => e = .returned (.bool true) ∧ Below w.heap.size w w' := by
  obtain ⟨i0, hi, hz0, hz1, hz2⟩ := info_parts info5
  go_enter Try.func4, Try.ntmps4
  go_wp2_with fail
  refine (utoa_any z _ hz).mono ?_
  rintro e w1 ⟨s, rfl, hs20, hs0, hsd, hb1⟩
  have HD : Hid (Digs s) := hsd
  have HB1 : Hid (Below w.heap.size w w1) := hb1
  have hsz1 := hb1.size
  clear hsd hb1
  go_wp2_with fail
  refine (zz_yes s _ (by unfold maxLen; omega) hs0 HD.out).mono ?_
  rintro e w' ⟨rfl, rfl⟩
  go_wp2_with (at_make; refine wpList_make_own _ rfl _ _ 26 rfl w1.heap.size 5 i0 (.int .u8 0) 1 Try.underlying26 hi hz0 hz1 _ _ _ (k + s.size) rfl rfl (by omega) ?_ ?_ (Nat.le_refl _) ?_)
  · rw [hz2]; omega
  · unfold maxLen; omega
  intro w2 hown hg
  have hbel : Below w.heap.size w w2 := HB1.out.grown hg hsz1 (fun k h => by cases h)
  have hsz2 : w1.heap.size < w2.heap.size := (hown.lt w1.heap.size rfl).2
  clear hg
  go_wp2
  go_loopw [6, 7] (fun v i wr => ∃ j : Nat, j ≤ k ∧ i = .int .i64 j ∧ v = .slice (some ⟨w1.heap.size, 0, none⟩) j (k + s.size) ∧ wr.ownsRow w1.heap.size 5 1 (.slice (some ⟨w1.heap.size, 0, none⟩) j (k + s.size)) j (List.replicate j (.int .u8 48)) ∧ Below w.heap.size w wr ∧ w1.heap.size < wr.heap.size) (fun _ i _ => k - (intOf i).toNat)
  case atStart => exact ⟨0, Nat.zero_le _, rfl, rfl, hown, hbel, hsz2⟩
  case round =>
    clear hown hbel hsz2
    obtain ⟨j, hj, rfl, rfl, hown, hbel, hsz⟩ := hrel
    by_cases hlt : j < k
    · go_wp2_with (at_builtin; refine wpList_append_fits _ rfl _ _ 26 rfl w1.heap.size 5 i0 1 Try.underlying26 hi hz1 w1.heap.size j (k + s.size) _ rfl (hown.alloc _) ⟨wr.heap.size, 0, none⟩ 1 1 [.int .u8 48] rfl rfl (cell_one_new _ _ _) (ints_oneCell .u8 [48]) (by omega) ?_; intro w3 hown3 hg3)
      have R : w3.ownsRow w1.heap.size 5 1 (.slice (some ⟨w1.heap.size, 0, none⟩) (j + 1) (k + s.size)) (j + 1) (List.replicate (j + 1) (.int .u8 48)) := by
        rw [List.replicate_succ']; exact hown3
      have R2 : Below w.heap.size w w3 := (hbel.alloc (by omega) _).grown hg3 (by simp; omega) (fun b e => by cases e; omega)
      have R3 : w1.heap.size < w3.heap.size := (hown3.lt w1.heap.size rfl).2
      clear hown hbel hown3 hg3
      go_roundw
      case rel => exact ⟨j + 1, by omega, by go_num, rfl, R, R2, R3⟩
      case measure => simp [intOf]; omega
    · obtain rfl : j = k := by omega
      go_wp2_with (at_builtin; refine Lib.wpList_append_own_string _ rfl _ _ 26 9 rfl w1.heap.size 5 i0 Try.underlying26 Try.underlying9 hi hz0 hz1 hz2 _ _ _ rfl hown s rfl ?_ ?_ (Nat.le_of_lt hsz) ?_)
      · unfold maxLen; omega
      · omega
      intro v' w3 hown3 hg3 hnil
      have hex : ∃ g cap, v' = .slice (some ⟨g, 0, none⟩) (j + s.size) cap := by
        rcases hown3.2 with ⟨h, _⟩ | ⟨g, cap, cur, h, _⟩
        · exact absurd h hnil
        · exact ⟨g, cap, h⟩
      obtain ⟨g, cap, hv⟩ := hex
      rw [hv]
      rw [hv] at hown3
      have hcv := conv_pad hown3
      have HB3 : Hid (Below w.heap.size w w3) := hbel.grown hg3 (by omega) (fun b e => by cases e; omega)
      have HP : Hid ((pad j s).size = j + s.size ∧ Digs (pad j s)) := ⟨pad_size j s, pad_digs j s HD.out⟩
      generalize pad j s = p at hcv HP
      have hps : p.size ≤ 65556 := by have := HP.out.1; omega
      have hp0 : 0 < p.size := by have := HP.out.1; omega
      clear hv hnil hown3 hg3 hbel hown
      go_wp2_with fail
      refine (zz_yes p _ (by unfold maxLen; omega) hp0 HP.out.2).mono ?_
      rintro e w' ⟨rfl, rfl⟩
      have ha1 : ∀ w, (Op.stringOp .add (⟨#[45]⟩ : ByteArray) p).run Try.prog w = .ok (.string (⟨#[45]⟩ ++ p)) w := fun w => run_string_add_sum w _ _ (by have : (⟨#[45]⟩ : ByteArray).size = 1 := rfl; omega)
      have ha2 : ∀ w, (Op.stringOp .add (⟨#[43]⟩ : ByteArray) p).run Try.prog w = .ok (.string (⟨#[43]⟩ ++ p)) w := fun w => run_string_add_sum w _ _ (by have : (⟨#[43]⟩ : ByteArray).size = 1 := rfl; omega)
      go_wp2_with fail
      refine (zz_no _ _ (by rw [size_of]; unfold maxLen; omega) (by rw [size_of]; omega) (by rw [first_of]; decide)).mono ?_
      rintro e w' ⟨rfl, rfl⟩
      go_wp2_with fail
      refine (zz_no _ _ (by rw [size_of]; unfold maxLen; omega) (by rw [size_of]; omega) (by rw [first_of]; decide)).mono ?_
      rintro e w' ⟨rfl, rfl⟩
      go_wp2
      go_ret
      exact ⟨rfl, HB3.out⟩

theorem walk_out (z k : Int) (w : World) (h : k < 0 ∨ 65536 < k) :
    Calls Try.prog 4 #[.int .u64 z, .int .i64 k] w fun e w' => e = .returned (.bool true) ∧ Below w.heap.size w w' := by
  rcases h with h | h
  · go_enter Try.func4, Try.ntmps4
    go_wp2
    go_ret
    exact ⟨rfl, Below.refl _ _⟩
  · have h' : ¬ k < 0 := by omega
    go_enter Try.func4, Try.ntmps4
    go_wp2
    go_ret
    exact ⟨rfl, Below.refl _ _⟩
end Go.Proofs.Qxb6001569a.dg
