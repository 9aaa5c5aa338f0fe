import Derived.Test.Qxb6001407aRows
import Derived.WalkKit
import Derived.WalkLawsBesides
import Derived.Lib.SliceRun
/- The contracts of zzBytes (14), zzCopyInts (15), chain.size (23), ZZChainSize (16). -/
namespace Go.Proofs.Qxb6001407a.chain
open Go.RowKit

theorem info3 : (Try.prog.info? 3).map (fun i => (i.zero, i.size, i.bytes)) = some (some (.int .i64 0), 1, 8) := by kernel_rfl

/-! ### the bound on the length -/
theorem bytes_yes (a : Option Addr) (len cap : Nat) (w : World) (h : len ≤ 1048576) :
    Calls Try.prog 14 #[.slice a len cap] w fun e w' => e = .returned (.bool true) ∧ w = w' := by
  go_enter Try.func14, Try.ntmps14
  go_wp2
  go_ret
  exact ⟨rfl, rfl⟩

theorem bytes_no (a : Option Addr) (len cap : Nat) (w : World) (h : 1048576 < len) :
    Calls Try.prog 14 #[.slice a len cap] w fun e w' => e = .returned (.bool false) ∧ w = w' := by
  go_enter Try.func14, Try.ntmps14
  go_wp2
  go_ret
  exact ⟨rfl, rfl⟩

/-! ### the copy -/
/-- the row after k rounds: the first k numbers copied, the rest nought -/
def half (zs : List Int) (len k : Nat) : List Value := (zs.take k).map (Value.int .i64) ++ List.replicate (len - k) (Value.int .i64 0)
theorem half_step (zs : List Int) (len k : Nat) (hk : k < len) (hz : len ≤ zs.length) :
    (half zs len k).set k (.int .i64 (zs[k]?.getD 0)) = half zs len (k + 1) := by
  unfold half
  have h1 : ((zs.take k).map (Value.int .i64)).length = k := by simp; omega
  rw [List.set_append_right _ _ (by omega), h1, Nat.sub_self]
  obtain ⟨m, hm⟩ : ∃ m, len - k = m + 1 := ⟨len - k - 1, by omega⟩
  rw [hm, List.replicate_succ, List.set_cons_zero, List.take_succ_eq_append_getElem (by omega : k < zs.length), show len - (k + 1) = m by omega]
  simp only [List.map_append, List.map_cons, List.map_nil, List.append_assoc, List.cons_append, List.nil_append, List.getElem?_eq_getElem (by omega : k < zs.length), Option.getD_some]
theorem half_len (zs : List Int) (len k : Nat) (hk : k ≤ len) (hz : len ≤ zs.length) : (half zs len k).length = len := by simp [half]; omega
theorem half_all (zs : List Int) (len : Nat) : half zs len len = (zs.take len).map (Value.int .i64) := by simp [half]

set_option maxHeartbeats 1000000 in
theorem copy_some (x : Addr) (len cap : Nat) (zs : List Int) (w : World) (hlen : len ≤ 1048576) (hz : len ≤ zs.length)
    (b off : Nat) (hx : 0 < len → x = ⟨b, off, none⟩) (hb : 0 < len → b < w.heap.size) (hc : ∀ j, j < len → w.cell? ⟨b, off + j, none⟩ = some (.int .i64 (zs.getD j 0))) :
    Calls Try.prog 15 #[.slice (some x) len cap] w fun e w' =>
      e = .returned (.slice (some ⟨w.heap.size, 0, none⟩) len len) ∧ w'.ownsRow w.heap.size 3 1 (.slice (some ⟨w.heap.size, 0, none⟩) len len) len ((zs.take len).map (Value.int .i64)) ∧ Below w.heap.size w w' := by
  have q25 : ∀ (w : World) (a : Option Addr) (n c n' c' : Nat), (binOp .eql 25 (.slice a n c) (.slice none n' c')).run Try.prog w = .ok (.bool a.isNone) w := fun w a n c n' c' => Lib.run_eql_slice_nil w _ _ a n c n' c' Try.underlying25
  obtain ⟨i0, hi, hz0, hz1, hz2⟩ := info_parts info3
  have HX : Hid (0 < len → x = ⟨b, off, none⟩) := hx
  have HZ : Hid (∀ k, k < len → (half zs len k).set k (.int .i64 (zs[k]?.getD 0)) = half zs len (k + 1)) := fun k hk => half_step zs len k hk hz
  have HA : Hid (half zs len len = (zs.take len).map (Value.int .i64)) := half_all zs len
  have HC : Hid (∀ j, j < len → w.cell? ⟨b, off + j, none⟩ = some (.int .i64 (zs.getD j 0))) := hc
  have H0 : Hid ((madeCells #[Value.int .i64 0] len).toList = half zs len 0) := by
    show _ = _
    rw [toList_madeCells_one]; simp [half]
  clear hx hc
  by_cases h0 : 0 < len
  · have hb' := hb h0
    obtain rfl := HX.out h0
    clear HX hb
    go_enter Try.func15, Try.ntmps15
    go_wp2_with (at_make; refine wpList_make_full _ rfl _ _ 25 rfl w.heap.size 3 i0 (.int .i64 0) 1 Try.underlying25 hi hz0 hz1 _ _ _ _ len rfl rfl rfl rfl ?_ ?_ (Nat.le_refl _) ?_)
    · rw [hz2]; omega
    · unfold maxLen; omega
    intro w1 hown hg
    rw [H0.out] at hown
    have hbel : Below w.heap.size w w1 := (Below.refl _ _).grown hg (Nat.le_refl _) (fun k h => by cases h)
    clear hg
    go_wp2
    go_loopw [4] (fun i wr => ∃ k : Nat, k ≤ len ∧ i = .int .i64 k ∧ wr.ownsRow w.heap.size 3 1 (.slice (some ⟨w.heap.size, 0, none⟩) len len) len (half zs len k) ∧ Below w.heap.size w wr) (fun i _ => len - (intOf i).toNat)
    case atStart => exact ⟨0, Nat.zero_le _, rfl, hown, hbel⟩
    case round =>
      clear hown hbel
      obtain ⟨k, hk, rfl, hown, hbel⟩ := hrel
      by_cases hlt : k < len
      · have hcx : wr.cell? ⟨b, off + k, none⟩ = some (.int .i64 (zs[k]?.getD 0)) := by
          rw [hbel.cell (by exact hb'), HC.out k hlt]; simp [List.getD]
        have hfz := hown.frozenAt k
        obtain ⟨v0, hv0⟩ : ∃ v, wr.cell? ⟨w.heap.size, k, none⟩ = some v := by
          rw [hown.cellAt k (by omega), List.getElem?_eq_getElem (by rw [half_len zs len k hk hz]; exact hlt)]; exact ⟨_, rfl⟩
        have R := (hown.stored k (.int .i64 (zs[k]?.getD 0))).1
        rw [HZ.out k hlt] at R
        have R2 := hbel.setCell (p := ⟨w.heap.size, k, none⟩) (Nat.le_refl _) (.int .i64 (zs[k]?.getD 0))
        clear hown hbel
        go_wp2
        go_roundw
        case rel => exact ⟨k + 1, by omega, by go_num, R, R2⟩
        case measure => simp [intOf]; omega
      · have hke : k = len := by omega
        subst hke
        go_wp2
        go_ret
        exact ⟨rfl, HA.out ▸ hown, hbel⟩
  · obtain rfl : len = 0 := by omega
    clear HX HC HA HZ hb
    go_enter Try.func15, Try.ntmps15
    go_wp2_with (at_make; refine wpList_make_full _ rfl _ _ 25 rfl w.heap.size 3 i0 (.int .i64 0) 1 Try.underlying25 hi hz0 hz1 _ _ _ _ 0 rfl rfl rfl rfl ?_ ?_ (Nat.le_refl _) ?_)
    · rw [hz2]; omega
    · unfold maxLen; omega
    intro w1 hown hg
    have hbel : Below w.heap.size w w1 := (Below.refl _ _).grown hg (Nat.le_refl _) (fun k h => by cases h)
    have R : Hid (w1.ownsRow w.heap.size 3 1 (.slice (some ⟨w.heap.size, 0, none⟩) 0 0) 0 ((zs.take 0).map (Value.int .i64))) := by
      have e : (madeCells #[Value.int IntKind.i64 0] 0).toList = (zs.take 0).map (Value.int .i64) := by rw [toList_madeCells_one]; simp
      rw [← e]; exact hown
    clear hg hown
    go_wp2
    refine wp_loop_rounds 1 ?_
    rw [rounds_succ]
    go_wp2
    go_ret
    exact ⟨rfl, R.out, hbel⟩

theorem copy_none (w : World) :
    Calls Try.prog 15 #[.slice none 0 0] w fun e w' => e = .returned (.slice none 0 0) ∧ w = w' := by
  have q25 : ∀ (w : World) (a : Option Addr) (n c n' c' : Nat), (binOp .eql 25 (.slice a n c) (.slice none n' c')).run Try.prog w = .ok (.bool a.isNone) w := fun w a n c n' c' => Lib.run_eql_slice_nil w _ _ a n c n' c' Try.underlying25
  go_enter Try.func15, Try.ntmps15
  go_wp2
  go_ret
  exact ⟨rfl, rfl⟩

/-! ### the chain's size -/
/-- the cells of a chain whose clauses have the kinds 'zs', and no other content -/
def cl (z : Int) : List Value := [.int .i64 z, .int .i64 0, .int .i64 0, .string ByteArray.empty, .string ByteArray.empty]
theorem info40 : (Try.prog.info? 40).map (fun i => (i.zero, i.size, i.bytes)) = some (some (.agg #[.int .i64 0, .int .i64 0, .int .i64 0, .string ByteArray.empty, .string ByteArray.empty]), 5, 56) := by kernel_rfl

/-- of the first k kinds, how many are no note -/
def cnt (zs : List Int) (k : Nat) : Nat := (zs.take k).countP (· != 0)
theorem cnt_le (zs : List Int) (k : Nat) : cnt zs k ≤ k := by
  unfold cnt
  exact Nat.le_trans List.countP_le_length (List.length_take_le _ _)
theorem cnt_step (zs : List Int) (k : Nat) (hk : k < zs.length) : cnt zs (k + 1) = cnt zs k + if (zs[k]?.getD 0 != 0) = true then 1 else 0 := by
  unfold cnt
  rw [List.take_succ_eq_append_getElem hk, List.countP_append]
  simp [List.countP_cons, List.getElem?_eq_getElem hk]

set_option maxHeartbeats 1000000 in
theorem size_any (g len cap : Nat) (zs : List Int) (w : World) (hlen : len ≤ 1048576) (hz : len ≤ zs.length)
    (hg : g < w.heap.size)
    (hc0 : ∀ j, j < len → w.cell? ⟨g, j * 5, none⟩ = some (.int .i64 (zs.getD j 0)))
    (hc1 : ∀ j, j < len → w.cell? ⟨g, j * 5 + 1, none⟩ = some (.int .i64 0))
    (hc2 : ∀ j, j < len → w.cell? ⟨g, j * 5 + 2, none⟩ = some (.int .i64 0))
    (hc3 : ∀ j, j < len → w.cell? ⟨g, j * 5 + 3, none⟩ = some (.string ByteArray.empty))
    (hc4 : ∀ j, j < len → w.cell? ⟨g, j * 5 + 4, none⟩ = some (.string ByteArray.empty)) :
    Calls Try.prog 23 #[.slice (some ⟨g, 0, none⟩) len cap] w fun e w' =>
      e = .returned (.int .i64 (cnt zs len)) ∧ Below w.heap.size w w' := by
  have H0 := hc0; have H1 := hc1; have H2 := hc2; have H3 := hc3; have H4 := hc4
  have HC : Hid (∀ j, j < len → w.cell? ⟨g, j * 5, none⟩ = some (.int .i64 (zs[j]?.getD 0)) ∧ w.cell? ⟨g, j * 5 + 1, none⟩ = some (.int .i64 0) ∧ w.cell? ⟨g, j * 5 + 2, none⟩ = some (.int .i64 0) ∧
      w.cell? ⟨g, j * 5 + 3, none⟩ = some (.string ByteArray.empty) ∧ w.cell? ⟨g, j * 5 + 4, none⟩ = some (.string ByteArray.empty)) :=
    fun j hj => ⟨by rw [hc0 j hj]; simp [List.getD], hc1 j hj, hc2 j hj, hc3 j hj, hc4 j hj⟩
  clear H0 H1 H2 H3 H4 hc0 hc1 hc2 hc3 hc4
  go_enter Try.func23, Try.ntmps23
  go_wp2
  go_loopw [3, 8] (fun n i wr => ∃ k : Nat, k ≤ len ∧ i = .int .i64 k ∧ n = .int .i64 (cnt zs k) ∧ Below w.heap.size w wr) (fun _ i _ => len - (intOf i).toNat)
  case atStart => exact ⟨0, Nat.zero_le _, rfl, rfl, Below.refl _ _⟩
  case round =>
    obtain ⟨k, hk, rfl, rfl, hbel⟩ := hrel
    have hcl := cnt_le zs k
    by_cases hlt : k < len
    · obtain ⟨d0, d1, d2, d3, d4⟩ := HC.out k hlt
      rw [← hbel.cell (by exact hg)] at d0 d1 d2 d3 d4
      have HS : Hid (cnt zs (k + 1) = cnt zs k + if (zs[k]?.getD 0 != 0) = true then 1 else 0) := cnt_step zs k (by omega)
      have HB : Hid (Below w.heap.size w wr) := hbel
      have hsz := hbel.size
      clear hbel
      go_wp2
      all_goals
        go_roundw
        case rel => exact ⟨k + 1, by omega, by go_num, by rw [HS.out]; first | (rw [if_pos (by assumption)]; go_num) | (rw [if_neg (by rw [‹(zs[k]?.getD 0 != 0) = false›]; simp)]; go_num), HB.out.alloc hsz _⟩
        case measure => simp [intOf]; omega
    · obtain rfl : k = len := by omega
      go_wp2
      go_ret
      exact ⟨rfl, hbel⟩

/-! ### the chain out of its kinds -/
/-- after k rounds the chain in block g has the first k kinds; its other cells are as 'make' laid them -/
def Filled (wr : World) (g len : Nat) (zs : List Int) (k : Nat) : Prop :=
  (∀ j, j < len → wr.cell? ⟨g, j * 5, none⟩ = some (.int .i64 (if j < k then zs[j]?.getD 0 else 0)) ∧ wr.cell? ⟨g, j * 5 + 1, none⟩ = some (.int .i64 0) ∧ wr.cell? ⟨g, j * 5 + 2, none⟩ = some (.int .i64 0) ∧
      wr.cell? ⟨g, j * 5 + 3, none⟩ = some (.string ByteArray.empty) ∧ wr.cell? ⟨g, j * 5 + 4, none⟩ = some (.string ByteArray.empty)) ∧
  ∀ o, wr.frozen? ⟨g, o, none⟩ = false

theorem filled_start {w1 : World} {g len : Nat} (zs : List Int)
    (hown : w1.ownsRow g 40 5 (.slice (some ⟨g, 0, none⟩) len len) len (madeCells #[.int .i64 0, .int .i64 0, .int .i64 0, .string ByteArray.empty, .string ByteArray.empty] (len * 5)).toList) :
    Filled w1 g len zs 0 := by
  have key : ∀ j i, j < len → i < 5 → w1.cell? ⟨g, j * 5 + i, none⟩ = some (#[Value.int .i64 0, .int .i64 0, .int .i64 0, .string ByteArray.empty, .string ByteArray.empty][i]!) := by
    intro j i hj hi
    rw [hown.cellAt (j * 5 + i) (by omega)]
    have h1 : (j * 5 + i) % 5 = i := by omega
    have h2 : j * 5 + i < len * 5 := by omega
    simp [madeCells, h1, h2]
  refine ⟨fun j hj => ⟨?_, ?_, ?_, ?_, ?_⟩, fun o => hown.frozenAt o⟩
  · have := key j 0 hj (by omega); simpa using this
  · have := key j 1 hj (by omega); simpa using this
  · have := key j 2 hj (by omega); simpa using this
  · have := key j 3 hj (by omega); simpa using this
  · have := key j 4 hj (by omega); simpa using this

theorem filled_step {wr : World} {g len : Nat} {zs : List Int} {k : Nat} (hk : k < len) (h : Filled wr g len zs k) :
    Filled (wr.setCell ⟨g, k * 5, none⟩ (.int .i64 (zs[k]?.getD 0))) g len zs (k + 1) := by
  refine ⟨fun j hj => ?_, fun o => by rw [World.frozen?_setCell]; exact h.2 o⟩
  obtain ⟨h0, h1, h2, h3, h4⟩ := h.1 j hj
  have other : ∀ o, o ≠ k * 5 → (wr.setCell ⟨g, k * 5, none⟩ (.int .i64 (zs[k]?.getD 0))).cell? ⟨g, o, none⟩ = wr.cell? ⟨g, o, none⟩ := fun o ho =>
    World.cell?_setCell_other _ _ _ _ (by intro e; injection e with _ e; exact ho e.symm)
  refine ⟨?_, by rw [other _ (by omega)]; exact h1, by rw [other _ (by omega)]; exact h2, by rw [other _ (by omega)]; exact h3, by rw [other _ (by omega)]; exact h4⟩
  by_cases hjk : j = k
  · subst hjk
    rw [World.cell?_setCell_same _ _ _ h0, if_pos (by omega)]
  · rw [other _ (by omega), h0]
    by_cases hl : j < k
    · rw [if_pos hl, if_pos (by omega)]
    · rw [if_neg hl, if_neg (by omega)]

set_option maxHeartbeats 1000000 in
theorem zz_any (a : Option Addr) (len cap : Nat) (zs : List Int) (w : World) (hlen : len ≤ 1048576) (hz : len ≤ zs.length)
    (b off : Nat) (ha : 0 < len → a = some ⟨b, off, none⟩) (hb : 0 < len → b < w.heap.size) (hc : ∀ j, j < len → w.cell? ⟨b, off + j, none⟩ = some (.int .i64 (zs.getD j 0))) :
    Calls Try.prog 16 #[.slice a len cap] w fun e w' => e = .returned (.int .i64 (cnt zs len)) ∧ Below w.heap.size w w' := by
  obtain ⟨i0, hi, hz0, hz1, hz2⟩ := info_parts info40
  have HX : Hid (0 < len → a = some ⟨b, off, none⟩) := ha
  have HC : Hid (∀ j, j < len → w.cell? ⟨b, off + j, none⟩ = some (.int .i64 (zs.getD j 0))) := hc
  clear ha hc
  by_cases h0 : 0 < len
  · have hb' := hb h0
    obtain rfl := HX.out h0
    clear HX hb
    go_enter Try.func16, Try.ntmps16
    go_wp2_with (at_make; refine wpList_make_full _ rfl _ _ 35 rfl w.heap.size 40 i0 (.agg #[.int .i64 0, .int .i64 0, .int .i64 0, .string ByteArray.empty, .string ByteArray.empty]) 5 Try.underlying35 hi hz0 hz1 _ _ _ _ len rfl rfl rfl rfl ?_ ?_ (Nat.le_refl _) ?_)
    · rw [hz2]; omega
    · unfold maxLen; omega
    intro w1 hown hg
    have HF : Hid (Filled w1 w.heap.size len zs 0) := filled_start zs hown
    have hbel : Below w.heap.size w w1 := (Below.refl _ _).grown hg (Nat.le_refl _) (fun k h => by cases h)
    have hsz : w.heap.size < w1.heap.size := (hown.lt w.heap.size rfl).2
    clear hg hown
    go_wp2
    go_loopw [4] (fun i wr => ∃ k : Nat, k ≤ len ∧ i = .int .i64 k ∧ Hid (Filled wr w.heap.size len zs k) ∧ Below w.heap.size w wr ∧ w.heap.size < wr.heap.size) (fun i _ => len - (intOf i).toNat)
    case atStart => exact ⟨0, Nat.zero_le _, rfl, HF, hbel, hsz⟩
    case round =>
      clear HF hbel hsz
      obtain ⟨k, hk, rfl, HF, hbel, hsz⟩ := hrel
      by_cases hlt : k < len
      · have hcx : wr.cell? ⟨b, off + k, none⟩ = some (.int .i64 (zs[k]?.getD 0)) := by
          rw [hbel.cell (by exact hb'), HC.out k hlt]; simp [List.getD]
        have hfz := HF.out.2 (k * 5)
        obtain ⟨v0, hv0⟩ : ∃ v, wr.cell? ⟨w.heap.size, k * 5, none⟩ = some v := ⟨_, (HF.out.1 k hlt).1⟩
        have R : Hid (Filled (wr.setCell ⟨w.heap.size, k * 5, none⟩ (.int .i64 (zs[k]?.getD 0))) w.heap.size len zs (k + 1)) := filled_step hlt HF.out
        have R2 := hbel.setCell (p := ⟨w.heap.size, k * 5, none⟩) (Nat.le_refl _) (.int .i64 (zs[k]?.getD 0))
        clear hbel HF
        go_wp2
        go_roundw
        case rel => exact ⟨k + 1, by omega, by go_num, R, R2, by simpa [World.setCell] using hsz⟩
        case measure => simp [intOf]; omega
      · obtain rfl : k = len := by omega
        have FF := HF.out
        go_wp2_with (go_at_call 23; refine (size_any _ _ _ zs _ hlen hz ?_ ?_ ?_ ?_ ?_ ?_).mono ?_)
        · exact hsz
        · intro j hj; have := (FF.1 j hj).1; rw [if_pos hj] at this; rw [this]; simp [List.getD]
        · exact fun j hj => (FF.1 j hj).2.1
        · exact fun j hj => (FF.1 j hj).2.2.1
        · exact fun j hj => (FF.1 j hj).2.2.2.1
        · exact fun j hj => (FF.1 j hj).2.2.2.2
        rintro e w' ⟨rfl, hb2⟩
        have hb3 := hbel.trans (hb2.mono (Nat.le_of_lt hsz))
        clear FF HF hbel hb2
        go_wp2
        go_ret
        exact ⟨rfl, hb3⟩
  · obtain rfl : len = 0 := by omega
    clear HX HC hb
    go_enter Try.func16, Try.ntmps16
    go_wp2_with (at_make; refine wpList_make_full _ rfl _ _ 35 rfl w.heap.size 40 i0 (.agg #[.int .i64 0, .int .i64 0, .int .i64 0, .string ByteArray.empty, .string ByteArray.empty]) 5 Try.underlying35 hi hz0 hz1 _ _ _ _ 0 rfl rfl rfl rfl ?_ ?_ (Nat.le_refl _) ?_)
    · rw [hz2]; omega
    · unfold maxLen; omega
    intro w1 hown hg
    have hbel : Below w.heap.size w w1 := (Below.refl _ _).grown hg (Nat.le_refl _) (fun k h => by cases h)
    have hsz : w.heap.size < w1.heap.size := (hown.lt w.heap.size rfl).2
    clear hg hown
    go_wp2
    refine wp_loop_rounds 1 ?_
    rw [rounds_succ]
    go_wp2_with (go_at_call 23; refine (size_any _ _ _ zs _ hlen hz hsz (fun j hj => absurd hj (Nat.not_lt_zero _)) (fun j hj => absurd hj (Nat.not_lt_zero _)) (fun j hj => absurd hj (Nat.not_lt_zero _)) (fun j hj => absurd hj (Nat.not_lt_zero _)) (fun j hj => absurd hj (Nat.not_lt_zero _))).mono ?_)
    rintro e w' ⟨rfl, hb2⟩
    have hb3 := hbel.trans (hb2.mono (Nat.le_of_lt hsz))
    clear hbel hb2
    go_wp2
    go_ret
    exact ⟨rfl, hb3⟩
end Go.Proofs.Qxb6001407a.chain
