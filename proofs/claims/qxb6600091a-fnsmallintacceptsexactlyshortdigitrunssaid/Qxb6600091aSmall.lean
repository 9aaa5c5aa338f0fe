import Derived.Test.Qxb6600091aRows
import Derived.WalkKit
import Derived.WalkLawsBesides
import Derived.Deep.QuietTactic
import Derived.BigQuiet
/- smallInt (14), ZZsmallInt (9). -/
namespace Go.Proofs.Qxb6600091a.sm
open Go.RowKit

/-! ### plain -/
/-- the number that the first k bytes of g write -/
def V (g : Nat → Nat) : Nat → Nat
  | 0 => 0
  | k + 1 => V g k * 10 + (g k - 48)
def isDig (c : Nat) : Prop := 48 ≤ c ∧ c ≤ 57
theorem V_lt (g : Nat → Nat) : ∀ k, (∀ j, j < k → isDig (g j)) → V g k < 10 ^ k
  | 0, _ => by simp [V]
  | k + 1, h => by
    have ih := V_lt g k (fun j hj => h j (by omega))
    have hk := h k (by omega)
    unfold isDig at hk
    simp only [V]
    rw [Nat.pow_succ]
    omega
theorem pow_le8 {k : Nat} (h : k ≤ 8) : 10 ^ k ≤ 100000000 := Nat.le_trans (Nat.pow_le_pow_right (by omega) h) (by decide)
theorem pow_le9 {k : Nat} (h : k ≤ 9) : 10 ^ k ≤ 1000000000 := Nat.le_trans (Nat.pow_le_pow_right (by omega) h) (by decide)

/-- what smallInt answers at a text of d digits' places g, behind a minus (neg) or none -/
def Small (g : Nat → Nat) (d : Nat) (neg : Bool) (n : Int) (ok : Bool) : Prop :=
  (ok = true ↔ d ≤ 9 ∧ ∀ j, j < d → isDig (g j)) ∧ (ok = false → n = 0) ∧ (ok = true → n = if neg then -(V g d : Int) else (V g d : Int))

theorem small_long {g : Nat → Nat} {d : Nat} {neg : Bool} (h : 9 < d) : Small g d neg 0 false := ⟨⟨(fun h => by cases h), fun h => by omega⟩, fun _ => rfl, (fun h => by cases h)⟩
theorem small_bad {g : Nat → Nat} {d k : Nat} {neg : Bool} (hk : k < d) (h : ¬ isDig (g k)) : Small g d neg 0 false := ⟨⟨(fun h => by cases h), fun h' => absurd (h'.2 k hk) h⟩, fun _ => rfl, (fun h => by cases h)⟩
theorem small_pos {g : Nat → Nat} {d : Nat} (h : d ≤ 9) (hd : ∀ j, j < d → isDig (g j)) {n : Int} (hn : n = (V g d : Int)) : Small g d false n true := ⟨⟨fun _ => ⟨h, hd⟩, fun _ => rfl⟩, (fun h => by cases h), fun _ => by rw [hn]; rfl⟩
theorem small_neg {g : Nat → Nat} {d : Nat} (h : d ≤ 9) (hd : ∀ j, j < d → isDig (g j)) {n : Int} (hn : n = -(V g d : Int)) : Small g d true n true := ⟨⟨fun _ => ⟨h, hd⟩, fun _ => rfl⟩, (fun h => by cases h), fun _ => by rw [hn]; rfl⟩

/-- the answer, closed to the walk -/
def Ans (g : Nat → Nat) (d : Nat) (neg : Bool) (w : World) (e : Ending) (w' : World) : Prop :=
  ∃ n ok, e = .returned (.tuple #[.int .i32 n, .bool ok]) ∧ Small g d neg n ok ∧ Below w.heap.size w w'
theorem ans_mk {g : Nat → Nat} {d : Nat} {neg : Bool} {w w' : World} {n : Int} {ok : Bool} (h : Small g d neg n ok) (hb : Below w.heap.size w w') : Ans g d neg w (.returned (.tuple #[.int .i32 n, .bool ok])) w' := ⟨n, ok, rfl, h, hb⟩

/-! ### the walk -/
set_option maxHeartbeats 1000000 in
theorem small_plus (b off len cap : Nat) (f : Nat → Nat) (w : World) (h1 : 1 ≤ len) (hlen : len ≤ 1048576) (hf : ∀ j, j < len → f j ≤ 255) (hc : ∀ j, j < len → w.cell? ⟨b, off + j, none⟩ = some (.int .u8 (f j : Int))) (h0 : f 0 ≠ 45) :
    Calls Try.prog 14 #[.slice (some ⟨b, off, none⟩) len cap] w (Ans f len false w) := by
  have hc0 : w.cell? ⟨b, off, none⟩ = some (.int .u8 (f 0 : Int)) := by have := hc 0 (by omega); simpa using this
  have hq : ((f 0 : Int) == 45) = false := by simp; omega
  have hp : (0 : Int) < (len : Int) := by omega
  have HF : Hid (∀ j, j < len → f j ≤ 255) := hf
  have HC : Hid (∀ j, j < len → w.cell? ⟨b, off + j, none⟩ = some (.int .u8 (f j : Int))) := hc
  clear hf hc h0
  have hbw : b < w.heap.size := World.block_lt_of_cell? _ _ hc0
  by_cases hd : 9 < len
  · go_enter Try.func14, Try.ntmps14
    go_wp2
    go_quiet (fail)
    go_wp2
    go_ret2
    exact ans_mk (small_long hd) ⟨rfl, rfl, rfl, Nat.le_refl _, fun _ _ => rfl⟩
  · go_enter Try.func14, Try.ntmps14
    go_wp2
    go_quiet (fail)
    go_wp2
    have HB : Below w.heap.size w (w.drewN nq) := ⟨rfl, rfl, rfl, Nat.le_refl _, fun _ _ => rfl⟩
    go_loopw [6, 22] (fun n i wr => ∃ k : Nat, k ≤ len ∧ i = .int .i64 k ∧ n = .int .i32 (V f k) ∧ Hid (∀ j, j < k → isDig (f j)) ∧ Below w.heap.size w wr) (fun _ i _ => len - (intOf i).toNat)
    case atStart => exact ⟨0, Nat.zero_le _, rfl, rfl, fun j hj => absurd hj (Nat.not_lt_zero _), HB⟩
    case round =>
      obtain ⟨k, hk, rfl, rfl, HDk, hbel⟩ := hrel
      by_cases hlt : k < len
      · have hcx : wr.cell? ⟨b, off + k, none⟩ = some (.int .u8 (f k : Int)) := by rw [hbel.cell (by exact hbw)]; exact HC.out k hlt
        have hfk := HF.out k hlt
        have hV : V f k ≤ 99999999 := by have := V_lt f k HDk.out; have := pow_le8 (show k ≤ 8 by omega); omega
        have HS : Hid (V f (k + 1) = V f k * 10 + (f k - 48)) := rfl
        by_cases hb1 : f k < 48
        · go_wp2
          go_ret2
          exact ans_mk (small_bad hlt (fun h => by unfold isDig at h; omega)) hbel
        · by_cases hb2 : 57 < f k
          · go_wp2
            go_ret2
            exact ans_mk (small_bad hlt (fun h => by unfold isDig at h; omega)) hbel
          · go_wp2
            go_roundw
            case rel =>
              refine ⟨k + 1, by omega, by go_num, ?_, fun j hj => ?_, hbel⟩
              · rw [HS.out]
                congr 1
                omega
              · rcases Nat.lt_succ_iff_lt_or_eq.1 hj with h | rfl
                · exact HDk.out j h
                · exact ⟨by omega, by omega⟩
            case measure => simp [intOf]; omega
      · obtain rfl : k = len := by omega
        have hV : V f k ≤ 999999999 := by have := V_lt f k HDk.out; have := pow_le9 (show k ≤ 9 by omega); omega
        go_wp2
        go_ret2
        exact ans_mk (small_pos (by omega) HDk.out (by first | rfl | omega)) hbel

set_option maxHeartbeats 1000000 in
theorem small_minus (b off d cap : Nat) (g : Nat → Nat) (w : World) (hlen : d ≤ 1048576) (hcap : d + 1 ≤ cap) (hcap1 : cap ≠ 1) (hf : ∀ j, j < d → g j ≤ 255) (hc0 : w.cell? ⟨b, off, none⟩ = some (.int .u8 45))
    (hc : ∀ j, j < d → w.cell? ⟨b, off + 1 + j, none⟩ = some (.int .u8 (g j : Int))) :
    Calls Try.prog 14 #[.slice (some ⟨b, off, none⟩) (d + 1) cap] w (Ans g d true w) := by
  have HF : Hid (∀ j, j < d → g j ≤ 255) := hf
  have HC : Hid (∀ j, j < d → w.cell? ⟨b, off + 1 + j, none⟩ = some (.int .u8 (g j : Int))) := hc
  clear hf hc
  have hbw : b < w.heap.size := World.block_lt_of_cell? _ _ hc0
  by_cases hd : 9 < d
  · go_enter Try.func14, Try.ntmps14
    go_wp2
    go_quiet (fail)
    go_wp2
    go_ret2
    exact ans_mk (small_long hd) ⟨rfl, rfl, rfl, Nat.le_refl _, fun _ _ => rfl⟩
  · go_enter Try.func14, Try.ntmps14
    go_wp2
    go_quiet (fail)
    go_wp2
    have HB : Below w.heap.size w (w.drewN nq) := ⟨rfl, rfl, rfl, Nat.le_refl _, fun _ _ => rfl⟩
    go_loopw [6, 22] (fun n i wr => ∃ k : Nat, k ≤ d ∧ i = .int .i64 k ∧ n = .int .i32 (V g k) ∧ Hid (∀ j, j < k → isDig (g j)) ∧ Below w.heap.size w wr) (fun _ i _ => d - (intOf i).toNat)
    case atStart => exact ⟨0, Nat.zero_le _, rfl, rfl, fun j hj => absurd hj (Nat.not_lt_zero _), HB⟩
    case round =>
      obtain ⟨k, hk, rfl, rfl, HDk, hbel⟩ := hrel
      by_cases hlt : k < d
      · have hcx : wr.cell? ⟨b, off + 1 + k, none⟩ = some (.int .u8 (g k : Int)) := by rw [hbel.cell (by exact hbw)]; exact HC.out k hlt
        have hfk := HF.out k hlt
        have hV : V g k ≤ 99999999 := by have := V_lt g k HDk.out; have := pow_le8 (show k ≤ 8 by omega); omega
        have HS : Hid (V g (k + 1) = V g k * 10 + (g k - 48)) := rfl
        by_cases hb1 : g k < 48
        · go_wp2
          go_ret2
          exact ans_mk (small_bad hlt (fun h => by unfold isDig at h; omega)) hbel
        · by_cases hb2 : 57 < g k
          · go_wp2
            go_ret2
            exact ans_mk (small_bad hlt (fun h => by unfold isDig at h; omega)) hbel
          · go_wp2
            go_roundw
            case rel =>
              refine ⟨k + 1, by omega, by go_num, ?_, fun j hj => ?_, hbel⟩
              · rw [HS.out]
                congr 1
                omega
              · rcases Nat.lt_succ_iff_lt_or_eq.1 hj with h | rfl
                · exact HDk.out j h
                · exact ⟨by omega, by omega⟩
            case measure => simp [intOf]; omega
      · obtain rfl : k = d := by omega
        have hV : V g k ≤ 999999999 := by have := V_lt g k HDk.out; have := pow_le9 (show k ≤ 9 by omega); omega
        go_wp2
        go_ret2
        exact ans_mk (small_neg (by omega) HDk.out (by first | rfl | omega)) hbel

set_option maxHeartbeats 1000000 in
/-- a minus alone, with no room behind it -/
theorem small_lone (b off : Nat) (g : Nat → Nat) (w : World) (hc0 : w.cell? ⟨b, off, none⟩ = some (.int .u8 45)) :
    Calls Try.prog 14 #[.slice (some ⟨b, off, none⟩) 1 1] w (Ans g 0 true w) := by
  go_enter Try.func14, Try.ntmps14
  go_wp2
  go_quiet (fail)
  go_wp2
  refine wp_loop_rounds 1 ?_
  rw [rounds_succ]
  go_wp2
  go_ret2
  exact ans_mk (small_neg (by omega) (fun j hj => absurd hj (Nat.not_lt_zero _)) (by rfl)) ⟨rfl, rfl, rfl, Nat.le_refl _, fun _ _ => rfl⟩

/-- ZZsmallInt hands on what smallInt hands back -/
theorem zz_of (v : Value) (g : Nat → Nat) (d : Nat) (neg : Bool) (w : World) (h : Calls Try.prog 14 #[v] w (Ans g d neg w)) : Calls Try.prog 9 #[v] w (Ans g d neg w) := by
  have H : Hid (Calls Try.prog 14 #[v] w (Ans g d neg w)) := h
  clear h
  go_enter Try.func9, Try.ntmps9
  go_wp2_with fail
  refine H.out.mono ?_
  rintro e w' ⟨n, ok, rfl, hS, hb⟩
  have HS : Hid (Small g d neg n ok) := hS
  clear hS
  go_wp2
  go_ret2
  exact ans_mk HS.out hb
end Go.Proofs.Qxb6600091a.sm
