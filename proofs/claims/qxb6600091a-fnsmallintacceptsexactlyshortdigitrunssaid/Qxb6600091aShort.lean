import Derived.Test.Qxb6600091aSmall
/- b1Clone (11), b1IsDigit (12), zzBytes (10), and the law's walk: FnSmallIntAcceptsExactlyShortDigitRuns (4) -/
namespace Go.Proofs.Qxb6600091a.sm
open Go.RowKit

theorem info5 : (Try.prog.info? 5).map (fun i => (i.zero, i.size, i.bytes)) = some (some (.int .u8 0), 1, 1) := by kernel_rfl

theorem bytes_yes (a : Option Addr) (len cap : Nat) (w : World) (h : len ≤ 1048576) :
    Calls Try.prog 10 #[.slice a len cap] w fun e w' => e = .returned (.bool true) ∧ w = w' := by
  go_enter Try.func10, Try.ntmps10
  go_wp2
  go_ret
  exact ⟨rfl, rfl⟩
theorem bytes_no (a : Option Addr) (len cap : Nat) (w : World) (h : 1048576 < len) :
    Calls Try.prog 10 #[.slice a len cap] w fun e w' => e = .returned (.bool false) ∧ w = w' := by
  go_enter Try.func10, Try.ntmps10
  go_wp2
  go_ret
  exact ⟨rfl, rfl⟩

def digB (c : Nat) : Bool := decide (48 ≤ c) && decide (c ≤ 57)
theorem digB_iff (c : Nat) : digB c = true ↔ isDig c := by simp [digB, isDig]
theorem isdig_any (c : Nat) (w : World) : Calls Try.prog 12 #[.int .u8 (c : Int)] w fun e w' => e = .returned (.bool (digB c)) ∧ w = w' := by
  by_cases h1 : 48 ≤ c
  · by_cases h2 : c ≤ 57
    · have H : Hid (digB c = true) := by simp [Hid, digB, h1, h2]
      have d1 : decide ((48 : Int) ≤ (c : Int)) = true := by simp; omega
      have d2 : decide ((c : Int) ≤ 57) = true := by simp; omega
      go_enter Try.func12, Try.ntmps12
      go_wp2
      go_ret
      exact ⟨by rw [H.out]; rfl, rfl⟩
    · have H : Hid (digB c = false) := by simp [Hid, digB, h2]
      have d1 : decide ((48 : Int) ≤ (c : Int)) = true := by simp; omega
      have d2 : decide ((c : Int) ≤ 57) = false := by simp; omega
      go_enter Try.func12, Try.ntmps12
      go_wp2
      go_ret
      exact ⟨by rw [H.out]; rfl, rfl⟩
  · have H : Hid (digB c = false) := by simp [Hid, digB, h1]
    have d1 : decide ((48 : Int) ≤ (c : Int)) = false := by simp; omega
    go_enter Try.func12, Try.ntmps12
    go_wp2
    go_ret
    exact ⟨by rw [H.out]; rfl, rfl⟩

/-! ### the clone -/
/-- the row at block g after k rounds: its first k cells are the bytes f -/
def Cl (wr : World) (g n k : Nat) (f : Nat → Nat) : Prop :=
  (∀ j, j < n → ∃ u, wr.cell? ⟨g, j, none⟩ = some u) ∧ (∀ o, wr.frozen? ⟨g, o, none⟩ = false) ∧ ∀ j, j < k → wr.cell? ⟨g, j, none⟩ = some (.int .u8 (f j : Int))
theorem cl_made {w1 : World} {g n : Nat} (f : Nat → Nat) (hown : w1.ownsRow g 5 1 (.slice (some ⟨g, 0, none⟩) n n) n (madeCells #[.int .u8 0] n).toList) : Cl w1 g n 0 f := by
  refine ⟨fun j hj => ⟨.int .u8 0, ?_⟩, fun o => hown.frozenAt o, fun j hj => absurd hj (Nat.not_lt_zero _)⟩
  rw [hown.cellAt j (by omega), toList_madeCells_one]
  simp [hj]
theorem cl_step {wr : World} {g n k : Nat} {f : Nat → Nat} (hk : k < n) (h : Cl wr g n k f) : Cl (wr.setCell ⟨g, k, none⟩ (.int .u8 (f k : Int))) g n (k + 1) f := by
  have same : (wr.setCell ⟨g, k, none⟩ (.int .u8 (f k : Int))).cell? ⟨g, k, none⟩ = some (.int .u8 (f k : Int)) := by
    obtain ⟨x, hx⟩ := h.1 k hk
    exact World.cell?_setCell_same _ _ _ hx
  have other : ∀ o, o ≠ k → (wr.setCell ⟨g, k, none⟩ (.int .u8 (f k : Int))).cell? ⟨g, o, none⟩ = wr.cell? ⟨g, o, none⟩ := fun o ho =>
    World.cell?_setCell_other _ _ _ _ (by intro e; injection e with _ e; exact ho e.symm)
  refine ⟨fun j hj => ?_, fun o => by rw [World.frozen?_setCell]; exact h.2.1 o, fun j hj => ?_⟩
  · by_cases e : j = k
    · subst e; exact ⟨_, same⟩
    · rw [other j e]; exact h.1 j hj
  · by_cases e : j = k
    · subst e; exact same
    · rw [other j e]; exact h.2.2 j (by omega)

set_option maxHeartbeats 400000 in
theorem clone_any (b off n cap : Nat) (f : Nat → Nat) (w : World) (hn : n ≤ 1048576) (hbw : b < w.heap.size) (hc : ∀ j, j < n → w.cell? ⟨b, off + j, none⟩ = some (.int .u8 (f j : Int))) :
    Calls Try.prog 11 #[.slice (some ⟨b, off, none⟩) n cap] w fun e w' => e = .returned (.slice (some ⟨w.heap.size, 0, none⟩) n n) ∧ Cl w' w.heap.size n n f ∧ Below w.heap.size w w' ∧ w.heap.size < w'.heap.size := by
  obtain ⟨i0, hi, hz0, hz1, hz2⟩ := info_parts info5
  have HC : Hid (∀ j, j < n → w.cell? ⟨b, off + j, none⟩ = some (.int .u8 (f j : Int))) := hc
  clear hc
  go_enter Try.func11, Try.ntmps11
  go_wp2_with (at_make; refine wpList_make_full _ rfl _ _ 22 rfl w.heap.size 5 i0 (.int .u8 0) 1 Try.underlying22 hi hz0 hz1 _ _ _ _ n rfl rfl rfl rfl ?_ ?_ (Nat.le_refl _) ?_)
  · rw [hz2]; omega
  · unfold maxLen; omega
  intro w1 hown hg
  have HF : Hid (Cl w1 w.heap.size n 0 f) := cl_made f hown
  have hbel : Below w.heap.size w w1 := (Below.refl _ _).grown hg (Nat.le_refl _) (fun k h => by cases h)
  have hsz : w.heap.size < w1.heap.size := (hown.lt w.heap.size rfl).2
  clear hg hown
  go_wp2
  go_loopw [4] (fun i wr => ∃ k : Nat, k ≤ n ∧ i = .int .i64 k ∧ Hid (Cl wr w.heap.size n k f) ∧ Below w.heap.size w wr ∧ w.heap.size < wr.heap.size) (fun i _ => n - (intOf i).toNat)
  case atStart => exact ⟨0, Nat.zero_le _, rfl, HF, hbel, hsz⟩
  case round =>
    clear HF hbel hsz
    obtain ⟨k, hk, rfl, HF, hbel, hsz⟩ := hrel
    by_cases hlt : k < n
    · have hcx : wr.cell? ⟨b, off + k, none⟩ = some (.int .u8 (f k : Int)) := by rw [hbel.cell (by exact hbw)]; exact HC.out k hlt
      obtain ⟨u, hu⟩ := HF.out.1 k hlt
      have hfz := HF.out.2.1 k
      have R : Hid (Cl (wr.setCell ⟨w.heap.size, k, none⟩ (.int .u8 (f k : Int))) w.heap.size n (k + 1) f) := cl_step hlt HF.out
      have R2 := hbel.setCell (p := ⟨w.heap.size, k, none⟩) (Nat.le_refl _) (.int .u8 (f k : Int))
      clear hbel HF
      go_wp2
      go_roundw
      case rel => exact ⟨k + 1, by omega, by go_num, R, R2, by simpa [World.setCell] using hsz⟩
      case measure => simp [intOf]; omega
    · obtain rfl : k = n := by omega
      go_wp2
      go_ret
      exact ⟨rfl, HF.out, hbel, hsz⟩
/-! ### the shape -/
def allB (g : Nat → Nat) : Nat → Bool
  | 0 => true
  | k + 1 => allB g k && digB (g k)
theorem allB_iff (g : Nat → Nat) : ∀ k, allB g k = true ↔ ∀ j, j < k → isDig (g j)
  | 0 => by simp [allB]
  | k + 1 => by
    simp only [allB, Bool.and_eq_true, allB_iff g k, digB_iff]
    constructor
    · rintro ⟨h1, h2⟩ j hj
      rcases Nat.lt_succ_iff_lt_or_eq.1 hj with h | rfl
      · exact h1 j h
      · exact h2
    · exact fun h => ⟨fun j hj => h j (by omega), h k (by omega)⟩
/-- what the law's own loop holds after k bytes -/
def sh (g : Nat → Nat) (d k : Nat) : Bool := decide (d ≤ 9) && allB g k
theorem sh_zero (g : Nat → Nat) (d : Nat) : sh g d 0 = decide ((d : Int) ≤ 9) := by simp [sh, allB] <;> omega
theorem sh_zero1 (g : Nat → Nat) {n d : Nat} (h1 : d + 1 ≤ n) (h2 : n ≤ d + 1) : sh g d 0 = decide ((n : Int) - 1 ≤ 9) := by
  obtain rfl : n = d + 1 := by omega
  rw [sh_zero]
  congr 1
  simp
theorem sh_step (g : Nat → Nat) (d k : Nat) : sh g d (k + 1) = (sh g d k && digB (g k)) := by simp [sh, allB, Bool.and_assoc]
/-- where smallInt said yes the loop never says no -/
theorem sh_yes {g : Nat → Nat} {d : Nat} {neg : Bool} {n : Int} (h : Small g d neg n true) {k : Nat} (hk : k ≤ d) : sh g d k = true := by
  obtain ⟨h9, hd⟩ := h.1.1 rfl
  have := (allB_iff g k).2 (fun j hj => hd j (by omega))
  simp [sh, h9, this]
/-- where it said no the loop says no by the end -/
theorem sh_no {g : Nat → Nat} {d : Nat} {neg : Bool} {n : Int} (h : Small g d neg n false) : sh g d d = false := by
  cases hs : sh g d d with
  | false => rfl
  | true =>
    simp only [sh, Bool.and_eq_true, decide_eq_true_eq] at hs
    exact absurd (h.1.2 ⟨hs.1, (allB_iff g d).1 hs.2⟩) (by decide)
theorem small_range {g : Nat → Nat} {d : Nat} {neg : Bool} {n : Int} (h : Small g d neg n true) : (neg = false → 0 ≤ n ∧ n ≤ 999999999) ∧ (neg = true → -999999999 ≤ n ∧ n ≤ 0) := by
  obtain ⟨h9, hd⟩ := h.1.1 rfl
  have hV := V_lt g d hd
  have hp := pow_le9 h9
  have hn := h.2.2 rfl
  constructor
  · rintro rfl
    rw [if_neg (by decide)] at hn
    omega
  · rintro rfl
    rw [if_pos rfl] at hn
    omega

set_option maxHeartbeats 1000000 in
theorem walk_plus (b off d cap : Nat) (f : Nat → Nat) (w : World) (h1 : 1 ≤ d) (hlen : d ≤ 1048576) (hbw : b < w.heap.size) (hf : ∀ j, j < d → f j ≤ 255) (hc : ∀ j, j < d → w.cell? ⟨b, off + j, none⟩ = some (.int .u8 (f j : Int))) (h0 : f 0 ≠ 45) :
    Calls Try.prog 4 #[.slice (some ⟨b, off, none⟩) d cap] w fun e w' => e = .returned (.bool true) ∧ Below w.heap.size w w' := by
  have HF : Hid (∀ j, j < d → f j ≤ 255) := hf
  have HC : Hid (∀ j, j < d → w.cell? ⟨b, off + j, none⟩ = some (.int .u8 (f j : Int))) := hc
  have H0 : Hid (f 0 ≠ 45) := h0
  have hq : ((f 0 : Int) == 45) = false := by have := H0.out; simp; omega
  clear hf hc h0
  go_enter Try.func4, Try.ntmps4
  go_wp2_with (go_at_call 10; refine (bytes_yes _ _ _ _ (by omega)).mono ?_; rintro e w' ⟨rfl, rfl⟩)
  refine (clone_any b off d cap f _ (by omega) hbw HC.out).mono ?_
  rintro e w1 ⟨rfl, hcl, hb1, hs1⟩
  have HC1 : Hid (∀ j, j < d → w1.cell? ⟨w.heap.size, j, none⟩ = some (.int .u8 (f j : Int))) := hcl.2.2
  have HB1 : Hid (Below w.heap.size w w1) := hb1
  clear hcl hb1
  go_wp2_with fail
  refine (zz_of _ _ _ _ _ (small_plus w.heap.size 0 d d f w1 h1 hlen HF.out (fun j hj => by rw [Nat.zero_add]; exact HC1.out j hj) H0.out)).mono ?_
  rintro e w2 ⟨x, ok, rfl, hS, hb2⟩
  have HS : Hid (Small f d false x ok) := hS
  have HC2 : Hid (∀ j, j < d → w2.cell? ⟨w.heap.size, j, none⟩ = some (.int .u8 (f j : Int))) := fun j hj => by rw [hb2.cell (by exact hs1)]; exact HC1.out j hj
  have HB : Hid (Below w.heap.size w w2) := HB1.out.trans (hb2.mono HB1.out.size)
  have c0 : w2.cell? ⟨w.heap.size, 0, none⟩ = some (.int .u8 (f 0 : Int)) := HC2.out 0 (by omega)
  clear hS hb2 HC HC1 HB1
  cases ok with
  | false =>
    obtain rfl := HS.out.2.1 rfl
    go_wp2
    go_loop [6, 7] (fun s i => ∃ k : Nat, k ≤ d ∧ i = .int .i64 (k : Int) ∧ s = .bool (sh f d k)) (fun _ i => d + 1 - (intOf i).toNat)
    case atStart => exact ⟨0, Nat.zero_le _, rfl, by rw [sh_zero]⟩
    case round =>
      obtain ⟨k, hk, rfl, rfl⟩ := hrel
      cases hsh : sh f d k
      · go_wp2
        go_ret
        exact ⟨rfl, HB.out⟩
      · by_cases hlt : k < d
        · have hcx : w2.cell? ⟨w.heap.size, k, none⟩ = some (.int .u8 (f k : Int)) := HC2.out k hlt
          have HST : Hid (sh f d (k + 1) = (sh f d k && digB (f k))) := sh_step f d k
          cases hdg : digB (f k)
          · go_wp2_with (go_at_call 12; refine (isdig_any _ _).mono ?_; rintro e w' ⟨rfl, rfl⟩)
            go_round
            case rel => exact ⟨k + 1, by omega, by go_num, by rw [HST.out, hsh, hdg]; rfl⟩
            case measure => simp [intOf]; omega
          · go_wp2_with (go_at_call 12; refine (isdig_any _ _).mono ?_; rintro e w' ⟨rfl, rfl⟩)
            go_round
            case rel => exact ⟨k + 1, by omega, by go_num, by rw [HST.out, hsh, hdg]; rfl⟩
            case measure => simp [intOf]; omega
        · exfalso
          obtain rfl : k = d := by omega
          have := sh_no HS.out
          rw [this] at hsh; cases hsh
  | true =>
    obtain ⟨r1, r2⟩ := (small_range HS.out).1 rfl
    go_wp2
    go_loop [6, 7] (fun s i => ∃ k : Nat, k ≤ d ∧ i = .int .i64 (k : Int) ∧ s = .bool (sh f d k)) (fun _ i => d + 1 - (intOf i).toNat)
    case atStart => exact ⟨0, Nat.zero_le _, rfl, by rw [sh_zero]⟩
    case round =>
      obtain ⟨k, hk, rfl, rfl⟩ := hrel
      cases hsh : sh f d k
      · exfalso
        have := sh_yes HS.out hk
        rw [this] at hsh; cases hsh
      · by_cases hlt : k < d
        · have hcx : w2.cell? ⟨w.heap.size, k, none⟩ = some (.int .u8 (f k : Int)) := HC2.out k hlt
          have HST : Hid (sh f d (k + 1) = (sh f d k && digB (f k))) := sh_step f d k
          cases hdg : digB (f k)
          · go_wp2_with (go_at_call 12; refine (isdig_any _ _).mono ?_; rintro e w' ⟨rfl, rfl⟩)
            go_round
            case rel => exact ⟨k + 1, by omega, by go_num, by rw [HST.out, hsh, hdg]; rfl⟩
            case measure => simp [intOf]; omega
          · go_wp2_with (go_at_call 12; refine (isdig_any _ _).mono ?_; rintro e w' ⟨rfl, rfl⟩)
            go_round
            case rel => exact ⟨k + 1, by omega, by go_num, by rw [HST.out, hsh, hdg]; rfl⟩
            case measure => simp [intOf]; omega
        · obtain rfl : k = d := by omega
          go_wp2
          go_ret
          exact ⟨rfl, HB.out⟩

set_option maxHeartbeats 1000000 in
theorem walk_minus (b off n d cap : Nat) (f g : Nat → Nat) (w : World) (hlen : n ≤ 1048576) (hn1 : d + 1 ≤ n) (hn2 : n ≤ d + 1) (hbw : b < w.heap.size) (hf : ∀ j, j < n → f j ≤ 255) (hc : ∀ j, j < n → w.cell? ⟨b, off + j, none⟩ = some (.int .u8 (f j : Int))) (h0 : f 0 = 45) (hg : ∀ j, g j = f (j + 1)) :
    Calls Try.prog 4 #[.slice (some ⟨b, off, none⟩) n cap] w fun e w' => e = .returned (.bool true) ∧ Below w.heap.size w w' := by
  have CALL : Hid (∀ w1 : World, (∀ j, j < n → w1.cell? ⟨w.heap.size, j, none⟩ = some (.int .u8 (f j : Int))) → Calls Try.prog 14 #[.slice (some ⟨w.heap.size, 0, none⟩) n n] w1 (Ans g d true w1)) := by
    intro w1 hc1
    have c0 : w1.cell? ⟨w.heap.size, 0, none⟩ = some (.int .u8 45) := by rw [hc1 0 (by omega), h0]; rfl
    obtain rfl : n = d + 1 := by omega
    by_cases hd0 : d = 0
    · subst hd0
      exact small_lone w.heap.size 0 g w1 c0
    · exact small_minus w.heap.size 0 d (d + 1) g w1 (by omega) (Nat.le_refl _) (by omega) (fun j hj => by rw [hg j]; exact hf (j + 1) (by omega)) c0 (fun j hj => by rw [show 0 + 1 + j = j + 1 by omega, hg j]; exact hc1 (j + 1) (by omega))
  have HG : Hid (∀ j, g j = f (j + 1)) := hg
  clear hg
  have HF : Hid (∀ j, j < n → f j ≤ 255) := hf
  have HC : Hid (∀ j, j < n → w.cell? ⟨b, off + j, none⟩ = some (.int .u8 (f j : Int))) := hc
  have H0 : Hid (f 0 = 45) := h0
  have hq : ((f 0 : Int) == 45) = true := by have := H0.out; simp; omega
  clear hf hc h0
  go_enter Try.func4, Try.ntmps4
  go_wp2_with (go_at_call 10; refine (bytes_yes _ _ _ _ (by omega)).mono ?_; rintro e w' ⟨rfl, rfl⟩)
  refine (clone_any b off n cap f _ (by omega) hbw HC.out).mono ?_
  rintro e w1 ⟨rfl, hcl, hb1, hs1⟩
  have HC1 : Hid (∀ j, j < n → w1.cell? ⟨w.heap.size, j, none⟩ = some (.int .u8 (f j : Int))) := hcl.2.2
  have HB1 : Hid (Below w.heap.size w w1) := hb1
  clear hcl hb1
  go_wp2_with fail
  refine (zz_of _ _ _ _ _ (CALL.out w1 HC1.out)).mono ?_
  rintro e w2 ⟨x, ok, rfl, hS, hb2⟩
  have HS : Hid (Small g d true x ok) := hS
  have HC2 : Hid (∀ j, j < n → w2.cell? ⟨w.heap.size, j, none⟩ = some (.int .u8 (f j : Int))) := fun j hj => by rw [hb2.cell (by exact hs1)]; exact HC1.out j hj
  have HB : Hid (Below w.heap.size w w2) := HB1.out.trans (hb2.mono HB1.out.size)
  have c0 : w2.cell? ⟨w.heap.size, 0, none⟩ = some (.int .u8 (f 0 : Int)) := HC2.out 0 (by omega)
  clear hS hb2 HC HC1 HB1
  cases ok with
  | false =>
    obtain rfl := HS.out.2.1 rfl
    go_wp2
    go_loop [6, 7] (fun s i => ∃ k : Nat, k ≤ d ∧ i = .int .i64 ((k : Int) + 1) ∧ s = .bool (sh g d k)) (fun _ i => d + 1 - (intOf i).toNat)
    case atStart => exact ⟨0, Nat.zero_le _, rfl, by rw [sh_zero1 g hn1 hn2]⟩
    case round =>
      obtain ⟨k, hk, rfl, rfl⟩ := hrel
      cases hsh : sh g d k
      · go_wp2
        go_ret
        exact ⟨rfl, HB.out⟩
      · by_cases hlt : k < d
        · have hcx : w2.cell? ⟨w.heap.size, k + 1, none⟩ = some (.int .u8 (g k : Int)) := by rw [HG.out k]; exact HC2.out (k + 1) (by omega)
          have HST : Hid (sh g d (k + 1) = (sh g d k && digB (g k))) := sh_step g d k
          cases hdg : digB (g k)
          · go_wp2_with (go_at_call 12; refine (isdig_any _ _).mono ?_; rintro e w' ⟨rfl, rfl⟩)
            go_round
            case rel => exact ⟨k + 1, by omega, by go_num, by rw [HST.out, hsh, hdg]; rfl⟩
            case measure => simp [intOf]; omega
          · go_wp2_with (go_at_call 12; refine (isdig_any _ _).mono ?_; rintro e w' ⟨rfl, rfl⟩)
            go_round
            case rel => exact ⟨k + 1, by omega, by go_num, by rw [HST.out, hsh, hdg]; rfl⟩
            case measure => simp [intOf]; omega
        · exfalso
          obtain rfl : k = d := by omega
          have := sh_no HS.out
          rw [this] at hsh; cases hsh
  | true =>
    obtain ⟨r1, r2⟩ := (small_range HS.out).2 rfl
    go_wp2
    go_loop [6, 7] (fun s i => ∃ k : Nat, k ≤ d ∧ i = .int .i64 ((k : Int) + 1) ∧ s = .bool (sh g d k)) (fun _ i => d + 1 - (intOf i).toNat)
    case atStart => exact ⟨0, Nat.zero_le _, rfl, by rw [sh_zero1 g hn1 hn2]⟩
    case round =>
      obtain ⟨k, hk, rfl, rfl⟩ := hrel
      cases hsh : sh g d k
      · exfalso
        have := sh_yes HS.out hk
        rw [this] at hsh; cases hsh
      · by_cases hlt : k < d
        · have hcx : w2.cell? ⟨w.heap.size, k + 1, none⟩ = some (.int .u8 (g k : Int)) := by rw [HG.out k]; exact HC2.out (k + 1) (by omega)
          have HST : Hid (sh g d (k + 1) = (sh g d k && digB (g k))) := sh_step g d k
          cases hdg : digB (g k)
          · go_wp2_with (go_at_call 12; refine (isdig_any _ _).mono ?_; rintro e w' ⟨rfl, rfl⟩)
            go_round
            case rel => exact ⟨k + 1, by omega, by go_num, by rw [HST.out, hsh, hdg]; rfl⟩
            case measure => simp [intOf]; omega
          · go_wp2_with (go_at_call 12; refine (isdig_any _ _).mono ?_; rintro e w' ⟨rfl, rfl⟩)
            go_round
            case rel => exact ⟨k + 1, by omega, by go_num, by rw [HST.out, hsh, hdg]; rfl⟩
            case measure => simp [intOf]; omega
        · obtain rfl : k = d := by omega
          go_wp2
          go_ret
          exact ⟨rfl, HB.out⟩

end Go.Proofs.Qxb6600091a.sm
