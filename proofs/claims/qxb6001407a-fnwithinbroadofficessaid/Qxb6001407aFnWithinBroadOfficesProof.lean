/- Proof of 'Rows.FnWithinBroadOfficesSaid'. The frame is the guide's template at this function's number and types; the walk is the prover's. -/
import Derived.Test.Qxb6001407aRows
import Derived.WalkKit
import Derived.ProofKit
import Derived.OpenShut
import Derived.ShutString
import Derived.Test.Qxb6001407aWithin
namespace Go.Proofs.Qxb6001407a.fnWithinBroadOffices
open Go.ChangeShapes Go.WideShapes Go.ChangeAt Go.RowKit
open Go.ChangeMaps (open_string shut_string)
set_option linter.unusedVariables false      -- a walk need not use every 'w<i>' (that an integer argument fits its kind)

theorem own : ownKnob Try.prog.godebug = none := by kernel_rfl

/-! ### STEP 1: THE WALK -/
theorem bytes_yes (a b : ByteArray) (w : World) (h : a.size + b.size ≤ 1048576) :
    Calls Try.prog 21 #[.string a, .string b] w fun e w' => e = .returned (.bool true) ∧ w' = w := by
  go_enter Try.func21, Try.ntmps21
  go_wp2
  go_ret
  exact ⟨rfl, rfl⟩

theorem bytes_no (a b : ByteArray) (w : World) (w0 : a.size ≤ maxLen) (w1 : b.size ≤ maxLen) (h : 1048576 < a.size + b.size) :
    Calls Try.prog 21 #[.string a, .string b] w fun e w' => e = .returned (.bool false) ∧ w' = w := by
  unfold maxLen at w0 w1
  go_enter Try.func21, Try.ntmps21
  go_wp2
  all_goals
    go_ret
    exact ⟨rfl, rfl⟩

/-- 'wi' of two strings: closed to the walk -/
def wb (r n : ByteArray) : Bool := within.wi r.toList n.toList
theorem zzb_any (r n : ByteArray) (w : World) :
    Calls Try.prog 20 #[.string r, .string n] w fun e w' => e = .returned (.bool (wb r n)) ∧ w' = w := within.zz_any r n w
theorem lit_chair : (⟨#[99, 104, 97, 105, 114]⟩ : ByteArray).toList = within.chairL := by rw [Go.ByteArray.toList_eq]; rfl
theorem lit_indep : (⟨#[105, 110, 100, 101, 112, 101, 110, 100, 101, 110, 116, 95, 100, 105, 114, 101, 99, 116, 111, 114]⟩ : ByteArray).toList = within.indepL := by rw [Go.ByteArray.toList_eq]; rfl
theorem lit_gm : (⟨#[103, 101, 110, 101, 114, 97, 108, 95, 109, 97, 110, 97, 103, 101, 114]⟩ : ByteArray).toList = within.gmL := by rw [Go.ByteArray.toList_eq]; rfl
theorem lit_dir : (⟨#[100, 105, 114, 101, 99, 116, 111, 114]⟩ : ByteArray).toList = within.dirL := by rw [Go.ByteArray.toList_eq]; rfl
theorem lit_sen : (⟨#[115, 101, 110, 105, 111, 114, 95, 109, 97, 110, 97, 103, 101, 114]⟩ : ByteArray).toList = within.senL := by rw [Go.ByteArray.toList_eq]; rfl
theorem kchair_dir : wb ⟨#[99, 104, 97, 105, 114]⟩ ⟨#[100, 105, 114, 101, 99, 116, 111, 114]⟩ = true := by unfold wb; rw [lit_chair, lit_dir]; decide +kernel
theorem kindep_dir : wb ⟨#[105, 110, 100, 101, 112, 101, 110, 100, 101, 110, 116, 95, 100, 105, 114, 101, 99, 116, 111, 114]⟩ ⟨#[100, 105, 114, 101, 99, 116, 111, 114]⟩ = true := by unfold wb; rw [lit_indep, lit_dir]; decide +kernel
theorem kgm_sen : wb ⟨#[103, 101, 110, 101, 114, 97, 108, 95, 109, 97, 110, 97, 103, 101, 114]⟩ ⟨#[115, 101, 110, 105, 111, 114, 95, 109, 97, 110, 97, 103, 101, 114]⟩ = true := by unfold wb; rw [lit_gm, lit_sen]; decide +kernel
theorem kgm_dir : wb ⟨#[103, 101, 110, 101, 114, 97, 108, 95, 109, 97, 110, 97, 103, 101, 114]⟩ ⟨#[100, 105, 114, 101, 99, 116, 111, 114]⟩ = false := by unfold wb; rw [lit_gm, lit_dir]; decide +kernel
theorem kchair_sen : wb ⟨#[99, 104, 97, 105, 114]⟩ ⟨#[115, 101, 110, 105, 111, 114, 95, 109, 97, 110, 97, 103, 101, 114]⟩ = false := by unfold wb; rw [lit_chair, lit_sen]; decide +kernel
theorem kindep_sen : wb ⟨#[105, 110, 100, 101, 112, 101, 110, 100, 101, 110, 116, 95, 100, 105, 114, 101, 99, 116, 111, 114]⟩ ⟨#[115, 101, 110, 105, 111, 114, 95, 109, 97, 110, 97, 103, 101, 114]⟩ = false := by unfold wb; rw [lit_indep, lit_sen]; decide +kernel
theorem kchair_indep : wb ⟨#[99, 104, 97, 105, 114]⟩ ⟨#[105, 110, 100, 101, 112, 101, 110, 100, 101, 110, 116, 95, 100, 105, 114, 101, 99, 116, 111, 114]⟩ = false := by unfold wb; rw [lit_chair, lit_indep]; decide +kernel
theorem kindep_chair : wb ⟨#[105, 110, 100, 101, 112, 101, 110, 100, 101, 110, 116, 95, 100, 105, 114, 101, 99, 116, 111, 114]⟩ ⟨#[99, 104, 97, 105, 114]⟩ = false := by unfold wb; rw [lit_indep, lit_chair]; decide +kernel
theorem k_dir (n : ByteArray) : wb ⟨#[100, 105, 114, 101, 99, 116, 111, 114]⟩ n = (n.toList == [100, 105, 114, 101, 99, 116, 111, 114]) := by unfold wb; rw [lit_dir]; exact within.wi_dir _
theorem k_sen (n : ByteArray) : wb ⟨#[115, 101, 110, 105, 111, 114, 95, 109, 97, 110, 97, 103, 101, 114]⟩ n = (n.toList == [115, 101, 110, 105, 111, 114, 95, 109, 97, 110, 97, 103, 101, 114]) := by unfold wb; rw [lit_sen]; exact within.wi_sen _

/-- the part behind the length tests, every test on the road decided: 'role' within 'named' means: the same, or one of three pairs -/
theorem parted (a0 a1 : ByteArray) (hw : wb a0 a1 = true) (hne : (a0.toList == a1.toList) = false) :
    ((a1.toList == [100, 105, 114, 101, 99, 116, 111, 114]) = true ∧ (a0.toList == [99, 104, 97, 105, 114]) = true) ∨
    ((a1.toList == [100, 105, 114, 101, 99, 116, 111, 114]) = true ∧ (a0.toList == [99, 104, 97, 105, 114]) = false ∧ (a0.toList == [105, 110, 100, 101, 112, 101, 110, 100, 101, 110, 116, 95, 100, 105, 114, 101, 99, 116, 111, 114]) = true) ∨
    ((a1.toList == [100, 105, 114, 101, 99, 116, 111, 114]) = false ∧ (a1.toList == [115, 101, 110, 105, 111, 114, 95, 109, 97, 110, 97, 103, 101, 114]) = true ∧ (a0.toList == [99, 104, 97, 105, 114]) = false ∧ (a0.toList == [105, 110, 100, 101, 112, 101, 110, 100, 101, 110, 116, 95, 100, 105, 114, 101, 99, 116, 111, 114]) = false ∧ (a0.toList == [103, 101, 110, 101, 114, 97, 108, 95, 109, 97, 110, 97, 103, 101, 114]) = true) := by
  have hne' : ¬ a1.toList = a0.toList := fun h => by rw [h] at hne; simp at hne
  rcases within.wi_cases hw with h | ⟨h, h' | h'⟩ | ⟨h, h'⟩
  · exact absurd h hne'
  · left; rw [h, h']; decide
  · right; left; rw [h, h']; decide
  · right; right; rw [h, h']; decide

/-- the facts that every way takes into the walk -/
theorem sen_of_dir (a1 : ByteArray) (h : (a1.toList == [100, 105, 114, 101, 99, 116, 111, 114]) = true) : (a1.toList == [115, 101, 110, 105, 111, 114, 95, 109, 97, 110, 97, 103, 101, 114]) = false := by
  have := eq_of_beq h
  rw [this]; decide

set_option maxHeartbeats 1000000 in
theorem walk_no_10 (a0 a1 : ByteArray) (w : World) (hb : a0.size + a1.size ≤ 1048576) (s0 : ¬ (262144 : Int) < (a0.size : Int)) (s1 : ¬ (262144 : Int) < (a1.size : Int)) (hw : wb a0 a1 = false) (d : (a1.toList == [100, 105, 114, 101, 99, 116, 111, 114]) = true) (t : (a1.toList == [115, 101, 110, 105, 111, 114, 95, 109, 97, 110, 97, 103, 101, 114]) = false) :
    Calls Try.prog 10 #[.string a0, .string a1] w fun e w' => e = .returned (.bool true) ∧ Grown w w' := by
  have f1 := kchair_dir
  have f2 := kindep_dir
  have f3 := kgm_sen
  have f4 := kgm_dir
  have f5 := kchair_sen
  have f6 := kindep_sen
  have f7 := kchair_indep
  have f8 := kindep_chair
  have g1 := k_dir a1
  have g2 := k_sen a1
  rw [d] at g1
  rw [t] at g2
  go_enter Try.func10, Try.ntmps10
  go_wp2_with (first | (go_at_call 21; refine (bytes_yes _ _ _ hb).mono ?_; rintro e w' ⟨rfl, rfl⟩) | (go_at_call 20; refine (zzb_any _ _ _).mono ?_; rintro e w' ⟨rfl, rfl⟩))
  go_ret
  exact ⟨rfl, Grown.refl _⟩

set_option maxHeartbeats 1000000 in
theorem walk_no_01 (a0 a1 : ByteArray) (w : World) (hb : a0.size + a1.size ≤ 1048576) (s0 : ¬ (262144 : Int) < (a0.size : Int)) (s1 : ¬ (262144 : Int) < (a1.size : Int)) (hw : wb a0 a1 = false) (d : (a1.toList == [100, 105, 114, 101, 99, 116, 111, 114]) = false) (t : (a1.toList == [115, 101, 110, 105, 111, 114, 95, 109, 97, 110, 97, 103, 101, 114]) = true) :
    Calls Try.prog 10 #[.string a0, .string a1] w fun e w' => e = .returned (.bool true) ∧ Grown w w' := by
  have f1 := kchair_dir
  have f2 := kindep_dir
  have f3 := kgm_sen
  have f4 := kgm_dir
  have f5 := kchair_sen
  have f6 := kindep_sen
  have f7 := kchair_indep
  have f8 := kindep_chair
  have g1 := k_dir a1
  have g2 := k_sen a1
  rw [d] at g1
  rw [t] at g2
  go_enter Try.func10, Try.ntmps10
  go_wp2_with (first | (go_at_call 21; refine (bytes_yes _ _ _ hb).mono ?_; rintro e w' ⟨rfl, rfl⟩) | (go_at_call 20; refine (zzb_any _ _ _).mono ?_; rintro e w' ⟨rfl, rfl⟩))
  go_ret
  exact ⟨rfl, Grown.refl _⟩

set_option maxHeartbeats 1000000 in
theorem walk_no_00 (a0 a1 : ByteArray) (w : World) (hb : a0.size + a1.size ≤ 1048576) (s0 : ¬ (262144 : Int) < (a0.size : Int)) (s1 : ¬ (262144 : Int) < (a1.size : Int)) (hw : wb a0 a1 = false) (d : (a1.toList == [100, 105, 114, 101, 99, 116, 111, 114]) = false) (t : (a1.toList == [115, 101, 110, 105, 111, 114, 95, 109, 97, 110, 97, 103, 101, 114]) = false) :
    Calls Try.prog 10 #[.string a0, .string a1] w fun e w' => e = .returned (.bool true) ∧ Grown w w' := by
  have f1 := kchair_dir
  have f2 := kindep_dir
  have f3 := kgm_sen
  have f4 := kgm_dir
  have f5 := kchair_sen
  have f6 := kindep_sen
  have f7 := kchair_indep
  have f8 := kindep_chair
  have g1 := k_dir a1
  have g2 := k_sen a1
  rw [d] at g1
  rw [t] at g2
  go_enter Try.func10, Try.ntmps10
  go_wp2_with (first | (go_at_call 21; refine (bytes_yes _ _ _ hb).mono ?_; rintro e w' ⟨rfl, rfl⟩) | (go_at_call 20; refine (zzb_any _ _ _).mono ?_; rintro e w' ⟨rfl, rfl⟩))
  go_ret
  exact ⟨rfl, Grown.refl _⟩

set_option maxHeartbeats 1000000 in
theorem walk_same_10 (a0 a1 : ByteArray) (w : World) (hb : a0.size + a1.size ≤ 1048576) (s0 : ¬ (262144 : Int) < (a0.size : Int)) (s1 : ¬ (262144 : Int) < (a1.size : Int)) (hw : wb a0 a1 = true) (hn : (a0.toList == a1.toList) = true) (d : (a1.toList == [100, 105, 114, 101, 99, 116, 111, 114]) = true) (t : (a1.toList == [115, 101, 110, 105, 111, 114, 95, 109, 97, 110, 97, 103, 101, 114]) = false) :
    Calls Try.prog 10 #[.string a0, .string a1] w fun e w' => e = .returned (.bool true) ∧ Grown w w' := by
  have f1 := kchair_dir
  have f2 := kindep_dir
  have f3 := kgm_sen
  have f4 := kgm_dir
  have f5 := kchair_sen
  have f6 := kindep_sen
  have f7 := kchair_indep
  have f8 := kindep_chair
  have g1 := k_dir a1
  have g2 := k_sen a1
  rw [d] at g1
  rw [t] at g2
  go_enter Try.func10, Try.ntmps10
  go_wp2_with (first | (go_at_call 21; refine (bytes_yes _ _ _ hb).mono ?_; rintro e w' ⟨rfl, rfl⟩) | (go_at_call 20; refine (zzb_any _ _ _).mono ?_; rintro e w' ⟨rfl, rfl⟩))
  go_ret
  exact ⟨rfl, Grown.refl _⟩

set_option maxHeartbeats 1000000 in
theorem walk_same_01 (a0 a1 : ByteArray) (w : World) (hb : a0.size + a1.size ≤ 1048576) (s0 : ¬ (262144 : Int) < (a0.size : Int)) (s1 : ¬ (262144 : Int) < (a1.size : Int)) (hw : wb a0 a1 = true) (hn : (a0.toList == a1.toList) = true) (d : (a1.toList == [100, 105, 114, 101, 99, 116, 111, 114]) = false) (t : (a1.toList == [115, 101, 110, 105, 111, 114, 95, 109, 97, 110, 97, 103, 101, 114]) = true) :
    Calls Try.prog 10 #[.string a0, .string a1] w fun e w' => e = .returned (.bool true) ∧ Grown w w' := by
  have f1 := kchair_dir
  have f2 := kindep_dir
  have f3 := kgm_sen
  have f4 := kgm_dir
  have f5 := kchair_sen
  have f6 := kindep_sen
  have f7 := kchair_indep
  have f8 := kindep_chair
  have g1 := k_dir a1
  have g2 := k_sen a1
  rw [d] at g1
  rw [t] at g2
  go_enter Try.func10, Try.ntmps10
  go_wp2_with (first | (go_at_call 21; refine (bytes_yes _ _ _ hb).mono ?_; rintro e w' ⟨rfl, rfl⟩) | (go_at_call 20; refine (zzb_any _ _ _).mono ?_; rintro e w' ⟨rfl, rfl⟩))
  go_ret
  exact ⟨rfl, Grown.refl _⟩

set_option maxHeartbeats 1000000 in
theorem walk_same_00 (a0 a1 : ByteArray) (w : World) (hb : a0.size + a1.size ≤ 1048576) (s0 : ¬ (262144 : Int) < (a0.size : Int)) (s1 : ¬ (262144 : Int) < (a1.size : Int)) (hw : wb a0 a1 = true) (hn : (a0.toList == a1.toList) = true) (d : (a1.toList == [100, 105, 114, 101, 99, 116, 111, 114]) = false) (t : (a1.toList == [115, 101, 110, 105, 111, 114, 95, 109, 97, 110, 97, 103, 101, 114]) = false) :
    Calls Try.prog 10 #[.string a0, .string a1] w fun e w' => e = .returned (.bool true) ∧ Grown w w' := by
  have f1 := kchair_dir
  have f2 := kindep_dir
  have f3 := kgm_sen
  have f4 := kgm_dir
  have f5 := kchair_sen
  have f6 := kindep_sen
  have f7 := kchair_indep
  have f8 := kindep_chair
  have g1 := k_dir a1
  have g2 := k_sen a1
  rw [d] at g1
  rw [t] at g2
  go_enter Try.func10, Try.ntmps10
  go_wp2_with (first | (go_at_call 21; refine (bytes_yes _ _ _ hb).mono ?_; rintro e w' ⟨rfl, rfl⟩) | (go_at_call 20; refine (zzb_any _ _ _).mono ?_; rintro e w' ⟨rfl, rfl⟩))
  go_ret
  exact ⟨rfl, Grown.refl _⟩

set_option maxHeartbeats 1000000 in
theorem walk_chair (a0 a1 : ByteArray) (w : World) (hb : a0.size + a1.size ≤ 1048576) (s0 : ¬ (262144 : Int) < (a0.size : Int)) (s1 : ¬ (262144 : Int) < (a1.size : Int)) (hw : wb a0 a1 = true) (hn : (a0.toList == a1.toList) = false) (d : (a1.toList == [100, 105, 114, 101, 99, 116, 111, 114]) = true) (t : (a1.toList == [115, 101, 110, 105, 111, 114, 95, 109, 97, 110, 97, 103, 101, 114]) = false) (c1 : (a0.toList == [99, 104, 97, 105, 114]) = true) :
    Calls Try.prog 10 #[.string a0, .string a1] w fun e w' => e = .returned (.bool true) ∧ Grown w w' := by
  have f1 := kchair_dir
  have f2 := kindep_dir
  have f3 := kgm_sen
  have f4 := kgm_dir
  have f5 := kchair_sen
  have f6 := kindep_sen
  have f7 := kchair_indep
  have f8 := kindep_chair
  have g1 := k_dir a1
  have g2 := k_sen a1
  rw [d] at g1
  rw [t] at g2
  go_enter Try.func10, Try.ntmps10
  go_wp2_with (first | (go_at_call 21; refine (bytes_yes _ _ _ hb).mono ?_; rintro e w' ⟨rfl, rfl⟩) | (go_at_call 20; refine (zzb_any _ _ _).mono ?_; rintro e w' ⟨rfl, rfl⟩))
  go_ret
  exact ⟨rfl, Grown.refl _⟩

set_option maxHeartbeats 1000000 in
theorem walk_indep (a0 a1 : ByteArray) (w : World) (hb : a0.size + a1.size ≤ 1048576) (s0 : ¬ (262144 : Int) < (a0.size : Int)) (s1 : ¬ (262144 : Int) < (a1.size : Int)) (hw : wb a0 a1 = true) (hn : (a0.toList == a1.toList) = false) (d : (a1.toList == [100, 105, 114, 101, 99, 116, 111, 114]) = true) (t : (a1.toList == [115, 101, 110, 105, 111, 114, 95, 109, 97, 110, 97, 103, 101, 114]) = false) (c1 : (a0.toList == [99, 104, 97, 105, 114]) = false) (c2 : (a0.toList == [105, 110, 100, 101, 112, 101, 110, 100, 101, 110, 116, 95, 100, 105, 114, 101, 99, 116, 111, 114]) = true) :
    Calls Try.prog 10 #[.string a0, .string a1] w fun e w' => e = .returned (.bool true) ∧ Grown w w' := by
  have f1 := kchair_dir
  have f2 := kindep_dir
  have f3 := kgm_sen
  have f4 := kgm_dir
  have f5 := kchair_sen
  have f6 := kindep_sen
  have f7 := kchair_indep
  have f8 := kindep_chair
  have g1 := k_dir a1
  have g2 := k_sen a1
  rw [d] at g1
  rw [t] at g2
  go_enter Try.func10, Try.ntmps10
  go_wp2_with (first | (go_at_call 21; refine (bytes_yes _ _ _ hb).mono ?_; rintro e w' ⟨rfl, rfl⟩) | (go_at_call 20; refine (zzb_any _ _ _).mono ?_; rintro e w' ⟨rfl, rfl⟩))
  go_ret
  exact ⟨rfl, Grown.refl _⟩

set_option maxHeartbeats 1000000 in
theorem walk_gm (a0 a1 : ByteArray) (w : World) (hb : a0.size + a1.size ≤ 1048576) (s0 : ¬ (262144 : Int) < (a0.size : Int)) (s1 : ¬ (262144 : Int) < (a1.size : Int)) (hw : wb a0 a1 = true) (hn : (a0.toList == a1.toList) = false) (d : (a1.toList == [100, 105, 114, 101, 99, 116, 111, 114]) = false) (t : (a1.toList == [115, 101, 110, 105, 111, 114, 95, 109, 97, 110, 97, 103, 101, 114]) = true) (c1 : (a0.toList == [99, 104, 97, 105, 114]) = false) (c2 : (a0.toList == [105, 110, 100, 101, 112, 101, 110, 100, 101, 110, 116, 95, 100, 105, 114, 101, 99, 116, 111, 114]) = false) (c3 : (a0.toList == [103, 101, 110, 101, 114, 97, 108, 95, 109, 97, 110, 97, 103, 101, 114]) = true) :
    Calls Try.prog 10 #[.string a0, .string a1] w fun e w' => e = .returned (.bool true) ∧ Grown w w' := by
  have f1 := kchair_dir
  have f2 := kindep_dir
  have f3 := kgm_sen
  have f4 := kgm_dir
  have f5 := kchair_sen
  have f6 := kindep_sen
  have f7 := kchair_indep
  have f8 := kindep_chair
  have g1 := k_dir a1
  have g2 := k_sen a1
  rw [d] at g1
  rw [t] at g2
  go_enter Try.func10, Try.ntmps10
  go_wp2_with (first | (go_at_call 21; refine (bytes_yes _ _ _ hb).mono ?_; rintro e w' ⟨rfl, rfl⟩) | (go_at_call 20; refine (zzb_any _ _ _).mono ?_; rintro e w' ⟨rfl, rfl⟩))
  go_ret
  exact ⟨rfl, Grown.refl _⟩

theorem walk (a0 : ByteArray) (a1 : ByteArray) (w0 : a0.size ≤ maxLen) (w1 : a1.size ≤ maxLen) (w : World) :
    Calls Try.prog 10 #[.string a0, .string a1] w fun e w' => e = .returned (.bool true) ∧ Grown w w' := by
  by_cases hb : a0.size + a1.size ≤ 1048576
  · by_cases s0 : (262144 : Int) < (a0.size : Int)
    · go_enter Try.func10, Try.ntmps10
      go_wp2_with (go_at_call 21; refine (bytes_yes _ _ _ hb).mono ?_; rintro e w' ⟨rfl, rfl⟩)
      go_ret
      exact ⟨rfl, Grown.refl _⟩
    · by_cases s1 : (262144 : Int) < (a1.size : Int)
      · go_enter Try.func10, Try.ntmps10
        go_wp2_with (go_at_call 21; refine (bytes_yes _ _ _ hb).mono ?_; rintro e w' ⟨rfl, rfl⟩)
        go_ret
        exact ⟨rfl, Grown.refl _⟩
      · cases hw : wb a0 a1
        · cases d : (a1.toList == [100, 105, 114, 101, 99, 116, 111, 114])
          · cases t : (a1.toList == [115, 101, 110, 105, 111, 114, 95, 109, 97, 110, 97, 103, 101, 114])
            · exact walk_no_00 a0 a1 w hb s0 s1 hw d t
            · exact walk_no_01 a0 a1 w hb s0 s1 hw d t
          · exact walk_no_10 a0 a1 w hb s0 s1 hw d (sen_of_dir a1 d)
        · cases hn : (a0.toList == a1.toList)
          · rcases parted a0 a1 hw hn with ⟨d, c1⟩ | ⟨d, c1, c2⟩ | ⟨d, t, c1, c2, c3⟩
            · exact walk_chair a0 a1 w hb s0 s1 hw hn d (sen_of_dir a1 d) c1
            · exact walk_indep a0 a1 w hb s0 s1 hw hn d (sen_of_dir a1 d) c1 c2
            · exact walk_gm a0 a1 w hb s0 s1 hw hn d t c1 c2 c3
          · cases d : (a1.toList == [100, 105, 114, 101, 99, 116, 111, 114])
            · cases t : (a1.toList == [115, 101, 110, 105, 111, 114, 95, 109, 97, 110, 97, 103, 101, 114])
              · exact walk_same_00 a0 a1 w hb s0 s1 hw hn d t
              · exact walk_same_01 a0 a1 w hb s0 s1 hw hn d t
            · exact walk_same_10 a0 a1 w hb s0 s1 hw hn d (sen_of_dir a1 d)
  · go_enter Try.func10, Try.ntmps10
    go_wp2_with (go_at_call 21; refine (bytes_no _ _ _ w0 w1 (by omega)).mono ?_; rintro e w' ⟨rfl, rfl⟩)
    go_ret
    exact ⟨rfl, Grown.refl _⟩

/-! ### THE ROW's STEP: WRITTEN OUT: LEAVE IT -/
set_option maxRecDepth 100000 in
theorem lifted (os : Os) (started : os.Started) (H : Type) (enc : TypeId × Value → H) :
    ReturnsInHanded {} Try.checked os 10 .any (Rows.fnWithinBroadOfficesSpec.pre6 enc Try.prog Try.f10 Rows.fnWithinBroadOfficesRow.domain false) (Rows.fnWithinBroadOfficesSpec.post enc Try.prog Try.f10 false true false false) := by
  refine returnsInHanded_of_change (C := Try.checked) own started (by kernel_rfl) Try.func10
    (ChangeSpec.witness6 (enc := enc) (C := Try.checked) false ⟨#[], #[.string ByteArray.empty, .string ByteArray.empty], []⟩ 8 (by kernel_rfl) (by kernel_rfl) (by kernel_rfl) (by kernel_rfl)) ?_
  intro W base args ds gs before hval0 hW hcnd _
  have hval : ∀ (j : Nat) t v, Try.f10.params[j]? = some t → args[j]? = some v → Value.okWide Try.prog W .any base t v := hval0
  have hW' := hW
  obtain ⟨p, q, hA0, hV, rfl, hfz, hnd⟩ := hW
  have hA : DataW.TrodAll enc Try.prog W 0 (fun _ => true) true Try.f10.params.toList args.toList ds p := hA0
  rw [Try.params10] at hA hval
  obtain ⟨v0, vs0, d0, ds0, p0, q0, hargs, rfl, rfl, h0, r0⟩ := trodAll_cons hA
  obtain ⟨v1, vs1, d1, ds1, p1, q1, rfl, rfl, rfl, h1, r1⟩ := trodAll_cons r0
  obtain ⟨rfl, rfl, rfl⟩ := trodAll_nil r1
  obtain rfl : args = #[v0, v1] := by cases args; simp_all
  obtain ⟨rfl, rfl⟩ := trodVars_none hV
  obtain ⟨a0, rfl, rfl, rfl, w0⟩ := open_string Try.underlying9 (hval 0 9 v0 rfl rfl) h0
  obtain ⟨a1, rfl, rfl, rfl, w1⟩ := open_string Try.underlying9 (hval 1 9 v1 rfl rfl) h1
  clear hA0 hval0
  simp only [List.append_nil] at hW'
  refine (walk a0 a1 w0 w1 W).mono fun e W' ⟨he, hg⟩ => ?_
  subst he
  exact ⟨_, rfl, post_of_same (pa := []) (pv := []) hW' (fun _ _ _ => (trodAll_cons_mk (shut_bool Try.underlying4 _) trodAll_mk0)) (fun sp _ => (trodAll_cons_mk (shut_string Try.underlying9 w0) (trodAll_cons_mk (shut_string Try.underlying9 w1) trodAll_mk0))) (fun _ _ => rfl) rfl
    (hg.frame _) hg.2.1 (ok_one (by kernel_rfl) rfl (okWide_bool_mk Try.underlying4 _))⟩

theorem over : Rows.fnWithinBroadOfficesRow.holds Try.pinned (OpenSpec.ofChange Rows.fnWithinBroadOfficesSpec) :=
  OpenClaim.holds_of_wide 10 Try.f10 rfl rfl rfl rfl rfl rfl rfl ⟨rfl, rfl, rfl, rfl, rfl⟩ rfl rfl rfl rfl rfl (by kernel_rfl) Try.func10 (by kernel_rfl)
    (of_decide_eq_true (by kernel_rfl)) (by unfold Func.isWrapper; first | (rw [if_pos (by decide +kernel)]; kernel_rfl) | (rw [if_neg (by decide +kernel)]; exact ⟨rfl, rfl⟩))
    (fun os started H enc _ => lifted os started H enc)

/-- ████ THE STATEMENT ████ -/
theorem proved : Rows.FnWithinBroadOfficesSaid :=
  over
end Go.Proofs.Qxb6001407a.fnWithinBroadOffices
