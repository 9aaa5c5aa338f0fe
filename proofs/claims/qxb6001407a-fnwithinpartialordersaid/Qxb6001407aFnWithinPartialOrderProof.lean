/- Proof of 'Rows.FnWithinPartialOrderSaid'. The frame is the guide's template at this function's number and types; the walk is the prover's. -/
import Derived.Test.Qxb6001407aRows
import Derived.WalkKit
import Derived.ProofKit
import Derived.OpenShut
import Derived.ShutString
import Derived.Test.Qxb6001407aWithin
namespace Go.Proofs.Qxb6001407a.fnWithinPartialOrder
open Go.ChangeShapes Go.WideShapes Go.ChangeAt Go.RowKit
open Go.ChangeMaps (open_string shut_string)
set_option linter.unusedVariables false      -- a walk need not use every 'w<i>' (that an integer argument fits its kind)

theorem own : ownKnob Try.prog.godebug = none := by kernel_rfl

/-! ### STEP 1: THE WALK -/
theorem bytes_yes (a b c : ByteArray) (w : World) (h : a.size + b.size + c.size ≤ 1048576) :
    Calls Try.prog 19 #[.string a, .string b, .string c] w fun e w' => e = .returned (.bool true) ∧ w' = w := by
  go_enter Try.func19, Try.ntmps19
  go_wp2
  go_ret
  exact ⟨rfl, rfl⟩

theorem bytes_no (a b c : ByteArray) (w : World) (w0 : a.size ≤ maxLen) (w1 : b.size ≤ maxLen) (w2 : c.size ≤ maxLen) (h : 1048576 < a.size + b.size + c.size) :
    Calls Try.prog 19 #[.string a, .string b, .string c] w fun e w' => e = .returned (.bool false) ∧ w' = w := by
  unfold maxLen at w0 w1 w2
  go_enter Try.func19, Try.ntmps19
  go_wp2
  all_goals
    go_ret
    exact ⟨rfl, rfl⟩

set_option maxHeartbeats 1000000 in
theorem walk (a0 : ByteArray) (a1 : ByteArray) (a2 : ByteArray) (w0 : a0.size ≤ maxLen) (w1 : a1.size ≤ maxLen) (w2 : a2.size ≤ maxLen) (w : World) :
    Calls Try.prog 9 #[.string a0, .string a1, .string a2] w fun e w' => e = .returned (.bool true) ∧ Grown w w' := by
  by_cases hb : a0.size + a1.size + a2.size ≤ 1048576
  · by_cases s0 : (262144 : Int) < (a0.size : Int)
    · go_enter Try.func9, Try.ntmps9
      go_wp2_with (go_at_call 19; refine (bytes_yes _ _ _ _ hb).mono ?_; rintro e w' ⟨rfl, rfl⟩)
      go_ret
      exact ⟨rfl, Grown.refl _⟩
    · by_cases s1 : (262144 : Int) < (a1.size : Int)
      · go_enter Try.func9, Try.ntmps9
        go_wp2_with (go_at_call 19; refine (bytes_yes _ _ _ _ hb).mono ?_; rintro e w' ⟨rfl, rfl⟩)
        go_ret
        exact ⟨rfl, Grown.refl _⟩
      · by_cases s2 : (262144 : Int) < (a2.size : Int)
        · go_enter Try.func9, Try.ntmps9
          go_wp2_with (go_at_call 19; refine (bytes_yes _ _ _ _ hb).mono ?_; rintro e w' ⟨rfl, rfl⟩)
          go_ret
          exact ⟨rfl, Grown.refl _⟩
        · have haa := within.wi_refl a0.toList
          cases hab : within.wi a0.toList a1.toList
          · cases hba : within.wi a1.toList a0.toList
            · go_enter Try.func9, Try.ntmps9
              go_wp2_with (first | (go_at_call 19; refine (bytes_yes _ _ _ _ hb).mono ?_; rintro e w' ⟨rfl, rfl⟩) | (go_at_call 20; refine (within.zz_any _ _ _).mono ?_; rintro e w' ⟨rfl, rfl⟩))
              go_ret
              exact ⟨rfl, Grown.refl _⟩
            · go_enter Try.func9, Try.ntmps9
              go_wp2_with (first | (go_at_call 19; refine (bytes_yes _ _ _ _ hb).mono ?_; rintro e w' ⟨rfl, rfl⟩) | (go_at_call 20; refine (within.zz_any _ _ _).mono ?_; rintro e w' ⟨rfl, rfl⟩))
              go_ret
              exact ⟨rfl, Grown.refl _⟩
          · cases hba : within.wi a1.toList a0.toList
            · cases hbc : within.wi a1.toList a2.toList
              · go_enter Try.func9, Try.ntmps9
                go_wp2_with (first | (go_at_call 19; refine (bytes_yes _ _ _ _ hb).mono ?_; rintro e w' ⟨rfl, rfl⟩) | (go_at_call 20; refine (within.zz_any _ _ _).mono ?_; rintro e w' ⟨rfl, rfl⟩))
                go_ret
                exact ⟨rfl, Grown.refl _⟩
              · have hac := within.wi_trans hab hbc
                go_enter Try.func9, Try.ntmps9
                go_wp2_with (first | (go_at_call 19; refine (bytes_yes _ _ _ _ hb).mono ?_; rintro e w' ⟨rfl, rfl⟩) | (go_at_call 20; refine (within.zz_any _ _ _).mono ?_; rintro e w' ⟨rfl, rfl⟩))
                go_ret
                exact ⟨rfl, Grown.refl _⟩
            · have he : (a0.toList == a1.toList) = true := by rw [within.wi_antisymm hab hba]; simp
              cases hbc : within.wi a1.toList a2.toList
              · go_enter Try.func9, Try.ntmps9
                go_wp2_with (first | (go_at_call 19; refine (bytes_yes _ _ _ _ hb).mono ?_; rintro e w' ⟨rfl, rfl⟩) | (go_at_call 20; refine (within.zz_any _ _ _).mono ?_; rintro e w' ⟨rfl, rfl⟩))
                go_ret
                exact ⟨rfl, Grown.refl _⟩
              · have hac := within.wi_trans hab hbc
                go_enter Try.func9, Try.ntmps9
                go_wp2_with (first | (go_at_call 19; refine (bytes_yes _ _ _ _ hb).mono ?_; rintro e w' ⟨rfl, rfl⟩) | (go_at_call 20; refine (within.zz_any _ _ _).mono ?_; rintro e w' ⟨rfl, rfl⟩))
                go_ret
                exact ⟨rfl, Grown.refl _⟩
  · go_enter Try.func9, Try.ntmps9
    go_wp2_with (go_at_call 19; refine (bytes_no _ _ _ _ w0 w1 w2 (by omega)).mono ?_; rintro e w' ⟨rfl, rfl⟩)
    go_ret
    exact ⟨rfl, Grown.refl _⟩

/-! ### THE ROW's STEP: WRITTEN OUT: LEAVE IT -/
set_option maxRecDepth 100000 in
theorem lifted (os : Os) (started : os.Started) (H : Type) (enc : TypeId × Value → H) :
    ReturnsInHanded {} Try.checked os 9 .any (Rows.fnWithinPartialOrderSpec.pre6 enc Try.prog Try.f9 Rows.fnWithinPartialOrderRow.domain false) (Rows.fnWithinPartialOrderSpec.post enc Try.prog Try.f9 false true false false) := by
  refine returnsInHanded_of_change (C := Try.checked) own started (by kernel_rfl) Try.func9
    (ChangeSpec.witness6 (enc := enc) (C := Try.checked) false ⟨#[], #[.string ByteArray.empty, .string ByteArray.empty, .string ByteArray.empty], []⟩ 8 (by kernel_rfl) (by kernel_rfl) (by kernel_rfl) (by kernel_rfl)) ?_
  intro W base args ds gs before hval0 hW hcnd _
  have hval : ∀ (j : Nat) t v, Try.f9.params[j]? = some t → args[j]? = some v → Value.okWide Try.prog W .any base t v := hval0
  have hW' := hW
  obtain ⟨p, q, hA0, hV, rfl, hfz, hnd⟩ := hW
  have hA : DataW.TrodAll enc Try.prog W 0 (fun _ => true) true Try.f9.params.toList args.toList ds p := hA0
  rw [Try.params9] at hA hval
  obtain ⟨v0, vs0, d0, ds0, p0, q0, hargs, rfl, rfl, h0, r0⟩ := trodAll_cons hA
  obtain ⟨v1, vs1, d1, ds1, p1, q1, rfl, rfl, rfl, h1, r1⟩ := trodAll_cons r0
  obtain ⟨v2, vs2, d2, ds2, p2, q2, rfl, rfl, rfl, h2, r2⟩ := trodAll_cons r1
  obtain ⟨rfl, rfl, rfl⟩ := trodAll_nil r2
  obtain rfl : args = #[v0, v1, v2] := by cases args; simp_all
  obtain ⟨rfl, rfl⟩ := trodVars_none hV
  obtain ⟨a0, rfl, rfl, rfl, w0⟩ := open_string Try.underlying9 (hval 0 9 v0 rfl rfl) h0
  obtain ⟨a1, rfl, rfl, rfl, w1⟩ := open_string Try.underlying9 (hval 1 9 v1 rfl rfl) h1
  obtain ⟨a2, rfl, rfl, rfl, w2⟩ := open_string Try.underlying9 (hval 2 9 v2 rfl rfl) h2
  clear hA0 hval0
  simp only [List.append_nil] at hW'
  refine (walk a0 a1 a2 w0 w1 w2 W).mono fun e W' ⟨he, hg⟩ => ?_
  subst he
  exact ⟨_, rfl, post_of_same (pa := []) (pv := []) hW' (fun _ _ _ => (trodAll_cons_mk (shut_bool Try.underlying4 _) trodAll_mk0)) (fun sp _ => (trodAll_cons_mk (shut_string Try.underlying9 w0) (trodAll_cons_mk (shut_string Try.underlying9 w1) (trodAll_cons_mk (shut_string Try.underlying9 w2) trodAll_mk0)))) (fun _ _ => rfl) rfl
    (hg.frame _) hg.2.1 (ok_one (by kernel_rfl) rfl (okWide_bool_mk Try.underlying4 _))⟩

theorem over : Rows.fnWithinPartialOrderRow.holds Try.pinned (OpenSpec.ofChange Rows.fnWithinPartialOrderSpec) :=
  OpenClaim.holds_of_wide 9 Try.f9 rfl rfl rfl rfl rfl rfl rfl ⟨rfl, rfl, rfl, rfl, rfl⟩ rfl rfl rfl rfl rfl (by kernel_rfl) Try.func9 (by kernel_rfl)
    (of_decide_eq_true (by kernel_rfl)) (by unfold Func.isWrapper; first | (rw [if_pos (by decide +kernel)]; kernel_rfl) | (rw [if_neg (by decide +kernel)]; exact ⟨rfl, rfl⟩))
    (fun os started H enc _ => lifted os started H enc)

/-- ████ THE STATEMENT ████ -/
theorem proved : Rows.FnWithinPartialOrderSaid :=
  over
end Go.Proofs.Qxb6001407a.fnWithinPartialOrder
