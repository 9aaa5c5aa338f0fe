import Derived.Test.Qxb6001407aRows
import Derived.WalkKit
import Derived.WalkLawsBesides
/- The contracts of 'policy.within' (24) and 'policy.ZZWithin' (20), and the plain law: 'wi' is reflexive, antisymmetric, transitive. -/
namespace Go.Proofs.Qxb6001407a.within
open Go.RowKit

/-! ### the plain function -/
def chairL : List UInt8 := [99, 104, 97, 105, 114]
def indepL : List UInt8 := [105, 110, 100, 101, 112, 101, 110, 100, 101, 110, 116, 95, 100, 105, 114, 101, 99, 116, 111, 114]
def gmL : List UInt8 := [103, 101, 110, 101, 114, 97, 108, 95, 109, 97, 110, 97, 103, 101, 114]
def dirL : List UInt8 := [100, 105, 114, 101, 99, 116, 111, 114]
def senL : List UInt8 := [115, 101, 110, 105, 111, 114, 95, 109, 97, 110, 97, 103, 101, 114]

/-- what 'within' answers, by the bytes of the two names -/
def wi (r n : List UInt8) : Bool :=
  if (r == chairL) || (r == indepL) then (n == r) || (n == dirL)
  else if r == gmL then (n == r) || (n == senL) else n == r

/-! ### the walks -/
set_option maxHeartbeats 1000000 in
theorem within_any (r n : ByteArray) (w : World) :
    Calls Try.prog 24 #[.string r, .string n] w fun e w' => e = .returned (.bool (wi r.toList n.toList)) ∧ w' = w := by
  have key : ∀ b, wi r.toList n.toList = b → Hid (wi r.toList n.toList = b) := fun b h => h
  cases c4 : (n.toList == r.toList) <;> cases c1 : (r.toList == [99, 104, 97, 105, 114])
  · cases c2 : (r.toList == [105, 110, 100, 101, 112, 101, 110, 100, 101, 110, 116, 95, 100, 105, 114, 101, 99, 116, 111, 114])
    · cases c3 : (r.toList == [103, 101, 110, 101, 114, 97, 108, 95, 109, 97, 110, 97, 103, 101, 114])
      · have K := key false (by simp [wi, chairL, indepL, gmL, c1, c2, c3, c4])
        clear key
        go_enter Try.func24, Try.ntmps24
        go_wp2
        go_ret
        exact ⟨by rw [K.out]; rfl, rfl⟩
      · cases c6 : (n.toList == [115, 101, 110, 105, 111, 114, 95, 109, 97, 110, 97, 103, 101, 114])
        · have K := key false (by simp [wi, chairL, indepL, gmL, senL, c1, c2, c3, c4, c6])
          clear key
          go_enter Try.func24, Try.ntmps24
          go_wp2
          go_ret
          exact ⟨by rw [K.out]; rfl, rfl⟩
        · have K := key true (by simp [wi, chairL, indepL, gmL, senL, c1, c2, c3, c4, c6])
          clear key
          go_enter Try.func24, Try.ntmps24
          go_wp2
          go_ret
          exact ⟨by rw [K.out]; rfl, rfl⟩
    · cases c5 : (n.toList == [100, 105, 114, 101, 99, 116, 111, 114])
      · have K := key false (by simp [wi, chairL, indepL, dirL, c1, c2, c4, c5])
        clear key
        go_enter Try.func24, Try.ntmps24
        go_wp2
        go_ret
        exact ⟨by rw [K.out]; rfl, rfl⟩
      · have K := key true (by simp [wi, chairL, indepL, dirL, c1, c2, c4, c5])
        clear key
        go_enter Try.func24, Try.ntmps24
        go_wp2
        go_ret
        exact ⟨by rw [K.out]; rfl, rfl⟩
  · cases c5 : (n.toList == [100, 105, 114, 101, 99, 116, 111, 114])
    · have K := key false (by simp [wi, chairL, dirL, c1, c4, c5])
      clear key
      go_enter Try.func24, Try.ntmps24
      go_wp2
      go_ret
      exact ⟨by rw [K.out]; rfl, rfl⟩
    · have K := key true (by simp [wi, chairL, dirL, c1, c4, c5])
      clear key
      go_enter Try.func24, Try.ntmps24
      go_wp2
      go_ret
      exact ⟨by rw [K.out]; rfl, rfl⟩
  · have K := key true (by unfold wi; simp [c4])
    clear key
    cases c2 : (r.toList == [105, 110, 100, 101, 112, 101, 110, 100, 101, 110, 116, 95, 100, 105, 114, 101, 99, 116, 111, 114])
    · cases c3 : (r.toList == [103, 101, 110, 101, 114, 97, 108, 95, 109, 97, 110, 97, 103, 101, 114])
      · go_enter Try.func24, Try.ntmps24
        go_wp2
        go_ret
        exact ⟨by rw [K.out]; rfl, rfl⟩
      · go_enter Try.func24, Try.ntmps24
        go_wp2
        go_ret
        exact ⟨by rw [K.out]; rfl, rfl⟩
    · go_enter Try.func24, Try.ntmps24
      go_wp2
      go_ret
      exact ⟨by rw [K.out]; rfl, rfl⟩
  · have K := key true (by unfold wi; simp [c4])
    clear key
    go_enter Try.func24, Try.ntmps24
    go_wp2
    go_ret
    exact ⟨by rw [K.out]; rfl, rfl⟩

theorem zz_any (r n : ByteArray) (w : World) :
    Calls Try.prog 20 #[.string r, .string n] w fun e w' => e = .returned (.bool (wi r.toList n.toList)) ∧ w' = w := by
  go_enter Try.func20, Try.ntmps20
  go_wp2_with (go_at_call 24; refine (within_any _ _ _).mono ?_; rintro e w' ⟨rfl, rfl⟩)
  go_ret
  exact ⟨rfl, rfl⟩

/-! ### the plain law -/
theorem wi_refl (a : List UInt8) : wi a a = true := by unfold wi; simp

theorem wi_cases {r n : List UInt8} (h : wi r n = true) :
    n = r ∨ (n = dirL ∧ (r = chairL ∨ r = indepL)) ∨ (n = senL ∧ r = gmL) := by
  unfold wi at h
  by_cases h1 : r = chairL
  · rw [if_pos (by simp [h1])] at h
    simp at h
    rcases h with h | h
    · exact .inl h
    · exact .inr (.inl ⟨h, .inl h1⟩)
  · by_cases h2 : r = indepL
    · rw [if_pos (by simp [h2])] at h
      simp at h
      rcases h with h | h
      · exact .inl h
      · exact .inr (.inl ⟨h, .inr h2⟩)
    · rw [if_neg (by simp [h1, h2])] at h
      by_cases h3 : r = gmL
      · rw [if_pos (by simp [h3])] at h
        simp at h
        rcases h with h | h
        · exact .inl h
        · exact .inr (.inr ⟨h, h3⟩)
      · rw [if_neg (by simp [h3])] at h
        simp at h
        exact .inl h

theorem wi_dir (n : List UInt8) : wi dirL n = (n == dirL) := by
  unfold wi
  rw [if_neg (by decide), if_neg (by decide)]
theorem wi_sen (n : List UInt8) : wi senL n = (n == senL) := by
  unfold wi
  rw [if_neg (by decide), if_neg (by decide)]

theorem wi_antisymm {a b : List UInt8} (h1 : wi a b = true) (h2 : wi b a = true) : a = b := by
  rcases wi_cases h1 with h | ⟨h, _⟩ | ⟨h, _⟩
  · exact h.symm
  · rw [h, wi_dir] at h2
    rw [h]; simpa using h2
  · rw [h, wi_sen] at h2
    rw [h]; simpa using h2

theorem wi_trans {a b c : List UInt8} (h1 : wi a b = true) (h2 : wi b c = true) : wi a c = true := by
  rcases wi_cases h1 with h | ⟨h, _⟩ | ⟨h, _⟩
  · rw [← h]; exact h2
  · rw [h, wi_dir] at h2
    have : c = b := by rw [h]; simpa using h2
    rw [this]; exact h1
  · rw [h, wi_sen] at h2
    have : c = b := by rw [h]; simpa using h2
    rw [this]; exact h1
end Go.Proofs.Qxb6001407a.within
