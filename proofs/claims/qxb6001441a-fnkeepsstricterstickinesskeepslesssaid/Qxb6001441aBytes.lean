import Derived.Test.Qxb6001441aBase
/- zzBytes (8), krAdd (28), krBytes (9): they return; where zzBytes says yes, the rows are short. -/
namespace Go.Proofs.Qxb6001441a.kp
open Go.RowKit Go.Maps

set_option maxHeartbeats 1000000 in
theorem add_any (t : Int) (a : Option Addr) (n cap : Nat) (p : Nat → Prop) (w : World) (hn : n ≤ 1048576) (hr : StrRow p w a n cap) :
    Calls Try.prog 28 #[.int .i64 t, .slice a n cap] w fun e w' => (∃ r : Int, e = .returned (.int .i64 r)) ∧ w = w' := by
  have HR : Hid (StrRow p w a n cap) := hr
  clear hr
  go_enter Try.func28, Try.ntmps28
  go_wp2
  go_loop [0, 11] (fun t i => ∃ k : Nat, k ≤ n ∧ i = .int .i64 k ∧ ∃ r : Int, t = .int .i64 r) (fun _ i => n - (intOf i).toNat)
  case atStart => exact ⟨0, Nat.zero_le _, rfl, _, rfl⟩
  case round =>
    obtain ⟨k, hk, rfl, r, rfl⟩ := hrel
    by_cases hlt : k < n
    · obtain ⟨b, off, hx, hpb, hc⟩ := HR.out.2 (by omega)
      subst hx
      obtain ⟨s, hs, hsl⟩ := hc k hlt
      clear hc
      unfold maxLen at hsl
      by_cases hr : 1048576 < r
      · go_wp2
        go_ret
        exact ⟨⟨_, rfl⟩, rfl⟩
      · go_wp2
        go_round
        case rel => exact ⟨k + 1, by omega, by go_num, _, rfl⟩
        case measure => simp [intOf]; omega
    · go_wp2
      go_ret
      exact ⟨⟨_, rfl⟩, rfl⟩

set_option maxHeartbeats 1000000 in
theorem kr_any (a1 : Option Addr) (n1 cap1 : Nat) (A1 : Nat → Option Addr) (L1 C1 : Nat → Nat) (a2 : Option Addr) (n2 cap2 : Nat) (A2 : Nat → Option Addr) (L2 C2 : Nat → Nat) (p : Nat → Prop) (path : ByteArray) (w : World)
    (h1 : n1 ≤ 1048576) (h2 : n2 ≤ 1048576) (hL1 : ∀ i, i < n1 → L1 i ≤ 1048576) (hL2 : ∀ i, i < n2 → L2 i ≤ 1048576) (hr1 : SRows p w a1 n1 cap1 A1 L1 C1) (hr2 : SRows p w a2 n2 cap2 A2 L2 C2) :
    Calls Try.prog 9 #[.slice a1 n1 cap1, .slice a2 n2 cap2, .string path] w fun e w' => (∃ r : Int, e = .returned (.int .i64 r)) ∧ w = w' := by
  have HR1 : Hid (SRows p w a1 n1 cap1 A1 L1 C1) := hr1
  have HR2 : Hid (SRows p w a2 n2 cap2 A2 L2 C2) := hr2
  have HL1 : Hid (∀ i, i < n1 → L1 i ≤ 1048576) := hL1
  have HL2 : Hid (∀ i, i < n2 → L2 i ≤ 1048576) := hL2
  clear hr1 hr2 hL1 hL2
  go_enter Try.func9, Try.ntmps9
  go_wp2
  go_loop [7, 14] (fun t i => ∃ k : Nat, k ≤ n1 ∧ i = .int .i64 k ∧ ∃ r : Int, t = .int .i64 r) (fun _ i => n1 - (intOf i).toNat)
  case atStart => exact ⟨0, Nat.zero_le _, rfl, _, rfl⟩
  case round =>
    obtain ⟨k, hk, rfl, r, rfl⟩ := hrel
    by_cases hlt : k < n1
    · obtain ⟨b, off, hx, hpb, hc⟩ := HR1.out.2.1 (by omega)
      subst hx
      have hcx := hc k hlt
      clear hc
      by_cases hr : 1048576 < r
      · go_wp2
        go_ret
        exact ⟨⟨_, rfl⟩, rfl⟩
      · go_wp2_with (go_at_call 28; refine (add_any _ _ _ _ p _ (HL1.out k hlt) (HR1.out.2.2 k hlt)).mono ?_; rintro e w' ⟨⟨r', rfl⟩, rfl⟩)
        go_round
        case rel => exact ⟨k + 1, by omega, by go_num, _, rfl⟩
        case measure => simp [intOf]; omega
    · go_wp2
      go_loop [7, 29] (fun t i => ∃ k : Nat, k ≤ n2 ∧ i = .int .i64 k ∧ ∃ r : Int, t = .int .i64 r) (fun _ i => n2 - (intOf i).toNat)
      case atStart => exact ⟨0, Nat.zero_le _, rfl, _, rfl⟩
      case round =>
        obtain ⟨k', hk', rfl, r', rfl⟩ := hrel
        by_cases hlt' : k' < n2
        · obtain ⟨b, off, hx, hpb, hc⟩ := HR2.out.2.1 (by omega)
          subst hx
          have hcx := hc k' hlt'
          clear hc
          by_cases hr : 1048576 < r'
          · go_wp2
            go_ret
            exact ⟨⟨_, rfl⟩, rfl⟩
          · go_wp2_with (go_at_call 28; refine (add_any _ _ _ _ p _ (HL2.out k' hlt') (HR2.out.2.2 k' hlt')).mono ?_; rintro e w' ⟨⟨r'', rfl⟩, rfl⟩)
            go_round
            case rel => exact ⟨k' + 1, by omega, by go_num, _, rfl⟩
            case measure => simp [intOf]; omega
        · go_wp2
          go_ret
          exact ⟨⟨_, rfl⟩, rfl⟩

/-- what zzBytes' yes gives -/
def Short (n1 n2 : Nat) (L1 L2 : Nat → Nat) : Prop := n1 ≤ 1048576 ∧ n2 ≤ 1048576 ∧ (∀ i, i < n1 → L1 i ≤ 1048576) ∧ ∀ i, i < n2 → L2 i ≤ 1048576

theorem upto {L : Nat → Nat} {k M : Nat} (h : ∀ j, j < k → L j ≤ M) (hk : L k ≤ M) : ∀ j, j < k + 1 → L j ≤ M := fun j hj => by
  rcases Nat.lt_succ_iff_lt_or_eq.1 hj with h' | rfl
  · exact h j h'
  · exact hk

set_option maxRecDepth 100000 in
set_option maxHeartbeats 2000000 in
theorem zz_any (a1 : Option Addr) (n1 cap1 : Nat) (A1 : Nat → Option Addr) (L1 C1 : Nat → Nat) (a2 : Option Addr) (n2 cap2 : Nat) (A2 : Nat → Option Addr) (L2 C2 : Nat → Nat) (p : Nat → Prop) (n : Int) (path : ByteArray) (w : World)
    (m1 : n1 ≤ maxLen) (m2 : n2 ≤ maxLen) (m3 : path.size ≤ maxLen) (hM1 : ∀ i, i < n1 → L1 i ≤ maxLen) (hM2 : ∀ i, i < n2 → L2 i ≤ maxLen) (hr1 : SRows p w a1 n1 cap1 A1 L1 C1) (hr2 : SRows p w a2 n2 cap2 A2 L2 C2) :
    Calls Try.prog 8 #[.slice a1 n1 cap1, .slice a2 n2 cap2, .int .i64 n, .string path] w fun e w' =>
      (e = .returned (.bool false) ∨ (e = .returned (.bool true) ∧ Short n1 n2 L1 L2)) ∧ w = w' := by
  have HR1 : Hid (SRows p w a1 n1 cap1 A1 L1 C1) := hr1
  have HR2 : Hid (SRows p w a2 n2 cap2 A2 L2 C2) := hr2
  have HM1 : Hid (∀ i, i < n1 → L1 i ≤ maxLen) := hM1
  have HM2 : Hid (∀ i, i < n2 → L2 i ≤ maxLen) := hM2
  clear hr1 hr2 hM1 hM2
  unfold maxLen at m1 m2 m3
  by_cases hn1 : n1 ≤ 1048576
  · go_enter Try.func8, Try.ntmps8
    go_wp2
    go_loop [9, 10] (fun z i => ∃ k : Nat, k ≤ n1 ∧ i = .int .i64 k ∧ (∀ j, j < k → L1 j ≤ 1048576) ∧ ∃ t : Int, 0 ≤ t ∧ t ≤ 1048576 ∧ z = .int .i64 t) (fun _ i => n1 - (intOf i).toNat)
    case atStart => exact ⟨0, Nat.zero_le _, rfl, fun j hj => absurd hj (Nat.not_lt_zero _), _, by omega, by omega, rfl⟩
    case round =>
      obtain ⟨k, hk, rfl, hLk, t, ht0, ht1, rfl⟩ := hrel
      have HLk : Hid (∀ j, j < k → L1 j ≤ 1048576) := hLk
      clear hLk
      by_cases hlt : k < n1
      · obtain ⟨b, off, hx, hpb, hc⟩ := HR1.out.2.1 (by omega)
        subst hx
        have hcx := hc k hlt
        clear hc
        have hmk := HM1.out k hlt
        unfold maxLen at hmk
        by_cases hl : L1 k ≤ 1048576
        · by_cases ht2 : t + L1 k ≤ 1048576
          · have hlt1 := hlt
            have hcx1 := hcx
            have hl1 := hl
            clear hcx
            obtain ⟨ak, hak⟩ : ∃ ak, ak = A1 k := ⟨_, rfl⟩
            have S1 : Hid (StrRow p w ak (L1 k) (C1 k)) := by rw [hak]; exact HR1.out.2.2 k hlt1
            rw [← hak] at hcx1
            clear hak
            go_wp2
            go_loop [9, 11] (fun z i => ∃ j : Nat, j ≤ L1 k ∧ i = .int .i64 j ∧ ∃ t : Int, 0 ≤ t ∧ t ≤ 1048576 ∧ z = .int .i64 t) (fun _ i => L1 k - (intOf i).toNat)
            case atStart => exact ⟨0, Nat.zero_le _, rfl, _, by omega, by omega, rfl⟩
            case round =>
              obtain ⟨j, hj, rfl, t', ht0', ht1', rfl⟩ := hrel
              by_cases hltj : j < L1 k
              · obtain ⟨b2, off2, hx2, _, hc2⟩ := S1.out.2 (by omega)
                subst hx2
                obtain ⟨s, hs, hsl⟩ := hc2 j hltj
                clear hc2
                unfold maxLen at hsl
                by_cases hsz : s.size ≤ 1048576
                · by_cases ht3 : t' + s.size ≤ 1048576
                  · go_wp2
                    go_round
                    case rel => exact ⟨j + 1, by omega, by go_num, _, by omega, by omega, rfl⟩
                    case measure => simp [intOf]; omega
                  · go_wp2
                    go_ret
                    exact ⟨.inl rfl, rfl⟩
                · go_wp2
                  go_ret
                  exact ⟨.inl rfl, rfl⟩
              · go_wp2
                go_round
                case rel => exact ⟨k + 1, by omega, by go_num, upto HLk.out hl1, _, by omega, by omega, rfl⟩
                case measure => simp [intOf]; omega
          · go_wp2
            go_ret
            exact ⟨.inl rfl, rfl⟩
        · go_wp2
          go_ret
          exact ⟨.inl rfl, rfl⟩
      · obtain rfl : k = n1 := by omega
        by_cases hn2 : n2 ≤ 1048576
        · by_cases hs2 : t + n2 ≤ 1048576
          · go_wp2
            go_loop [9, 12] (fun z i => ∃ k : Nat, k ≤ n2 ∧ i = .int .i64 k ∧ (∀ j, j < k → L2 j ≤ 1048576) ∧ ∃ t : Int, 0 ≤ t ∧ t ≤ 1048576 ∧ z = .int .i64 t) (fun _ i => n2 - (intOf i).toNat)
            case atStart => exact ⟨0, Nat.zero_le _, rfl, fun j hj => absurd hj (Nat.not_lt_zero _), _, by omega, by omega, rfl⟩
            case round =>
              obtain ⟨k2, hk2, rfl, hLk2, t2, ht02, ht12, rfl⟩ := hrel
              have HLk2 : Hid (∀ j, j < k2 → L2 j ≤ 1048576) := hLk2
              clear hLk2
              by_cases hlt2 : k2 < n2
              · obtain ⟨b, off, hx, hpb, hc⟩ := HR2.out.2.1 (by omega)
                subst hx
                have hcx2 := hc k2 hlt2
                clear hc
                have hmk := HM2.out k2 hlt2
                unfold maxLen at hmk
                by_cases hl2 : L2 k2 ≤ 1048576
                · by_cases ht2 : t2 + L2 k2 ≤ 1048576
                  · obtain ⟨ak, hak⟩ : ∃ ak, ak = A2 k2 := ⟨_, rfl⟩
                    have S2 : Hid (StrRow p w ak (L2 k2) (C2 k2)) := by rw [hak]; exact HR2.out.2.2 k2 hlt2
                    rw [← hak] at hcx2
                    clear hak
                    go_wp2
                    go_loop [9, 13] (fun z i => ∃ j : Nat, j ≤ L2 k2 ∧ i = .int .i64 j ∧ ∃ t : Int, 0 ≤ t ∧ t ≤ 1048576 ∧ z = .int .i64 t) (fun _ i => L2 k2 - (intOf i).toNat)
                    case atStart => exact ⟨0, Nat.zero_le _, rfl, _, by omega, by omega, rfl⟩
                    case round =>
                      obtain ⟨j, hj, rfl, t', ht0', ht1', rfl⟩ := hrel
                      by_cases hltj : j < L2 k2
                      · obtain ⟨b2, off2, hx2, _, hc2⟩ := S2.out.2 (by omega)
                        subst hx2
                        obtain ⟨s, hs, hsl⟩ := hc2 j hltj
                        clear hc2
                        unfold maxLen at hsl
                        by_cases hsz : s.size ≤ 1048576
                        · by_cases ht3 : t' + s.size ≤ 1048576
                          · go_wp2
                            go_round
                            case rel => exact ⟨j + 1, by omega, by go_num, _, by omega, by omega, rfl⟩
                            case measure => simp [intOf]; omega
                          · go_wp2
                            go_ret
                            exact ⟨.inl rfl, rfl⟩
                        · go_wp2
                          go_ret
                          exact ⟨.inl rfl, rfl⟩
                      · go_wp2
                        go_round
                        case rel => exact ⟨k2 + 1, by omega, by go_num, upto HLk2.out hl2, _, by omega, by omega, rfl⟩
                        case measure => simp [intOf]; omega
                  · go_wp2
                    go_ret
                    exact ⟨.inl rfl, rfl⟩
                · go_wp2
                  go_ret
                  exact ⟨.inl rfl, rfl⟩
              · obtain rfl : k2 = n2 := by omega
                by_cases hp1 : path.size ≤ 1048576
                · by_cases hp2 : t2 + path.size ≤ 1048576
                  · go_wp2
                    go_ret
                    exact ⟨.inr ⟨rfl, hn1, hn2, HLk.out, HLk2.out⟩, rfl⟩
                  · go_wp2
                    go_ret
                    exact ⟨.inl rfl, rfl⟩
                · go_wp2
                  go_ret
                  exact ⟨.inl rfl, rfl⟩
          · go_wp2
            go_ret
            exact ⟨.inl rfl, rfl⟩
        · go_wp2
          go_ret
          exact ⟨.inl rfl, rfl⟩
  · go_enter Try.func8, Try.ntmps8
    go_wp2
    go_ret
    exact ⟨.inl rfl, rfl⟩
end Go.Proofs.Qxb6001441a.kp
