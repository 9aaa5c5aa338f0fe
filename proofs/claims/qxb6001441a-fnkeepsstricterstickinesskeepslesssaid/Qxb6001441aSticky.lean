import Derived.Test.Qxb6001441aKeeps
/- keeps (29) and ZZKeeps (13), at each of the four words. -/
namespace Go.Proofs.Qxb6001441a.kp
open Go.RowKit Go.Maps

theorem keeps_last (g I S n : Nat) (st x : Int) (path : ByteArray) (w : World) (hR : Revs w g I S n) (hx : x = (n : Int)) :
    Calls Try.prog 29 #[.pointer (some ⟨S, 0, none⟩), .int .i64 st, .int .i64 x, .string path] w fun e w' => e = .returned (.tuple #[.int .i64 n, .bool true]) ∧ w = w' := by
  subst hx
  have HR : Hid (Revs w g I S n) := hR
  clear hR
  go_enter Try.func29, Try.ntmps29
  go_wp2_with (go_at_call 31; refine (latest_any g I S n _ HR.out).mono ?_; rintro e w' ⟨rfl, rfl⟩)
  go_ret2
  exact ⟨rfl, rfl⟩

theorem keeps_change (g I S n : Nat) (x : Int) (path : ByteArray) (w : World) (hR : Revs w g I S n) :
    Calls Try.prog 29 #[.pointer (some ⟨S, 0, none⟩), .int .i64 3, .int .i64 x, .string path] w fun e w' => e = .returned (.tuple #[.int .i64 n, .bool true]) ∧ w = w' := by
  have HR : Hid (Revs w g I S n) := hR
  clear hR
  cases hq : (x == (n : Int))
  · go_enter Try.func29, Try.ntmps29
    go_wp2_with (go_at_call 31; refine (latest_any g I S n _ HR.out).mono ?_; rintro e w' ⟨rfl, rfl⟩)
    go_ret2
    exact ⟨rfl, rfl⟩
  · go_enter Try.func29, Try.ntmps29
    go_wp2_with (go_at_call 31; refine (latest_any g I S n _ HR.out).mono ?_; rintro e w' ⟨rfl, rfl⟩)
    go_ret2
    exact ⟨rfl, rfl⟩

set_option maxHeartbeats 400000 in
theorem keeps_off (g I S n k : Nat) (x : Int) (path : ByteArray) (w : World) (hR : Revs w g I S n) (hx : x = (k : Int) + 1) (hk : k + 1 < n) (hn : n ≤ 1048576) (hp : path.size ≤ maxLen) (hc : w.cell? ⟨I, k, none⟩ = some (.map none)) :
    Calls Try.prog 29 #[.pointer (some ⟨S, 0, none⟩), .int .i64 2, .int .i64 x, .string path] w fun e w' => ∃ D : DataW Unit, e = .returned (.tuple #[.int .i64 x, .bool false]) ∧ Cached w w' g I S n k D := by
  have HR : Hid (Revs w g I S n) := hR
  have HX : Hid (x = (k : Int) + 1) := hx
  have hq : (x == (n : Int)) = false := by simp; omega
  clear hR hx
  go_enter Try.func29, Try.ntmps29
  go_wp2_with (go_at_call 31; refine (latest_any g I S n _ HR.out).mono ?_; rintro e w' ⟨rfl, rfl⟩)
  refine (id_new g I S n k _ _ _ HR.out HX.out (by omega) hn hp hc).mono ?_
  rintro e w' ⟨v, D, rfl, hC⟩
  have HC : Hid (Cached w w' g I S n k D) := hC
  clear hC
  go_wp2
  go_ret2
  exact ⟨D, rfl, HC.out⟩

set_option maxHeartbeats 400000 in
theorem keeps_files (g I S n k m N : Nat) (D : DataW Unit) (x : Int) (path : ByteArray) (w : World) (hR : Revs w g I S n) (hx : x = (k : Int) + 1) (hk : k + 1 < n) (hn : n ≤ 1048576) (hp : path.size ≤ maxLen) (hc : w.cell? ⟨I, k, none⟩ = some (.map (some m)))
    (hm : w.ownsMap Try.prog 9 (plainElem Try.prog 9) m N D) :
    Calls Try.prog 29 #[.pointer (some ⟨S, 0, none⟩), .int .i64 0, .int .i64 x, .string path] w fun e w' => e = .returned (.tuple #[.int .i64 x, .bool (Maps.has D (.string path.data.toList))]) ∧ w = w' := by
  have HR : Hid (Revs w g I S n) := hR
  have HX : Hid (x = (k : Int) + 1) := hx
  have hq : (x == (n : Int)) = false := by simp; omega
  have HM : Hid (w.ownsMap Try.prog 9 (plainElem Try.prog 9) m N D) := hm
  clear hR hx hm
  go_enter Try.func29, Try.ntmps29
  go_wp2_with (go_at_call 31; refine (latest_any g I S n _ HR.out).mono ?_; rintro e w' ⟨rfl, rfl⟩)
  refine (id_old g I S n k m N D _ _ _ HR.out HX.out (by omega) hn hp hc HM.out).mono ?_
  rintro e w' ⟨⟨v, rfl⟩, rfl⟩
  go_wp2
  go_ret2
  exact ⟨rfl, rfl⟩

set_option maxHeartbeats 400000 in
theorem keeps_unch (g I S n k m N : Nat) (D : DataW Unit) (x : Int) (path : ByteArray) (w : World) (hR : Revs w g I S n) (hx : x = (k : Int) + 1) (hk : k + 1 < n) (hn : n ≤ 1048576) (hp : path.size ≤ maxLen) (hc : w.cell? ⟨I, k, none⟩ = some (.map (some m)))
    (hm : w.ownsMap Try.prog 9 (plainElem Try.prog 9) m N D) (hc2 : w.cell? ⟨I, n - 1, none⟩ = some (.map none)) :
    Calls Try.prog 29 #[.pointer (some ⟨S, 0, none⟩), .int .i64 1, .int .i64 x, .string path] w fun e w' => ∃ (b : Bool) (D' : DataW Unit), e = .returned (.tuple #[.int .i64 x, .bool b]) ∧ (b = true → Maps.has D (.string path.data.toList) = true) ∧ Cached w w' g I S n (n - 1) D' := by
  have HR : Hid (Revs w g I S n) := hR
  have HX : Hid (x = (k : Int) + 1) := hx
  have hq : (x == (n : Int)) = false := by simp; omega
  have HM : Hid (w.ownsMap Try.prog 9 (plainElem Try.prog 9) m N D) := hm
  have HC2 : Hid (w.cell? ⟨I, n - 1, none⟩ = some (.map none)) := hc2
  clear hR hx hm hc2
  go_enter Try.func29, Try.ntmps29
  go_wp2_with (go_at_call 31; refine (latest_any g I S n _ HR.out).mono ?_; rintro e w' ⟨rfl, rfl⟩)
  refine (id_old g I S n k m N D _ _ _ HR.out HX.out (by omega) hn hp hc HM.out).mono ?_
  rintro e w' ⟨⟨v, rfl⟩, rfl⟩
  have hh : ∀ c, Maps.has D (.string path.data.toList) = c → Hid (Maps.has D (.string path.data.toList) = c) := fun _ h => h
  generalize hok : Maps.has D (.string path.data.toList) = ok
  have HOK := hh _ hok
  clear hh hok
  go_wp2_with fail
  refine (id_new g I S n (n - 1) _ _ _ HR.out (by omega) (by omega) hn hp HC2.out).mono ?_
  rintro e w' ⟨v2, D2, rfl, hC⟩
  have HC : Hid (Cached w w' g I S n (n - 1) D2) := hC
  clear hC
  generalize Maps.has D2 (.string path.data.toList) = ok2
  cases ok with
  | false =>
    go_wp2
    go_ret2
    exact ⟨false, D2, rfl, (fun h => by cases h), HC.out⟩
  | true =>
    cases h1 : (v.toList == []) <;> cases h2 : (v.toList == v2.toList)
    all_goals
      go_wp2
      go_ret2
      exact ⟨_, D2, rfl, fun _ => HOK.out, HC.out⟩

/-! ### through ZZKeeps -/
/-- ZZKeeps hands on what keeps hands back -/
theorem zz_of (S : Nat) (st x : Int) (path : ByteArray) (w : World) (R : Int → Bool → World → Prop)
    (h : Calls Try.prog 29 #[.pointer (some ⟨S, 0, none⟩), .int .i64 st, .int .i64 x, .string path] w fun e w' => ∃ r b, e = .returned (.tuple #[.int .i64 r, .bool b]) ∧ R r b w') :
    Calls Try.prog 13 #[.pointer (some ⟨S, 0, none⟩), .int .i64 st, .int .i64 x, .string path] w fun e w' => ∃ r b, e = .returned (.tuple #[.int .i64 r, .bool b]) ∧ R r b w' := by
  have H : Hid (Calls Try.prog 29 #[.pointer (some ⟨S, 0, none⟩), .int .i64 st, .int .i64 x, .string path] w fun e w' => ∃ r b, e = .returned (.tuple #[.int .i64 r, .bool b]) ∧ R r b w') := h
  clear h
  go_enter Try.func13, Try.ntmps13
  go_wp2_with fail
  refine H.out.mono ?_
  rintro e w' ⟨r, b, rfl, hr⟩
  have HH : Hid (R r b w') := hr
  clear hr
  go_wp2
  go_ret2
  exact ⟨r, b, rfl, HH.out⟩
end Go.Proofs.Qxb6001441a.kp
