import Derived.Test.Qxb6001441aSticky
/- The law's walk: FnKeepsStricterStickinessKeepsLess (3). -/
namespace Go.Proofs.Qxb6001441a.kp
open Go.RowKit Go.Maps

theorem zz_last (g I S n : Nat) (st x : Int) (path : ByteArray) (w : World) (hR : Revs w g I S n) (hx : x = (n : Int)) :
    Calls Try.prog 13 #[.pointer (some ⟨S, 0, none⟩), .int .i64 st, .int .i64 x, .string path] w fun e w' => e = .returned (.tuple #[.int .i64 n, .bool true]) ∧ w = w' :=
  (zz_of S st x path w (fun r b w' => r = n ∧ b = true ∧ w = w') ((keeps_last g I S n st x path w hR hx).mono fun e w' h => ⟨n, true, h.1, rfl, rfl, h.2⟩)).mono
    (by rintro e w' ⟨r, b, rfl, rfl, rfl, rfl⟩; exact ⟨rfl, rfl⟩)

theorem zz_change (g I S n : Nat) (x : Int) (path : ByteArray) (w : World) (hR : Revs w g I S n) :
    Calls Try.prog 13 #[.pointer (some ⟨S, 0, none⟩), .int .i64 3, .int .i64 x, .string path] w fun e w' => e = .returned (.tuple #[.int .i64 n, .bool true]) ∧ w = w' :=
  (zz_of S 3 x path w (fun r b w' => r = n ∧ b = true ∧ w = w') ((keeps_change g I S n x path w hR).mono fun e w' h => ⟨n, true, h.1, rfl, rfl, h.2⟩)).mono
    (by rintro e w' ⟨r, b, rfl, rfl, rfl, rfl⟩; exact ⟨rfl, rfl⟩)

theorem zz_off (g I S n k : Nat) (x : Int) (path : ByteArray) (w : World) (hR : Revs w g I S n) (hx : x = (k : Int) + 1) (hk : k + 1 < n) (hn : n ≤ 1048576) (hp : path.size ≤ maxLen) (hc : w.cell? ⟨I, k, none⟩ = some (.map none)) :
    Calls Try.prog 13 #[.pointer (some ⟨S, 0, none⟩), .int .i64 2, .int .i64 x, .string path] w fun e w' => e = .returned (.tuple #[.int .i64 x, .bool false]) ∧ ∃ D : DataW Unit, Cached w w' g I S n k D :=
  (zz_of S 2 x path w (fun r b w' => r = x ∧ b = false ∧ ∃ D : DataW Unit, Cached w w' g I S n k D) ((keeps_off g I S n k x path w hR hx hk hn hp hc).mono fun e w' ⟨D, h1, h2⟩ => ⟨x, false, h1, rfl, rfl, D, h2⟩)).mono
    (by rintro e w' ⟨r, b, rfl, rfl, rfl, h⟩; exact ⟨rfl, h⟩)

theorem zz_files (g I S n k m N : Nat) (D : DataW Unit) (x : Int) (path : ByteArray) (w : World) (hR : Revs w g I S n) (hx : x = (k : Int) + 1) (hk : k + 1 < n) (hn : n ≤ 1048576) (hp : path.size ≤ maxLen) (hc : w.cell? ⟨I, k, none⟩ = some (.map (some m)))
    (hm : w.ownsMap Try.prog 9 (plainElem Try.prog 9) m N D) :
    Calls Try.prog 13 #[.pointer (some ⟨S, 0, none⟩), .int .i64 0, .int .i64 x, .string path] w fun e w' => e = .returned (.tuple #[.int .i64 x, .bool (Maps.has D (.string path.data.toList))]) ∧ w = w' :=
  (zz_of S 0 x path w (fun r b w' => r = x ∧ b = Maps.has D (.string path.data.toList) ∧ w = w') ((keeps_files g I S n k m N D x path w hR hx hk hn hp hc hm).mono fun e w' h => ⟨x, _, h.1, rfl, rfl, h.2⟩)).mono
    (by rintro e w' ⟨r, b, rfl, rfl, rfl, rfl⟩; exact ⟨rfl, rfl⟩)

theorem zz_unch (g I S n k m N : Nat) (D : DataW Unit) (x : Int) (path : ByteArray) (w : World) (hR : Revs w g I S n) (hx : x = (k : Int) + 1) (hk : k + 1 < n) (hn : n ≤ 1048576) (hp : path.size ≤ maxLen) (hc : w.cell? ⟨I, k, none⟩ = some (.map (some m)))
    (hm : w.ownsMap Try.prog 9 (plainElem Try.prog 9) m N D) (hc2 : w.cell? ⟨I, n - 1, none⟩ = some (.map none)) :
    Calls Try.prog 13 #[.pointer (some ⟨S, 0, none⟩), .int .i64 1, .int .i64 x, .string path] w fun e w' => ∃ b : Bool, e = .returned (.tuple #[.int .i64 x, .bool b]) ∧ (b = true → Maps.has D (.string path.data.toList) = true) ∧ ∃ D' : DataW Unit, Cached w w' g I S n (n - 1) D' :=
  (zz_of S 1 x path w (fun r b w' => r = x ∧ (b = true → Maps.has D (.string path.data.toList) = true) ∧ ∃ D' : DataW Unit, Cached w w' g I S n (n - 1) D')
    ((keeps_unch g I S n k m N D x path w hR hx hk hn hp hc hm hc2).mono fun e w' ⟨b, D', h1, h2, h3⟩ => ⟨x, b, h1, rfl, h2, D', h3⟩)).mono
    (by rintro e w' ⟨r, b, rfl, rfl, h, h'⟩; exact ⟨b, rfl, h, h'⟩)

/-- between the first look-up and the third: the map of revision k stays -/
theorem cached_on {w5 w6 w4 : World} {g I S n k : Nat} {D D2 : DataW Unit} (h1 : Cached w4 w5 g I S n k D) (h2 : Cached w5 w6 g I S n (n - 1) D2) (hk : k + 1 < n) :
    ∃ m N, w6.cell? ⟨I, k, none⟩ = some (.map (some m)) ∧ w6.ownsMap Try.prog 9 (plainElem Try.prog 9) m N D := by
  obtain ⟨m, N, hc, ho⟩ := h1.2.1
  have hne : m ≠ I := fun e => by
    subst e
    obtain ⟨es, clock, hb, _⟩ := ho
    simp [World.cell?, hb] at hc
  exact ⟨m, N, by rw [h2.2.2.1 k (by omega)]; exact hc, ho.kept h2.2.2.2 (fun e => hne (by injection e))⟩

set_option maxRecDepth 100000 in
set_option maxHeartbeats 1000000 in
/-- behind the building: the four questions and the law's tests -/
theorem walk (a1 : Option Addr) (n1 cap1 : Nat) (A1 : Nat → Option Addr) (L1 C1 : Nat → Nat) (a2 : Option Addr) (n2 cap2 : Nat) (A2 : Nat → Option Addr) (L2 C2 : Nat → Nat) (x : Int) (path : ByteArray) (w : World)
    (m1 : n1 ≤ maxLen) (m2 : n2 ≤ maxLen) (m3 : path.size ≤ maxLen) (hM1 : ∀ i, i < n1 → L1 i ≤ maxLen) (hM2 : ∀ i, i < n2 → L2 i ≤ maxLen) (hr1 : SRows (fun b => b < w.heap.size) w a1 n1 cap1 A1 L1 C1) (hr2 : SRows (fun b => b < w.heap.size) w a2 n2 cap2 A2 L2 C2) :
    Calls Try.prog 3 #[.slice a1 n1 cap1, .slice a2 n2 cap2, .int .i64 x, .string path] w fun e w' => e = .returned (.bool true) ∧ Below w.heap.size w w' := by
  have HR1 : Hid (SRows (fun b => b < w.heap.size) w a1 n1 cap1 A1 L1 C1) := hr1
  have HR2 : Hid (SRows (fun b => b < w.heap.size) w a2 n2 cap2 A2 L2 C2) := hr2
  have HM1 : Hid (∀ i, i < n1 → L1 i ≤ maxLen) := hM1
  have HM2 : Hid (∀ i, i < n2 → L2 i ≤ maxLen) := hM2
  have M3 : Hid (path.size ≤ maxLen) := m3
  clear hr1 hr2 hM1 hM2
  go_enter Try.func3, Try.ntmps3
  go_wp2_with fail
  refine (zz_any a1 n1 cap1 A1 L1 C1 a2 n2 cap2 A2 L2 C2 _ _ _ _ m1 m2 m3 HM1.out HM2.out HR1.out HR2.out).mono ?_
  rintro e w' ⟨h, rfl⟩
  rcases h with rfl | ⟨rfl, hS⟩
  · go_wp2
    go_ret
    exact ⟨rfl, Below.refl _ _⟩
  obtain ⟨s1, s2, hl1, hl2⟩ := hS
  have HL1 : Hid (∀ i, i < n1 → L1 i ≤ 1048576) := hl1
  have HL2 : Hid (∀ i, i < n2 → L2 i ≤ 1048576) := hl2
  clear hl1 hl2 HM1 HM2 m1 m2 m3
  go_wp2_with fail
  refine (kr_any a1 n1 cap1 A1 L1 C1 a2 n2 cap2 A2 L2 C2 _ _ _ s1 s2 HL1.out HL2.out HR1.out HR2.out).mono ?_
  rintro e w' ⟨⟨t, rfl⟩, rfl⟩
  by_cases ht : 1048576 < t
  · go_wp2
    go_ret
    exact ⟨rfl, Below.refl _ _⟩
  by_cases hx1 : x < 1
  · go_wp2
    go_ret
    exact ⟨rfl, Below.refl _ _⟩
  by_cases hx2 : (n1 : Int) < x
  · go_wp2
    go_ret
    exact ⟨rfl, Below.refl _ _⟩
  go_wp2_with fail
  refine (clones_any a1 n1 cap1 A1 L1 C1 _ _ s1 HL1.out HR1.out (fun _ h => h)).mono ?_
  rintro e w1 ⟨b1, bc1, B1, BC1, rfl, hq1, hb1⟩
  have Q1 : Hid (SRows (fun b => w.heap.size ≤ b ∧ b < w1.heap.size) w1 b1 n1 bc1 B1 L1 BC1) := hq1
  have HB1 : Hid (Below w.heap.size w w1) := hb1
  clear hq1 hb1 HR1
  go_wp2_with fail
  refine (clones_any a2 n2 cap2 A2 L2 C2 (fun b => b < w.heap.size) _ s2 HL2.out (HR2.out.turn (below_turn HB1.out (Nat.le_refl _))) (fun _ h => Nat.lt_of_lt_of_le h HB1.out.size)).mono ?_
  rintro e w2 ⟨b2, bc2, B2, BC2, rfl, hq2, hb2⟩
  have P1 : Hid (SRows (fun b => b < w2.heap.size) w2 b1 n1 bc1 B1 L1 BC1) := Q1.out.turn fun b h => ⟨Nat.lt_of_lt_of_le h.2 hb2.size, hb2.block b h.2⟩
  have P2 : Hid (SRows (fun b => b < w2.heap.size) w2 b2 n2 bc2 B2 L2 BC2) := hq2.turn fun b h => ⟨h.2, rfl⟩
  have HB2 : Hid (Below w.heap.size w w2) := HB1.out.trans (hb2.mono HB1.out.size)
  clear hq2 hb2 HR2 Q1 HB1
  go_wp2_with fail
  refine (build_any b1 n1 bc1 B1 L1 BC1 b2 n2 bc2 B2 L2 BC2 _ _ s1 s2 HL1.out HL2.out P1.out P2.out (fun _ h => h)).mono ?_
  rintro e w3 ⟨rfl, hl3, hb3, hz3⟩
  have HL3 : Hid (ListIs w3 w2.heap.size n1 n1) := hl3
  have HB3 : Hid (Below w.heap.size w w3) := HB2.out.trans (hb3.mono HB2.out.size)
  clear hl3 hb3 P1 P2 HL1 HL2
  go_wp2_with fail
  refine (new_any w2.heap.size n1 _ s1 hz3 HL3.out).mono ?_
  rintro e w4 ⟨I, S, rfl, hR, hnil, hI, hb4⟩
  have HR : Hid (Revs w4 w2.heap.size I S n1) := hR
  have HN : Hid (∀ i, i < n1 → w4.cell? ⟨I, i, none⟩ = some (.map none)) := hnil
  have HB4 : Hid (Below w.heap.size w w4) := HB3.out.trans (hb4.mono HB3.out.size)
  have hI2 : w.heap.size ≤ I := Nat.le_trans HB3.out.size hI
  clear hR hnil hb4 hI hz3 HL3 HB3
  by_cases hlast : x = (n1 : Int)
  · subst hlast
    go_wp2_with fail
    refine (zz_last _ _ _ n1 _ _ _ _ HR.out rfl).mono ?_
    rintro e w' ⟨rfl, rfl⟩
    go_wp2_with fail
    refine (zz_last _ _ _ n1 _ _ _ _ HR.out rfl).mono ?_
    rintro e w' ⟨rfl, rfl⟩
    go_wp2_with fail
    refine (zz_last _ _ _ n1 _ _ _ _ HR.out rfl).mono ?_
    rintro e w' ⟨rfl, rfl⟩
    go_wp2_with fail
    refine (zz_change _ _ _ n1 _ _ _ HR.out).mono ?_
    rintro e w' ⟨rfl, rfl⟩
    go_wp2
    go_ret
    exact ⟨rfl, HB4.out⟩
  · obtain ⟨k, hk⟩ : ∃ k : Nat, x = (k : Int) + 1 := ⟨(x - 1).toNat, by omega⟩
    have HX : Hid (x = (k : Int) + 1) := hk
    have hk1 : k + 1 < n1 := by omega
    have hq : (x == (n1 : Int)) = false := by simp; exact hlast
    clear hk hlast
    go_wp2_with fail
    refine (zz_off _ I S n1 k x path _ HR.out HX.out hk1 s1 M3.out (HN.out k (by omega))).mono ?_
    rintro e w5 ⟨rfl, D, hC5⟩
    have HC5 : Hid (Cached w4 w5 w2.heap.size I S n1 k D) := hC5
    have hlast5 : Hid (w5.cell? ⟨I, n1 - 1, none⟩ = some (.map none)) := by
      show _ = _
      rw [hC5.2.2.1 (n1 - 1) (by omega)]; exact HN.out _ (by omega)
    obtain ⟨m5, N5, hc5, ho5⟩ := hC5.2.1
    have HD5 : Hid (w5.cell? ⟨I, k, none⟩ = some (.map (some m5)) ∧ w5.ownsMap Try.prog 9 (plainElem Try.prog 9) m5 N5 D) := ⟨hc5, ho5⟩
    have HB5 : Hid (Below w.heap.size w w5) := HB4.out.grown hC5.2.2.2 HB4.out.size (fun b e => by cases e; exact hI2)
    clear hC5 hc5 ho5
    go_wp2_with fail
    refine (zz_unch _ I S n1 k m5 N5 D x path _ HC5.out.1 HX.out hk1 s1 M3.out HD5.out.1 HD5.out.2 hlast5.out).mono ?_
    rintro e w6 ⟨bU, rfl, hU, D2, hC6⟩
    have HU : Hid (bU = true → Maps.has D (.string path.data.toList) = true) := hU
    have HC6 : Hid (Cached w5 w6 w2.heap.size I S n1 (n1 - 1) D2) := hC6
    have HB6 : Hid (Below w.heap.size w w6) := HB5.out.grown hC6.2.2.2 HB5.out.size (fun b e => by cases e; exact hI2)
    obtain ⟨m6, N6, hc6, ho6⟩ := cached_on HC5.out hC6 hk1
    have HD6 : Hid (w6.cell? ⟨I, k, none⟩ = some (.map (some m6)) ∧ w6.ownsMap Try.prog 9 (plainElem Try.prog 9) m6 N6 D) := ⟨hc6, ho6⟩
    clear hU hC6 hc6 ho6
    go_wp2_with fail
    refine (zz_files _ I S n1 k m6 N6 D x path _ HC6.out.1 HX.out hk1 s1 M3.out HD6.out.1 HD6.out.2).mono ?_
    rintro e w' ⟨rfl, rfl⟩
    generalize hok : Maps.has D (.string path.data.toList) = ok
    have HU2 : bU = true → ok = true := fun h => by rw [← hok]; exact HU.out h
    clear hok HU
    go_wp2_with fail
    refine (zz_change _ _ _ n1 _ _ _ HC6.out.1).mono ?_
    rintro e w' ⟨rfl, rfl⟩
    cases bU with
    | false =>
      clear HU2
      go_wp2
      go_ret
      exact ⟨rfl, HB6.out⟩
    | true =>
      obtain rfl := HU2 rfl
      clear HU2
      go_wp2
      go_ret
      exact ⟨rfl, HB6.out⟩
end Go.Proofs.Qxb6001441a.kp
