import Derived.Test.Qxb6600091aItoa
/- the law's walk: FnSmallIntReadsBackEveryNineDigitInt (3) -/
namespace Go.Proofs.Qxb6600091a.sm
open Go.RowKit

theorem itoa_any (v : Int) (w : World) (h1 : -1000000000 < v) (h2 : v < 1000000000) :
    Calls Try.prog 8 #[.int .i64 v] w fun e w' => ∃ s : ByteArray, e = .returned (.string s) ∧ Txt v s ∧ Below w.heap.size w w' := by
  by_cases h : v < 0
  · obtain ⟨u, hu⟩ : ∃ u : Nat, v = -(u : Int) := ⟨v.natAbs, by omega⟩
    subst hu
    exact itoa_neg u w (by omega) (by omega)
  · obtain ⟨u, hu⟩ : ∃ u : Nat, v = (u : Int) := ⟨v.natAbs, by omega⟩
    subst hu
    exact itoa_pos u w (by omega)

/-- '[]byte(s)': some room, the bytes there, nothing old turned -/
theorem bytes_of (w : World) (s : ByteArray) : ∃ cap w2, (convert 9 22 (.string s)).run Try.prog w = .ok (.slice (some ⟨w.heap.size, 0, none⟩) s.size cap) w2 ∧ s.size ≤ cap ∧
    (∀ j, j < s.size → w2.cell? ⟨w.heap.size, j, none⟩ = some (.int .u8 ((s.data.toList.getD j 0).toNat : Int))) ∧ Below w.heap.size w w2 := by
  refine ⟨_, _, run_bytes_of_string w 9 22 5 s Try.underlying9 Try.underlying22 Try.underlying5, grownCap_ge _ _ _ _, fun j hj => ?_, (Below.refl _ _).drew.alloc (Nat.le_refl _) _⟩
  have e := World.cell?_alloc_mark w.drew (bytesRow s (grownCap w s.size 0 5)) 5 ((bytesRow s (grownCap w s.size 0 5)).size, (bytesRow s (grownCap w s.size 0 5)).size + 1) j
  have hj' : j < s.data.size := hj
  rw [show w.drew.heap.size = w.heap.size from rfl] at e
  rw [e, bytesRow_at s _ j hj']
  simp only [List.getD, Array.getElem?_toList, Array.getElem?_eq_getElem hj', Option.getD_some]

/-- a text of v is read back as v -/
theorem reads {v : Int} {s : ByteArray} (hT : Txt v s) (g cap : Nat) (w : World) (hcap : s.size ≤ cap) (hc : ∀ j, j < s.size → w.cell? ⟨g, j, none⟩ = some (.int .u8 ((s.data.toList.getD j 0).toNat : Int))) :
    Calls Try.prog 9 #[.slice (some ⟨g, 0, none⟩) s.size cap] w fun e w' => e = .returned (.tuple #[.int .i32 v, .bool true]) ∧ Below w.heap.size w w' := by
  obtain ⟨D, h1, h9, hu, hs⟩ := hT
  have hlen : s.data.toList.length = s.size := by simp
  by_cases hv : v < 0
  · rw [if_pos hv] at hs
    have hsz : s.size = D + 1 := by rw [← hlen, hs]; simp [dl_len]
    rw [hsz] at hc hcap ⊢
    have c0 : w.cell? ⟨g, 0, none⟩ = some (.int .u8 45) := by
      have := hc 0 (by omega)
      rw [hs] at this
      simpa using this
    have cs : ∀ j, j < D → w.cell? ⟨g, 0 + 1 + j, none⟩ = some (.int .u8 (dgt v.natAbs D j : Int)) := fun j hj => by
      have := hc (j + 1) (by omega)
      rw [show 0 + 1 + j = j + 1 by omega, this, hs]
      have e := dl_at v.natAbs D j (by rw [dl_len]; exact hj)
      simp only [List.getD, List.getElem?_cons_succ, List.getElem?_eq_getElem (show j < (dl v.natAbs D).length by rw [dl_len]; exact hj), Option.getD_some, e]
    refine (zz_of _ _ _ _ w (small_minus g 0 D cap (dgt v.natAbs D) w (by omega) hcap (by omega) (fun j _ => by have := dgt_dig v.natAbs D j; unfold isDig at this; omega) c0 cs)).mono ?_
    rintro e w' ⟨n, ok, rfl, hS, hb⟩
    have hok : ok = true := hS.1.2 ⟨h9, fun j _ => dgt_dig _ _ j⟩
    have hn := hS.2.2 hok
    rw [if_pos rfl, V_all _ _ hu] at hn
    subst hok
    rw [show n = v by omega]
    exact ⟨rfl, hb⟩
  · rw [if_neg hv] at hs
    have hsz : s.size = D := by rw [← hlen, hs, dl_len]
    rw [hsz] at hc hcap ⊢
    have cs : ∀ j, j < D → w.cell? ⟨g, 0 + j, none⟩ = some (.int .u8 (dgt v.natAbs D j : Int)) := fun j hj => by
      have := hc j hj
      rw [Nat.zero_add, this, hs]
      have e := dl_at v.natAbs D j (by rw [dl_len]; exact hj)
      simp only [List.getD, List.getElem?_eq_getElem (show j < (dl v.natAbs D).length by rw [dl_len]; exact hj), Option.getD_some, e]
    refine (zz_of _ _ _ _ w (small_plus g 0 D cap (dgt v.natAbs D) w h1 (by omega) (fun j _ => by have := dgt_dig v.natAbs D j; unfold isDig at this; omega) cs (by have := dgt_dig v.natAbs D 0; unfold isDig at this; omega))).mono ?_
    rintro e w' ⟨n, ok, rfl, hS, hb⟩
    have hok : ok = true := hS.1.2 ⟨h9, fun j _ => dgt_dig _ _ j⟩
    have hn := hS.2.2 hok
    rw [if_neg (by decide), V_all _ _ hu] at hn
    subst hok
    rw [show n = v by omega]
    exact ⟨rfl, hb⟩

set_option maxHeartbeats 400000 in
theorem walk3 (v : Int) (w : World) :
    Calls Try.prog 3 #[.int .i32 v] w fun e w' => e = .returned (.bool true) ∧ Below w.heap.size w w' := by
  by_cases h1 : v ≤ -1000000000
  · go_enter Try.func3, Try.ntmps3
    go_wp2
    go_ret
    exact ⟨rfl, Below.refl _ _⟩
  by_cases h2 : 1000000000 ≤ v
  · go_enter Try.func3, Try.ntmps3
    go_wp2
    go_ret
    exact ⟨rfl, Below.refl _ _⟩
  go_enter Try.func3, Try.ntmps3
  go_wp2_with fail
  refine (itoa_any v _ (by omega) (by omega)).mono ?_
  rintro e w1 ⟨s, rfl, hT, hb1⟩
  obtain ⟨cap, w2, hcv, hcap, hc, hb2⟩ := bytes_of w1 s
  have HT : Hid (Txt v s) := hT
  have HC : Hid (∀ j, j < s.size → w2.cell? ⟨w1.heap.size, j, none⟩ = some (.int .u8 ((s.data.toList.getD j 0).toNat : Int))) := hc
  have HB2 : Hid (Below w.heap.size w w2) := hb1.trans (hb2.mono hb1.size)
  clear hT hc hb1 hb2
  go_wp2_with fail
  refine (reads HT.out _ cap _ hcap HC.out).mono ?_
  rintro e w3 ⟨rfl, hb3⟩
  have HB3 : Hid (Below w.heap.size w w3) := HB2.out.trans (hb3.mono HB2.out.size)
  clear hb3
  go_wp2
  go_ret
  exact ⟨rfl, HB3.out⟩
end Go.Proofs.Qxb6600091a.sm
