import Derived.Test.Qxb6001441aLaw
import Derived.ProofKit
import Derived.OpenShut
import Derived.ShutString
import Derived.ChangeOld
import Derived.Below
import Derived.Deep.Strs
/- 'Rows.FnKeepsStricterStickinessKeepsLessSaid': the row's step, by hand after the guide's template. -/
namespace Go.Proofs.Qxb6001441a.fnKeeps
open Go.ChangeShapes Go.WideShapes Go.ChangeAt Go.RowKit
open Go.ChangeMaps (open_string shut_string)
set_option linter.unusedVariables false

theorem own : ownKnob Try.prog.godebug = none := by kernel_rfl
theorem laidOut : laidOutB Try.prog = true := by kernel_rfl
theorem cells34 : Try.prog.cellsOf 34 = 1 := by kernel_rfl
theorem cells9 : Try.prog.cellsOf 9 = 1 := by kernel_rfl

theorem plain_addr {w : World} {a : Addr} {v : Value} (h : w.cell? (a.add 0) = some v) : ∃ b off, a = ⟨b, off, none⟩ := by
  obtain ⟨b, off, spot⟩ := a
  have hspot : spot = none := by simpa [Addr.add] using World.cell?_spot h
  subst hspot
  exact ⟨b, off, rfl⟩

section
variable {H : Type} {enc : TypeId × Value → H} {W : World} {base : Nat} {held : Bool}

/-- a []string that came in, as the walks take it -/
theorem open_row {fuel : Nat} {v : Value} {x : DataW H × List MemPlace} (h : DataW.trod enc Try.prog W base (fun _ => true) held fuel 34 [v] = some x) :
    ∃ y : Option Addr × Nat × Nat, v = .slice y.1 y.2.1 y.2.2 ∧ y.2.1 ≤ maxLen ∧ kp.StrRow (fun b => b < W.heap.size) W y.1 y.2.1 y.2.2 := by
  rcases Go.Deep.open_strs Try.underlying34 Try.underlying9 cells9 h with ⟨hcs, _⟩ | ⟨a, len, cap, m, Sx, hcs, _, hl, hm, hmm, _, hcell⟩
  · exact ⟨(none, 0, 0), by simpa using hcs, Nat.zero_le _, fun _ => ⟨rfl, rfl⟩, fun h => absurd h (Nat.lt_irrefl _)⟩
  · simp only [if_true] at hmm
    subst hmm
    refine ⟨(some a, len, m), by simpa using hcs, Nat.le_trans hl hm, (fun h => by cases h), fun hn => ?_⟩
    have hn' : 0 < len := hn
    obtain ⟨b, off, rfl⟩ := plain_addr (hcell 0 (by omega)).1
    refine ⟨b, off, rfl, ?_, fun j hj => ⟨Sx j, ?_, (hcell j (by have : j < len := hj; omega)).2⟩⟩
    · have := World.block_lt_of_cell? _ _ (hcell 0 (by omega)).1
      simpa [Addr.add] using this
    · have := (hcell j (by have : j < len := hj; omega)).1
      rwa [add_plain] at this

/-- a [][]string that came in -/
theorem open_rows {fuel : Nat} {v : Value} {x : DataW H × List MemPlace} (h : DataW.trod enc Try.prog W base (fun _ => true) held fuel 22 [v] = some x) :
    ∃ a n cap A L C, v = .slice a n cap ∧ n ≤ maxLen ∧ (∀ i, i < n → L i ≤ maxLen) ∧ kp.SRows (fun b => b < W.heap.size) W a n cap A L C := by
  rcases Go.Deep.open_slice1 Try.underlying22 cells34 h with ⟨hcs, _⟩ | ⟨a, len, cap, m, n, V, D, Pl, hcs, _, hl, hm, hmm, _, hx⟩
  · exact ⟨none, 0, 0, fun _ => none, fun _ => 0, fun _ => 0, by simpa using hcs, Nat.zero_le _, fun _ _ => Nat.zero_le _, fun _ => ⟨rfl, rfl⟩, fun h => absurd h (Nat.lt_irrefl _), fun i h => absurd h (Nat.not_lt_zero _)⟩
  · simp only [if_true] at hmm
    subst hmm
    obtain ⟨y, hy⟩ := Go.Deep.choose_lt (n := m) (fun i hi => open_row (hx i hi).2)
    refine ⟨some a, len, m, fun i => (y i).1, fun i => (y i).2.1, fun i => (y i).2.2, by simpa using hcs, Nat.le_trans hl hm, fun i hi => (hy i (by omega)).2.1, (fun h => by cases h), fun hn => ?_, fun i hi => (hy i (by omega)).2.2⟩
    obtain ⟨b, off, rfl⟩ := plain_addr (hx 0 (by omega)).1
    refine ⟨b, off, rfl, ?_, fun j hj => ?_⟩
    · have := World.block_lt_of_cell? _ _ (hx 0 (by omega)).1
      simpa [Addr.add] using this
    · have := (hx j (by omega)).1
      rw [add_plain] at this
      rw [this, (hy j (by omega)).1]
end

set_option maxRecDepth 100000 in
theorem lifted (os : Os) (started : os.Started) (H : Type) (enc : TypeId × Value → H) :
    ReturnsInHanded {} Try.checked os 3 .any (Rows.fnKeepsStricterStickinessKeepsLessSpec.pre6 enc Try.prog Try.f3 Rows.fnKeepsStricterStickinessKeepsLessRow.domain false) (Rows.fnKeepsStricterStickinessKeepsLessSpec.post enc Try.prog Try.f3 false true false false) := by
  refine returnsInHanded_of_change (C := Try.checked) own started (by kernel_rfl) Try.func3
    (ChangeSpec.witness6 (enc := enc) (C := Try.checked) false ⟨#[], #[.slice none 0 0, .slice none 0 0, .int .i64 0, .string ByteArray.empty], []⟩ 8 (by kernel_rfl) (by kernel_rfl) (by kernel_rfl) (by kernel_rfl)) ?_
  intro W base args ds gs before hval0 hW hcnd _
  have hval : ∀ (j : Nat) t v, Try.f3.params[j]? = some t → args[j]? = some v → Value.okWide Try.prog W .any base t v := hval0
  have hW' := hW
  obtain ⟨p, q, hA0, hV, rfl, hfz, hnd⟩ := hW
  have hA : DataW.TrodAll enc Try.prog W 0 (fun _ => true) true Try.f3.params.toList args.toList ds p := hA0
  rw [Try.params3] at hA hval
  obtain ⟨v0, vs0, d0, ds0, p0, q0, hargs, rfl, rfl, h0, r0⟩ := trodAll_cons hA
  obtain ⟨v1, vs1, d1, ds1, p1, q1, rfl, rfl, rfl, h1, r1⟩ := trodAll_cons r0
  obtain ⟨v2, vs2, d2, ds2, p2, q2, rfl, rfl, rfl, h2, r2⟩ := trodAll_cons r1
  obtain ⟨v3, vs3, d3, ds3, p3, q3, rfl, rfl, rfl, h3, r3⟩ := trodAll_cons r2
  obtain ⟨rfl, rfl, rfl⟩ := trodAll_nil r3
  obtain rfl : args = #[v0, v1, v2, v3] := by cases args; simp_all
  obtain ⟨rfl, rfl⟩ := trodVars_none hV
  obtain ⟨a0, len0, cap0, rfl⟩ := okWide_slice Try.underlying22 (hval 0 22 v0 rfl rfl)
  obtain ⟨a1, len1, cap1, rfl⟩ := okWide_slice Try.underlying22 (hval 1 22 v1 rfl rfl)
  obtain ⟨x, rfl, rfl, rfl, w2⟩ := open_int Try.underlying3 (hval 2 3 v2 rfl rfl) h2
  obtain ⟨s, rfl, rfl, rfl, w3⟩ := open_string Try.underlying9 (hval 3 9 v3 rfl rfl) h3
  have k0 := h0
  have k1 := h1
  have lt0 : ∀ x ∈ p0, x.block < W.heap.size := by obtain ⟨m, hm⟩ := k0; exact DataW.trod_lt m _ _ _ hm
  have lt1 : ∀ x ∈ p1, x.block < W.heap.size := by obtain ⟨m, hm⟩ := k1; exact DataW.trod_lt m _ _ _ hm
  obtain ⟨f0, hf0⟩ := h0
  obtain ⟨f1, hf1⟩ := h1
  obtain ⟨b0, n0, c0, A0, L0, C0, e0, hn0, hL0, hr0⟩ := open_rows (by simpa [Value.cells] using hf0)
  obtain ⟨b1, n1, c1, A1, L1, C1, e1, hn1, hL1, hr1⟩ := open_rows (by simpa [Value.cells] using hf1)
  simp only [Value.slice.injEq] at e0 e1
  obtain ⟨rfl, rfl, rfl⟩ := e0
  obtain ⟨rfl, rfl, rfl⟩ := e1
  clear hA0 hval0
  refine (kp.walk _ _ _ A0 L0 C0 _ _ _ A1 L1 C1 x s W hn0 hn1 w3 hL0 hL1 hr0 hr1).mono fun e W' ⟨he, bel⟩ => ?_
  subst he
  exact ⟨_, rfl, _, _, _, [], _, [], hW', trodAll_mk1 (shut_bool Try.underlying4 _),
    (trodAll_cons_mk (Below.trod laidOut (by kernel_rfl) (of_decide_eq_true (by kernel_rfl)) k0 bel lt0) (trodAll_cons_mk (Below.trod laidOut (by kernel_rfl) (of_decide_eq_true (by kernel_rfl)) k1 bel lt1)
      (trodAll_cons_mk (shut_int Try.underlying3 w2) (trodAll_cons_mk (shut_string Try.underlying9 w3) trodAll_mk0)))), rfl, bel.frame _, fun h => by cases h⟩

theorem over : Rows.fnKeepsStricterStickinessKeepsLessRow.holds Try.pinned (OpenSpec.ofChange Rows.fnKeepsStricterStickinessKeepsLessSpec) :=
  OpenClaim.holds_of_wide 3 Try.f3 rfl rfl rfl rfl rfl rfl rfl ⟨rfl, rfl, rfl, rfl, rfl⟩ rfl rfl rfl rfl rfl (by kernel_rfl) Try.func3 (by kernel_rfl)
    (of_decide_eq_true (by kernel_rfl)) (by unfold Func.isWrapper; first | (rw [if_pos (by decide +kernel)]; kernel_rfl) | (rw [if_neg (by decide +kernel)]; exact ⟨rfl, rfl⟩))
    (fun os started H enc _ => lifted os started H enc)

/-- ████ THE STATEMENT ████ -/
theorem proved : Rows.FnKeepsStricterStickinessKeepsLessSaid := over
end Go.Proofs.Qxb6001441a.fnKeeps
