/- Proof of 'Rows.FnChainSizeBoundsSaid'. The frame is the guide's template at this function's number and types; the walk is the prover's. -/
import Derived.Test.Qxb6001407aRows
import Derived.WalkKit
import Derived.ProofKit
import Derived.OpenShut
import Derived.ShutString
import Derived.ChangeOld
import Derived.Below
import Derived.Test.Qxb6001407aChain
namespace Go.Proofs.Qxb6001407a.fnChainSizeBounds
open Go.ChangeShapes Go.WideShapes Go.ChangeAt Go.RowKit
open Go.ChangeMaps (open_string shut_string)
set_option linter.unusedVariables false

theorem own : ownKnob Try.prog.godebug = none := by kernel_rfl
theorem laidOut : laidOutB Try.prog = true := by kernel_rfl

/-- WHAT THE WALK IS TOLD OF A SLICE OF INTEGERS THAT CAME IN: it is nil; or it leads to a row of 'cap' cells, the numbers 'zs' (the first 'len' are its elements, the rest its spare room), each fitting its kind. -/
def IsRow (k : IntKind) (w : World) (a : Option Addr) (len cap : Nat) (zs : List Int) : Prop :=
  (a = none ∧ len = 0 ∧ cap = 0 ∧ zs = []) ∨
  ∃ x, a = some x ∧ len ≤ cap ∧ cap ≤ maxLen ∧ zs.length = cap ∧ (∀ i, i < zs.length → w.cell? (x.add i) = some (.int k (zs.getD i 0))) ∧ ∀ n ∈ zs, (Lit.int k n).wf = true

/-! ### STEP 1: THE PLAIN LAW: no Go in sight -/
def anyN (zs : List Int) (k : Nat) : Bool := (zs.take k).any (· == 0)
def anyF (zs : List Int) (k : Nat) : Bool := (zs.take k).any (· != 0)
theorem anyN_step (zs : List Int) (k : Nat) (hk : k < zs.length) : anyN zs (k + 1) = (anyN zs k || (zs[k]?.getD 0 == 0)) := by
  unfold anyN
  rw [List.take_succ_eq_append_getElem hk, List.any_append]
  simp [List.getElem?_eq_getElem hk]
theorem anyF_step (zs : List Int) (k : Nat) (hk : k < zs.length) : anyF zs (k + 1) = (anyF zs k || !(zs[k]?.getD 0 == 0)) := by
  unfold anyF
  rw [List.take_succ_eq_append_getElem hk, List.any_append]
  simp [List.getElem?_eq_getElem hk, bne]
theorem full_iff (zs : List Int) (len : Nat) (h : len ≤ zs.length) : ((chain.cnt zs len : Int) == (len : Int)) = !anyN zs len := by
  have hl : (zs.take len).length = len := by simp; omega
  have e : (chain.cnt zs len : Nat) = len ↔ anyN zs len = false := by
    unfold chain.cnt anyN
    constructor
    · intro hc
      have hc' : (zs.take len).countP (· != 0) = (zs.take len).length := by rw [hl]; exact hc
      rw [List.countP_eq_length] at hc'
      rw [List.any_eq_false]
      intro x hx
      simpa using hc' x hx
    · intro ha
      rw [List.any_eq_false] at ha
      have : (zs.take len).countP (· != 0) = (zs.take len).length := by
        rw [List.countP_eq_length]
        intro x hx
        simpa using ha x hx
      rw [this, hl]
  cases hA : anyN zs len
  · have := e.2 hA
    simp [this]
  · have hne : ¬ chain.cnt zs len = len := fun h => by rw [e.1 h] at hA; cases hA
    simp only [Bool.not_true, beq_eq_false_iff_ne]
    omega
theorem none_iff (zs : List Int) (len : Nat) : ((chain.cnt zs len : Int) == 0) = !anyF zs len := by
  have e : (chain.cnt zs len : Nat) = 0 ↔ anyF zs len = false := by
    unfold chain.cnt anyF
    rw [List.countP_eq_zero, List.any_eq_false]
  cases hA : anyF zs len
  · have := e.2 hA
    simp [this]
  · have hne : ¬ chain.cnt zs len = 0 := fun h => by rw [e.1 h] at hA; cases hA
    simp only [Bool.not_true, beq_eq_false_iff_ne]
    omega

/-! ### STEP 2: THE WALK -/
set_option maxHeartbeats 1000000 in
/-- the part behind the copy, at a row of more than no number -/
theorem walk_pos (b off len cap : Nat) (zs : List Int) (w : World) (hp : 0 < len) (hlen : len ≤ 65536) (hz : len ≤ zs.length)
    (hb : b < w.heap.size) (hc : ∀ j, j < len → w.cell? ⟨b, off + j, none⟩ = some (.int .i64 (zs.getD j 0))) :
    Calls Try.prog 6 #[.slice (some ⟨b, off, none⟩) len cap] w fun e w' => e = .returned (.bool true) ∧ Below w.heap.size w w' := by
  have HC : Hid (∀ j, j < len → w.cell? ⟨b, off + j, none⟩ = some (.int .i64 (zs.getD j 0))) := hc
  clear hc
  have E1 : Hid (((chain.cnt zs len : Int) == (len : Int)) = !anyN zs len) := full_iff zs len hz
  have E2 : Hid (((chain.cnt zs len : Int) == 0) = !anyF zs len) := none_iff zs len
  have hcl := chain.cnt_le zs len
  go_enter Try.func6, Try.ntmps6
  go_wp2_with (go_at_call 14; refine (chain.bytes_yes _ _ _ _ (by omega)).mono ?_; rintro e w' ⟨rfl, rfl⟩)
  refine (chain.copy_some _ len cap zs _ (by omega) hz b off (fun _ => rfl) (fun _ => hb) HC.out).mono ?_
  rintro e w1 ⟨rfl, hown, hb1⟩
  have hsz : w.heap.size < w1.heap.size := (hown.lt w.heap.size rfl).2
  have C1 : Hid (∀ j, j < len → w1.cell? ⟨w.heap.size, 0 + j, none⟩ = some (.int .i64 (zs.getD j 0))) := by
    intro j hj
    rw [Nat.zero_add, hown.cellAt j (by omega)]
    rw [List.getElem?_map, List.getElem?_take, if_pos hj, List.getElem?_eq_getElem (by omega)]
    simp [List.getD, List.getElem?_eq_getElem (show j < zs.length by omega)]
  clear hown
  go_wp2_with fail
  refine (chain.zz_any _ len len zs _ (by omega) hz w.heap.size 0 (fun _ => rfl) (fun _ => hsz) C1.out).mono ?_
  rintro e w2 ⟨rfl, hb2⟩
  have C2 : Hid (∀ j, j < len → w2.cell? ⟨w.heap.size, j, none⟩ = some (.int .i64 (zs[j]?.getD 0))) := by
    intro j hj
    rw [hb2.cell (by exact hsz)]
    have := C1.out j hj
    rw [Nat.zero_add] at this
    rw [this]; simp [List.getD]
  have HB : Hid (Below w.heap.size w w2) := hb1.trans (hb2.mono (Nat.le_of_lt hsz))
  clear C1 hb1 hb2 hsz
  go_wp2
  go_loop [4, 5, 6] (fun nt ft i => ∃ k : Nat, k ≤ len ∧ i = .int .i64 k ∧ nt = .bool (anyN zs k) ∧ ft = .bool (anyF zs k)) (fun _ _ i => len - (intOf i).toNat)
  case atStart => exact ⟨0, Nat.zero_le _, rfl, rfl, rfl⟩
  case round =>
    obtain ⟨k, hk, rfl, rfl, rfl⟩ := hrel
    by_cases hlt : k < len
    · have hcx := C2.out k hlt
      have S1 : Hid (anyN zs (k + 1) = (anyN zs k || (zs[k]?.getD 0 == 0))) := anyN_step zs k (by omega)
      have S2 : Hid (anyF zs (k + 1) = (anyF zs k || !(zs[k]?.getD 0 == 0))) := anyF_step zs k (by omega)
      cases hq : (zs[k]?.getD 0 == 0)
      · go_wp2
        go_round
        case rel => exact ⟨k + 1, by omega, by go_num, by rw [S1.out, hq, Bool.or_false], by rw [S2.out, hq, Bool.not_false, Bool.or_true]⟩
        case measure => simp [intOf]; omega
      · go_wp2
        go_round
        case rel => exact ⟨k + 1, by omega, by go_num, by rw [S1.out, hq, Bool.or_true], by rw [S2.out, hq, Bool.not_true, Bool.or_false]⟩
        case measure => simp [intOf]; omega
    · obtain rfl : k = len := by omega
      have e1 := E1.out
      have e2 := E2.out
      clear E1 E2
      cases hN : anyN zs k <;> cases hF : anyF zs k <;> rw [hN] at e1 <;> rw [hF] at e2 <;> simp only [Bool.not_true, Bool.not_false] at e1 e2
      all_goals
        go_wp2
        go_ret
        exact ⟨rfl, HB.out⟩

set_option maxHeartbeats 1000000 in
theorem walk_empty (a : Option Addr) (cap : Nat) (w : World) (hn : a = none → cap = 0) :
    Calls Try.prog 6 #[.slice a 0 cap] w fun e w' => e = .returned (.bool true) ∧ Below w.heap.size w w' := by
  cases a with
  | none =>
    obtain rfl := hn rfl
    go_enter Try.func6, Try.ntmps6
    go_wp2_with (go_at_call 14; refine (chain.bytes_yes _ _ _ _ (by omega)).mono ?_; rintro e w' ⟨rfl, rfl⟩)
    refine (chain.copy_none _).mono ?_
    rintro e w1 ⟨rfl, rfl⟩
    go_wp2_with fail
    refine (chain.zz_any _ 0 0 [] _ (by omega) (by simp) 0 0 (fun h => absurd h (by omega)) (fun h => absurd h (by omega)) (fun j h => absurd h (by omega))).mono ?_
    rintro e w2 ⟨rfl, hb2⟩
    have e0 : chain.cnt [] 0 = 0 := rfl
    rw [e0]
    clear e0
    go_wp2
    refine wp_loop_rounds 1 ?_
    rw [rounds_succ]
    go_wp2
    go_ret
    exact ⟨rfl, hb2⟩
  | some x =>
    go_enter Try.func6, Try.ntmps6
    go_wp2_with (go_at_call 14; refine (chain.bytes_yes _ _ _ _ (by omega)).mono ?_; rintro e w' ⟨rfl, rfl⟩)
    refine (chain.copy_some _ 0 cap [] _ (by omega) (by simp) 0 0 (fun h => absurd h (by omega)) (fun h => absurd h (by omega)) (fun j h => absurd h (by omega))).mono ?_
    rintro e w1 ⟨rfl, hown, hb1⟩
    have hsz : w.heap.size < w1.heap.size := (hown.lt w.heap.size rfl).2
    clear hown
    go_wp2_with fail
    refine (chain.zz_any _ 0 0 [] _ (by omega) (by simp) 0 0 (fun h => absurd h (by omega)) (fun h => absurd h (by omega)) (fun j h => absurd h (by omega))).mono ?_
    rintro e w2 ⟨rfl, hb2⟩
    have e0 : chain.cnt [] 0 = 0 := rfl
    rw [e0]
    clear e0
    have HB : Hid (Below w.heap.size w w2) := hb1.trans (hb2.mono (Nat.le_of_lt hsz))
    clear hb1 hb2
    go_wp2
    refine wp_loop_rounds 1 ?_
    rw [rounds_succ]
    go_wp2
    go_ret
    exact ⟨rfl, HB.out⟩

theorem walk_long (a : Option Addr) (len cap : Nat) (w : World) (h : 65536 < len) (hm : len ≤ maxLen) :
    Calls Try.prog 6 #[.slice a len cap] w fun e w' => e = .returned (.bool true) ∧ Below w.heap.size w w' := by
  unfold maxLen at hm
  by_cases hl : len ≤ 1048576
  · go_enter Try.func6, Try.ntmps6
    go_wp2_with (go_at_call 14; refine (chain.bytes_yes _ _ _ _ hl).mono ?_; rintro e w' ⟨rfl, rfl⟩)
    go_ret
    exact ⟨rfl, Below.refl _ _⟩
  · go_enter Try.func6, Try.ntmps6
    go_wp2_with (go_at_call 14; refine (chain.bytes_no _ _ _ _ (by omega)).mono ?_; rintro e w' ⟨rfl, rfl⟩)
    go_ret
    exact ⟨rfl, Below.refl _ _⟩

theorem walk (a0 : Option Addr) (len0 cap0 : Nat) (z0 : List Int) (w : World) (w0 : IsRow .i64 w a0 len0 cap0 z0) :
    Calls Try.prog 6 #[.slice a0 len0 cap0] w fun e w' => e = .returned (.bool true) ∧ Below w.heap.size w w' := by
  rcases w0 with ⟨rfl, rfl, rfl, rfl⟩ | ⟨x, rfl, hl, hm, hz, hc, _⟩
  · exact walk_empty none 0 w (fun _ => rfl)
  · by_cases h0 : len0 = 0
    · subst h0
      exact walk_empty (some x) cap0 w (fun h => by cases h)
    · by_cases hlong : 65536 < len0
      · exact walk_long _ _ _ w hlong (Nat.le_trans hl hm)
      · obtain ⟨b, off, rfl, hcc⟩ := ints_at hc (by omega)
        exact walk_pos b off len0 cap0 z0 w (by omega) (by omega) (by omega) (World.block_lt_of_cell? _ _ (hcc 0 (by omega))) (fun j hj => hcc j (by omega))

/-! ### THE ROW's STEP: WRITTEN OUT: LEAVE IT -/
set_option maxRecDepth 100000 in
theorem lifted (os : Os) (started : os.Started) (H : Type) (enc : TypeId × Value → H) :
    ReturnsInHanded {} Try.checked os 6 .any (Rows.fnChainSizeBoundsSpec.pre6 enc Try.prog Try.f6 Rows.fnChainSizeBoundsRow.domain false) (Rows.fnChainSizeBoundsSpec.post enc Try.prog Try.f6 false true false false) := by
  refine returnsInHanded_of_change (C := Try.checked) own started (by kernel_rfl) Try.func6
    (ChangeSpec.witness6 (enc := enc) (C := Try.checked) false ⟨#[], #[.slice none 0 0], []⟩ 8 (by kernel_rfl) (by kernel_rfl) (by kernel_rfl) (by kernel_rfl)) ?_
  intro W base args ds gs before hval0 hW hcnd _
  have hval : ∀ (j : Nat) t v, Try.f6.params[j]? = some t → args[j]? = some v → Value.okWide Try.prog W .any base t v := hval0
  have hW' := hW
  obtain ⟨p, q, hA0, hV, rfl, hfz, hnd⟩ := hW
  have hA : DataW.TrodAll enc Try.prog W 0 (fun _ => true) true Try.f6.params.toList args.toList ds p := hA0
  rw [Try.params6] at hA hval
  obtain ⟨v0, vs0, d0, ds0, p0, q0, hargs, rfl, rfl, h0, r0⟩ := trodAll_cons hA
  obtain ⟨rfl, rfl, rfl⟩ := trodAll_nil r0
  obtain rfl : args = #[v0] := by cases args; simp_all
  obtain ⟨rfl, rfl⟩ := trodVars_none hV
  obtain ⟨a0, len0, cap0, rfl⟩ := okWide_slice Try.underlying25 (hval 0 25 v0 rfl rfl)
  have k0 := h0
  have lt0 : ∀ x ∈ p0, x.block < W.heap.size := by obtain ⟨m, hm⟩ := k0; exact DataW.trod_lt m _ _ _ hm
  obtain ⟨z0, w0⟩ : ∃ zs, IsRow .i64 W a0 len0 cap0 zs := by
    obtain ⟨fuel, hf⟩ := h0
    rcases open_ints Try.underlying25 Try.underlying3 (by kernel_rfl) hf with ⟨hcs, _⟩ | ⟨x, l, c, zs, hcs, _, hl, hm, hz, _, hcell, hwz⟩
    · simp [Value.cells] at hcs
      obtain ⟨rfl, rfl, rfl⟩ := hcs
      exact ⟨[], .inl ⟨rfl, rfl, rfl, rfl⟩⟩
    · simp [Value.cells] at hcs
      obtain ⟨rfl, rfl, rfl⟩ := hcs
      exact ⟨zs, .inr ⟨_, rfl, hl, hm, by simpa using hz, hcell, hwz⟩⟩
  clear hA0 hval0
  refine (walk a0 len0 cap0 z0 W w0).mono fun e W' ⟨he, bel⟩ => ?_
  subst he
  exact ⟨_, rfl, _, _, _, [], _, [], hW', trodAll_mk1 (shut_bool Try.underlying4 _), (trodAll_cons_mk (Below.trod laidOut (by kernel_rfl) (of_decide_eq_true (by kernel_rfl)) k0 bel lt0) trodAll_mk0), rfl, bel.frame _, fun h => by cases h⟩

theorem over : Rows.fnChainSizeBoundsRow.holds Try.pinned (OpenSpec.ofChange Rows.fnChainSizeBoundsSpec) :=
  OpenClaim.holds_of_wide 6 Try.f6 rfl rfl rfl rfl rfl rfl rfl ⟨rfl, rfl, rfl, rfl, rfl⟩ rfl rfl rfl rfl rfl (by kernel_rfl) Try.func6 (by kernel_rfl)
    (of_decide_eq_true (by kernel_rfl)) (by unfold Func.isWrapper; first | (rw [if_pos (by decide +kernel)]; kernel_rfl) | (rw [if_neg (by decide +kernel)]; exact ⟨rfl, rfl⟩))
    (fun os started H enc _ => lifted os started H enc)

/-- ████ THE STATEMENT ████ -/
theorem proved : Rows.FnChainSizeBoundsSaid := over
end Go.Proofs.Qxb6001407a.fnChainSizeBounds
