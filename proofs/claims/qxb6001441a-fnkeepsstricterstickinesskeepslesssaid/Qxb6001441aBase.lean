import Derived.Test.Qxb6001441aRows
import Derived.WalkKit
import Derived.WalkLawsBesides
import Derived.Lib.SliceRun
import Derived.Maps.OwnSet
import Derived.Maps.StringElems
import Derived.Deep.Slices
/- What a []string and a [][]string are to the walks; the laws on a map[string]string; the clones (17, 10). -/
namespace Go.Proofs.Qxb6001441a.kp
open Go.RowKit Go.Maps

theorem info9 : (Try.prog.info? 9).map (fun i => (i.zero, i.size, i.bytes)) = some (some (.string ByteArray.empty), 1, 16) := by kernel_rfl
theorem info34 : (Try.prog.info? 34).map (fun i => (i.zero, i.size, i.bytes)) = some (some (.slice none 0 0), 1, 24) := by kernel_rfl
theorem info54 : (Try.prog.info? 54).map (fun i => (i.zero, i.size, i.bytes)) = some (some (.pointer none), 1, 8) := by kernel_rfl
theorem info53 : (Try.prog.info? 53).map (fun i => (i.zero, i.size, i.bytes)) = some (some (.map none), 1, 8) := by kernel_rfl

/-! ### slices of strings -/
/-- '.slice a n cap' is a row of n strings, in a block of which p holds (nil: no string). -/
def StrRow (p : Nat → Prop) (w : World) (a : Option Addr) (n cap : Nat) : Prop :=
  (a = none → n = 0 ∧ cap = 0) ∧ (0 < n → ∃ b off, a = some ⟨b, off, none⟩ ∧ p b ∧ ∀ j, j < n → ∃ s : ByteArray, w.cell? ⟨b, off + j, none⟩ = some (.string s) ∧ s.size ≤ maxLen)

theorem StrRow.turn {p p' : Nat → Prop} {w w' : World} {a : Option Addr} {n cap : Nat} (h : StrRow p w a n cap) (hk : ∀ b, p b → p' b ∧ w'.heap[b]? = w.heap[b]?) : StrRow p' w' a n cap := by
  refine ⟨h.1, fun hn => ?_⟩
  obtain ⟨b, off, ha, hp, hc⟩ := h.2 hn
  refine ⟨b, off, ha, (hk b hp).1, fun j hj => ?_⟩
  obtain ⟨s, hs, hl⟩ := hc j hj
  exact ⟨s, by rw [World.cell?_of_block (w := w) (a := ⟨b, off + j, none⟩) (hk b hp).2]; exact hs, hl⟩

/-- '.slice a n cap' is a row of n rows of strings; row i is '.slice (A i) (L i) (C i)'. -/
def SRows (p : Nat → Prop) (w : World) (a : Option Addr) (n cap : Nat) (A : Nat → Option Addr) (L C : Nat → Nat) : Prop :=
  (a = none → n = 0 ∧ cap = 0) ∧ (0 < n → ∃ b off, a = some ⟨b, off, none⟩ ∧ p b ∧ ∀ i, i < n → w.cell? ⟨b, off + i, none⟩ = some (.slice (A i) (L i) (C i))) ∧ ∀ i, i < n → StrRow p w (A i) (L i) (C i)

theorem SRows.turn {p p' : Nat → Prop} {w w' : World} {a : Option Addr} {n cap : Nat} {A : Nat → Option Addr} {L C : Nat → Nat} (h : SRows p w a n cap A L C) (hk : ∀ b, p b → p' b ∧ w'.heap[b]? = w.heap[b]?) : SRows p' w' a n cap A L C := by
  refine ⟨h.1, fun hn => ?_, fun i hi => (h.2.2 i hi).turn hk⟩
  obtain ⟨b, off, ha, hp, hc⟩ := h.2.1 hn
  refine ⟨b, off, ha, (hk b hp).1, fun i hi => ?_⟩
  rw [World.cell?_of_block (w := w) (a := ⟨b, off + i, none⟩) (hk b hp).2]; exact hc i hi

theorem below_turn {B : Nat} {w w' : World} (hb : Below B w w') {B' : Nat} (hB : B ≤ B') : ∀ b, b < B → b < B' ∧ w'.heap[b]? = w.heap[b]? :=
  fun b h => ⟨by omega, hb.block b h⟩

/-! ### the laws on a map[string]string -/
theorem law : Keyed Try.prog 9 := string_keyed Try.underlying9
theorem zero9 (w : World) : (zeroValue 9).run Try.prog w = .ok (.string ByteArray.empty) w := by kernel_rfl
theorem run_makeMap_hint (w : World) (q : IntKind) (n : Int) : (Instr.makeMap 53 (some (.int q n))).run Try.prog w = .ok (.map (some w.heap.size)) (w.alloc (.map #[] 0)) := by
  simp [Instr.makeMap, run_underlying Try.underlying53, asInt, asIntOf, Result.andThen]

theorem elem_empty : plainElem (H := Unit) Try.prog 9 (.string ByteArray.empty) = some (.lit (.string ByteArray.empty.data.toList), []) := plainElem_string Try.underlying9 (by decide)

/-- 'v, ok := m[k]' at the operation: some string; 'ok' is 'Maps.has D kl' -/
theorem wpList_look_ok (w : World) {ops : Array Oper} {rest : List Oper} {o : Oper} {a : Act} {Q : Exit → Act → World → Prop}
    (hg : o.guard = none) (m x : Operand) (hop : o.op = Op.lookup 53 m x true) (b n : Nat) (D : DataW Unit)
    (hm : a.eval m = .map (some b)) (hown : w.ownsMap Try.prog 9 (plainElem Try.prog 9) b n D) (s : ByteArray) (hx : a.eval x = .string s) (hs : s.size ≤ maxLen)
    (hK : ∀ v : ByteArray, v.size ≤ maxLen → wpList Try.prog ops Q rest (a.put o.dst (.tuple #[.string v, .bool (Maps.has D (.string s.data.toList))])) w) :
    wpList Try.prog ops Q (o :: rest) a w := by
  refine wpList_plain hg fun K' hK' => ?_
  obtain ⟨v, ps, hrun, hv⟩ := hown.look_ok law Try.underlying53 (zero9 w) elem_empty (WideMaps.keyOf_string_mk Try.underlying9 hs)
  obtain ⟨c, rfl, _, hc⟩ := plainElem_string_inv Try.underlying9 hv
  unfold Oper.wp
  simp [execOp, hop, hm, hx, hrun, Result.andThen]
  exact hK' _ _ (hK c hc)

/-- 'm[k]' at the operation: some string -/
theorem wpList_look (w : World) {ops : Array Oper} {rest : List Oper} {o : Oper} {a : Act} {Q : Exit → Act → World → Prop}
    (hg : o.guard = none) (m x : Operand) (hop : o.op = Op.lookup 53 m x false) (b n : Nat) (D : DataW Unit)
    (hm : a.eval m = .map (some b)) (hown : w.ownsMap Try.prog 9 (plainElem Try.prog 9) b n D) (s : ByteArray) (hx : a.eval x = .string s) (hs : s.size ≤ maxLen)
    (hK : ∀ v : ByteArray, v.size ≤ maxLen → wpList Try.prog ops Q rest (a.put o.dst (.string v)) w) :
    wpList Try.prog ops Q (o :: rest) a w := by
  refine wpList_plain hg fun K' hK' => ?_
  obtain ⟨v, ps, hrun, hv⟩ := hown.lookup law Try.underlying53 (zero9 w) elem_empty (WideMaps.keyOf_string_mk Try.underlying9 hs)
  obtain ⟨c, rfl, _, hc⟩ := plainElem_string_inv Try.underlying9 hv
  unfold Oper.wp
  simp [execOp, hop, hm, hx, hrun, Result.andThen]
  exact hK' _ _ (hK c hc)

/-! ### the clone of a row -/
theorem clone_nil (w : World) : Calls Try.prog 17 #[.slice none 0 0] w fun e w' => e = .returned (.slice none 0 0) ∧ w = w' := by
  have q34 : ∀ (w : World) (a : Option Addr) (n c n' c' : Nat), (binOp .eql 34 (.slice a n c) (.slice none n' c')).run Try.prog w = .ok (.bool a.isNone) w := fun w a n c n' c' => Lib.run_eql_slice_nil w _ _ a n c n' c' Try.underlying34
  go_enter Try.func17, Try.ntmps17
  go_wp2
  go_ret
  exact ⟨rfl, rfl⟩

/-- all cells of the new row are strings, none frozen -/
def Strs (wr : World) (g n : Nat) : Prop := (∀ j, j < n → ∃ s : ByteArray, wr.cell? ⟨g, j, none⟩ = some (.string s) ∧ s.size ≤ maxLen) ∧ ∀ o, wr.frozen? ⟨g, o, none⟩ = false
theorem strs_made {w1 : World} {g n : Nat} (hown : w1.ownsRow g 9 1 (.slice (some ⟨g, 0, none⟩) n n) n (madeCells #[.string ByteArray.empty] n).toList) : Strs w1 g n := by
  refine ⟨fun j hj => ⟨ByteArray.empty, ?_, by decide⟩, fun o => hown.frozenAt o⟩
  rw [hown.cellAt j (by omega), toList_madeCells_one]
  simp [hj]
theorem strs_step {wr : World} {g n k : Nat} (h : Strs wr g n) (s : ByteArray) (hs : s.size ≤ maxLen) : Strs (wr.setCell ⟨g, k, none⟩ (.string s)) g n := by
  refine ⟨fun j hj => ?_, fun o => by rw [World.frozen?_setCell]; exact h.2 o⟩
  obtain ⟨u, hu, hl⟩ := h.1 j hj
  by_cases e : j = k
  · subst e
    exact ⟨s, World.cell?_setCell_same _ _ _ hu, hs⟩
  · exact ⟨u, by rw [World.cell?_setCell_other _ _ _ _ (by intro e'; injection e' with _ e'; exact e e'.symm)]; exact hu, hl⟩

set_option maxHeartbeats 1000000 in
theorem clone_some (x : Addr) (n cap : Nat) (p : Nat → Prop) (w : World) (hn : n ≤ 1048576) (hr : StrRow p w (some x) n cap) (hp : ∀ b, p b → b < w.heap.size) :
    Calls Try.prog 17 #[.slice (some x) n cap] w fun e w' => e = .returned (.slice (some ⟨w.heap.size, 0, none⟩) n n) ∧ Strs w' w.heap.size n ∧ Below w.heap.size w w' ∧ w.heap.size < w'.heap.size := by
  have q34 : ∀ (w : World) (a : Option Addr) (n c n' c' : Nat), (binOp .eql 34 (.slice a n c) (.slice none n' c')).run Try.prog w = .ok (.bool a.isNone) w := fun w a n c n' c' => Lib.run_eql_slice_nil w _ _ a n c n' c' Try.underlying34
  obtain ⟨i0, hi, hz0, hz1, hz2⟩ := info_parts info9
  have HR : Hid (StrRow p w (some x) n cap) := hr
  have HP : Hid (∀ b, p b → b < w.heap.size) := hp
  clear hr hp
  go_enter Try.func17, Try.ntmps17
  go_wp2_with (at_make; refine wpList_make_full _ rfl _ _ 34 rfl w.heap.size 9 i0 (.string ByteArray.empty) 1 Try.underlying34 hi hz0 hz1 _ _ _ _ n rfl rfl rfl rfl ?_ ?_ (Nat.le_refl _) ?_)
  · rw [hz2]; omega
  · unfold maxLen; omega
  intro w1 hown hg
  have HF : Hid (Strs w1 w.heap.size n) := strs_made hown
  have hbel : Below w.heap.size w w1 := (Below.refl _ _).grown hg (Nat.le_refl _) (fun k h => by cases h)
  have hsz : w.heap.size < w1.heap.size := (hown.lt w.heap.size rfl).2
  clear hg hown
  go_wp2
  go_loopw [12] (fun i wr => ∃ k : Nat, k ≤ n ∧ i = .int .i64 k ∧ Hid (Strs wr w.heap.size n) ∧ Below w.heap.size w wr ∧ w.heap.size < wr.heap.size) (fun i _ => n - (intOf i).toNat)
  case atStart => exact ⟨0, Nat.zero_le _, rfl, HF, hbel, hsz⟩
  case round =>
    clear HF hbel hsz
    obtain ⟨k, hk, rfl, HF, hbel, hsz⟩ := hrel
    by_cases hlt : k < n
    · obtain ⟨b, off, hx, hpb, hc⟩ := HR.out.2 (by omega)
      injection hx with hx
      subst hx
      have hb' := HP.out b hpb
      obtain ⟨s, hs, hsl⟩ := hc k hlt
      have hcx : wr.cell? ⟨b, off + k, none⟩ = some (.string s) := by rw [hbel.cell (by exact hb')]; exact hs
      obtain ⟨u, hu, _⟩ := HF.out.1 k hlt
      have hfz := HF.out.2 k
      have R : Hid (Strs (wr.setCell ⟨w.heap.size, k, none⟩ (.string s)) w.heap.size n) := strs_step HF.out s hsl
      have R2 := hbel.setCell (p := ⟨w.heap.size, k, none⟩) (Nat.le_refl _) (.string s)
      clear hbel HF hc hs
      go_wp2
      go_roundw
      case rel => exact ⟨k + 1, by omega, by go_num, R, R2, by simpa [World.setCell] using hsz⟩
      case measure => simp [intOf]; omega
    · go_wp2
      go_ret
      exact ⟨rfl, HF.out, hbel, hsz⟩

/-- one contract for the clone of a row, nil or not: the new row lies in blocks of which p' holds, whichever holds of all new blocks -/
theorem clone_any (a : Option Addr) (n cap : Nat) (p : Nat → Prop) (w : World) (hn : n ≤ 1048576) (hr : StrRow p w a n cap) (hp : ∀ b, p b → b < w.heap.size) :
    Calls Try.prog 17 #[.slice a n cap] w fun e w' => ∃ a' cap', e = .returned (.slice a' n cap') ∧ StrRow (fun b => w.heap.size ≤ b ∧ b < w'.heap.size) w' a' n cap' ∧ Below w.heap.size w w' := by
  cases a with
  | none =>
    obtain ⟨rfl, rfl⟩ := hr.1 rfl
    refine (clone_nil w).mono ?_
    rintro e w' ⟨rfl, rfl⟩
    exact ⟨none, 0, rfl, ⟨fun _ => ⟨rfl, rfl⟩, fun h => absurd h (Nat.lt_irrefl _)⟩, Below.refl _ _⟩
  | some x =>
    refine (clone_some x n cap p w hn hr hp).mono ?_
    rintro e w' ⟨rfl, hs, hb, hsz⟩
    exact ⟨_, n, rfl, ⟨(fun h => by cases h), fun _ => ⟨w.heap.size, 0, rfl, ⟨Nat.le_refl _, hsz⟩, fun j hj => by rw [Nat.zero_add]; exact hs.1 j hj⟩⟩, hb⟩

/-! ### the clone of the rows -/
/-- the new outer row at block g after k rounds: its first k cells are clones of rows of the lengths L; no cell is frozen; all n cells lie there -/
def Rows' (wr : World) (g n k : Nat) (L : Nat → Nat) : Prop :=
  (∀ j, j < n → ∃ u, wr.cell? ⟨g, j, none⟩ = some u) ∧ (∀ o, wr.frozen? ⟨g, o, none⟩ = false) ∧
  ∀ i, i < k → ∃ a' cap', wr.cell? ⟨g, i, none⟩ = some (.slice a' (L i) cap') ∧ StrRow (fun b => g < b ∧ b < wr.heap.size) wr a' (L i) cap'

theorem rows_made {w1 : World} {g n : Nat} (L : Nat → Nat) (hown : w1.ownsRow g 34 1 (.slice (some ⟨g, 0, none⟩) n n) n (madeCells #[.slice none 0 0] n).toList) : Rows' w1 g n 0 L := by
  refine ⟨fun j hj => ⟨.slice none 0 0, ?_⟩, fun o => hown.frozenAt o, fun i hi => absurd hi (Nat.not_lt_zero _)⟩
  rw [hown.cellAt j (by omega), toList_madeCells_one]
  simp [hj]

theorem rows_step {wr w2 : World} {g n k : Nat} {L : Nat → Nat} (hk : k < n) (h : Rows' wr g n k L) (hg : g < wr.heap.size) (hb : Below wr.heap.size wr w2) {a' : Option Addr} {cap' : Nat}
    (hs : StrRow (fun b => wr.heap.size ≤ b ∧ b < w2.heap.size) w2 a' (L k) cap') : Rows' (w2.setCell ⟨g, k, none⟩ (.slice a' (L k) cap')) g n (k + 1) L := by
  have hcg : ∀ o, w2.cell? ⟨g, o, none⟩ = wr.cell? ⟨g, o, none⟩ := fun o => hb.cell (p := ⟨g, o, none⟩) hg
  have hother : ∀ o, o ≠ k → (w2.setCell ⟨g, k, none⟩ (.slice a' (L k) cap')).cell? ⟨g, o, none⟩ = wr.cell? ⟨g, o, none⟩ := fun o ho => by
    rw [World.cell?_setCell_other _ _ _ _ (by intro e'; injection e' with _ e'; exact ho e'.symm), hcg]
  have hsame : (w2.setCell ⟨g, k, none⟩ (.slice a' (L k) cap')).cell? ⟨g, k, none⟩ = some (.slice a' (L k) cap') := by
    obtain ⟨u, hu⟩ := h.1 k hk
    exact World.cell?_setCell_same _ _ _ (by rw [hcg]; exact hu)
  have hheap : ∀ b, b ≠ g → (w2.setCell ⟨g, k, none⟩ (.slice a' (L k) cap')).heap[b]? = w2.heap[b]? := fun b hne => Below.heap_setCell _ _ _ _ hne
  have hsz : (w2.setCell ⟨g, k, none⟩ (.slice a' (L k) cap')).heap.size = w2.heap.size := by simp [World.setCell]
  have h2 := hb.size
  refine ⟨fun j hj => ?_, fun o => ?_, fun i hi => ?_⟩
  · by_cases e : j = k
    · subst e; exact ⟨_, hsame⟩
    · rw [hother j e]; exact h.1 j hj
  · rw [World.frozen?_setCell, hb.frozen (p := ⟨g, o, none⟩) hg]; exact h.2.1 o
  · by_cases e : i = k
    · subst e
      exact ⟨a', cap', hsame, hs.turn fun b hp => ⟨⟨by omega, by rw [hsz]; exact hp.2⟩, hheap b (by omega)⟩⟩
    · obtain ⟨a1, c1, hc1, hs1⟩ := h.2.2 i (by omega)
      exact ⟨a1, c1, by rw [hother i e]; exact hc1, hs1.turn fun b hp => ⟨⟨hp.1, by rw [hsz]; omega⟩, by rw [hheap b (by omega), hb.block b hp.2]⟩⟩

theorem rows_all {w' : World} {g n : Nat} {L : Nat → Nat} (hg : g < w'.heap.size) (h : Rows' w' g n n L) : ∃ A C, SRows (fun b => g ≤ b ∧ b < w'.heap.size) w' (some ⟨g, 0, none⟩) n n A L C := by
  have key : ∀ i, i < n → ∃ y : Option Addr × Nat, w'.cell? ⟨g, i, none⟩ = some (.slice y.1 (L i) y.2) ∧ StrRow (fun b => g < b ∧ b < w'.heap.size) w' y.1 (L i) y.2 := fun i hi => by
    obtain ⟨a', c', h1, h2⟩ := h.2.2 i hi
    exact ⟨(a', c'), h1, h2⟩
  obtain ⟨y, hy⟩ := Go.Deep.choose_lt key
  refine ⟨fun i => (y i).1, fun i => (y i).2, (fun h => by cases h), fun _ => ⟨g, 0, rfl, ⟨Nat.le_refl _, hg⟩, fun i hi => by rw [Nat.zero_add]; exact (hy i hi).1⟩, fun i hi => (hy i hi).2.turn fun b hp => ⟨⟨by omega, hp.2⟩, rfl⟩⟩

theorem clones_nil (w : World) : Calls Try.prog 10 #[.slice none 0 0] w fun e w' => e = .returned (.slice none 0 0) ∧ w = w' := by
  have q22 : ∀ (w : World) (a : Option Addr) (n c n' c' : Nat), (binOp .eql 22 (.slice a n c) (.slice none n' c')).run Try.prog w = .ok (.bool a.isNone) w := fun w a n c n' c' => Lib.run_eql_slice_nil w _ _ a n c n' c' Try.underlying22
  go_enter Try.func10, Try.ntmps10
  go_wp2
  go_ret
  exact ⟨rfl, rfl⟩

set_option maxHeartbeats 1000000 in
theorem clones_some (x : Addr) (n cap : Nat) (A : Nat → Option Addr) (L C : Nat → Nat) (p : Nat → Prop) (w : World) (hn : n ≤ 1048576) (hL : ∀ i, i < n → L i ≤ 1048576) (hr : SRows p w (some x) n cap A L C) (hp : ∀ b, p b → b < w.heap.size) :
    Calls Try.prog 10 #[.slice (some x) n cap] w fun e w' => e = .returned (.slice (some ⟨w.heap.size, 0, none⟩) n n) ∧ Rows' w' w.heap.size n n L ∧ Below w.heap.size w w' ∧ w.heap.size < w'.heap.size := by
  have q22 : ∀ (w : World) (a : Option Addr) (n c n' c' : Nat), (binOp .eql 22 (.slice a n c) (.slice none n' c')).run Try.prog w = .ok (.bool a.isNone) w := fun w a n c n' c' => Lib.run_eql_slice_nil w _ _ a n c n' c' Try.underlying22
  obtain ⟨i0, hi, hz0, hz1, hz2⟩ := info_parts info34
  have HR : Hid (SRows p w (some x) n cap A L C) := hr
  have HP : Hid (∀ b, p b → b < w.heap.size) := hp
  have HL : Hid (∀ i, i < n → L i ≤ 1048576) := hL
  clear hr hp hL
  go_enter Try.func10, Try.ntmps10
  go_wp2_with (at_make; refine wpList_make_full _ rfl _ _ 22 rfl w.heap.size 34 i0 (.slice none 0 0) 1 Try.underlying22 hi hz0 hz1 _ _ _ _ n rfl rfl rfl rfl ?_ ?_ (Nat.le_refl _) ?_)
  · rw [hz2]; omega
  · unfold maxLen; omega
  intro w1 hown hg
  have HF : Hid (Rows' w1 w.heap.size n 0 L) := rows_made L hown
  have hbel : Below w.heap.size w w1 := (Below.refl _ _).grown hg (Nat.le_refl _) (fun k h => by cases h)
  have hsz : w.heap.size < w1.heap.size := (hown.lt w.heap.size rfl).2
  clear hg hown
  go_wp2
  go_loopw [12] (fun i wr => ∃ k : Nat, k ≤ n ∧ i = .int .i64 k ∧ Hid (Rows' wr w.heap.size n k L) ∧ Below w.heap.size w wr ∧ w.heap.size < wr.heap.size) (fun i _ => n - (intOf i).toNat)
  case atStart => exact ⟨0, Nat.zero_le _, rfl, HF, hbel, hsz⟩
  case round =>
    clear HF hbel hsz
    obtain ⟨k, hk, rfl, HF, hbel, hsz⟩ := hrel
    by_cases hlt : k < n
    · obtain ⟨b, off, hx, hpb, hc⟩ := HR.out.2.1 (by omega)
      injection hx with hx
      subst hx
      have hb' := HP.out b hpb
      have hcx : wr.cell? ⟨b, off + k, none⟩ = some (.slice (A k) (L k) (C k)) := by rw [hbel.cell (by exact hb')]; exact hc k hlt
      have S1 : Hid (StrRow p wr (A k) (L k) (C k)) := (HR.out.2.2 k hlt).turn fun b hp => ⟨hp, hbel.block b (HP.out b hp)⟩
      have S2 : Hid (∀ b, p b → b < wr.heap.size) := fun b hp => Nat.lt_trans (HP.out b hp) hsz
      clear hc
      go_wp2_with (go_at_call 17; refine (clone_any _ _ _ p _ (HL.out k hlt) S1.out S2.out).mono ?_)
      rintro e w2 ⟨a', cap', rfl, hs, hb2⟩
      have R : Hid (Rows' (w2.setCell ⟨w.heap.size, k, none⟩ (.slice a' (L k) cap')) w.heap.size n (k + 1) L) := rows_step hlt HF.out hsz hb2 hs
      have hsz2 : w.heap.size < w2.heap.size := Nat.lt_of_lt_of_le hsz hb2.size
      have R2 := (hbel.trans (hb2.mono (Nat.le_of_lt hsz))).setCell (p := ⟨w.heap.size, k, none⟩) (Nat.le_refl _) (.slice a' (L k) cap')
      have hfz : w2.frozen? ⟨w.heap.size, k, none⟩ = false := by rw [hb2.frozen (by exact hsz)]; exact HF.out.2.1 k
      obtain ⟨u, hu⟩ := HF.out.1 k hlt
      have hu2 : w2.cell? ⟨w.heap.size, k, none⟩ = some u := by rw [hb2.cell (by exact hsz)]; exact hu
      clear HF hbel hb2 hs S1 S2 hu hcx
      go_wp2
      go_roundw
      case rel => exact ⟨k + 1, by omega, by go_num, R, R2, by simpa [World.setCell] using hsz2⟩
      case measure => simp [intOf]; omega
    · obtain rfl : k = n := by omega
      go_wp2
      go_ret
      exact ⟨rfl, HF.out, hbel, hsz⟩

theorem clones_any (a : Option Addr) (n cap : Nat) (A : Nat → Option Addr) (L C : Nat → Nat) (p : Nat → Prop) (w : World) (hn : n ≤ 1048576) (hL : ∀ i, i < n → L i ≤ 1048576) (hr : SRows p w a n cap A L C) (hp : ∀ b, p b → b < w.heap.size) :
    Calls Try.prog 10 #[.slice a n cap] w fun e w' => ∃ a' cap' A' C', e = .returned (.slice a' n cap') ∧ SRows (fun b => w.heap.size ≤ b ∧ b < w'.heap.size) w' a' n cap' A' L C' ∧ Below w.heap.size w w' := by
  cases a with
  | none =>
    obtain ⟨rfl, rfl⟩ := hr.1 rfl
    refine (clones_nil w).mono ?_
    rintro e w' ⟨rfl, rfl⟩
    exact ⟨none, 0, A, C, rfl, ⟨fun _ => ⟨rfl, rfl⟩, fun h => absurd h (Nat.lt_irrefl _), fun i h => absurd h (Nat.not_lt_zero _)⟩, Below.refl _ _⟩
  | some x =>
    refine (clones_some x n cap A L C p w hn hL hr hp).mono ?_
    rintro e w' ⟨rfl, hs, hb, hsz⟩
    obtain ⟨A', C', h'⟩ := rows_all hsz hs
    exact ⟨_, n, A', C', rfl, h', hb⟩
end Go.Proofs.Qxb6001441a.kp
