import Derived.Test.Qxb6001441aBuild
import Derived.WalkSpells
/- ZZNewRevisions (11), latest (31), id (32), keeps (29), ZZKeeps (13). -/
namespace Go.Proofs.Qxb6001441a.kp
open Go.RowKit Go.Maps

/-- block S is a 'revisions' of n revisions: its list at block g, its id cache at block I -/
structure Revs (w : World) (g I S n : Nat) : Prop where
  c0 : w.cell? ⟨S, 0, none⟩ = some (.slice (some ⟨g, 0, none⟩) n n)
  c1 : w.cell? ⟨S, 1, none⟩ = some (.slice (some ⟨I, 0, none⟩) n n)
  revs : ∀ i, i < n → ∃ r, w.cell? ⟨g, i, none⟩ = some (.pointer (some ⟨r, 0, none⟩)) ∧ RevAt (fun b => b < w.heap.size ∧ b ≠ I) w r
  gI : g ≠ I
  SI : S ≠ I
  lg : g < w.heap.size
  lI : I < w.heap.size
  lS : S < w.heap.size
  fz : ∀ o, w.frozen? ⟨I, o, none⟩ = false

theorem Revs.turn {w w' : World} {g I S n : Nat} (h : Revs w g I S n) (hg : w.grownBy w' (some I)) (hf : ∀ o, w'.frozen? ⟨I, o, none⟩ = false) : Revs w' g I S n := by
  have hb : ∀ b, b < w.heap.size → b ≠ I → w'.heap[b]? = w.heap[b]? := fun b h1 h2 => hg.block b h1 (fun e => h2 (by injection e))
  have hs := hg.size
  refine ⟨?_, ?_, fun i hi => ?_, h.gI, h.SI, Nat.lt_of_lt_of_le h.lg hs, Nat.lt_of_lt_of_le h.lI hs, Nat.lt_of_lt_of_le h.lS hs, hf⟩
  · rw [World.cell?_of_block (w := w) (a := ⟨S, 0, none⟩) (hb S h.lS h.SI)]; exact h.c0
  · rw [World.cell?_of_block (w := w) (a := ⟨S, 1, none⟩) (hb S h.lS h.SI)]; exact h.c1
  · obtain ⟨r, hr, hv⟩ := h.revs i hi
    exact ⟨r, by rw [World.cell?_of_block (w := w) (a := ⟨g, i, none⟩) (hb g h.lg h.gI)]; exact hr, hv.turn fun b hp => ⟨⟨Nat.lt_of_lt_of_le hp.1 hs, hp.2⟩, hb b hp.1 hp.2⟩⟩

theorem revs_new {w w1 : World} {g n : Nat} (hg : g < w.heap.size) (hl : ListIs w g n n) (hb : Below w.heap.size w w1) (hsz : w.heap.size < w1.heap.size)
    (hc : ∀ i, i < n → w1.cell? ⟨w.heap.size, i, none⟩ = some (.map none)) (hf : ∀ o, w1.frozen? ⟨w.heap.size, o, none⟩ = false) :
    Revs (w1.alloc (.cells #[.slice (some ⟨g, 0, none⟩) n n, .slice (some ⟨w.heap.size, 0, none⟩) n n] 52)) g w.heap.size w1.heap.size n ∧
    ∀ i, i < n → (w1.alloc (.cells #[.slice (some ⟨g, 0, none⟩) n n, .slice (some ⟨w.heap.size, 0, none⟩) n n] 52)).cell? ⟨w.heap.size, i, none⟩ = some (.map none) := by
  obtain ⟨w3, hw3⟩ : ∃ w3, w3 = w1.alloc (.cells #[.slice (some ⟨g, 0, none⟩) n n, .slice (some ⟨w.heap.size, 0, none⟩) n n] 52) := ⟨_, rfl⟩
  have hsz3 : w3.heap.size = w1.heap.size + 1 := by rw [hw3]; simp
  have hold : ∀ b, b < w1.heap.size → w3.heap[b]? = w1.heap[b]? := fun b h => by rw [hw3]; exact Below.heap_alloc _ _ _ h
  have c0 : w3.cell? ⟨w1.heap.size, 0, none⟩ = some (.slice (some ⟨g, 0, none⟩) n n) := by rw [hw3]; simp [go_sem]
  have c1 : w3.cell? ⟨w1.heap.size, 1, none⟩ = some (.slice (some ⟨w.heap.size, 0, none⟩) n n) := by rw [hw3]; simp [go_sem]
  rw [← hw3]
  clear hw3
  refine ⟨⟨c0, c1, fun i hi => ?_, by omega, by omega, by omega, by omega, by omega, fun o => ?_⟩, fun i hi => ?_⟩
  · obtain ⟨r, hr, hv⟩ := hl.2.2 i hi
    refine ⟨r, ?_, hv.turn fun b hp => ⟨⟨by omega, by omega⟩, by rw [hold b (by omega), hb.block b hp.1]⟩⟩
    rw [World.cell?_of_block (w := w) (a := ⟨g, i, none⟩) (by rw [hold g (by omega), hb.block g hg])]; exact hr
  · rw [World.frozen?_of_block (w := w1) (a := ⟨w.heap.size, o, none⟩) (hold _ hsz)]; exact hf o
  · rw [World.cell?_of_block (w := w1) (a := ⟨w.heap.size, i, none⟩) (hold _ hsz)]; exact hc i hi

set_option maxHeartbeats 1000000 in
theorem new_any (g n : Nat) (w : World) (hn : n ≤ 1048576) (hg : g < w.heap.size) (hl : ListIs w g n n) :
    Calls Try.prog 11 #[.slice (some ⟨g, 0, none⟩) n n] w fun e w' => ∃ I S, e = .returned (.pointer (some ⟨S, 0, none⟩)) ∧ Revs w' g I S n ∧ (∀ i, i < n → w'.cell? ⟨I, i, none⟩ = some (.map none)) ∧ w.heap.size ≤ I ∧ Below w.heap.size w w' := by
  obtain ⟨i0, hi, hz0, hz1, hz2⟩ := info_parts info53
  have HL : Hid (ListIs w g n n) := hl
  clear hl
  go_enter Try.func11, Try.ntmps11
  go_wp2_with (at_make; refine wpList_make_full _ rfl _ _ 50 rfl w.heap.size 53 i0 (.map none) 1 Try.underlying50 hi hz0 hz1 _ _ _ _ n rfl rfl rfl rfl ?_ ?_ (Nat.le_refl _) ?_)
  · rw [hz2]; omega
  · unfold maxLen; omega
  intro w1 hown hgr
  have hbel : Below w.heap.size w w1 := (Below.refl _ _).grown hgr (Nat.le_refl _) (fun k h => by cases h)
  have hsz : w.heap.size < w1.heap.size := (hown.lt w.heap.size rfl).2
  have HC : Hid (∀ i, i < n → w1.cell? ⟨w.heap.size, i, none⟩ = some (.map none)) := fun i hi => by
    rw [hown.cellAt i (by omega), toList_madeCells_one]; simp [hi]
  have HFz : Hid (∀ o, w1.frozen? ⟨w.heap.size, o, none⟩ = false) := fun o => hown.frozenAt o
  clear hgr hown
  go_wp2
  go_ret
  have R := revs_new hg HL.out hbel hsz HC.out HFz.out
  exact ⟨w.heap.size, w1.heap.size, rfl, R.1, R.2, Nat.le_refl _, hbel.alloc (Nat.le_of_lt hsz) _⟩

theorem latest_any (g I S n : Nat) (w : World) (hR : Revs w g I S n) :
    Calls Try.prog 31 #[.pointer (some ⟨S, 0, none⟩)] w fun e w' => e = .returned (.int .i64 n) ∧ w = w' := by
  have c0 := hR.c0
  clear hR
  go_enter Try.func31, Try.ntmps31
  go_wp2
  go_ret
  exact ⟨rfl, rfl⟩

/-- the id cache holds a map for revision k already -/
theorem id_old (g I S n k m N : Nat) (D : DataW Unit) (x : Int) (path : ByteArray) (w : World) (hR : Revs w g I S n) (hx : x = (k : Int) + 1) (hk : k < n) (hn : n ≤ 1048576) (hp : path.size ≤ maxLen)
    (hc : w.cell? ⟨I, k, none⟩ = some (.map (some m))) (hm : w.ownsMap Try.prog 9 (plainElem Try.prog 9) m N D) :
    Calls Try.prog 32 #[.pointer (some ⟨S, 0, none⟩), .int .i64 x, .string path] w fun e w' => (∃ v : ByteArray, e = .returned (.tuple #[.string v, .bool (Maps.has D (.string path.data.toList))])) ∧ w = w' := by
  subst hx
  have q53 : ∀ (w : World) (r : Option Nat), (binOp .eql 53 (.map r) (.map none)).run Try.prog w = .ok (.bool r.isNone) w := fun w r => run_eql_map_nil w _ _ _ r Try.underlying53
  have c0 := hR.c0
  have c1 := hR.c1
  clear hR
  go_enter Try.func32, Try.ntmps32
  go_wp2_with (at_lookup; refine wpList_look_ok _ rfl _ _ rfl m N D rfl hm path rfl hp ?_; intro v hv)
  go_ret2
  exact ⟨⟨_, rfl⟩, rfl⟩

/-- what a first look-up leaves: a map for revision k in the cache; else the old blocks as they were, the cache's other cells too -/
def Cached (w w' : World) (g I S n k : Nat) (D : DataW Unit) : Prop :=
  Revs w' g I S n ∧ (∃ m N, w'.cell? ⟨I, k, none⟩ = some (.map (some m)) ∧ w'.ownsMap Try.prog 9 (plainElem Try.prog 9) m N D) ∧ (∀ i, i ≠ k → w'.cell? ⟨I, i, none⟩ = w.cell? ⟨I, i, none⟩) ∧ w.grownBy w' (some I)

theorem cached_mk {w w2 : World} {g I S n k N : Nat} {D : DataW Unit} (hR : Revs w g I S n) (hc : w.cell? ⟨I, k, none⟩ = some (.map none)) (hb : Below w.heap.size w w2) (hown : w2.ownsMap Try.prog 9 (plainElem Try.prog 9) w.heap.size N D) :
    Cached w (w2.setCell ⟨I, k, none⟩ (.map (some w.heap.size))) g I S n k D := by
  have hl := hR.lI
  have hlt := hown.lt
  have hgr : w.grownBy (w2.setCell ⟨I, k, none⟩ (.map (some w.heap.size))) (some I) :=
    ⟨hb.os, hb.tape, hb.output, by simp [World.setCell]; exact hb.size, fun b h1 h2 => by rw [Below.heap_setCell _ _ _ _ (fun e => h2 (by rw [e])), hb.block b h1]⟩
  refine ⟨hR.turn hgr (fun o => by rw [World.frozen?_setCell, hb.frozen (p := ⟨I, o, none⟩) hl]; exact hR.fz o), ⟨w.heap.size, N, ?_, hown.setCell (by show w.heap.size ≠ I; omega) _⟩, fun i hi => ?_, hgr⟩
  · exact World.cell?_setCell_same _ _ _ (by rw [hb.cell (p := ⟨I, k, none⟩) hl]; exact hc)
  · rw [World.cell?_setCell_other _ _ _ _ (by intro e; injection e with _ e; exact hi e.symm), hb.cell (p := ⟨I, i, none⟩) hl]

set_option maxRecDepth 100000 in
set_option maxHeartbeats 1000000 in
/-- the id cache holds no map for revision k yet -/
theorem id_new (g I S n k : Nat) (x : Int) (path : ByteArray) (w : World) (hR : Revs w g I S n) (hx : x = (k : Int) + 1) (hk : k < n) (hn : n ≤ 1048576) (hp : path.size ≤ maxLen)
    (hc : w.cell? ⟨I, k, none⟩ = some (.map none)) :
    Calls Try.prog 32 #[.pointer (some ⟨S, 0, none⟩), .int .i64 x, .string path] w fun e w' => ∃ (v : ByteArray) (D : DataW Unit), e = .returned (.tuple #[.string v, .bool (Maps.has D (.string path.data.toList))]) ∧ Cached w w' g I S n k D := by
  subst hx
  have q53 : ∀ (w : World) (r : Option Nat), (binOp .eql 53 (.map r) (.map none)).run Try.prog w = .ok (.bool r.isNone) w := fun w r => run_eql_map_nil w _ _ _ r Try.underlying53
  have hmm := run_makeMap_hint
  have HR : Hid (Revs w g I S n) := hR
  have c0 := hR.c0
  have c1 := hR.c1
  obtain ⟨r, cr, hpr, fa, fn, fcap, im, N0, D0, f1, hfn, hfs, hpm, f2, hown0⟩ := hR.revs k hk
  have HS : Hid (StrRow (fun b => b < w.heap.size ∧ b ≠ I) w fa fn fcap) := hfs
  have HO : Hid (w.ownsMap Try.prog 9 (plainElem Try.prog 9) im N0 D0) := hown0
  have l1 := hR.lg
  have l2 := hR.lI
  have l3 := hR.lS
  have l4 := hpr.1
  have l5 := hpm.1
  clear hR hfs hown0 hpr hpm
  go_enter Try.func32, Try.ntmps32
  go_wp2
  go_loopw [41] (fun i w2 => ∃ j : Nat, j ≤ fn ∧ i = .int .i64 j ∧ Hid (Inn w w2 j)) (fun i _ => fn - (intOf i).toNat)
  case atStart => exact ⟨0, Nat.zero_le _, rfl, inn_start w⟩
  case round =>
    obtain ⟨j, hj, rfl, HI⟩ := hrel
    have hb := HI.out.1
    have HB : Hid (Below w.heap.size w wr) := hb
    obtain ⟨N, D, hN, hown⟩ := HI.out.2
    by_cases hlt : j < fn
    · obtain ⟨fb, foff, hf, hpf, hfc⟩ := HS.out.2 (by omega)
      subst hf
      obtain ⟨s, hs, hsl⟩ := hfc j hlt
      have hs2 : wr.cell? ⟨fb, foff + j, none⟩ = some (.string s) := by rw [hb.cell (by exact hpf.1)]; exact hs
      have f2' : wr.cell? ⟨r, 2, none⟩ = some (.map (some im)) := by rw [hb.cell (by exact l4)]; exact f2
      have hownI := owns_block HO.out (hb.block im l5)
      clear hfc hs hb c0 c1 f1 f2 cr hc
      go_wp2_with (first | (at_lookup; refine wpList_look _ rfl _ _ rfl im N0 D0 rfl hownI s rfl hsl ?_; intro v hv) | (at_mapUpdate; refine wpList_mapUpdate_own _ rfl _ _ _ 53 rfl 9 9 law Try.underlying53 _ w.heap.size N D rfl hown (by unfold maxLen; omega) _ _ _ rfl rfl (WideMaps.keyOf_string_mk Try.underlying9 hsl) _ [] (plainElem_string Try.underlying9 hv) ?_; intro w3 hown3 hg3))
      have R : Hid (Inn w w3 (j + 1)) := ⟨HB.out.grown hg3 (Nat.le_of_lt hown.lt) (fun k e => by cases e; exact Nat.le_refl _), _, _, by omega, hown3⟩
      clear hown3 hg3 hown hownI
      go_wp2
      go_roundw
      case rel => exact ⟨j + 1, by omega, by go_num, R⟩
      case measure => simp [intOf]; omega
    · have c1' : wr.cell? ⟨S, 1, none⟩ = some (.slice (some ⟨I, 0, none⟩) n n) := by rw [hb.cell (by exact l3)]; exact c1
      have hc' : wr.cell? ⟨I, k, none⟩ = some (.map none) := by rw [hb.cell (by exact l2)]; exact hc
      have hfz : wr.frozen? ⟨I, k, none⟩ = false := by rw [hb.frozen (by exact l2)]; exact HR.out.fz k
      have hown' := hown.setCell (a := ⟨I, k, none⟩) (by show w.heap.size ≠ I; omega) (.map (some w.heap.size))
      have R : Hid (Cached w (wr.setCell ⟨I, k, none⟩ (.map (some w.heap.size))) g I S n k D) := cached_mk HR.out hc hb hown
      clear hb hown c0 c1 f1 f2 cr hc
      go_wp2_with (at_lookup; refine wpList_look_ok _ rfl _ _ rfl w.heap.size N D rfl hown' path rfl hp ?_; intro v hv)
      go_ret2
      exact ⟨_, D, rfl, R⟩
end Go.Proofs.Qxb6001441a.kp
