import Derived.Test.Qxb6001441aBytes
/- krBuild (12), ZZNewRevisions (11). -/
namespace Go.Proofs.Qxb6001441a.kp
open Go.RowKit Go.Maps

/-- block r is a Revision: its Files a row of strings, its IDs a map -/
def RevAt (p : Nat → Prop) (w : World) (r : Nat) : Prop :=
  p r ∧ ∃ (fa : Option Addr) (fn fcap m N : Nat) (D : DataW Unit), w.cell? ⟨r, 1, none⟩ = some (.slice fa fn fcap) ∧ fn ≤ 1048576 ∧ StrRow p w fa fn fcap ∧ p m ∧
    w.cell? ⟨r, 2, none⟩ = some (.map (some m)) ∧ w.ownsMap Try.prog 9 (plainElem Try.prog 9) m N D

theorem owns_block {w w' : World} {m N : Nat} {D : DataW Unit} (h : w.ownsMap Try.prog 9 (plainElem Try.prog 9) m N D) (hm : w'.heap[m]? = w.heap[m]?) : w'.ownsMap Try.prog 9 (plainElem Try.prog 9) m N D := by
  obtain ⟨es, clock, hb, r⟩ := h
  exact ⟨es, clock, hm.trans hb, r⟩

theorem RevAt.turn {p p' : Nat → Prop} {w w' : World} {r : Nat} (h : RevAt p w r) (hk : ∀ b, p b → p' b ∧ w'.heap[b]? = w.heap[b]?) : RevAt p' w' r := by
  obtain ⟨hp, fa, fn, fcap, m, N, D, h1, h2, h3, h4, h5, h6⟩ := h
  exact ⟨(hk r hp).1, fa, fn, fcap, m, N, D, by rw [World.cell?_of_block (w := w) (a := ⟨r, 1, none⟩) (hk r hp).2]; exact h1, h2, h3.turn hk, (hk m h4).1,
    by rw [World.cell?_of_block (w := w) (a := ⟨r, 2, none⟩) (hk r hp).2]; exact h5, owns_block h6 (hk m h4).2⟩

/-- the list at block g after k rounds -/
def ListIs (wr : World) (g n k : Nat) : Prop :=
  (∀ j, j < n → ∃ u, wr.cell? ⟨g, j, none⟩ = some u) ∧ (∀ o, wr.frozen? ⟨g, o, none⟩ = false) ∧
  ∀ i, i < k → ∃ r, wr.cell? ⟨g, i, none⟩ = some (.pointer (some ⟨r, 0, none⟩)) ∧ RevAt (fun b => b < wr.heap.size ∧ b ≠ g) wr r

theorem list_made {w1 : World} {g n : Nat} (hown : w1.ownsRow g 54 1 (.slice (some ⟨g, 0, none⟩) n n) n (madeCells #[.pointer none] n).toList) : ListIs w1 g n 0 := by
  refine ⟨fun j hj => ⟨.pointer none, ?_⟩, fun o => hown.frozenAt o, fun i hi => absurd hi (Nat.not_lt_zero _)⟩
  rw [hown.cellAt j (by omega), toList_madeCells_one]
  simp [hj]

/-- inside the round: the map of revision k is the block that was new when the round began -/
def Inn (wr w2 : World) (j : Nat) : Prop := Below wr.heap.size wr w2 ∧ ∃ (N : Nat) (D : DataW Unit), N ≤ j ∧ w2.ownsMap Try.prog 9 (plainElem Try.prog 9) wr.heap.size N D
theorem inn_start (wr : World) : Inn wr (wr.alloc (.map #[] 0)) 0 := ⟨(Below.refl _ _).alloc (Nat.le_refl _) _, 0, _, Nat.le_refl _, World.ownsMap_made wr _ _ _⟩
theorem inn_skip {wr w2 : World} {j : Nat} (h : Inn wr w2 j) : Inn wr w2 (j + 1) := by
  obtain ⟨h1, N, D, h2, h3⟩ := h
  exact ⟨h1, N, D, by omega, h3⟩
theorem inn_put {wr w2 : World} {j : Nat} (h : Inn wr w2 j) (hj : j ≤ 1048576) {s v : ByteArray} (hs : s.size ≤ maxLen) (hv : v.size ≤ maxLen) :
    ∃ w3, (Instr.mapUpdate 53 (.map (some wr.heap.size)) (.string s) (.string v)).run Try.prog w2.drew = .ok () w3 ∧ Inn wr w3 (j + 1) := by
  obtain ⟨h1, N, D, h2, h3⟩ := h
  obtain ⟨w3, hrun, hown, hg⟩ := h3.drew.update law Try.underlying53 (show N < maxLen by unfold maxLen; omega) (WideMaps.keyOf_string_mk Try.underlying9 hs) (plainElem_string Try.underlying9 hv)
  exact ⟨w3, hrun, h1.drew.grown hg (Nat.le_of_lt h3.lt) (fun k e => by cases e; exact Nat.le_refl _), _, _, by omega, hown⟩

theorem list_step {wr w2 : World} {g n k j : Nat} (hk : k < n) (h : ListIs wr g n k) (hg : g < wr.heap.size) (hI : Inn wr w2 j) {fa : Option Addr} {fn fcap : Nat} (hfn : fn ≤ 1048576) {p : Nat → Prop}
    (hs : StrRow p wr fa fn fcap) (hp : ∀ b, p b → b < g) (s0 s3 s4 : Value) :
    ListIs ((w2.setCell ⟨g, k, none⟩ (.pointer (some ⟨w2.heap.size, 0, none⟩))).alloc (.cells #[s0, .slice fa fn fcap, .map (some wr.heap.size), s3, s4] 56)) g n (k + 1) := by
  obtain ⟨hb, N, D, _, hown⟩ := hI
  have hlt := hown.lt
  rw [← World.setCell_alloc_past _ _ _ _ (Nat.lt_trans hg hlt)]
  obtain ⟨w3, hw3⟩ : ∃ w3, w3 = w2.alloc (.cells #[s0, .slice fa fn fcap, .map (some wr.heap.size), s3, s4] 56) := ⟨_, rfl⟩
  have hsz3 : w3.heap.size = w2.heap.size + 1 := by rw [hw3]; simp
  have hb3 : Below wr.heap.size wr w3 := by rw [hw3]; exact hb.alloc (Nat.le_of_lt hlt) _
  have hold : ∀ b, b < w2.heap.size → w3.heap[b]? = w2.heap[b]? := fun b h => by rw [hw3]; exact Below.heap_alloc _ _ _ h
  have c1 : w3.cell? ⟨w2.heap.size, 1, none⟩ = some (.slice fa fn fcap) := by rw [hw3]; simp [go_sem]
  have c2 : w3.cell? ⟨w2.heap.size, 2, none⟩ = some (.map (some wr.heap.size)) := by rw [hw3]; simp [go_sem]
  have hown3 : w3.ownsMap Try.prog 9 (plainElem Try.prog 9) wr.heap.size N D := owns_block hown (hold _ hlt)
  rw [← hw3]
  clear hw3
  have hcg : ∀ o, w3.cell? ⟨g, o, none⟩ = wr.cell? ⟨g, o, none⟩ := fun o => hb3.cell (p := ⟨g, o, none⟩) hg
  obtain ⟨v, hv⟩ : ∃ v, v = Value.pointer (some ⟨w2.heap.size, 0, none⟩) := ⟨_, rfl⟩
  rw [← hv]
  have hother : ∀ o, o ≠ k → (w3.setCell ⟨g, k, none⟩ v).cell? ⟨g, o, none⟩ = wr.cell? ⟨g, o, none⟩ := fun o ho => by
    rw [World.cell?_setCell_other _ _ _ _ (by intro e'; injection e' with _ e'; exact ho e'.symm), hcg]
  have hsame : (w3.setCell ⟨g, k, none⟩ v).cell? ⟨g, k, none⟩ = some v := by
    obtain ⟨u, hu⟩ := h.1 k hk
    exact World.cell?_setCell_same _ _ _ (by rw [hcg]; exact hu)
  have hheap : ∀ b, b ≠ g → (w3.setCell ⟨g, k, none⟩ v).heap[b]? = w3.heap[b]? := fun b hne => Below.heap_setCell _ _ _ _ hne
  have hsz : (w3.setCell ⟨g, k, none⟩ v).heap.size = w3.heap.size := by simp [World.setCell]
  have h2 := hb.size
  refine ⟨fun j hj => ?_, fun o => ?_, fun i hi => ?_⟩
  · by_cases e : j = k
    · subst e; exact ⟨_, hsame⟩
    · rw [hother j e]; exact h.1 j hj
  · rw [World.frozen?_setCell, hb3.frozen (p := ⟨g, o, none⟩) hg]; exact h.2.1 o
  · by_cases e : i = k
    · subst e
      refine ⟨w2.heap.size, by rw [hsame, hv], ⟨by rw [hsz, hsz3]; omega, by omega⟩, fa, fn, fcap, wr.heap.size, N, D, ?_, hfn, ?_, ⟨by rw [hsz, hsz3]; omega, by omega⟩, ?_, ?_⟩
      · rw [World.cell?_of_block (w := w3) (a := ⟨w2.heap.size, 1, none⟩) (hheap _ (by show w2.heap.size ≠ g; omega))]; exact c1
      · exact hs.turn fun b hb' => by
          have := hp b hb'
          exact ⟨⟨by rw [hsz, hsz3]; omega, by omega⟩, by rw [hheap b (by omega), hb3.block b (by omega)]⟩
      · rw [World.cell?_of_block (w := w3) (a := ⟨w2.heap.size, 2, none⟩) (hheap _ (by show w2.heap.size ≠ g; omega))]; exact c2
      · exact owns_block hown3 (hheap _ (by omega))
    · obtain ⟨r, hr1, hr2⟩ := h.2.2 i (by omega)
      exact ⟨r, by rw [hother i e]; exact hr1, hr2.turn fun b hp' => ⟨⟨by rw [hsz, hsz3]; omega, hp'.2⟩, by rw [hheap b hp'.2, hb3.block b hp'.1]⟩⟩

set_option maxRecDepth 100000 in
set_option maxHeartbeats 1000000 in
theorem build_any (a1 : Option Addr) (n1 cap1 : Nat) (A1 : Nat → Option Addr) (L1 C1 : Nat → Nat) (a2 : Option Addr) (n2 cap2 : Nat) (A2 : Nat → Option Addr) (L2 C2 : Nat → Nat) (p : Nat → Prop) (w : World)
    (h1 : n1 ≤ 1048576) (h2 : n2 ≤ 1048576) (hL1 : ∀ i, i < n1 → L1 i ≤ 1048576) (hL2 : ∀ i, i < n2 → L2 i ≤ 1048576) (hr1 : SRows p w a1 n1 cap1 A1 L1 C1) (hr2 : SRows p w a2 n2 cap2 A2 L2 C2) (hp : ∀ b, p b → b < w.heap.size) :
    Calls Try.prog 12 #[.slice a1 n1 cap1, .slice a2 n2 cap2] w fun e w' => e = .returned (.slice (some ⟨w.heap.size, 0, none⟩) n1 n1) ∧ ListIs w' w.heap.size n1 n1 ∧ Below w.heap.size w w' ∧ w.heap.size < w'.heap.size := by
  obtain ⟨i0, hi, hz0, hz1, hz2⟩ := info_parts info54
  have hmm := @run_makeMap Try.prog
  have HR1 : Hid (SRows p w a1 n1 cap1 A1 L1 C1) := hr1
  have HR2 : Hid (SRows p w a2 n2 cap2 A2 L2 C2) := hr2
  have HL1 : Hid (∀ i, i < n1 → L1 i ≤ 1048576) := hL1
  have HL2 : Hid (∀ i, i < n2 → L2 i ≤ 1048576) := hL2
  have HP : Hid (∀ b, p b → b < w.heap.size) := hp
  clear hr1 hr2 hL1 hL2 hp
  go_enter Try.func12, Try.ntmps12
  go_wp2_with (at_make; refine wpList_make_full _ rfl _ _ 28 rfl w.heap.size 54 i0 (.pointer none) 1 Try.underlying28 hi hz0 hz1 _ _ _ _ n1 rfl rfl rfl rfl ?_ ?_ (Nat.le_refl _) ?_)
  · rw [hz2]; omega
  · unfold maxLen; omega
  intro w1 hown hg
  have HF : Hid (ListIs w1 w.heap.size n1 0) := list_made hown
  have hbel : Below w.heap.size w w1 := (Below.refl _ _).grown hg (Nat.le_refl _) (fun k h => by cases h)
  have hsz : w.heap.size < w1.heap.size := (hown.lt w.heap.size rfl).2
  clear hg hown
  go_wp2
  go_loopw [16] (fun i wr => ∃ k : Nat, k ≤ n1 ∧ i = .int .i64 k ∧ Hid (ListIs wr w.heap.size n1 k) ∧ Below w.heap.size w wr ∧ w.heap.size < wr.heap.size) (fun i _ => n1 - (intOf i).toNat)
  case atStart => exact ⟨0, Nat.zero_le _, rfl, HF, hbel, hsz⟩
  case round =>
    clear HF hbel hsz
    obtain ⟨k, hk, rfl, HF, hbel, hsz⟩ := hrel
    obtain ⟨wo, hwo⟩ : ∃ x, x = wr := ⟨wr, rfl⟩
    subst hwo
    by_cases hlt : k < n1
    · obtain ⟨b, off, hx, hpb, hc⟩ := HR1.out.2.1 (by omega)
      subst hx
      have hb' := HP.out b hpb
      have hcx : wo.cell? ⟨b, off + k, none⟩ = some (.slice (A1 k) (L1 k) (C1 k)) := by rw [hbel.cell (by exact hb')]; exact hc k hlt
      have S1 : Hid (StrRow p wo (A1 k) (L1 k) (C1 k)) := (HR1.out.2.2 k hlt).turn fun b hp => ⟨hp, hbel.block b (HP.out b hp)⟩
      have hLk := HL1.out k hlt
      clear hc
      obtain ⟨ak, hak⟩ : ∃ ak, ak = A1 k := ⟨_, rfl⟩
      rw [← hak] at hcx S1
      clear hak
      by_cases hk2 : k < n2
      · obtain ⟨c, coff, hx2, hpc, hc2⟩ := HR2.out.2.1 (by omega)
        subst hx2
        have hc' := HP.out c hpc
        have hcx2 : wo.cell? ⟨c, coff + k, none⟩ = some (.slice (A2 k) (L2 k) (C2 k)) := by rw [hbel.cell (by exact hc')]; exact hc2 k hk2
        have S2 : Hid (StrRow p wo (A2 k) (L2 k) (C2 k)) := (HR2.out.2.2 k hk2).turn fun b hp => ⟨hp, hbel.block b (HP.out b hp)⟩
        have hLk2 := HL2.out k hk2
        clear hc2
        obtain ⟨ck, hck⟩ : ∃ ck, ck = A2 k := ⟨_, rfl⟩
        rw [← hck] at hcx2 S2
        clear hck
        go_wp2
        go_loopw [34] (fun i w2 => ∃ j : Nat, j ≤ L1 k ∧ i = .int .i64 j ∧ Hid (Inn wo w2 j)) (fun i _ => L1 k - (intOf i).toNat)
        case atStart => exact ⟨0, Nat.zero_le _, rfl, inn_start wo⟩
        case round =>
          obtain ⟨j, hj, rfl, HI⟩ := hrel
          by_cases hltj : j < L1 k
          · by_cases hiv : j < L2 k
            · obtain ⟨fb, foff, hf, hpf, hfc⟩ := S1.out.2 (by omega)
              subst hf
              obtain ⟨s, hs, hsl⟩ := hfc j hltj
              have hs2 : wr.cell? ⟨fb, foff + j, none⟩ = some (.string s) := by rw [HI.out.1.cell (by exact Nat.lt_trans (HP.out fb hpf) hsz)]; exact hs
              obtain ⟨vb, voff, hv, hpv, hvc⟩ := S2.out.2 (by omega)
              subst hv
              obtain ⟨v, hvs, hvl⟩ := hvc j hiv
              have hv2 : wr.cell? ⟨vb, voff + j, none⟩ = some (.string v) := by rw [HI.out.1.cell (by exact Nat.lt_trans (HP.out vb hpv) hsz)]; exact hvs
              obtain ⟨w3, hrun, HI3⟩ := inn_put HI.out (by omega) hsl hvl
              have HI4 : Hid (Inn wo w3 (j + 1)) := HI3
              have i1 : (j : Int) < (L1 k : Int) := by omega
              have i2 : (j : Int) < (L2 k : Int) := by omega
              clear hfc hvc hs hvs HI3 HI
              go_wp2
              go_region
              all_goals
                go_wp2
                go_roundw
                case rel => exact ⟨j + 1, by omega, by go_num, HI4⟩
                case measure => simp [intOf]; omega
            · go_wp2
              go_roundw
              case rel => exact ⟨j + 1, by omega, by go_num, inn_skip HI.out⟩
              case measure => simp [intOf]; omega
          · obtain ⟨u, hu⟩ := HF.out.1 k hlt
            have hu2 : wr.cell? ⟨w.heap.size, k, none⟩ = some u := by rw [HI.out.1.cell (by exact hsz)]; exact hu
            have hfz : wr.frozen? ⟨w.heap.size, k, none⟩ = false := by rw [HI.out.1.frozen (by exact hsz)]; exact HF.out.2.1 k
            have hsz2 : w.heap.size < wr.heap.size := Nat.lt_of_lt_of_le hsz HI.out.1.size
            have HB : Hid (Below w.heap.size w wr) := hbel.trans (HI.out.1.mono (Nat.le_of_lt hsz))
            clear hbel
            go_wp2
            go_roundw
            case rel => exact ⟨k + 1, by omega, by go_num, list_step hlt HF.out hsz HI.out hLk S1.out HP.out _ _ _, (HB.out.setCell (Nat.le_refl _) _).alloc (by simp [World.setCell]; omega) _, by simp [World.setCell]; omega⟩
            case measure => simp [intOf]; omega
      · go_wp2
        go_loopw [34] (fun i w2 => ∃ j : Nat, j ≤ L1 k ∧ i = .int .i64 j ∧ Hid (Inn wo w2 j)) (fun i _ => L1 k - (intOf i).toNat)
        case atStart => exact ⟨0, Nat.zero_le _, rfl, inn_start wo⟩
        case round =>
          obtain ⟨j, hj, rfl, HI⟩ := hrel
          by_cases hltj : j < L1 k
          · go_wp2
            go_roundw
            case rel => exact ⟨j + 1, by omega, by go_num, inn_skip HI.out⟩
            case measure => simp [intOf]; omega
          · obtain ⟨u, hu⟩ := HF.out.1 k hlt
            have hu2 : wr.cell? ⟨w.heap.size, k, none⟩ = some u := by rw [HI.out.1.cell (by exact hsz)]; exact hu
            have hfz : wr.frozen? ⟨w.heap.size, k, none⟩ = false := by rw [HI.out.1.frozen (by exact hsz)]; exact HF.out.2.1 k
            have hsz2 : w.heap.size < wr.heap.size := Nat.lt_of_lt_of_le hsz HI.out.1.size
            have HB : Hid (Below w.heap.size w wr) := hbel.trans (HI.out.1.mono (Nat.le_of_lt hsz))
            clear hbel
            go_wp2
            go_roundw
            case rel => exact ⟨k + 1, by omega, by go_num, list_step hlt HF.out hsz HI.out hLk S1.out HP.out _ _ _, (HB.out.setCell (Nat.le_refl _) _).alloc (by simp [World.setCell]; omega) _, by simp [World.setCell]; omega⟩
            case measure => simp [intOf]; omega
    · obtain rfl : k = n1 := by omega
      go_wp2
      go_ret
      exact ⟨rfl, HF.out, hbel, hsz⟩
end Go.Proofs.Qxb6001441a.kp
