/- FnMemberNamesAddReportsRepeatsExactly (7): the walk. -/
import Derived.Test.Qxb6601361aFront
import Derived.Deep.RegionHeld3
namespace Go.Proofs.Qxb6601361a
open Go.RowKit

def seenOf (N : Nat → List Int) : Nat → List (List Int)
  | 0 => []
  | k + 1 => plus (seenOf N k) (N k)
theorem mem_plus {seen : List (List Int)} {xs y : List Int} : y ∈ plus seen xs ↔ y ∈ seen ∨ y = xs := by
  unfold plus
  split
  · rename_i h
    exact ⟨Or.inl, fun h' => h'.elim id (fun e => e ▸ h)⟩
  · simp
theorem mem_seenOf {N : Nat → List Int} {y : List Int} : ∀ {k : Nat}, y ∈ seenOf N k ↔ ∃ j, j < k ∧ N j = y
  | 0 => by simp [seenOf]
  | k + 1 => by
    rw [seenOf, mem_plus, mem_seenOf]
    constructor
    · rintro (⟨j, h1, h2⟩ | h)
      · exact ⟨j, by omega, h2⟩
      · exact ⟨k, by omega, h.symm⟩
    · rintro ⟨j, h1, h2⟩
      by_cases e : j = k
      · subst e; exact Or.inr h2.symm
      · exact Or.inl ⟨j, by omega, h2⟩
theorem len_seenOf (N : Nat → List Int) : ∀ k, (seenOf N k).length ≤ k
  | 0 => by simp [seenOf]
  | k + 1 => by
    have := len_seenOf N k
    rw [seenOf, plus]
    split
    · omega
    · simp; omega
theorem rep_seen (N : Nat → List Int) (k : Nat) : decide (N k ∈ seenOf N k) = rep N k := by
  rw [Bool.eq_iff_iff, decide_eq_true_eq, rep_iff, mem_seenOf]
theorem plus_seen (N : Nat → List Int) (n k : Nat) (h : k < n) : plus (seenOf N n) (N k) = seenOf N n := by
  unfold plus
  rw [if_pos (mem_seenOf.2 ⟨k, h, rfl⟩)]

theorem info4 : (Try.prog.info? 4).map (fun i => (i.zero, i.size, i.bytes)) = some (some (.bool false), 1, 1) := by kernel_rfl
theorem make48 (n : Nat) (hn : n ≤ 1048576) (w : World) : (Instr.makeSlice 48 (.int .i64 (n : Int)) (.int .i64 (n : Int))).run Try.prog w = .ok (.slice (some ⟨w.heap.size, 0, none⟩) n n) (w.alloc (.cells (madeCells #[.bool false] n) 4)) :=
  run_make_row' (P := Try.prog) 48 4 (.bool false) 1 Try.underlying48 info4 rfl .i64 .i64 n (by omega) (by omega) w

theorem OwnN.below {w w' : World} {ao : Option Addr} {C n : Nat} {V : Nat → Value} {N : Nat → List Int} (h : OwnN w ao C n V N) (hb : Below w.heap.size w w') : OwnN w' ao C n V N := by
  rcases h with h | ⟨h1, h2, h3⟩
  · exact Or.inl h
  · exact Or.inr ⟨h1, Nat.lt_of_lt_of_le h2 hb.size, h3.below h2 hb⟩
theorem OwnN.get {w w' : World} {ao : Option Addr} {C n k : Nat} {V : Nat → Value} {N : Nat → List Int} (h : OwnN w ao C n V N) (hb : Below w.heap.size w w') (hk : k < n) : ao = some ⟨C, 0, none⟩ ∧ w'.cell? ⟨C, k, none⟩ = some (V k) ∧ BL w.heap.size w' (V k) (N k) := by
  rcases h with h | ⟨h1, h2, h3⟩
  · omega
  · exact ⟨h1, (h3.below h2 hb k hk).1, (h3 k hk).2.bl hb⟩

def freshCells : Array Value := #[.slice none 0 0, .slice none 0 0, .slice none 0 0, .slice none 0 0, .slice none 0 0, .slice none 0 0, .slice none 0 0, .slice none 0 0, .int .i64 0, .map none]
theorem setA_fresh (w : World) : SetA (w.alloc (.cells freshCells 47)) w.heap.size [] := by
  refine ⟨by simp, fun i => (freshCells[i]?).getD (.bool false), World.rowIs_alloc w freshCells 47 _ (fun i hi => by rw [Array.getElem?_eq_getElem hi]; rfl), rfl, rfl, fun j hj => ?_, fun j hj => absurd hj (by simp)⟩
  match j, hj with
  | 0, _ => exact ⟨_, _, _, rfl⟩
  | 1, _ => exact ⟨_, _, _, rfl⟩
  | 2, _ => exact ⟨_, _, _, rfl⟩
  | 3, _ => exact ⟨_, _, _, rfl⟩
  | 4, _ => exact ⟨_, _, _, rfl⟩
  | 5, _ => exact ⟨_, _, _, rfl⟩
  | 6, _ => exact ⟨_, _, _, rfl⟩
  | 7, _ => exact ⟨_, _, _, rfl⟩
  | j + 8, h => omega

/-- The set, while its map, if any, lies behind block G. -/
def Holds (w : World) (S G : Nat) (seen : List (List Int)) : Prop := ∃ Mo, SetS w S Mo seen ∧ ∀ M, Mo = some M → G < M ∧ M < w.heap.size

theorem Holds.kept {w w' : World} {S G : Nat} {seen : List (List Int)} (h : Holds w S G seen) (hb : Below S w w') (hS : w'.heap[S]? = w.heap[S]?) (hM : ∀ M : Nat, G < M → M < w.heap.size → w'.heap[M]? = w.heap[M]?) : Holds w' S G seen := by
  obtain ⟨Mo, h1, h2⟩ := h
  exact ⟨Mo, h1.kept hb hS (fun M e => hM M (h2 M e).1 (h2 M e).2), fun M e => ⟨(h2 M e).1, Nat.lt_of_lt_of_le (h2 M e).2 hb.size⟩⟩
theorem Holds.lt {w : World} {S G : Nat} {seen : List (List Int)} (h : Holds w S G seen) : S < w.heap.size := by
  obtain ⟨Mo, ⟨_, _, φ, h1, _⟩ | ⟨M, _, _, ⟨φ, h1, _⟩, _⟩, h2⟩ := h <;> exact h1.lt
theorem Holds.store {w : World} {S G o : Nat} {seen : List (List Int)} (h : Holds w S G seen) (hg : S < G) (u : Value) : Holds (w.setCell ⟨G, o, none⟩ u) S G seen :=
  h.kept ((Below.refl S w).setCell (Nat.le_of_lt hg) u) (Below.heap_setCell _ _ _ _ (Nat.ne_of_lt hg)) (fun _ h1 _ => Below.heap_setCell _ _ _ _ (Nat.ne_of_gt h1))
theorem Holds.later {w w' : World} {S G : Nat} {seen : List (List Int)} (h : Holds w S G seen) (hb : Below w.heap.size w w') : Holds w' S G seen :=
  h.kept (hb.mono (Nat.le_of_lt h.lt)) (hb.block _ h.lt) (fun M _ h2 => hb.block M h2)

/-- One add of name k, the names in hand being those of the first m. -/
theorem zzadd_holds (S G : Nat) (N : Nat → List Int) (m : Nat) (v : Value) (xs : List Int) (w : World) (hS : Holds w S G (seenOf N m)) (hg : S < G) (hG : G < w.heap.size) (hv : BL S w v xs) (hx : Byte xs) (hl : xs.length ≤ 1048576) (hm : m ≤ 65536) (hb : ∀ i, i < m → Byte (N i)) (hL : ∀ i, i < m → (N i).length ≤ 1048576) :
    Calls Try.prog 22 #[.pointer (some ⟨S, 0, none⟩), v] w fun e w' => e = .returned (.bool (decide (xs ∈ seenOf N m))) ∧ Below S w w' ∧ w'.heap[G]? = w.heap[G]? ∧ Holds w' S G (plus (seenOf N m) xs) ∧ ∀ k, k < G → k ≠ S → w'.heap[k]? = w.heap[k]? := by
  have hSl := hS.lt
  obtain ⟨Mo, h1, h2⟩ := hS
  refine (zzadd_any S Mo (seenOf N m) v xs w h1 hv hx (fun y hy => ?_) (fun y hy => ?_) hl (by have := len_seenOf N m; omega)).mono ?_
  · obtain ⟨j, hj, rfl⟩ := mem_seenOf.1 hy; exact hb j hj
  · obtain ⟨j, hj, rfl⟩ := mem_seenOf.1 hy; exact hL j hj
  · rintro e w' ⟨rfl, ho, Mo', hs', hmo⟩
    refine ⟨rfl, ho.below (Nat.le_of_lt hSl) (fun M e => by have := h2 M e; omega), ho.block G hG (by omega) (fun e => by have := h2 G e.symm; omega), ⟨Mo', hs', fun M e => ?_⟩, fun k hk hne => ho.block k (by omega) hne (fun e => by have := h2 k e.symm; omega)⟩
    have hsz := ho.size
    have hlt : M < w'.heap.size := by
      rcases hs' with ⟨h0, _⟩ | ⟨M', h0, _, _, h4⟩
      · rw [h0] at e; cases e
      · rw [h0] at e; cases e; exact h4.lt
    rcases hmo with rfl | ⟨M', rfl, h5⟩
    · exact ⟨(h2 M e).1, hlt⟩
    · cases e; exact ⟨by omega, hlt⟩

def wantOf (N : Nat → List Int) (A : List Nat) (k x : Nat) : Bool := decide (x ∈ A.take k) && rep N x
theorem want_start {N : Nat → List Int} {A : List Nat} {n : Nat} (h : Seg N A 0 n) (x : Nat) : wantOf N A 1 x = false := by
  unfold wantOf
  cases A with
  | nil => simp
  | cons a t =>
    have := rep_sorted h 0 (by simp)
    simp at this
    by_cases e : x = a
    · subst e; simp [this]
    · simp [e]
theorem want_step {N : Nat → List Int} {A : List Nat} {n k : Nat} (h : Seg N A 0 n) (hk : k < n) (h1 : 1 ≤ k) (x : Nat) : wantOf N A (k + 1) x = if x = A.getD k 0 then decide (cmpB (N (A.getD (k - 1) 0)) (N (A.getD k 0)) = 0) else wantOf N A k x := by
  have hl : k < A.length := by rw [h.len]; omega
  have hg : A.getD k 0 = A[k] := by rw [List.getD_eq_getElem?_getD, List.getElem?_eq_getElem hl]; rfl
  have := rep_sorted h k hl
  rw [if_neg (by omega)] at this
  rw [hg, ← this]
  unfold wantOf
  rw [List.take_succ_eq_append_getElem hl]
  by_cases e : x = A[k]
  · rw [if_pos e, e, decide_eq_true (List.mem_append.2 (Or.inr (by simp))), Bool.true_and]
  · rw [if_neg e]
    congr 1
    simp only [List.mem_append, List.mem_singleton, e, or_false]
theorem want_end {N : Nat → List Int} {A : List Nat} {n k : Nat} (h : Seg N A 0 n) (hk : n ≤ k) (x : Nat) (hx : x < n) : wantOf N A k x = rep N x := by
  unfold wantOf
  rw [List.take_of_length_le (by rw [h.len]; omega), decide_eq_true (h.2.mem_iff.2 (by rw [List.mem_range']; exact ⟨x, by omega, by omega⟩)), Bool.true_and]
theorem Below.dN {B : Nat} {w w' : World} (n : Nat) (h : Below B w w') : Below B w (w'.drewN n) := ⟨h.os, h.tape, h.output, h.size, h.block⟩
theorem Below.d1 {B : Nat} {w w' : World} (h : Below B w w') : Below B w w'.drew := ⟨h.os, h.tape, h.output, h.size, h.block⟩
theorem Below.sC {B o : Nat} {w w' : World} (u : Value) (h : Below B w w') : Below B w (w'.setCell ⟨B, o, none⟩ u) := h.setCell (Nat.le_refl _) u

theorem seg_at {N : Nat → List Int} {A : List Nat} {n k : Nat} (h : Seg N A 0 n) (hk : k < n) : A.getD k 0 < n := by
  have hl : k < A.length := by rw [h.len]; omega
  rw [List.getD_eq_getElem?_getD, List.getElem?_eq_getElem hl]
  exact (h.mem (List.getElem_mem hl)).2

set_option maxRecDepth 100000 in
set_option maxHeartbeats 4000000 in
theorem main_walk (ao : Option Addr) (n cap : Nat) (V : Nat → Value) (N : Nat → List Int) (w : World) (ha : ArgN w ao n V N) (hnil : ao = none → n = 0) (hby : ∀ i, i < n → Byte (N i)) :
    Calls Try.prog 7 #[.slice ao n cap] w fun e w' => e = .returned (.bool true) ∧ Below w.heap.size w w' := by
  have hz := zzb ao n cap V N w ha
  go_enter Try.func7, Try.ntmps7
  go_wp2_with fail
  refine hz.mono ?_
  rintro e w9 ⟨hw9, h⟩
  subst w9
  rcases h with rfl | ⟨rfl, hnM, HL⟩
  · go_wp2
    go_ret
    exact ⟨rfl, Below.refl _ _⟩
  by_cases hn : n ≤ 65536
  · by_cases hn2 : n ≤ 43690
    · have ht : 24 * n ≤ 1048576 := by omega
      go_wp2
      go_loop [3, 4] (fun v3 v4 => ∃ k t : Nat, k ≤ n ∧ t ≤ 1048576 ∧ v3 = .int .i64 t ∧ v4 = .int .i64 k) (fun _ v4 => n - (intOf v4).toNat)
      case atStart => exact ⟨0, 24 * n, Nat.zero_le _, ht, by go_num, rfl⟩
      case round =>
        obtain ⟨k, t, hk, ht, rfl, rfl⟩ := hrel
        by_cases hlt : k < n
        · obtain ⟨b, o, rfl, hb, hN⟩ : ∃ b o, ao = some ⟨b, o, none⟩ ∧ b < w.heap.size ∧ Came w b o n V N := by
            rcases ha with h | h
            · omega
            · exact h
          obtain ⟨hc, hbv⟩ := hN k hlt
          obtain ⟨ao', cp, hve, -⟩ := hbv
          rw [hve] at hc
          have h1 := HL.out k hlt
          obtain ⟨l, hl⟩ : ∃ l, (N k).length = l := ⟨_, rfl⟩
          rw [hl] at hc h1
          clear hve hl
          by_cases h2 : t + l ≤ 1048576
          · go_wp2
            go_round
            case rel => exact ⟨k + 1, t + l, by omega, h2, by go_num, by go_num⟩
            case measure => simp [intOf]; omega
          · go_wp2
            go_ret
            exact ⟨rfl, Below.refl _ _⟩
        · obtain rfl : n = k := by omega
          have hcl := cloneN_all ao n cap V N w ha hnil hn HL.out
          go_wp2_with fail
          refine hcl.mono ?_
          rintro e w1 ⟨ao1, C, φ, rfl, hb1, hown⟩
          have hmk := make48 n (by omega)
          clear hcl hz ha hnil
          go_wp2
          go_loopw [7] (fun v7 wr => ∃ (k : Nat) (γ : Nat → Value), k ≤ n ∧ v7 = .int .i64 k ∧ Below w1.heap.size w1 wr ∧ Holds wr w1.heap.size (w1.heap.size + 1) (seenOf N k) ∧ wr.rowIs (w1.heap.size + 1) 4 n γ ∧ Hid (∀ j, j < k → γ j = .bool (rep N j))) (fun v7 _ => n - (intOf v7).toNat)
          case atStart =>
            refine ⟨0, fun _ => .bool false, Nat.zero_le _, rfl, ((Below.refl _ _).alloc (Nat.le_refl _) _).alloc (by simp) _, ⟨none, Or.inl ⟨rfl, ?_⟩, fun M e => by cases e⟩, ?_, fun j h => absurd h (by omega)⟩
            · have h0 : SetS (w1.alloc (.cells freshCells 47)) w1.heap.size none [] := Or.inl ⟨rfl, setA_fresh w1⟩
              rcases h0.kept (w' := (w1.alloc (.cells freshCells 47)).alloc (.cells (madeCells #[.bool false] n) 4)) ((Below.refl _ _).alloc (by simp) _) (Below.heap_alloc _ _ _ (by simp)) (fun M e => by cases e) with h | ⟨M, e, _⟩
              · exact h.2
              · cases e
            · have := World.rowIs_made (w1.alloc (.cells freshCells 47)) (.bool false) n 4
              rw [World.size_alloc] at this
              exact this
          case round =>
            obtain ⟨k, γ, hk, rfl, hbel, hh, hrow, hγ⟩ := hrel
            have hG := hrow.lt
            by_cases hlt : k < n
            · obtain ⟨rfl, hc, hbl⟩ := hown.get hbel hlt
              have hcall := zzadd_holds w1.heap.size (w1.heap.size + 1) N k (φ k) (N k) wr hh (by omega) hG hbl (hby k hlt) (HL.out k hlt) (by omega) (fun i hi => hby i (by omega)) (fun i hi => HL.out i (by omega))
              go_wp2_with fail
              refine hcall.mono ?_
              rintro e w2 ⟨rfl, hb2, hg2, hh2, -⟩
              rw [rep_seen]
              have hrow2 := World.rowIs.of_block (w := wr) hrow hg2
              have g0 := hrow2.cell (i := k) hlt
              have hfr := fun j => hrow2.frozen j
              have hG2 := hrow2.lt
              clear hh hrow hcall hg2
              go_wp2
              go_roundw
              case rel =>
                refine ⟨k + 1, _, by omega, by go_num, (hbel.trans hb2).setCell (Nat.le_succ _) _, hh2.store (by omega) _, hrow2.set _ _, fun j hj => ?_⟩
                by_cases e : j = k
                · subst e; simp only [if_true]
                · simp only [if_neg e]; exact hγ.out j (by omega)
              case measure => simp [intOf]; omega
            · obtain rfl : n = k := by omega
              have hso := sort_all ao1 C n n φ N wr hn (hown.below hbel) HL.out
              go_wp2_with fail
              refine hso.mono ?_
              rintro e w3 ⟨fa, A, rfl, hseg, hb3, hf1, hf2, hfrow⟩
              have hh3 := hh.later hb3
              have hrow3 := World.rowIs.of_block (w := wr) hrow (hb3.block _ hG)
              have hbel3 := hbel.trans (hb3.mono hbel.size)
              have hw13 := hbel3.size
              clear hso hh hrow hb3 hbel
              go_wp2
              clear hw13
              go_loopw [10] (fun v10 wx => ∃ (k : Nat) (ω : Nat → Value), 1 ≤ k ∧ k ≤ n + 1 ∧ v10 = .int .i64 k ∧ Below w3.heap.size w3 wx ∧ wx.rowIs w3.heap.size 4 n ω ∧ Hid (∀ x, x < n → ω x = .bool (wantOf N A k x))) (fun v10 _ => n + 1 - (intOf v10).toNat)
              case atStart => exact ⟨1, fun _ => .bool false, Nat.le_refl _, by omega, rfl, (Below.refl _ _).alloc (Nat.le_refl _) _, World.rowIs_made w3 _ n 4, fun x _ => by rw [want_start hseg]⟩
              case round =>
                obtain ⟨k, ω, hk1, hk, rfl, hbel, hrow, hω⟩ := hrel
                have hWb := hrow.lt
                by_cases hlt : k < n
                · obtain ⟨j, hjk⟩ : ∃ j, k = j + 1 := ⟨k - 1, by omega⟩
                  have hbel' := hbel3.trans (hbel.mono hbel3.size)
                  have HST : Hid (∀ x, wantOf N A (k + 1) x = if x = A.getD k 0 then decide (cmpB (N (A.getD j 0)) (N (A.getD k 0)) = 0) else wantOf N A k x) := by
                    subst hjk; exact want_step hseg hlt hk1
                  have hfr3 := hfrow
                  have ca := hfr3.cell (i := k) hlt
                  have cb := hfr3.cell (i := j) (by omega)
                  have ha := seg_at hseg hlt
                  have hb := seg_at (k := j) hseg (by omega)
                  obtain ⟨a, hae⟩ : ∃ a, A.getD k 0 = a := ⟨_, rfl⟩
                  obtain ⟨b, hbe⟩ : ∃ a, A.getD j 0 = a := ⟨_, rfl⟩
                  rw [hae] at ca ha HST
                  rw [hbe] at cb hb HST
                  clear hae hbe
                  have hall : ∀ wx, Below w3.heap.size w3 wx → wx.cell? ⟨C, a, none⟩ = some (φ a) ∧ wx.cell? ⟨C, b, none⟩ = some (φ b) ∧ wx.cell? ⟨fa, k, none⟩ = some (.int .i64 a) ∧ wx.cell? ⟨fa, j, none⟩ = some (.int .i64 b) := fun wx hx =>
                    ⟨(hown.get (hbel3.trans (hx.mono hbel3.size)) ha).2.1, (hown.get (hbel3.trans (hx.mono hbel3.size)) hb).2.1, by rw [hx.cell (by exact hf2)]; exact ca, by rw [hx.cell (by exact hf2)]; exact cb⟩
                  have hcmp : ∀ wx, Below w3.heap.size w3 wx → Calls Try.prog 24 #[φ b, φ a] wx fun e w' => e = .returned (.int .i64 (cmpB (N b) (N a))) ∧ ∃ nq, w' = wx.drewN nq := fun wx hx =>
                    cmp_any _ _ _ _ _ (hown.get (hbel3.trans (hx.mono hbel3.size)) hb).2.2.bv (hown.get (hbel3.trans (hx.mono hbel3.size)) ha).2.2.bv (HL.out b hb) (HL.out a ha)
                  obtain ⟨rfl, -, -⟩ := hown.get hbel3 ha
                  have g0 := hrow.cell (i := a) ha
                  have hfr := fun j => hrow.frozen j
                  have i1 : (k : Int) < (n : Int) := by omega
                  have i2 : (j : Int) < (n : Int) := by omega
                  have i3 : (a : Int) < (n : Int) := by omega
                  have i4 : (b : Int) < (n : Int) := by omega
                  have i5 : (k : Int) - 1 = (j : Int) := by omega
                  have i6 : IntKind.i64.wrap (j : Int) = (j : Int) := wrap_small _ (by omega) (by omega)
                  clear hbel' ca cb hfr3 hjk
                  go_wp2
                  go_region_held3 (fun wx => wx.cell? ⟨C, a, none⟩ = some (φ a) ∧ wx.cell? ⟨C, b, none⟩ = some (φ b) ∧ wx.cell? ⟨fa, k, none⟩ = some (.int .i64 a) ∧ wx.cell? ⟨fa, j, none⟩ = some (.int .i64 b))
                    ((refine hall _ ?_; repeat (first | exact hbel | refine Below.dN _ ?_ | refine Below.d1 ?_ | refine Below.sC _ ?_)))
                    (first | (go_at_call 24; refine (hcmp _ ?_).mono ?_; (repeat (first | exact hbel | refine Below.dN _ ?_ | refine Below.d1 ?_ | refine Below.sC _ ?_)); rintro e w9 ⟨rfl, nq, hw9⟩; subst w9))
                  rename_i hHeld
                  clear hHeld hall hcmp g0 hfr
                  go_wp2
                  go_roundw
                  case rel =>
                    refine ⟨k + 1, _, by omega, by omega, by go_num, Below.sC _ (Below.dN _ hbel), (World.rowIs.of_block (w := wr) (w' := wr.drewN (1 + nq)) hrow rfl).set a _, fun x hx => ?_⟩
                    rw [HST.out x]
                    by_cases e : x = a
                    · rw [if_pos e]; simp only [if_pos e]; rfl
                    · rw [if_neg e]; simp only [if_neg e]; exact hω.out x hx
                  case measure => simp [intOf]; omega
                · have HQ : Hid (∀ x, x < n → ω x = .bool (rep N x)) := fun x hx => by rw [hω.out x hx, want_end hseg (by omega) x hx]
                  have hrowG := World.rowIs.of_block (w := w3) hrow3 (hbel.block _ hrow3.lt)
                  have hh4 := hh3.later hbel
                  have hbel4 := hbel3.trans (hbel.mono hbel3.size)
                  have hG4 := hrowG.lt
                  clear hrow3 hh3 hbel3 hbel hseg hω hfrow
                  obtain ⟨wo, hwo⟩ : ∃ wo, wo = wr := ⟨_, rfl⟩
                  subst hwo
                  go_wp2
                  go_loopw [11] (fun v11 wx => ∃ k m : Nat, k ≤ n ∧ v11 = .int .i64 k ∧ wx = wo.drewN m) (fun v11 _ => n - (intOf v11).toNat)
                  case atStart => exact ⟨0, 0, Nat.zero_le _, rfl, rfl⟩
                  case round =>
                    obtain ⟨k, m, hk, rfl, rfl⟩ := hrel
                    by_cases hlt : k < n
                    · have c1 := hrowG.cell (i := k) hlt
                      have c2 := hrow.cell (i := k) hlt
                      rw [hγ.out k hlt] at c1
                      rw [HQ.out k hlt] at c2
                      obtain ⟨q, hq⟩ : ∃ q, rep N k = q := ⟨_, rfl⟩
                      rw [hq] at c1 c2
                      have i1 : (k : Int) < (n : Int) := by omega
                      go_wp2
                      go_quiet (fail)
                      go_wp2
                      go_roundw
                      case rel => exact ⟨k + 1, _, by omega, by go_num, rfl⟩
                      case measure => simp [intOf]; omega
                    · have hh5 : Holds (wo.drewN m) w1.heap.size (w1.heap.size + 1) (seenOf N n) := hh4.later (Below.dN _ (Below.refl _ _))
                      have hbel5 : Below w1.heap.size w1 (wo.drewN m) := Below.dN _ hbel4
                      obtain ⟨w5, hw5⟩ : ∃ w5, w5 = wo.drewN m := ⟨_, rfl⟩
                      rw [← hw5] at hh5 hbel5
                      have hG5 : w1.heap.size + 1 < w5.heap.size := by rw [hw5]; exact hG4
                      clear hrowG hrow hγ HQ hh4 hbel4
                      go_wp2
                      go_loopw [12] (fun v12 wx => ∃ k : Nat, k ≤ n ∧ v12 = .int .i64 k ∧ Below w1.heap.size w1 wx ∧ Holds wx w1.heap.size (w1.heap.size + 1) (seenOf N n) ∧ w1.heap.size + 1 < wx.heap.size) (fun v12 _ => n - (intOf v12).toNat)
                      case atStart =>
                        rw [← hw5]
                        exact ⟨0, Nat.zero_le _, rfl, hbel5, hh5, hG5⟩
                      case round =>
                        clear hh5 hbel5 hG5 hw5
                        obtain ⟨k, hk, rfl, hbel, hh, hG⟩ := hrel
                        by_cases hlt : k < n
                        · obtain ⟨rfl, hc, hbl⟩ := hown.get hbel hlt
                          have hcall := zzadd_holds w1.heap.size (w1.heap.size + 1) N n (φ k) (N k) wr hh (by omega) hG hbl (hby k hlt) (HL.out k hlt) (by omega) hby HL.out
                          rw [plus_seen N n k hlt, decide_eq_true (mem_seenOf.2 ⟨k, hlt, rfl⟩)] at hcall
                          go_wp2_with fail
                          refine hcall.mono ?_
                          rintro e w2 ⟨rfl, hb2, hg2, hh2, -⟩
                          have hsz := hb2.size
                          clear hcall hg2 hh
                          go_wp2
                          go_roundw
                          case rel => exact ⟨k + 1, by omega, by go_num, hbel.trans hb2, hh2, by omega⟩
                          case measure => simp [intOf]; omega
                        · go_wp2
                          go_ret
                          exact ⟨rfl, hb1.trans (hbel.mono hb1.size)⟩
    · go_wp2
      go_ret
      exact ⟨rfl, Below.refl _ _⟩
  · go_wp2
    go_ret
    exact ⟨rfl, Below.refl _ _⟩
end Go.Proofs.Qxb6601361a
