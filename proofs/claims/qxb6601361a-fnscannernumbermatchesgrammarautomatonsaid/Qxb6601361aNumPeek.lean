/- (*jsonScanner).peek (29). -/
import Derived.Test.Qxb6601361aNumRun
import Derived.BigQuiet
namespace Go.Proofs.Qxb6601361a
open Go.RowKit

/-- Of the old blocks only S turns. -/
structure Turn (w w' : World) (S : Nat) : Prop where
  os : w'.os = w.os
  tape : w'.tape = w.tape
  output : w'.output = w.output
  size : w.heap.size ≤ w'.heap.size
  block : ∀ k, k ≠ S → w'.heap[k]? = w.heap[k]?
theorem Turn.refl (w : World) (S : Nat) : Turn w w S := ⟨rfl, rfl, rfl, Nat.le_refl _, fun _ _ => rfl⟩
theorem Turn.drewN {w w' : World} {S : Nat} (h : Turn w w' S) (n : Nat) : Turn w (w'.drewN n) S := ⟨h.os, h.tape, h.output, h.size, h.block⟩
theorem Turn.setCell {w w' : World} {S o : Nat} (h : Turn w w' S) (u : Value) : Turn w (w'.setCell ⟨S, o, none⟩ u) S :=
  ⟨h.os, h.tape, h.output, by simpa [World.setCell] using h.size, fun k hk => by rw [Below.heap_setCell _ _ _ _ hk]; exact h.block k hk⟩
theorem Turn.trans {w w' w'' : World} {S : Nat} (h : Turn w w' S) (h2 : Turn w' w'' S) : Turn w w'' S :=
  ⟨h2.os.trans h.os, h2.tape.trans h.tape, h2.output.trans h.output, Nat.le_trans h.size h2.size, fun k hk => (h2.block k hk).trans (h.block k hk)⟩

/-- A []byte value that holds xs, not in block S. -/
def DV (S : Nat) (w : World) (v : Value) (xs : List Int) : Prop := ∃ ao cap, v = .slice ao xs.length cap ∧ (xs = [] ∨ ∃ b o, ao = some ⟨b, o, none⟩ ∧ b < w.heap.size ∧ b ≠ S ∧ Lies w b o xs)
theorem DV.bv {S : Nat} {w : World} {v : Value} {xs : List Int} (h : DV S w v xs) : BV w v xs := by
  obtain ⟨ao, cap, h1, h2⟩ := h
  refine ⟨ao, cap, h1, ?_⟩
  rcases h2 with h2 | ⟨b, o, h3, h4, _, h5⟩
  · exact Or.inl h2
  · exact Or.inr ⟨b, o, h3, h4, h5⟩
theorem Lies.turn {S b o : Nat} {w w' : World} {xs : List Int} (h : Lies w b o xs) (hb : b ≠ S) (ht : Turn w w' S) : Lies w' b o xs :=
  fun i hi => (World.cell?_of_block (w := w) (a := ⟨b, o + i, none⟩) (ht.block b hb)).trans (h i hi)
theorem DV.turn {S : Nat} {w w' : World} {v : Value} {xs : List Int} (h : DV S w v xs) (ht : Turn w w' S) : DV S w' v xs := by
  obtain ⟨ao, cap, h1, h2⟩ := h
  refine ⟨ao, cap, h1, ?_⟩
  rcases h2 with h2 | ⟨b, o, h3, h4, h6, h5⟩
  · exact Or.inl h2
  · exact Or.inr ⟨b, o, h3, Nat.lt_of_lt_of_le h4 ht.size, h6, h5.turn h6 ht⟩

theorem scan_step {w : World} {S : Nat} {v : Value} {p : Nat} {d : Int} {bad : Bool} (h : Scan w S v p d bad) (m : Nat) : Scan ((w.drewN m).setCell ⟨S, 1, none⟩ (.int .i64 ((p : Int) + 1))) S v ((p + 1 : Nat) : Int) d bad := by
  rw [show ((p + 1 : Nat) : Int) = (p : Int) + 1 by omega]
  exact Scan.setAt (w := w.drewN m) h _
theorem scan_less {w : World} {S n : Nat} {v : Value} {p : Nat} {d : Int} {bad : Bool} (h : Scan w S v p d bad) (hp : p < n) (m : Nat) :
    n - (intOf ((((w.drewN m).setCell ⟨S, 1, none⟩ (.int .i64 ((p : Int) + 1))).cell? ⟨S, 1, none⟩).getD (.bool false))).toNat < n - (intOf ((w.cell? ⟨S, 1, none⟩).getD (.bool false))).toNat := by
  have c1 : w.cell? ⟨S, 1, none⟩ = some (.int .i64 p) := h.cell (i := 1) (by omega)
  have c2 : ((w.drewN m).setCell ⟨S, 1, none⟩ (.int .i64 ((p : Int) + 1))).cell? ⟨S, 1, none⟩ = some (.int .i64 ((p + 1 : Nat) : Int)) := (scan_step h m).cell (i := 1) (by omega)
  rw [c1, c2]
  simp only [intOf, Option.getD_some]
  omega

set_option maxRecDepth 100000 in
set_option maxHeartbeats 2000000 in
/-- The first glance finds no byte past the blank: the loop goes on from there. -/
theorem peek_loop (S : Nat) (v : Value) (xs : List Int) (a : Nat) (d : Int) (bad : Bool) (w : World) (hs : Scan w S v a d bad) (hv : DV S w v xs) (hl : xs.length ≤ 1048576) (ha : a < 9223372036854775808)
    (hf : Hid (∀ h : a < xs.length, xs[a] ≤ 32)) :
    Calls Try.prog 29 #[.pointer (some ⟨S, 0, none⟩)] w fun e w' => (∃ c, e = .returned (.int .u8 c)) ∧ Turn w w' S ∧ ∃ p : Nat, SpRun xs a p ∧ Scan w' S v p d bad := by
  obtain ⟨ao, cap, hve, h2⟩ := id hv
  obtain ⟨n, hn⟩ : ∃ n, xs.length = n := ⟨_, rfl⟩
  rw [hn] at hl hve
  have HN : Hid (xs.length = n) := hn
  clear hn
  subst hve
  have c0 : w.cell? ⟨S, 0, none⟩ = some (.slice ao n cap) := hs.cell (i := 0) (by omega)
  have c1 : w.cell? ⟨S, 1, none⟩ = some (.int .i64 a) := hs.cell (i := 1) (by omega)
  by_cases hlt : a < n
  · have hax : a < xs.length := by have := HN.out; omega
    obtain ⟨b, o, rfl, hb, hbS, hL⟩ : ∃ b o, ao = some ⟨b, o, none⟩ ∧ b < w.heap.size ∧ b ≠ S ∧ Lies w b o xs := by
      rcases h2 with h | h
      · rw [h] at hax; simp at hax
      · exact h
    have hc := cellOf hL hax
    have hle := hf.out hax
    obtain ⟨c, hce⟩ : ∃ c, xs[a] = c := ⟨_, rfl⟩
    rw [hce] at hc hle
    clear hce
    have i1 : (a : Int) < (n : Int) := by omega
    have i2 : decide (32 < c) = false := decide_eq_false (by omega)
    go_enter Try.func29, Try.ntmps29
    go_wp2
    go_quiet (fail)
    go_wp2
    clear c0 c1 hc hle i1 i2
    go_loopw [3] (fun v3 wx => ∃ p : Nat, a ≤ p ∧ p ≤ n ∧ Scan wx S (.slice (some ⟨b, o, none⟩) n cap) p d bad ∧ Turn w wx S ∧ Hid (∀ k, a ≤ k → k < p → ∃ h : k < xs.length, Sp xs[k])) (fun _ wx => n - (intOf ((wx.cell? ⟨S, 1, none⟩).getD (.bool false))).toNat)
    case atStart => exact ⟨a, Nat.le_refl _, by omega, hs, (Turn.refl _ _).drewN _, fun k h1 h2 => absurd h1 (by omega)⟩
    case round =>
      obtain ⟨p, hap, hpn, hsc, ht, HD⟩ := hrel
      have c0 : wr.cell? ⟨S, 0, none⟩ = some (.slice (some ⟨b, o, none⟩) n cap) := hsc.cell (i := 0) (by omega)
      have c1 : wr.cell? ⟨S, 1, none⟩ = some (.int .i64 p) := hsc.cell (i := 1) (by omega)
      have hfr := fun j => World.rowIs.frozen hsc j
      by_cases hlt2 : p < n
      · have hpx : p < xs.length := by have := HN.out; omega
        have hc := cellOf (hL.turn hbS ht) hpx
        obtain ⟨c, hce⟩ : ∃ c, xs[p] = c := ⟨_, rfl⟩
        rw [hce] at hc
        have i1 : (p : Int) < (n : Int) := by omega
        have HX : Hid (xs[p] = c) := hce
        clear hce
        by_cases e32 : c = 32
        · subst e32
          go_wp2
          go_quiet (fail)
          go_wp2
          go_quiet (fail)
          go_wp2
          refine ⟨⟨p + 1, by omega, by omega, scan_step hsc _, (ht.drewN _).setCell _, fun k h1 h2 => ?_⟩, scan_less hsc hlt2 _⟩
          by_cases e : k = p
          · subst e; exact ⟨hpx, by rw [HX.out]; unfold Sp; decide⟩
          · exact HD.out k h1 (by omega)
        by_cases e9 : c = 9
        · subst e9
          go_wp2
          go_quiet (fail)
          go_wp2
          go_quiet (fail)
          go_wp2
          refine ⟨⟨p + 1, by omega, by omega, scan_step hsc _, (ht.drewN _).setCell _, fun k h1 h2 => ?_⟩, scan_less hsc hlt2 _⟩
          by_cases e : k = p
          · subst e; exact ⟨hpx, by rw [HX.out]; unfold Sp; decide⟩
          · exact HD.out k h1 (by omega)
        by_cases e13 : c = 13
        · subst e13
          go_wp2
          go_quiet (fail)
          go_wp2
          go_quiet (fail)
          go_wp2
          refine ⟨⟨p + 1, by omega, by omega, scan_step hsc _, (ht.drewN _).setCell _, fun k h1 h2 => ?_⟩, scan_less hsc hlt2 _⟩
          by_cases e : k = p
          · subst e; exact ⟨hpx, by rw [HX.out]; unfold Sp; decide⟩
          · exact HD.out k h1 (by omega)
        by_cases e10 : c = 10
        · subst e10
          go_wp2
          go_quiet (fail)
          go_wp2
          go_quiet (fail)
          go_wp2
          refine ⟨⟨p + 1, by omega, by omega, scan_step hsc _, (ht.drewN _).setCell _, fun k h1 h2 => ?_⟩, scan_less hsc hlt2 _⟩
          by_cases e : k = p
          · subst e; exact ⟨hpx, by rw [HX.out]; unfold Sp; decide⟩
          · exact HD.out k h1 (by omega)
        have f1 : (c == 32) = false := by simp [e32]
        have f2 : (c == 9) = false := by simp [e9]
        have f3 : (c == 13) = false := by simp [e13]
        have f4 : (c == 10) = false := by simp [e10]
        have HS : Hid (SpRun xs a p) := ⟨hap, HD.out, fun h => by rw [HX.out]; simp [Sp, e32, e9, e13, e10]⟩
        go_wp2
        go_quiet (fail)
        go_wp2
        go_quiet (fail)
        go_wp2
        go_ret
        exact ⟨⟨_, rfl⟩, ht.drewN _, p, HS.out, hsc⟩
      · obtain rfl : p = n := by omega
        have HS : Hid (SpRun xs a p) := ⟨hap, HD.out, fun h => absurd h (by have := HN.out; omega)⟩
        have d1 : decide ((p : Int) < (p : Int)) = false := decide_eq_false (by omega)
        go_wp2
        go_quiet (fail)
        go_wp2
        go_ret
        exact ⟨⟨_, rfl⟩, ht.drewN _, p, HS.out, hsc⟩
  · have d1 : decide ((a : Int) < (n : Int)) = false := decide_eq_false (by omega)
    go_enter Try.func29, Try.ntmps29
    go_wp2
    go_quiet (fail)
    go_wp2
    go_loopw [3] (fun v3 wx => ∃ m : Nat, wx = w.drewN m) (fun _ _ => 0)
    case atStart => exact ⟨_, rfl⟩
    case round =>
      obtain ⟨m, rfl⟩ := hrel
      go_wp2
      go_quiet (fail)
      go_wp2
      go_ret
      exact ⟨⟨_, rfl⟩, ((Turn.refl w S).drewN m).drewN nq, a, ⟨Nat.le_refl _, fun k h1 h2 => absurd h1 (by omega), fun h => absurd h (by have := HN.out; omega)⟩, hs⟩

set_option maxRecDepth 100000 in
set_option maxHeartbeats 2000000 in
theorem peek_now (S : Nat) (v : Value) (xs : List Int) (a : Nat) (d : Int) (bad : Bool) (w : World) (hs : Scan w S v a d bad) (hv : DV S w v xs) (hax : a < xs.length) (hgt : 32 < xs[a]) :
    Calls Try.prog 29 #[.pointer (some ⟨S, 0, none⟩)] w fun e w' => (∃ c, e = .returned (.int .u8 c)) ∧ Turn w w' S ∧ ∃ p : Nat, SpRun xs a p ∧ Scan w' S v p d bad := by
  obtain ⟨ao, cap, hve, h2⟩ := id hv
  obtain ⟨b, o, rfl, hb, hbS, hL⟩ : ∃ b o, ao = some ⟨b, o, none⟩ ∧ b < w.heap.size ∧ b ≠ S ∧ Lies w b o xs := by
    rcases h2 with h | h
    · rw [h] at hax; simp at hax
    · exact h
  have hc := cellOf hL hax
  have HS : Hid (SpRun xs a a) := ⟨Nat.le_refl _, fun k h1 h2 => absurd h1 (by omega), fun h => by unfold Sp; omega⟩
  obtain ⟨c, hce⟩ : ∃ c, xs[a] = c := ⟨_, rfl⟩
  rw [hce] at hc hgt
  clear hce
  obtain ⟨n, hn⟩ : ∃ n, xs.length = n := ⟨_, rfl⟩
  rw [hn] at hve hax
  clear hn
  subst hve
  have c0 : w.cell? ⟨S, 0, none⟩ = some (.slice (some ⟨b, o, none⟩) n cap) := hs.cell (i := 0) (by omega)
  have c1 : w.cell? ⟨S, 1, none⟩ = some (.int .i64 a) := hs.cell (i := 1) (by omega)
  have i1 : (a : Int) < (n : Int) := by omega
  have i2 : decide (32 < c) = true := decide_eq_true hgt
  go_enter Try.func29, Try.ntmps29
  go_wp2
  go_quiet (fail)
  go_wp2
  go_quiet (fail)
  go_wp2
  go_ret
  exact ⟨⟨_, rfl⟩, ((Turn.refl w S).drewN _).drewN _, a, HS.out, hs⟩

theorem peek_walk (S : Nat) (v : Value) (xs : List Int) (a : Nat) (d : Int) (bad : Bool) (w : World) (hs : Scan w S v a d bad) (hv : DV S w v xs) (hl : xs.length ≤ 1048576) (ha : a < 9223372036854775808) :
    Calls Try.prog 29 #[.pointer (some ⟨S, 0, none⟩)] w fun e w' => (∃ c, e = .returned (.int .u8 c)) ∧ Turn w w' S ∧ ∃ p : Nat, SpRun xs a p ∧ Scan w' S v p d bad := by
  by_cases h : ∃ h : a < xs.length, 32 < xs[a]
  · obtain ⟨h1, h2⟩ := h
    exact peek_now S v xs a d bad w hs hv h1 h2
  · exact peek_loop S v xs a d bad w hs hv hl ha (fun h1 => by
      by_cases h2 : 32 < xs[a]
      · exact absurd ⟨h1, h2⟩ h
      · omega)
end Go.Proofs.Qxb6601361a
