/- b1NumberAutomaton (13), digitsEnd (30), b1EqualBytes (11), fail (31). -/
import Derived.Test.Qxb6601361aNumWalk
namespace Go.Proofs.Qxb6601361a
open Go.RowKit

theorem cellOf {w : World} {b o : Nat} {xs : List Int} (h : Lies w b o xs) {k : Nat} (hk : k < xs.length) : w.cell? ⟨b, o + k, none⟩ = some (.int .u8 xs[k]) := h k hk

theorem acc_eq (st : Nat) : Acc st = ((st : Int) == 2 || (st : Int) == 3 || (st : Int) == 5 || (st : Int) == 8) := by
  unfold Acc
  rw [Bool.eq_iff_iff]
  simp only [decide_eq_true_eq, Bool.or_eq_true, beq_iff_eq]
  omega

theorem auto_walk (v : Value) (xs : List Int) (p : Nat) (w : World) (hv : BV w v xs) (hl : xs.length ≤ 1048576) (hp : p < 9223372036854775808) :
    Calls Try.prog 13 #[v, .int .i64 p] w fun e w' => w' = w ∧ ∃ q st : Nat, e = .returned (.tuple #[.int .i64 q, .bool (Acc st)]) ∧ Path xs p 0 q st ∧ Stuck xs q st := by
  obtain ⟨ao, cap, rfl, h2⟩ := hv
  obtain ⟨n, hn⟩ : ∃ n, xs.length = n := ⟨_, rfl⟩
  rw [hn] at hl ⊢
  have HN : Hid (xs.length = n) := hn
  clear hn
  go_enter Try.func13, Try.ntmps13
  go_wp2
  go_loop [6, 7] (fun v6 v7 => ∃ q st : Nat, st ≤ 8 ∧ q < 9223372036854775808 ∧ v6 = .int .i64 st ∧ v7 = .int .i64 q ∧ Path xs p 0 q st) (fun _ v7 => n - (intOf v7).toNat)
  case atStart => exact ⟨p, 0, by omega, hp, rfl, rfl, .nil _ _⟩
  case round =>
    obtain ⟨q, st, hst, hq, rfl, rfl, hpath⟩ := hrel
    by_cases hlt : q < n
    · have hqx : q < xs.length := by have := HN.out; omega
      obtain ⟨b, o, rfl, hb, hL⟩ : ∃ b o, ao = some ⟨b, o, none⟩ ∧ b < w.heap.size ∧ Lies w b o xs := by
        rcases h2 with h | h
        · rw [h] at hqx; simp at hqx
        · exact h
      have hc := cellOf hL hqx
      have hstep := step_walk st hst xs[q] w
      obtain ⟨c, hce⟩ : ∃ c, xs[q] = c := ⟨_, rfl⟩
      rw [hce] at hc hstep
      cases hs : stepN st c with
      | none =>
        rw [show stepI st c = -1 by simp [stepI, hs]] at hstep
        have HS : Hid (Stuck xs q st) := Or.inr ⟨hqx, by rw [hce]; exact hs⟩
        go_wp2_with fail
        refine hstep.mono ?_
        rintro e w9 ⟨rfl, hw9⟩
        subst w9
        clear hs hstep
        go_wp2
        all_goals
          go_ret2
          refine ⟨rfl, q, st, ?_, hpath, HS.out⟩
          first
            | (rw [show Acc st = true from decide_eq_true (by omega)]; rfl)
            | (rw [acc_eq]; rfl)
      | some t =>
        have ht := stepN_le hs
        rw [show stepI st c = (t : Int) by simp [stepI, hs]] at hstep
        go_wp2_with fail
        refine hstep.mono ?_
        rintro e w9 ⟨rfl, hw9⟩
        subst w9
        go_wp2
        go_round
        case rel => exact ⟨q + 1, t, ht, by omega, rfl, by go_num, hpath.snoc hqx (by rw [hce]; exact hs)⟩
        case measure => simp [intOf]; omega
    · have HS : Hid (Stuck xs q st) := Or.inl (by have := HN.out; omega)
      go_wp2
      all_goals
        go_ret2
        refine ⟨rfl, q, st, ?_, hpath, HS.out⟩
        first
          | (rw [show Acc st = true from decide_eq_true (by omega)]; rfl)
          | (rw [acc_eq]; rfl)

set_option maxHeartbeats 1000000 in
theorem digits_walk (v : Value) (xs : List Int) (i : Nat) (w : World) (hv : BV w v xs) (hl : xs.length ≤ 1048576) (hi : i ≤ xs.length) :
    Calls Try.prog 30 #[v, .int .i64 i] w fun e w' => w' = w ∧ ∃ j : Nat, e = .returned (.int .i64 (if j = i then -1 else (j : Int))) ∧ DigRun xs i j := by
  obtain ⟨ao, cap, rfl, h2⟩ := hv
  obtain ⟨n, hn⟩ : ∃ n, xs.length = n := ⟨_, rfl⟩
  rw [hn] at hl hi ⊢
  have HN : Hid (xs.length = n) := hn
  clear hn
  go_enter Try.func30, Try.ntmps30
  go_wp2
  go_loop [1] (fun v1 => ∃ q : Nat, i ≤ q ∧ q ≤ n ∧ v1 = .int .i64 q ∧ Hid (∀ k (h : k < xs.length), i ≤ k → k < q → Dig xs[k])) (fun v1 => n - (intOf v1).toNat)
  case atStart => exact ⟨i, Nat.le_refl _, hi, rfl, fun k h h1 h2 => absurd h1 (by omega)⟩
  case round =>
    obtain ⟨q, hq1, hq2, rfl, HD⟩ := hrel
    by_cases hlt : q < n
    · have hqx : q < xs.length := by have := HN.out; omega
      obtain ⟨b, o, rfl, hb, hL⟩ : ∃ b o, ao = some ⟨b, o, none⟩ ∧ b < w.heap.size ∧ Lies w b o xs := by
        rcases h2 with h | h
        · rw [h] at hqx; simp at hqx
        · exact h
      have hc := cellOf hL hqx
      obtain ⟨c, hce⟩ : ∃ c, xs[q] = c := ⟨_, rfl⟩
      rw [hce] at hc
      have HC : Hid (xs[q] = c) := hce
      clear hce
      have i1 : (q : Int) < (n : Int) := by omega
      by_cases h1 : 48 ≤ c
      · by_cases h2 : c ≤ 57
        · go_wp2
          go_round
          case rel =>
            refine ⟨q + 1, by omega, by omega, by go_num, fun k hk h3 h4 => ?_⟩
            by_cases e : k = q
            · subst e; rw [HC.out]; exact ⟨h1, h2⟩
            · exact HD.out k hk h3 (by omega)
          case measure => simp [intOf]; omega
        · have HR : Hid (DigRun xs i q) := ⟨hq1, by omega, HD.out, fun h => by rw [HC.out]; exact fun h' => h2 h'.2⟩
          have d2 : decide (c ≤ 57) = false := decide_eq_false h2
          by_cases e : q = i
          · subst e
            go_wp2
            go_ret
            exact ⟨rfl, q, by simp, HR.out⟩
          · have e' : ¬ (q : Int) = (i : Int) := by omega
            have e2 : ((q : Int) == (i : Int)) = false := by simpa using e'
            go_wp2
            go_ret
            exact ⟨rfl, q, by rw [if_neg e]; rfl, HR.out⟩
      · have HR : Hid (DigRun xs i q) := ⟨hq1, by omega, HD.out, fun h => by rw [HC.out]; exact fun h' => h1 h'.1⟩
        have d1 : decide (48 ≤ c) = false := decide_eq_false h1
        by_cases e : q = i
        · subst e
          go_wp2
          go_ret
          exact ⟨rfl, q, by simp, HR.out⟩
        · have e' : ¬ (q : Int) = (i : Int) := by omega
          have e2 : ((q : Int) == (i : Int)) = false := by simpa using e'
          go_wp2
          go_ret
          exact ⟨rfl, q, by rw [if_neg e]; rfl, HR.out⟩
    · have HR : Hid (DigRun xs i q) := ⟨hq1, by have := HN.out; omega, HD.out, fun h => absurd h (by have := HN.out; omega)⟩
      have d0 : decide ((q : Int) < (n : Int)) = false := decide_eq_false (by omega)
      by_cases e : q = i
      · subst e
        go_wp2
        go_ret
        exact ⟨rfl, q, by simp, HR.out⟩
      · have e' : ¬ (q : Int) = (i : Int) := by omega
        have e2 : ((q : Int) == (i : Int)) = false := by simpa using e'
        go_wp2
        go_ret
        exact ⟨rfl, q, by rw [if_neg e]; rfl, HR.out⟩

theorem equal_walk (v1 v2 : Value) (xs : List Int) (w : World) (h1 : BV w v1 xs) (h2 : BV w v2 xs) (hl : xs.length ≤ 1048576) :
    Calls Try.prog 11 #[v1, v2] w fun e w' => e = .returned (.bool true) ∧ ∃ nq, w' = w.drewN nq := by
  obtain ⟨a1, c1, rfl, h1⟩ := h1
  obtain ⟨a2, c2, rfl, h2⟩ := h2
  obtain ⟨n, hn⟩ : ∃ n, xs.length = n := ⟨_, rfl⟩
  rw [hn] at hl ⊢
  have HN : Hid (xs.length = n) := hn
  clear hn
  go_enter Try.func11, Try.ntmps11
  go_wp2
  go_loopw [5] (fun v5 wx => ∃ k m : Nat, k ≤ n ∧ v5 = .int .i64 k ∧ wx = w.drewN m) (fun v5 _ => n - (intOf v5).toNat)
  case atStart => exact ⟨0, 0, Nat.zero_le _, rfl, rfl⟩
  case round =>
    obtain ⟨k, m, hk, rfl, rfl⟩ := hrel
    by_cases hlt : k < n
    · have hkx : k < xs.length := by have := HN.out; omega
      obtain ⟨b1, o1, rfl, -, l1⟩ : ∃ b o, a1 = some ⟨b, o, none⟩ ∧ b < w.heap.size ∧ Lies w b o xs := by
        rcases h1 with h | h
        · rw [h] at hkx; simp at hkx
        · exact h
      obtain ⟨b2, o2, rfl, -, l2⟩ : ∃ b o, a2 = some ⟨b, o, none⟩ ∧ b < w.heap.size ∧ Lies w b o xs := by
        rcases h2 with h | h
        · rw [h] at hkx; simp at hkx
        · exact h
      have g1 := cellOf l1 hkx
      have g2 := cellOf l2 hkx
      obtain ⟨c, hce⟩ : ∃ c, xs[k] = c := ⟨_, rfl⟩
      rw [hce] at g1 g2
      have i1 : (k : Int) < (n : Int) := by omega
      clear hce
      go_wp2
      go_quiet (fail)
      go_wp2
      go_roundw
      case rel => exact ⟨k + 1, _, by omega, by go_num, rfl⟩
      case measure => simp [intOf]; omega
    · go_wp2
      go_ret
      exact ⟨rfl, _, rfl⟩

/-- The scanner's four fields in block S. -/
def scanF (v : Value) (at' depth : Int) (bad : Bool) : Nat → Value
  | 0 => v
  | 1 => .int .i64 at'
  | 2 => .int .i64 depth
  | _ => .bool bad
def Scan (w : World) (S : Nat) (v : Value) (at' depth : Int) (bad : Bool) : Prop := w.rowIs S 56 4 (scanF v at' depth bad)
theorem Scan.setAt {w : World} {S : Nat} {v : Value} {a d : Int} {bad : Bool} (h : Scan w S v a d bad) (x : Int) : Scan (w.setCell ⟨S, 1, none⟩ (.int .i64 x)) S v x d bad :=
  (h.set 1 (.int .i64 x)).congr fun i hi => by
    match i, hi with
    | 0, _ => rfl
    | 1, _ => rfl
    | 2, _ => rfl
    | 3, _ => rfl
theorem Scan.setBad {w : World} {S : Nat} {v : Value} {a d : Int} {bad : Bool} (h : Scan w S v a d bad) (x : Bool) : Scan (w.setCell ⟨S, 3, none⟩ (.bool x)) S v a d x :=
  (h.set 3 (.bool x)).congr fun i hi => by
    match i, hi with
    | 0, _ => rfl
    | 1, _ => rfl
    | 2, _ => rfl
    | 3, _ => rfl

theorem fail_walk (S : Nat) (ao : Option Addr) (n cap : Nat) (a d : Int) (bad : Bool) (w : World) (h : Scan w S (.slice ao n cap) a d bad) :
    Calls Try.prog 31 #[.pointer (some ⟨S, 0, none⟩)] w fun e w' => e = .returned (.tuple #[]) ∧ Scan w' S (.slice ao n cap) n d true ∧ ∃ x y, w' = (w.setCell ⟨S, 3, none⟩ x).setCell ⟨S, 1, none⟩ y := by
  have c0 : w.cell? ⟨S, 0, none⟩ = some (.slice ao n cap) := h.cell (i := 0) (by omega)
  have c1 : w.cell? ⟨S, 1, none⟩ = some (.int .i64 a) := h.cell (i := 1) (by omega)
  have c3 : w.cell? ⟨S, 3, none⟩ = some (.bool bad) := h.cell (i := 3) (by omega)
  have hfr := fun j => World.rowIs.frozen h j
  go_enter Try.func31, Try.ntmps31
  go_wp2
  refine bodyPost_end (v := .tuple #[]) (by simp [results, Try.results31, go_sem]) rfl ⟨rfl, (h.setBad true).setAt n, _, _, rfl⟩
end Go.Proofs.Qxb6601361a
