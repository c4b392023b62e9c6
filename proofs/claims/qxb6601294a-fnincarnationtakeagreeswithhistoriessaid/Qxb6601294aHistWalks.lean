/- Contracts over histories: runClass (31), idAtLeastAll (33), maxID (34), maxSent (35). -/
import Derived.Test.Qxb6601294aHistPlain
import Derived.Test.Qxb6601294aClone
import Derived.BigQuiet
import Derived.Deep.QuietTactic
namespace Go.Proofs.Qxb6601294a
open Go.RowKit

/-- The heartbeats of l lie in block g from its head on. -/
def HL (w : World) (g : Nat) (l : List Hb) : Prop :=
  ∀ i (h : i < l.length), w.cell? ⟨g, i * 3, none⟩ = some (.int .u64 l[i].id) ∧ w.cell? ⟨g, i * 3 + 1, none⟩ = some (.int .i64 l[i].s) ∧ w.cell? ⟨g, i * 3 + 2, none⟩ = some (.int .i64 l[i].r)

theorem HL.below {w w' : World} {B g : Nat} {l : List Hb} (h : HL w g l) (hb : Below B w w') (hl : g < B) : HL w' g l := by
  intro i hi
  rw [hb.cell (by exact hl), hb.cell (by exact hl), hb.cell (by exact hl)]
  exact h i hi

theorem mx_step (f : Hb → Int) (l : List Hb) (k : Nat) (h : k < l.length) : mx f (l.take (k + 1)) = if k = 0 then f l[k] else if mx f (l.take k) < f l[k] then f l[k] else mx f (l.take k) := by
  rw [take_snoc l k h, mx_snoc]
  have e : (l.take k = []) ↔ k = 0 := by
    rw [List.take_eq_nil_iff]
    constructor
    · rintro (h' | h')
      · exact h'
      · subst h'; simp at h
    · exact Or.inl
  simp only [e]

set_option maxHeartbeats 400000 in
theorem maxID_any (g n cap : Nat) (l : List Hb) (w : World) (hn : n = l.length) (hm : n ≤ 1048576) (hl : HL w g l) :
    Calls Try.prog 34 #[.slice (some ⟨g, 0, none⟩) n cap] w fun e w' => e = .returned (.int .u64 (mx Hb.id l)) ∧ w' = w := by
  have HN : Hid (n = l.length) := hn
  clear hn
  go_enter Try.func34, Try.ntmps34
  go_wp2
  go_loop [3, 4] (fun m i => ∃ k : Nat, k ≤ n ∧ i = .int .i64 k ∧ m = .int .u64 (mx Hb.id (l.take k))) (fun _ i => n - (intOf i).toNat)
  case atStart => exact ⟨0, Nat.zero_le _, rfl, by simp [mx]⟩
  case round =>
    obtain ⟨k, hk, rfl, rfl⟩ := hrel
    by_cases hlt : k < n
    · have hkl : k < l.length := by have := HN.out; omega
      obtain ⟨c0, _, _⟩ := hl k hkl
      have hst := mx_step Hb.id l k hkl
      obtain ⟨y, hy⟩ : ∃ y, l[k].id = y := ⟨_, rfl⟩
      obtain ⟨z, hz⟩ : ∃ z, mx Hb.id (l.take k) = z := ⟨_, rfl⟩
      rw [hy] at c0 hst
      rw [hz] at hst ⊢
      have HS : Hid (mx Hb.id (l.take (k + 1)) = if k = 0 then y else if z < y then y else z) := hst
      clear hst hy hz
      by_cases hk0 : k = 0
      · subst hk0
        simp only [Nat.zero_mul] at c0
        go_wp2
        go_round
        case rel => exact ⟨1, by omega, by go_num, by rw [HS.out]; simp⟩
        case measure => simp [intOf]; omega
      · by_cases hzy : z < y
        · go_wp2
          go_round
          case rel => exact ⟨k + 1, by omega, by go_num, by rw [HS.out]; simp [hk0, hzy]⟩
          case measure => simp [intOf]; omega
        · go_wp2
          go_round
          case rel => exact ⟨k + 1, by omega, by go_num, by rw [HS.out]; simp [hk0, hzy]⟩
          case measure => simp [intOf]; omega
    · go_wp2
      go_ret
      have := HN.out
      exact ⟨by rw [List.take_of_length_le (by omega)]; rfl, rfl⟩
set_option maxHeartbeats 400000 in
theorem maxSent_any (g n cap : Nat) (l : List Hb) (w : World) (hn : n = l.length) (hm : n ≤ 1048576) (hl : HL w g l) :
    Calls Try.prog 35 #[.slice (some ⟨g, 0, none⟩) n cap] w fun e w' => e = .returned (.int .i64 (mx Hb.s l)) ∧ w' = w := by
  have HN : Hid (n = l.length) := hn
  clear hn
  go_enter Try.func35, Try.ntmps35
  go_wp2
  go_loop [3, 4] (fun m i => ∃ k : Nat, k ≤ n ∧ i = .int .i64 k ∧ m = .int .i64 (mx Hb.s (l.take k))) (fun _ i => n - (intOf i).toNat)
  case atStart => exact ⟨0, Nat.zero_le _, rfl, by simp [mx]⟩
  case round =>
    obtain ⟨k, hk, rfl, rfl⟩ := hrel
    by_cases hlt : k < n
    · have hkl : k < l.length := by have := HN.out; omega
      obtain ⟨_, c0, _⟩ := hl k hkl
      have hst := mx_step Hb.s l k hkl
      obtain ⟨y, hy⟩ : ∃ y, l[k].s = y := ⟨_, rfl⟩
      obtain ⟨z, hz⟩ : ∃ z, mx Hb.s (l.take k) = z := ⟨_, rfl⟩
      rw [hy] at c0 hst
      rw [hz] at hst ⊢
      have HS : Hid (mx Hb.s (l.take (k + 1)) = if k = 0 then y else if z < y then y else z) := hst
      clear hst hy hz
      by_cases hk0 : k = 0
      · subst hk0
        simp only [Nat.zero_mul, Nat.zero_add] at c0
        go_wp2
        go_round
        case rel => exact ⟨1, by omega, by go_num, by rw [HS.out]; simp⟩
        case measure => simp [intOf]; omega
      · by_cases hzy : z < y
        · go_wp2
          go_round
          case rel => exact ⟨k + 1, by omega, by go_num, by rw [HS.out]; simp [hk0, hzy]⟩
          case measure => simp [intOf]; omega
        · go_wp2
          go_round
          case rel => exact ⟨k + 1, by omega, by go_num, by rw [HS.out]; simp [hk0, hzy]⟩
          case measure => simp [intOf]; omega
    · go_wp2
      go_ret
      have := HN.out
      exact ⟨by rw [List.take_of_length_le (by omega)]; rfl, rfl⟩

/-- idAtLeastAll, of a history that is not empty. -/
def allGe (f : Hb → Int) (c : Int) (l : List Hb) : Bool := l.all fun y => decide (f y ≤ c)
theorem allGe_mx (f : Hb → Int) (c : Int) (l : List Hb) (hl : l ≠ []) : allGe f c l = decide (mx f l ≤ c) := by
  rw [Bool.eq_iff_iff]
  simp only [allGe, List.all_eq_true, decide_eq_true_eq]
  have h := mx_lt f l hl (c + 1)
  constructor
  · intro h1; have := h.2 (fun y hy => by have := h1 y hy; omega); omega
  · intro h1 y hy; have := h.1 (by omega) y hy; omega

set_option maxHeartbeats 400000 in
theorem atLeast_any (g n cap : Nat) (l : List Hb) (c : Int) (w : World) (hn : n = l.length) (hm : n ≤ 1048576) (hl : HL w g l) :
    Calls Try.prog 33 #[.slice (some ⟨g, 0, none⟩) n cap, .int .u64 c] w fun e w' => e = .returned (.bool (allGe Hb.id c l)) ∧ w' = w := by
  have HN : Hid (n = l.length) := hn
  clear hn
  go_enter Try.func33, Try.ntmps33
  go_wp2
  go_loop [5] (fun i => ∃ k : Nat, k ≤ n ∧ i = .int .i64 k ∧ Hid (allGe Hb.id c (l.take k) = true)) (fun i => n - (intOf i).toNat)
  case atStart => exact ⟨0, Nat.zero_le _, rfl, by simp [Hid, allGe]⟩
  case round =>
    obtain ⟨k, hk, rfl, hA⟩ := hrel
    by_cases hlt : k < n
    · have hkl : k < l.length := by have := HN.out; omega
      obtain ⟨c0, _, _⟩ := hl k hkl
      by_cases hy : c < l[k].id
      · go_wp2
        go_ret
        refine ⟨?_, rfl⟩
        have : allGe Hb.id c l = false := by
          rw [Bool.eq_false_iff]
          intro h
          have := (List.all_eq_true.1 h) l[k] (List.getElem_mem hkl)
          simp at this
          omega
        rw [this]
        rfl
      · go_wp2
        go_round
        case rel =>
          refine ⟨k + 1, by omega, by go_num, ?_⟩
          have h := hA.out
          show allGe Hb.id c (l.take (k + 1)) = true
          rw [take_snoc l k hkl]
          unfold allGe at h ⊢
          rw [List.all_append, h]
          simp
          omega
        case measure => simp [intOf]; omega
    · go_wp2
      go_ret
      have := HN.out
      have h := hA.out
      rw [List.take_of_length_le (by omega)] at h
      exact ⟨by rw [h]; rfl, rfl⟩

set_option maxHeartbeats 1000000 in
theorem class_some (g n cap : Nat) (l : List Hb) (h : Hb) (w : World) (hn : n = l.length) (hp : 0 < n) (hm : n ≤ 1048576) (hg : g < w.heap.size) (hl : HL w g l) :
    Calls Try.prog 31 #[.slice (some ⟨g, 0, none⟩) n cap, .agg #[.int .u64 h.id, .int .i64 h.s, .int .i64 h.r]] w fun e w' => e = .returned (.int .u8 (cls l h)) ∧ Below w.heap.size w w' := by
  have HN : Hid (n = l.length) := hn
  clear hn
  have hne : l ≠ [] := by intro e; subst e; have := HN.out; simp at this; omega
  have hn0 : ((n : Int) == 0) = false := by simp; omega
  obtain ⟨hid, hs, hr⟩ := h
  go_enter Try.func31, Try.ntmps31
  go_wp2
  go_loopw [5, 6, 7] (fun a b i wr => ∃ k : Nat, k ≤ n ∧ i = .int .i64 k ∧ a = .bool (allLt Hb.id hid (l.take k)) ∧ b = .bool (allLt Hb.s hs (l.take k)) ∧ ∃ nq, wr = (w.alloc (.cells #[.int .u64 hid, .int .i64 hs, .int .i64 hr] 52)).drewN nq)
    (fun _ _ i _ => n - (intOf i).toNat)
  case atStart => exact ⟨0, Nat.zero_le _, rfl, rfl, rfl, 0, rfl⟩
  case round =>
    obtain ⟨k, hk, rfl, rfl, rfl, nq, rfl⟩ := hrel
    by_cases hlt : k < n
    · have hkl : k < l.length := by have := HN.out; omega
      obtain ⟨c0, c1, _⟩ := hl k hkl
      have s1 := allLt_snoc Hb.id hid (l.take k) l[k]
      have s2 := allLt_snoc Hb.s hs (l.take k) l[k]
      rw [← take_snoc l k hkl] at s1 s2
      obtain ⟨y, hy⟩ : ∃ y, l[k].id = y := ⟨_, rfl⟩
      obtain ⟨z, hz⟩ : ∃ z, l[k].s = z := ⟨_, rfl⟩
      rw [hy] at c0 s1
      rw [hz] at c1 s2
      clear hy hz
      obtain ⟨A, hA⟩ : ∃ A, allLt Hb.id hid (l.take k) = A := ⟨_, rfl⟩
      obtain ⟨B, hB⟩ : ∃ B, allLt Hb.s hs (l.take k) = B := ⟨_, rfl⟩
      rw [hA] at s1 ⊢
      rw [hB] at s2 ⊢
      have S1 : Hid (allLt Hb.id hid (l.take (k + 1)) = (A && decide (y < hid))) := s1
      have S2 : Hid (allLt Hb.s hs (l.take (k + 1)) = (B && decide (z < hs))) := s2
      clear s1 s2 hA hB
      by_cases hy : hid ≤ y
      · by_cases hz : hs ≤ z
        · go_wp2
          go_quiet (fail)
          go_wp2
          go_quiet (fail)
          go_wp2
          go_roundw
          case rel => first | exact ⟨k + 1, by omega, by go_num, by rw [S1.out, decide_eq_false (show ¬ y < hid by omega), Bool.and_false], by rw [S2.out, decide_eq_false (show ¬ z < hs by omega), Bool.and_false], _, rfl⟩ | ((repeat apply Exists.intro); exact ⟨⟨k + 1, by omega, by go_num, by rw [S1.out, decide_eq_false (show ¬ y < hid by omega), Bool.and_false], by rw [S2.out, decide_eq_false (show ¬ z < hs by omega), Bool.and_false], _, rfl⟩, rfl⟩)
          case measure => simp [intOf]; omega
        · have dz : decide (hs ≤ z) = false := decide_eq_false hz
          go_wp2
          go_quiet (fail)
          go_wp2
          go_quiet (fail)
          go_wp2
          go_roundw
          case rel => first | exact ⟨k + 1, by omega, by go_num, by rw [S1.out, decide_eq_false (show ¬ y < hid by omega), Bool.and_false], by rw [S2.out, decide_eq_true (show z < hs by omega), Bool.and_true], _, rfl⟩ | ((repeat apply Exists.intro); exact ⟨⟨k + 1, by omega, by go_num, by rw [S1.out, decide_eq_false (show ¬ y < hid by omega), Bool.and_false], by rw [S2.out, decide_eq_true (show z < hs by omega), Bool.and_true], _, rfl⟩, rfl⟩)
          case measure => simp [intOf]; omega
      · by_cases hz : hs ≤ z
        · have dy : decide (hid ≤ y) = false := decide_eq_false hy
          go_wp2
          go_quiet (fail)
          go_wp2
          go_quiet (fail)
          go_wp2
          go_roundw
          case rel => first | exact ⟨k + 1, by omega, by go_num, by rw [S1.out, decide_eq_true (show y < hid by omega), Bool.and_true], by rw [S2.out, decide_eq_false (show ¬ z < hs by omega), Bool.and_false], _, rfl⟩ | ((repeat apply Exists.intro); exact ⟨⟨k + 1, by omega, by go_num, by rw [S1.out, decide_eq_true (show y < hid by omega), Bool.and_true], by rw [S2.out, decide_eq_false (show ¬ z < hs by omega), Bool.and_false], _, rfl⟩, rfl⟩)
          case measure => simp [intOf]; omega
        · have dy : decide (hid ≤ y) = false := decide_eq_false hy
          have dz : decide (hs ≤ z) = false := decide_eq_false hz
          go_wp2
          go_quiet (fail)
          go_wp2
          go_quiet (fail)
          go_wp2
          go_roundw
          case rel => first | exact ⟨k + 1, by omega, by go_num, by rw [S1.out, decide_eq_true (show y < hid by omega), Bool.and_true], by rw [S2.out, decide_eq_true (show z < hs by omega), Bool.and_true], _, rfl⟩ | ((repeat apply Exists.intro); exact ⟨⟨k + 1, by omega, by go_num, by rw [S1.out, decide_eq_true (show y < hid by omega), Bool.and_true], by rw [S2.out, decide_eq_true (show z < hs by omega), Bool.and_true], _, rfl⟩, rfl⟩)
          case measure => simp [intOf]; omega
    · have e : l.take k = l := List.take_of_length_le (by have := HN.out; omega)
      rw [e]
      have hbel : Below w.heap.size w ((w.alloc (.cells #[.int .u64 hid, .int .i64 hs, .int .i64 hr] 52)).drewN nq) := by
        have := (Below.refl w.heap.size w).alloc (Nat.le_refl _) (.cells #[.int .u64 hid, .int .i64 hs, .int .i64 hr] 52)
        exact ⟨this.os, this.tape, this.output, this.size, this.block⟩
      have k1 := cls_new l ⟨hid, hs, hr⟩ hne
      have k2 := cls_late l ⟨hid, hs, hr⟩ hne
      have k3 := cls_none l ⟨hid, hs, hr⟩ hne
      simp only at k1 k2 k3
      generalize allLt Hb.id hid l = A at k1 k2 k3 ⊢
      generalize allLt Hb.s hs l = B at k1 k2 k3 ⊢
      have K1 : Hid _ := k1
      have K2 : Hid _ := k2
      have K3 : Hid _ := k3
      clear k1 k2 k3 e
      cases A
      · cases B
        · go_wp2
          go_ret
          exact ⟨by rw [K3.out (by simp) (by simp)]; rfl, hbel⟩
        · go_wp2
          go_ret
          exact ⟨by rw [K2.out (by simp) (by simp)]; rfl, hbel⟩
      · go_wp2
        go_ret
        exact ⟨by rw [K1.out (by simp)]; rfl, hbel⟩

theorem class_nil (h : Hb) (w : World) :
    Calls Try.prog 31 #[.slice none 0 0, .agg #[.int .u64 h.id, .int .i64 h.s, .int .i64 h.r]] w fun e w' => e = .returned (.int .u8 (cls [] h)) ∧ Below w.heap.size w w' := by
  have e : cls [] h = 1 := by simp [cls, ftA]
  rw [e]
  go_enter Try.func31, Try.ntmps31
  go_wp2
  go_ret
  exact ⟨rfl, (Below.refl _ _).alloc (Nat.le_refl _) _⟩
end Go.Proofs.Qxb6601294a
