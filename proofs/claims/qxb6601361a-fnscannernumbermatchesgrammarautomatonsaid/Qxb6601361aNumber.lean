/- (*jsonScanner).number (25). -/
import Derived.Test.Qxb6601361aNumPeek
import Derived.Deep.DeepCutAuto
import Derived.Deep.CutBlock
namespace Go.Proofs.Qxb6601361a
open Go.RowKit

/-- What number leaves. -/
def Left (S : Nat) (ao : Option Addr) (n cap : Nat) (xs : List Int) (d : Int) (bad : Bool) (p : Nat) (e : Ending) (w' : World) : Prop :=
  (Reads xs p none ∧ e = .returned (.slice none 0 0) ∧ Scan w' S (.slice ao n cap) n d true) ∨
  ∃ q b o, Reads xs p (some q) ∧ p < q ∧ q ≤ n ∧ ao = some ⟨b, o, none⟩ ∧ e = .returned (.slice (some ⟨b, o + p, none⟩) (q - p) (cap - p)) ∧ Scan w' S (.slice ao n cap) q d bad

def isAt (xs : List Int) (p : Nat) (c : Int) : Bool := match xs[p]? with | some x => x == c | none => false
theorem look {S : Nat} {w : World} {ao : Option Addr} {n cap : Nat} {xs : List Int} (hv : DV S w (.slice ao n cap) xs) (hn : xs.length = n) (i : Nat) :
    (n ≤ i ∧ xs[i]? = none) ∨ ∃ b o c, ao = some ⟨b, o, none⟩ ∧ i < n ∧ xs[i]? = some c ∧ w.cell? ⟨b, o + i, none⟩ = some (.int .u8 c) := by
  by_cases h : i < n
  · right
    have hx : i < xs.length := by omega
    obtain ⟨ao', cap', he, h2⟩ := hv
    simp only [Value.slice.injEq] at he
    obtain ⟨rfl, -, rfl⟩ := he
    rcases h2 with h2 | ⟨b, o, h3, _, _, h4⟩
    · rw [h2] at hx; simp at hx
    · exact ⟨b, o, xs[i], h3, h, List.getElem?_eq_getElem hx, h4 i hx⟩
  · exact Or.inl ⟨by omega, List.getElem?_eq_none (by omega)⟩
def S1 (xs : List Int) (n p i st : Nat) : Prop := Path xs p 0 i st ∧ ((st = 0 ∧ i = p ∧ isAt xs p 45 = false) ∨ (st = 1 ∧ i = p + 1 ∧ p < n))
theorem s1_minus {xs : List Int} {n p : Nat} (hn : xs.length = n) (h : isAt xs p 45 = true) : S1 xs n p (p + 1) 1 := by
  unfold isAt at h
  by_cases hp : p < xs.length
  · rw [List.getElem?_eq_getElem hp] at h
    simp at h
    exact ⟨.one hp (by rw [h]; rfl), Or.inr ⟨rfl, rfl, by omega⟩⟩
  · rw [List.getElem?_eq_none (by omega)] at h
    cases h
theorem s1_plain {xs : List Int} {n p : Nat} (h : isAt xs p 45 = false) : S1 xs n p p 0 := ⟨.nil _ _, Or.inl ⟨rfl, rfl, h⟩⟩

theorem get_of {xs : List Int} {i : Nat} {c : Int} (h : xs[i]? = some c) : ∃ h' : i < xs.length, xs[i] = c := by
  obtain ⟨h', e⟩ := List.getElem?_eq_some_iff.1 h
  exact ⟨h', e⟩
theorem none_of {xs : List Int} {i : Nat} (h : xs[i]? = none) : xs.length ≤ i := List.getElem?_eq_none_iff.1 h
def S2 (xs : List Int) (n p i st : Nat) : Prop := Path xs p 0 i st ∧ p < i ∧ i ≤ n ∧ (st = 2 ∨ (st = 3 ∧ ∀ h : i < xs.length, ¬ Dig xs[i]))
theorem S1.le {xs : List Int} {n p i st : Nat} (h : S1 xs n p i st) : p ≤ i := h.1.le
theorem s1_end {xs : List Int} {n p i st : Nat} (h : S1 xs n p i st) (hx : xs[i]? = none) : Reads xs p none := by
  refine .bad h.1 (Or.inl (none_of hx)) ?_
  rcases h.2 with ⟨rfl, _⟩ | ⟨rfl, _⟩ <;> rfl
theorem s1_fail {xs : List Int} {n p i st : Nat} {c : Int} (h : S1 xs n p i st) (hx : xs[i]? = some c) (hd : ¬ Dig c) : Reads xs p none := by
  obtain ⟨h', e⟩ := get_of hx
  have h48 : ¬ c = 48 := fun e => hd (by subst e; exact ⟨by omega, by omega⟩)
  rcases h.2 with ⟨rfl, rfl, h3⟩ | ⟨rfl, _⟩
  · refine .bad h.1 (Or.inr ⟨h', ?_⟩) rfl
    simp [isAt, hx] at h3
    simp [stepN, e, h3, h48, hd]
  · refine .bad h.1 (Or.inr ⟨h', ?_⟩) rfl
    simp [stepN, e, h48, hd]
theorem s1_zero {xs : List Int} {n p i st : Nat} (hn : xs.length = n) (h : S1 xs n p i st) (hx : xs[i]? = some 48) : S2 xs n p (i + 1) 2 := by
  obtain ⟨h', e⟩ := get_of hx
  have hle := h.1.le
  refine ⟨h.1.snoc h' ?_, by omega, by omega, Or.inl rfl⟩
  rw [e]
  rcases h.2 with ⟨rfl, _⟩ | ⟨rfl, _⟩ <;> rfl
theorem s1_dig {xs : List Int} {n p i st j : Nat} {c : Int} (hn : xs.length = n) (h : S1 xs n p i st) (hx : xs[i]? = some c) (h1 : 49 ≤ c) (h2 : c ≤ 57) (hr : DigRun xs i j) : i < j ∧ S2 xs n p j 3 := by
  obtain ⟨h', e⟩ := get_of hx
  have hle := h.1.le
  obtain ⟨r1, r2, r3, r4⟩ := hr
  have hij : i < j := by
    rcases Nat.lt_or_ge i j with h | h
    · exact h
    · obtain rfl : i = j := by omega
      exact absurd ⟨by rw [e]; omega, by rw [e]; omega⟩ (r4 h')
  refine ⟨hij, (h.1.snoc h' ?_).trans (DigRun.path (st := 3) ⟨hij, r2, fun k hk h5 h6 => r3 k hk (by omega) h6, r4⟩ ?_), by omega, by omega, Or.inr ⟨rfl, r4⟩⟩
  · have hd : Dig c := ⟨by omega, h2⟩
    have n45 : ¬ c = 45 := by omega
    have n48 : ¬ c = 48 := by omega
    rw [e]
    rcases h.2 with ⟨rfl, _⟩ | ⟨rfl, _⟩ <;> simp [stepN, hd, n45, n48]
  · intro c hd
    simp [stepN, hd]

theorem isAt_get {xs : List Int} {i : Nat} {c : Int} (h : isAt xs i c = true) : ∃ h' : i < xs.length, xs[i] = c := by
  unfold isAt at h
  by_cases hp : i < xs.length
  · rw [List.getElem?_eq_getElem hp] at h
    exact ⟨hp, by simpa using h⟩
  · rw [List.getElem?_eq_none (by omega)] at h
    cases h
theorem isAt_lt {xs : List Int} {i : Nat} {c : Int} (h : isAt xs i c = true) : i + 1 ≤ xs.length := (isAt_get h).1
theorem isAt_not {xs : List Int} {i : Nat} {c : Int} (h : isAt xs i c = false) (h' : i < xs.length) : ¬ xs[i] = c := by
  unfold isAt at h
  rw [List.getElem?_eq_getElem h'] at h
  simpa using h
/-- Behind the integer and the fraction: only an exponent may follow. -/
def S3 (xs : List Int) (n p i st : Nat) : Prop := Path xs p 0 i st ∧ p < i ∧ i ≤ n ∧ Acc st = true ∧ ∀ h : i < xs.length, stepN st xs[i] = if xs[i] = 101 ∨ xs[i] = 69 then some 6 else none
theorem s2_plain {xs : List Int} {n p i st : Nat} (h : S2 xs n p i st) (hb : isAt xs i 46 = false) : S3 xs n p i st := by
  obtain ⟨h1, h2, h3, h4⟩ := h
  refine ⟨h1, h2, h3, ?_, fun h' => ?_⟩
  · rcases h4 with rfl | ⟨rfl, _⟩ <;> rfl
  · have n46 := isAt_not hb h'
    rcases h4 with rfl | ⟨rfl, hd⟩
    · simp only [stepN, if_neg n46]
    · simp only [stepN, if_neg n46, if_neg (hd h')]
theorem s2_step {xs : List Int} {n p i st : Nat} (h : S2 xs n p i st) (hb : isAt xs i 46 = true) : Path xs p 0 (i + 1) 4 := by
  obtain ⟨h1, h2, h3, h4⟩ := h
  obtain ⟨h', e⟩ := isAt_get hb
  refine h1.snoc h' ?_
  rw [e]
  rcases h4 with rfl | ⟨rfl, _⟩ <;> rfl
theorem s2_bad {xs : List Int} {n p i st : Nat} (h : S2 xs n p i st) (hb : isAt xs i 46 = true) (hr : DigRun xs (i + 1) (i + 1)) : Reads xs p none := by
  refine .bad (s2_step h hb) ?_ rfl
  by_cases h' : i + 1 < xs.length
  · exact Or.inr ⟨h', by simp only [stepN, if_neg (hr.2.2.2 h')]⟩
  · exact Or.inl (by omega)
theorem s2_dot {xs : List Int} {n p i st j : Nat} (hn : xs.length = n) (h : S2 xs n p i st) (hb : isAt xs i 46 = true) (hr : DigRun xs (i + 1) j) (hj : ¬ j = i + 1) : S3 xs n p j 5 := by
  have h2 := h.2.1
  have hij : i + 1 < j := by have := hr.1; omega
  refine ⟨(s2_step h hb).trans (hr.path1 hij (fun c hd => by simp [stepN, hd]) (fun c hd => by simp [stepN, hd])), by omega, by have := hr.2.1; omega, rfl, fun h' => ?_⟩
  simp only [stepN, if_neg (hr.2.2.2 h')]

/-- Behind the whole number. -/
def S4 (xs : List Int) (n p i st : Nat) : Prop := Path xs p 0 i st ∧ p < i ∧ i ≤ n ∧ Acc st = true ∧ Stuck xs i st
theorem s3_plain {xs : List Int} {n p i st : Nat} (h : S3 xs n p i st) (hb : (isAt xs i 101 || isAt xs i 69) = false) : S4 xs n p i st := by
  obtain ⟨h1, h2, h3, h4, h5⟩ := h
  refine ⟨h1, h2, h3, h4, ?_⟩
  by_cases h' : i < xs.length
  · simp only [Bool.or_eq_false_iff] at hb
    refine Or.inr ⟨h', ?_⟩
    rw [h5 h', if_neg]
    rintro (h | h)
    · exact isAt_not hb.1 h' h
    · exact isAt_not hb.2 h' h
  · exact Or.inl (by omega)
/-- Behind the exponent's letter, and its sign if any. -/
def E4 (xs : List Int) (n p k st : Nat) : Prop := Path xs p 0 k st ∧ p < k ∧ k ≤ n ∧ (st = 7 ∨ (st = 6 ∧ ∀ c, xs[k]? = some c → ¬ (c = 43 ∨ c = 45)))
theorem s3_e {xs : List Int} {n p i st : Nat} (hn : xs.length = n) (h : S3 xs n p i st) (hb : (isAt xs i 101 || isAt xs i 69) = true) : Path xs p 0 (i + 1) 6 ∧ p < i + 1 ∧ i + 1 ≤ n := by
  obtain ⟨h1, h2, h3, h4, h5⟩ := h
  have hx : ∃ h' : i < xs.length, xs[i] = 101 ∨ xs[i] = 69 := by
    rcases Bool.or_eq_true_iff.1 hb with h | h
    · obtain ⟨h', e⟩ := isAt_get h; exact ⟨h', Or.inl e⟩
    · obtain ⟨h', e⟩ := isAt_get h; exact ⟨h', Or.inr e⟩
  obtain ⟨h', e⟩ := hx
  exact ⟨h1.snoc h' (by rw [h5 h', if_pos e]), by omega, by omega⟩
theorem e4_sign {xs : List Int} {n p k : Nat} {c : Int} (hn : xs.length = n) (h : Path xs p 0 k 6) (hp : p < k) (hx : xs[k]? = some c) (hc : c = 43 ∨ c = 45) : E4 xs n p (k + 1) 7 := by
  obtain ⟨h', e⟩ := get_of hx
  exact ⟨h.snoc h' (by rw [e]; simp only [stepN, if_pos hc]), by omega, by omega, Or.inl rfl⟩
theorem e4_bad {xs : List Int} {n p k st : Nat} (h : E4 xs n p k st) (hr : DigRun xs k k) : Reads xs p none := by
  obtain ⟨h1, h2, h3, h4⟩ := h
  refine .bad h1 ?_ (by rcases h4 with rfl | ⟨rfl, _⟩ <;> rfl)
  by_cases h' : k < xs.length
  · refine Or.inr ⟨h', ?_⟩
    have hd := hr.2.2.2 h'
    rcases h4 with rfl | ⟨rfl, hs⟩
    · simp only [stepN, if_neg hd]
    · simp only [stepN, if_neg hd, if_neg (hs _ (List.getElem?_eq_getElem h'))]
  · exact Or.inl (by omega)
theorem e4_good {xs : List Int} {n p k st j : Nat} (hn : xs.length = n) (h : E4 xs n p k st) (hr : DigRun xs k j) (hj : ¬ j = k) : S4 xs n p j 8 := by
  obtain ⟨h1, h2, h3, h4⟩ := h
  have hkj : k < j := by have := hr.1; omega
  refine ⟨h1.trans (hr.path1 hkj ?_ (fun c hd => by simp [stepN, hd])), by omega, by have := hr.2.1; omega, rfl, ?_⟩
  · intro c hd
    have n1 : ¬ (c = 43 ∨ c = 45) := by have := hd.1; omega
    rcases h4 with rfl | ⟨rfl, _⟩ <;> simp only [stepN, if_pos hd, if_neg n1]
  · by_cases h' : j < xs.length
    · exact Or.inr ⟨h', by simp only [stepN, if_neg (hr.2.2.2 h')]⟩
    · exact Or.inl (by omega)

set_option maxRecDepth 100000 in
set_option maxHeartbeats 4000000 in
theorem number_walk (S : Nat) (ao : Option Addr) (n cap : Nat) (xs : List Int) (a : Nat) (d : Int) (bad : Bool) (w : World) (hs : Scan w S (.slice ao n cap) a d bad) (hv : DV S w (.slice ao n cap) xs) (hn : Hid (xs.length = n)) (hl : n ≤ 1048576) (hcap : n ≤ cap) (ha : a < 9223372036854775808) :
    Calls Try.prog 25 #[.pointer (some ⟨S, 0, none⟩)] w fun e w' => Turn w w' S ∧ ∃ p, SpRun xs a p ∧ Left S ao n cap xs d bad p e w' := by
  have hpk := peek_walk S (.slice ao n cap) xs a d bad w hs hv (by rw [hn.out]; exact hl) ha
  go_enter Try.func25, Try.ntmps25
  go_wp2_with fail
  refine hpk.mono ?_
  rintro e w1 ⟨⟨c0, rfl⟩, ht, p, hsp, hs1⟩
  have hv1 := hv.turn ht
  have g0 : w1.cell? ⟨S, 0, none⟩ = some (.slice ao n cap) := hs1.cell (i := 0) (by omega)
  have g1 : w1.cell? ⟨S, 1, none⟩ = some (.int .i64 p) := hs1.cell (i := 1) (by omega)
  have hfail : ∀ m, Calls Try.prog 31 #[.pointer (some ⟨S, 0, none⟩)] (w1.drewN m) fun e w' => e = .returned (.tuple #[]) ∧ Turn w w' S ∧ Scan w' S (.slice ao n cap) n d true := fun m => by
    refine (fail_walk S ao n cap p d bad (w1.drewN m) hs1).mono ?_
    rintro e w' ⟨h1, h2, x, y, rfl⟩
    exact ⟨h1, ((ht.drewN m).setCell x).setCell y, h2⟩
  clear hs hv hpk
  go_wp2
  go_quiet (fail)
  go_upto_region 4 with fail
  go_cut [30] (fun s30 wx => s30 = .bool (isAt xs p 45) ∧ wx = w1.drewN nq)
  case first =>
    rcases look hv1 hn.out p with ⟨h1, h2⟩ | ⟨b, o, c, rfl, h1, h2, hc⟩
    · have d1 : decide ((p : Int) < (n : Int)) = false := decide_eq_false (by omega)
      go_wp2_with fail
      go_meet
      case rel => exact ⟨by simp [isAt, h2], rfl⟩
    · have i1 : (p : Int) < (n : Int) := by omega
      go_wp2_with fail
      go_meet
      case rel => exact ⟨by simp [isAt, h2], rfl⟩
  case rest =>
    obtain ⟨rfl, rfl⟩ := hcut
    go_upto_if 30 with fail
    go_cut [5] (fun s5 wx => wx = w1.drewN nq ∧ ∃ i st : Nat, s5 = .int .i64 i ∧ S1 xs n p i st)
    case first =>
      cases hb : isAt xs p 45 with
      | true =>
        have hS := s1_minus hn.out hb
        have hpn : p < n := by
          rcases hS.2 with h | h
          · omega
          · exact h.2.2
        go_wp2_with fail
        go_meet
        case rel => exact ⟨rfl, p + 1, 1, by go_num, hS⟩
      | false =>
        have hS := s1_plain (n := n) hb
        go_wp2_with fail
        go_meet
        case rel => exact ⟨rfl, p, 0, rfl, hS⟩
    case rest =>
      obtain ⟨rfl, i, st, rfl, hS⟩ := hcut
      go_upto_block 0 with fail
      go_cut [5] (fun s5 wx => wx = w1.drewN nq ∧ ∃ i st : Nat, s5 = .int .i64 i ∧ S2 xs n p i st)
      case first =>
        have hle := hS.le
        rcases look hv1 hn.out i with ⟨h1, h2⟩ | ⟨b, o, c, rfl, h1, h2, hc⟩
        · have d1 : decide ((i : Int) < (n : Int)) = false := decide_eq_false (by omega)
          go_wp2_with fail
          refine (hfail nq).mono ?_
          rintro e w2 ⟨rfl, ht2, hs2⟩
          go_wp2
          go_ret
          exact ⟨ht2, p, hsp, Or.inl ⟨s1_end hS h2, rfl, hs2⟩⟩
        · have i1 : (i : Int) < (n : Int) := by omega
          by_cases e48 : c = 48
          · subst e48
            have hS2 := s1_zero hn.out hS h2
            go_wp2_with fail
            go_meet
            case rel => exact ⟨rfl, i + 1, 2, by go_num, hS2⟩
          · have f48 : (c == 48) = false := by simp [e48]
            by_cases l1 : 49 ≤ c
            · by_cases l2 : c ≤ 57
              · have hdg := digits_walk (.slice (some ⟨b, o, none⟩) n cap) xs i (w1.drewN nq) (show BV (w1.drewN nq) _ xs from hv1.bv) (by rw [hn.out]; exact hl) (by rw [hn.out]; omega)
                go_wp2_with fail
                refine hdg.mono ?_
                rintro e w9 ⟨hw9, j, rfl, hrun⟩
                subst w9
                obtain ⟨hij, hS2⟩ := s1_dig hn.out hS h2 l1 l2 hrun
                rw [if_neg (show ¬ j = i by omega)]
                go_wp2_with fail
                go_meet
                case rel => exact ⟨rfl, j, 3, rfl, hS2⟩
              · have hd : ¬ Dig c := fun h => l2 h.2
                have f2 : decide (c ≤ 57) = false := decide_eq_false l2
                go_wp2_with fail
                refine (hfail nq).mono ?_
                rintro e w2 ⟨rfl, ht2, hs2⟩
                go_wp2
                go_ret
                exact ⟨ht2, p, hsp, Or.inl ⟨s1_fail hS h2 hd, rfl, hs2⟩⟩
            · have hd : ¬ Dig c := fun h => l1 (by have := h.1; omega)
              have f1 : decide (49 ≤ c) = false := decide_eq_false l1
              go_wp2_with fail
              refine (hfail nq).mono ?_
              rintro e w2 ⟨rfl, ht2, hs2⟩
              go_wp2
              go_ret
              exact ⟨ht2, p, hsp, Or.inl ⟨s1_fail hS h2 hd, rfl, hs2⟩⟩
      case rest =>
        clear hS
        obtain ⟨rfl, i, st, rfl, hS⟩ := hcut
        go_upto_region 12 with fail
        go_cut [81] (fun s81 wx => s81 = .bool (isAt xs i 46) ∧ wx = w1.drewN nq)
        case first =>
          rcases look hv1 hn.out i with ⟨h1, h2⟩ | ⟨b, o, c, rfl, h1, h2, hc⟩
          · have d1 : decide ((i : Int) < (n : Int)) = false := decide_eq_false (by omega)
            go_wp2_with fail
            go_meet
            case rel => exact ⟨by simp [isAt, h2], rfl⟩
          · have i1 : (i : Int) < (n : Int) := by omega
            go_wp2_with fail
            go_meet
            case rel => exact ⟨by simp [isAt, h2], rfl⟩
        case rest =>
          obtain ⟨rfl, rfl⟩ := hcut
          go_upto_if 81 with fail
          go_cut [5] (fun s5 wx => wx = w1.drewN nq ∧ ∃ i st : Nat, s5 = .int .i64 i ∧ S3 xs n p i st)
          case first =>
            cases hb : isAt xs i 46 with
            | true =>
              have hin := isAt_lt hb
              have hdg := digits_walk (.slice ao n cap) xs (i + 1) (w1.drewN nq) (show BV (w1.drewN nq) _ xs from hv1.bv) (by rw [hn.out]; exact hl) hin
              have hin' : i < n := by have := hn.out; omega
              rw [show ((i + 1 : Nat) : Int) = (i : Int) + 1 by omega] at hdg
              go_wp2_with fail
              refine hdg.mono ?_
              rintro e w9 ⟨hw9, j, rfl, hrun⟩
              subst w9
              by_cases hj : j = i + 1
              · rw [if_pos hj]
                have hR := s2_bad hS hb (hj ▸ hrun)
                go_wp2_with fail
                refine (hfail nq).mono ?_
                rintro e w2 ⟨rfl, ht2, hs2⟩
                go_wp2
                go_ret
                exact ⟨ht2, p, hsp, Or.inl ⟨hR, rfl, hs2⟩⟩
              · rw [if_neg hj]
                have hS3 := s2_dot hn.out hS hb hrun hj
                have hj0 : ¬ (j : Int) < 0 := by omega
                go_wp2_with fail
                go_meet
                case rel => exact ⟨rfl, j, 5, rfl, hS3⟩
            | false =>
              have hS3 := s2_plain hS hb
              go_wp2_with fail
              go_meet
              case rel => exact ⟨rfl, i, st, rfl, hS3⟩
          case rest =>
            clear hS
            obtain ⟨rfl, i, st, rfl, hS⟩ := hcut
            have hin : i ≤ n := hS.2.2.1
            go_upto_region 17 with fail
            go_cut [107] (fun s107 wx => s107 = .bool (isAt xs i 101 || isAt xs i 69) ∧ wx = w1.drewN nq)
            case first =>
              rcases look hv1 hn.out i with ⟨h1, h2⟩ | ⟨b, o, c, rfl, h1, h2, hc⟩
              · have d1 : decide ((i : Int) < (n : Int)) = false := decide_eq_false (by omega)
                go_wp2_with fail
                go_meet
                case rel => exact ⟨by simp [isAt, h2], rfl⟩
              · have i1 : (i : Int) < (n : Int) := by omega
                by_cases e1 : c = 101
                · subst e1
                  go_wp2_with fail
                  go_meet
                  case rel => exact ⟨by simp [isAt, h2], rfl⟩
                · have f1 : (c == 101) = false := by simp [e1]
                  go_wp2_with fail
                  go_meet
                  case rel => exact ⟨by simp [isAt, h2, e1], rfl⟩
            case rest =>
              obtain ⟨rfl, rfl⟩ := hcut
              go_upto_if 107 with fail
              go_cut [5] (fun s5 wx => wx = w1.drewN nq ∧ ∃ i st : Nat, s5 = .int .i64 i ∧ S4 xs n p i st)
              case first =>
                cases hb : (isAt xs i 101 || isAt xs i 69) with
                | true =>
                  obtain ⟨hP6, hpi, hi1⟩ := s3_e hn.out hS hb
                  rcases look hv1 hn.out (i + 1) with ⟨h1, h2⟩ | ⟨b, o, c, hao, h1, h2, hc⟩
                  · have d1 : decide ((i : Int) + 1 < (n : Int)) = false := decide_eq_false (by omega)
                    have hE : E4 xs n p (i + 1) 6 := ⟨hP6, hpi, hi1, Or.inr ⟨rfl, fun c h => by rw [h2] at h; cases h⟩⟩
                    have hdg := digits_walk (.slice ao n cap) xs (i + 1) (w1.drewN nq) (show BV (w1.drewN nq) _ xs from hv1.bv) (by rw [hn.out]; exact hl) (by rw [hn.out]; exact hE.2.2.1)
                    have hk8 : i + 1 ≤ n := hE.2.2.1
                    rw [show ((i + 1 : Nat) : Int) = (i : Int) + 1 by omega] at hdg
                    go_wp2_with fail
                    refine hdg.mono ?_
                    rintro e w9 ⟨hw9, j, rfl, hrun⟩
                    subst w9
                    by_cases hj : j = i + 1
                    · rw [if_pos hj]
                      have hR := e4_bad hE (hj ▸ hrun)
                      go_wp2_with fail
                      refine (hfail nq).mono ?_
                      rintro e w2 ⟨rfl, ht2, hs2⟩
                      go_wp2
                      go_ret
                      exact ⟨ht2, p, hsp, Or.inl ⟨hR, rfl, hs2⟩⟩
                    · rw [if_neg hj]
                      have hS4 := e4_good hn.out hE hrun hj
                      have hj0 : ¬ (j : Int) < 0 := by omega
                      go_wp2_with fail
                      go_meet
                      case rel => exact ⟨rfl, j, 8, rfl, hS4⟩
                  · by_cases hsg : c = 43 ∨ c = 45
                    · have hE := e4_sign hn.out hP6 hpi h2 hsg
                      have i1 : (i : Int) + 1 < (n : Int) := by omega
                      subst hao
                      rcases hsg with rfl | rfl
                      · skip
                        have hdg := digits_walk (.slice (some ⟨b, o, none⟩) n cap) xs (i + 1 + 1) (w1.drewN nq) (show BV (w1.drewN nq) _ xs from hv1.bv) (by rw [hn.out]; exact hl) (by rw [hn.out]; exact hE.2.2.1)
                        have hk8 : i + 1 + 1 ≤ n := hE.2.2.1
                        rw [show ((i + 1 + 1 : Nat) : Int) = (i : Int) + 1 + 1 by omega] at hdg
                        go_wp2_with fail
                        refine hdg.mono ?_
                        rintro e w9 ⟨hw9, j, rfl, hrun⟩
                        subst w9
                        by_cases hj : j = i + 1 + 1
                        · rw [if_pos hj]
                          have hR := e4_bad hE (hj ▸ hrun)
                          go_wp2_with fail
                          refine (hfail nq).mono ?_
                          rintro e w2 ⟨rfl, ht2, hs2⟩
                          go_wp2
                          go_ret
                          exact ⟨ht2, p, hsp, Or.inl ⟨hR, rfl, hs2⟩⟩
                        · rw [if_neg hj]
                          have hS4 := e4_good hn.out hE hrun hj
                          have hj0 : ¬ (j : Int) < 0 := by omega
                          go_wp2_with fail
                          go_meet
                          case rel => exact ⟨rfl, j, 8, rfl, hS4⟩
                      · skip
                        have hdg := digits_walk (.slice (some ⟨b, o, none⟩) n cap) xs (i + 1 + 1) (w1.drewN nq) (show BV (w1.drewN nq) _ xs from hv1.bv) (by rw [hn.out]; exact hl) (by rw [hn.out]; exact hE.2.2.1)
                        have hk8 : i + 1 + 1 ≤ n := hE.2.2.1
                        rw [show ((i + 1 + 1 : Nat) : Int) = (i : Int) + 1 + 1 by omega] at hdg
                        go_wp2_with fail
                        refine hdg.mono ?_
                        rintro e w9 ⟨hw9, j, rfl, hrun⟩
                        subst w9
                        by_cases hj : j = i + 1 + 1
                        · rw [if_pos hj]
                          have hR := e4_bad hE (hj ▸ hrun)
                          go_wp2_with fail
                          refine (hfail nq).mono ?_
                          rintro e w2 ⟨rfl, ht2, hs2⟩
                          go_wp2
                          go_ret
                          exact ⟨ht2, p, hsp, Or.inl ⟨hR, rfl, hs2⟩⟩
                        · rw [if_neg hj]
                          have hS4 := e4_good hn.out hE hrun hj
                          have hj0 : ¬ (j : Int) < 0 := by omega
                          go_wp2_with fail
                          go_meet
                          case rel => exact ⟨rfl, j, 8, rfl, hS4⟩
                    · have hE : E4 xs n p (i + 1) 6 := ⟨hP6, hpi, hi1, Or.inr ⟨rfl, fun x h => by rw [h2] at h; cases h; exact hsg⟩⟩
                      have i1 : (i : Int) + 1 < (n : Int) := by omega
                      have f1 : (c == 43) = false := by simp only [not_or] at hsg; simp [hsg.1]
                      have f2 : (c == 45) = false := by simp only [not_or] at hsg; simp [hsg.2]
                      subst hao
                      have hdg := digits_walk (.slice (some ⟨b, o, none⟩) n cap) xs (i + 1) (w1.drewN nq) (show BV (w1.drewN nq) _ xs from hv1.bv) (by rw [hn.out]; exact hl) (by rw [hn.out]; exact hE.2.2.1)
                      have hk8 : i + 1 ≤ n := hE.2.2.1
                      rw [show ((i + 1 : Nat) : Int) = (i : Int) + 1 by omega] at hdg
                      go_wp2_with fail
                      refine hdg.mono ?_
                      rintro e w9 ⟨hw9, j, rfl, hrun⟩
                      subst w9
                      by_cases hj : j = i + 1
                      · rw [if_pos hj]
                        have hR := e4_bad hE (hj ▸ hrun)
                        go_wp2_with fail
                        refine (hfail nq).mono ?_
                        rintro e w2 ⟨rfl, ht2, hs2⟩
                        go_wp2
                        go_ret
                        exact ⟨ht2, p, hsp, Or.inl ⟨hR, rfl, hs2⟩⟩
                      · rw [if_neg hj]
                        have hS4 := e4_good hn.out hE hrun hj
                        have hj0 : ¬ (j : Int) < 0 := by omega
                        go_wp2_with fail
                        go_meet
                        case rel => exact ⟨rfl, j, 8, rfl, hS4⟩
                | false =>
                  have hS4 := s3_plain hS hb
                  go_wp2_with fail
                  go_meet
                  case rel => exact ⟨rfl, i, st, rfl, hS4⟩
              case rest =>
                clear hS hin
                obtain ⟨rfl, i, st, rfl, hS⟩ := hcut
                obtain ⟨hP, hpi, hin, hA, hSt⟩ := hS
                obtain ⟨b, o, c, rfl, -, -, -⟩ : ∃ b o c, ao = some ⟨b, o, none⟩ ∧ p < n ∧ xs[p]? = some c ∧ w1.cell? ⟨b, o + p, none⟩ = some (.int .u8 c) := by
                  rcases look hv1 hn.out p with ⟨h, _⟩ | h
                  · omega
                  · exact h
                have hfr := fun j => World.rowIs.frozen hs1 j
                have i1 : (p : Int) ≤ (i : Int) := by omega
                have i2 : (i : Int) ≤ (cap : Int) := by omega
                have HF : Hid (Scan ((w1.drewN nq).setCell ⟨S, 1, none⟩ (.int .i64 i)) S (.slice (some ⟨b, o, none⟩) n cap) i d bad) := Scan.setAt (w := w1.drewN nq) hs1 i
                have HRd : Hid (Reads xs p (some i)) := .good hP hSt hA
                clear hP hSt hA
                go_wp2
                go_ret
                exact ⟨(ht.drewN nq).setCell _, p, hsp, Or.inr ⟨i, b, o, HRd.out, hpi, hin, rfl, rfl, HF.out⟩⟩
end Go.Proofs.Qxb6601361a
