/- The law about numbers (3). -/
import Derived.Test.Qxb6601361aNumMain
import Derived.LaidEqlPtr
namespace Go.Proofs.Qxb6601361a
open Go.RowKit

theorem und28 : Try.prog.underlying 28 = some (.pointer 5) := by kernel_rfl
theorem ptr_eq (w : World) (a : Addr) : (binOp .eql 28 (.pointer (some a)) (.pointer (some a))).run Try.prog w = .ok (.bool true) w := by
  obtain ⟨j, hj, -⟩ := Option.map_eq_some_iff.1 binfo5
  exact run_eql_ptr_same w a und28 hj
theorem ptr_ne (w : World) (a : Addr) : (binOp .neq 28 (.pointer (some a)) (.pointer (some a))).run Try.prog w = .ok (.bool false) w := by
  obtain ⟨j, hj, -⟩ := Option.map_eq_some_iff.1 binfo5
  have h : ∀ d : Nat, (Op.equalIn (d + 1) 28 (.pointer (some a)) (.pointer (some a))).run Try.prog w = .ok true w := fun d => by
    simp [Op.equalIn, run_underlying und28, sizeOf, typeInfo, hj, run_sameAddr_same]
  simp only [binOp]
  simp [Op.equal, Op.maxDepth, h 9999]

/-- A []byte with its address told apart. -/
theorem clone_bv (ao : Option Addr) (n cap : Nat) (xs : List Int) (w : World) (hv : BV w (.slice ao n cap) xs) (hn : Hid (xs.length = n)) (hl : n ≤ 1048576) (hz : ao = none → cap = 0) :
    Calls Try.prog 9 #[.slice ao n cap] w fun e w' => Below w.heap.size w w' ∧ ∃ ao', e = .returned (.slice ao' n n) ∧ BV w' (.slice ao' n n) xs := by
  have hN := hn.out
  subst hN
  obtain ⟨ao1, cap1, h1, h2⟩ := hv
  simp only [Value.slice.injEq] at h1
  obtain ⟨rfl, -, rfl⟩ := h1
  cases ao with
  | none =>
    have hx : xs = [] := by
      rcases h2 with h | ⟨b, o, h, _⟩
      · exact h
      · cases h
    subst hx
    obtain rfl := hz rfl
    refine (cloneB_nil w).mono ?_
    rintro e w' ⟨rfl, rfl⟩
    exact ⟨Below.refl _ _, none, rfl, none, 0, rfl, Or.inl rfl⟩
  | some a =>
    have ha : ArgB w a xs := by
      rcases h2 with h | ⟨b, o, h, h3, h4⟩
      · exact Or.inl h
      · exact Or.inr ⟨b, o, by simpa using h, h3, h4⟩
    refine (cloneB_any a cap xs w hl ha).mono ?_
    rintro e w' ⟨rfl, h3, h4, h5⟩
    exact ⟨h3, _, rfl, _, _, rfl, Or.inr ⟨_, _, rfl, h4, h5⟩⟩

theorem bv_drew {w : World} {v : Value} {xs : List Int} (h : BV w v xs) (m : Nat) : BV (w.drewN m) v xs := h.keep (Nat.le_refl _) (fun _ _ => rfl)
theorem bel_drew {B : Nat} {w w' : World} (h : Below B w w') (m : Nat) : Below B w (w'.drewN m) := ⟨h.os, h.tape, h.output, h.size, h.block⟩
theorem bv_none {w : World} {ao : Option Addr} {n cap : Nat} {xs : List Int} (hv : BV w (.slice ao n cap) xs) (hn : Hid (xs.length = n)) : ao = none → n = 0 := by
  rintro rfl
  have hN := hn.out
  obtain ⟨ao1, cap1, h1, h2⟩ := hv
  simp only [Value.slice.injEq] at h1
  obtain ⟨rfl, -, rfl⟩ := h1
  rcases h2 with h | ⟨b, o, h, _⟩
  · subst h; simpa using hN.symm
  · cases h

theorem bv_some {w : World} {ao : Option Addr} {n cap : Nat} {xs : List Int} (hv : BV w (.slice ao n cap) xs) (hn : Hid (xs.length = n)) (h0 : 0 < n) : ∃ b o, ao = some ⟨b, o, none⟩ ∧ b < w.heap.size ∧ Lies w b o xs := by
  have hN := hn.out
  obtain ⟨ao1, cap1, h1, h2⟩ := hv
  simp only [Value.slice.injEq] at h1
  obtain ⟨rfl, -, rfl⟩ := h1
  rcases h2 with h | h
  · subst h; simp at hN; omega
  · exact h

set_option maxRecDepth 100000 in
set_option maxHeartbeats 1000000 in
theorem law_walk (ao : Option Addr) (n cap : Nat) (xs : List Int) (a d : Int) (bad : Bool) (w : World) (hv : BV w (.slice ao n cap) xs) (hn : Hid (xs.length = n)) (hz : ao = none → cap = 0) (ha : a < 9223372036854775808) :
    Calls Try.prog 3 #[.slice ao n cap, .int .i64 a, .int .i64 d, .bool bad] w fun e w' => e = .returned (.bool true) ∧ Below w.heap.size w w' := by
  have h8 := zz8 ao n cap a d bad w
  go_enter Try.func3, Try.ntmps3
  go_wp2_with fail
  refine h8.mono ?_
  rintro e w9 ⟨hw9, rfl | ⟨rfl, hl⟩⟩
  · subst w9
    go_wp2
    go_ret
    exact ⟨rfl, Below.refl _ _⟩
  subst w9
  by_cases h0 : a < 0
  · go_wp2
    go_ret
    exact ⟨rfl, Below.refl _ _⟩
  obtain ⟨A, rfl⟩ : ∃ A : Nat, a = A := ⟨a.toNat, by omega⟩
  have hcl := clone_bv ao n cap xs w hv hn hl hz
  have hA : A < 9223372036854775808 := by omega
  have i0 : decide ((A : Int) < 0) = false := decide_eq_false (by omega)
  clear h0 h8 hz ha
  go_wp2_with fail
  refine hcl.mono ?_
  rintro e w1 ⟨hb1, a1, rfl, hv1⟩
  go_wp2_with fail
  refine (clone_bv a1 n n xs w1 hv1 hn hl (bv_none hv1 hn)).mono ?_
  rintro e w2 ⟨hb2, a2, rfl, hv2⟩
  have hv1 := hv1.below hb2
  go_wp2_with fail
  refine (zznum_walk a1 n n xs A d bad w2 hv1 hn hl (Nat.le_refl _) hA).mono ?_
  rintro e w3 ⟨hb3, p, hsp, hg⟩
  have hv1 := hv1.below hb3
  have hv2 := hv2.below hb3
  have hbel : Below w.heap.size w w3 := (hb1.trans (hb2.mono hb1.size)).trans (hb3.mono (Nat.le_trans hb1.size hb2.size))
  rcases hg with ⟨hR, rfl⟩ | ⟨q, b, o, hR, hpq, hqn, rfl, rfl⟩
  · go_wp2_with fail
    refine (equal_walk (.slice a1 n n) (.slice a2 n n) xs w3 hv1 hv2 (by have := hn.out; omega)).mono ?_
    rintro e w4 ⟨rfl, nq, rfl⟩
    by_cases h0 : n = 0
    · subst h0
      have hne := fun wx => @Lib.run_eql_slice_nil Try.prog wx
      go_wp2
      go_quiet (fail)
      go_wp2
      go_loopw [15] (fun v wx => ∃ k m : Nat, A ≤ k ∧ k < 9223372036854775808 ∧ v = .int .i64 k ∧ wx = w3.drewN m ∧ Hid (∀ j, A ≤ j → j < k → ∃ h : j < xs.length, Sp xs[j])) (fun v _ => 0 - (intOf v).toNat)
      case atStart => exact ⟨A, _, Nat.le_refl _, hA, rfl, World.drewN_drewN .., fun j h1 h2 => absurd h1 (by omega)⟩
      case round =>
        obtain ⟨k, m, hk1, hk2, rfl, rfl, HS⟩ := hrel
        by_cases hlt : k < 0
        · exact absurd hlt (by omega)
        · obtain rfl : k = p := SpRun.det ⟨hk1, HS.out, fun h => absurd h (by have := hn.out; omega)⟩ hsp
          have d1 : decide ((k : Int) < (0 : Int)) = false := decide_eq_false (by omega)
          go_wp2_with fail
          refine (auto_walk (.slice a2 0 0) xs k (w3.drewN m) (bv_drew hv2 m) (by have := hn.out; omega) hk2).mono ?_
          rintro e w9 ⟨hw9, q2, st2, rfl, hp2, hs2⟩
          subst w9
          have hacc : Acc st2 = false := by
            have := hR.of hp2 hs2
            cases h : Acc st2 with
            | false => rfl
            | true => rw [h] at this; simp at this
          rw [hacc]
          clear hacc
          go_wp2
          go_ret
          exact ⟨rfl, bel_drew hbel _⟩
    · obtain ⟨b1, o1, rfl, -, -⟩ := bv_some hv1 hn (by omega)
      have hne := fun wx => @Lib.run_eql_slice_nil Try.prog wx
      have j1 : decide (0 < n) = true := decide_eq_true (by omega)
      have j0 : 0 < n := by omega
      have hpn := ptr_ne
      have hpe := ptr_eq
      have j2 : (0 : Int) < (n : Int) := by omega
      go_wp2
      go_quiet (fail)
      go_wp2
      go_loopw [15] (fun v wx => ∃ k m : Nat, A ≤ k ∧ k < 9223372036854775808 ∧ v = .int .i64 k ∧ wx = w3.drewN m ∧ Hid (∀ j, A ≤ j → j < k → ∃ h : j < xs.length, Sp xs[j])) (fun v _ => n - (intOf v).toNat)
      case atStart => exact ⟨A, _, Nat.le_refl _, hA, rfl, World.drewN_drewN .., fun j h1 h2 => absurd h1 (by omega)⟩
      case round =>
        obtain ⟨k, m, hk1, hk2, rfl, rfl, HS⟩ := hrel
        by_cases hlt : k < n
        · have hkx : k < xs.length := by have := hn.out; omega
          obtain ⟨b2, o2, rfl, -, l2⟩ := bv_some hv2 hn (by omega)
          have hc : w3.cell? ⟨b2, o2 + k, none⟩ = some (.int .u8 xs[k]) := l2 k hkx
          obtain ⟨c, hce⟩ : ∃ c, xs[k] = c := ⟨_, rfl⟩
          rw [hce] at hc
          have i1 : (k : Int) < (n : Int) := by omega
          by_cases hsp2 : Sp c
          · have HS' : Hid (∀ j, A ≤ j → j < k + 1 → ∃ h : j < xs.length, Sp xs[j]) := fun j h1 h2 => by
              by_cases e : j = k
              · subst e; exact ⟨hkx, by rw [hce]; exact hsp2⟩
              · exact HS.out j h1 (by omega)
            have hs := fun w => space_walk c w
            rw [@decide_eq_true _ (decSp c) hsp2] at hs
            clear hsp2 hce
            go_wp2_with fail
            refine (hs (w3.drewN m)).mono ?_
            rintro e w9 ⟨rfl, hw9⟩
            subst w9
            go_wp2
            go_roundw
            case rel => exact ⟨k + 1, _, by omega, by omega, by go_num, rfl, HS'⟩
            case measure => simp [intOf]; omega
          · obtain rfl : k = p := SpRun.det ⟨hk1, HS.out, fun h => by rw [hce]; exact hsp2⟩ hsp
            have hs := fun w => space_walk c w
            rw [@decide_eq_false _ (decSp c) hsp2] at hs
            clear hsp2 hce
            go_wp2_with fail
            refine (hs (w3.drewN m)).mono ?_
            rintro e w9 ⟨rfl, hw9⟩
            subst w9
            go_wp2_with fail
            refine (auto_walk (.slice (some ⟨b2, o2, none⟩) n n) xs k (w3.drewN m) (bv_drew hv2 m) (by have := hn.out; omega) hk2).mono ?_
            rintro e w9 ⟨hw9, q2, st2, rfl, hp2, hs2⟩
            subst w9
            have hacc : Acc st2 = false := by
              have := hR.of hp2 hs2
              cases h : Acc st2 with
              | false => rfl
              | true => rw [h] at this; simp at this
            rw [hacc]
            clear hacc
            go_wp2
            go_ret
            exact ⟨rfl, bel_drew hbel _⟩
        · obtain rfl : k = p := SpRun.det ⟨hk1, HS.out, fun h => absurd h (by have := hn.out; omega)⟩ hsp
          have d1 : decide ((k : Int) < (n : Int)) = false := decide_eq_false (by omega)
          go_wp2_with fail
          refine (auto_walk (.slice a2 n n) xs k (w3.drewN m) (bv_drew hv2 m) (by have := hn.out; omega) hk2).mono ?_
          rintro e w9 ⟨hw9, q2, st2, rfl, hp2, hs2⟩
          subst w9
          have hacc : Acc st2 = false := by
            have := hR.of hp2 hs2
            cases h : Acc st2 with
            | false => rfl
            | true => rw [h] at this; simp at this
          rw [hacc]
          clear hacc
          go_wp2
          go_ret
          exact ⟨rfl, bel_drew hbel _⟩
  · go_wp2_with fail
    refine (equal_walk (.slice (some ⟨b, o, none⟩) n n) (.slice a2 n n) xs w3 hv1 hv2 (by have := hn.out; omega)).mono ?_
    rintro e w4 ⟨rfl, nq, rfl⟩
    have j1 : decide (0 < n) = true := decide_eq_true (by omega)
    have j0 : 0 < n := by omega
    have hpn := ptr_ne
    have hpe := ptr_eq
    have j2 : (0 : Int) < (n : Int) := by omega
    go_wp2
    go_quiet (fail)
    go_wp2
    go_loopw [15] (fun v wx => ∃ k m : Nat, A ≤ k ∧ k < 9223372036854775808 ∧ v = .int .i64 k ∧ wx = w3.drewN m ∧ Hid (∀ j, A ≤ j → j < k → ∃ h : j < xs.length, Sp xs[j])) (fun v _ => n - (intOf v).toNat)
    case atStart => exact ⟨A, _, Nat.le_refl _, hA, rfl, World.drewN_drewN .., fun j h1 h2 => absurd h1 (by omega)⟩
    case round =>
      obtain ⟨k, m, hk1, hk2, rfl, rfl, HS⟩ := hrel
      by_cases hlt : k < n
      · have hkx : k < xs.length := by have := hn.out; omega
        obtain ⟨b2, o2, rfl, -, l2⟩ := bv_some hv2 hn (by omega)
        have hc : w3.cell? ⟨b2, o2 + k, none⟩ = some (.int .u8 xs[k]) := l2 k hkx
        obtain ⟨c, hce⟩ : ∃ c, xs[k] = c := ⟨_, rfl⟩
        rw [hce] at hc
        have i1 : (k : Int) < (n : Int) := by omega
        by_cases hsp2 : Sp c
        · have HS' : Hid (∀ j, A ≤ j → j < k + 1 → ∃ h : j < xs.length, Sp xs[j]) := fun j h1 h2 => by
            by_cases e : j = k
            · subst e; exact ⟨hkx, by rw [hce]; exact hsp2⟩
            · exact HS.out j h1 (by omega)
          have hs := fun w => space_walk c w
          rw [@decide_eq_true _ (decSp c) hsp2] at hs
          clear hsp2 hce
          go_wp2_with fail
          refine (hs (w3.drewN m)).mono ?_
          rintro e w9 ⟨rfl, hw9⟩
          subst w9
          go_wp2
          go_roundw
          case rel => exact ⟨k + 1, _, by omega, by omega, by go_num, rfl, HS'⟩
          case measure => simp [intOf]; omega
        · obtain rfl : k = p := SpRun.det ⟨hk1, HS.out, fun h => by rw [hce]; exact hsp2⟩ hsp
          have hs := fun w => space_walk c w
          rw [@decide_eq_false _ (decSp c) hsp2] at hs
          clear hsp2 hce
          go_wp2_with fail
          refine (hs (w3.drewN m)).mono ?_
          rintro e w9 ⟨rfl, hw9⟩
          subst w9
          go_wp2_with fail
          refine (auto_walk (.slice (some ⟨b2, o2, none⟩) n n) xs k (w3.drewN m) (bv_drew hv2 m) (by have := hn.out; omega) hk2).mono ?_
          rintro e w9 ⟨hw9, q2, st2, rfl, hp2, hs2⟩
          subst w9
          have hacc : Acc st2 = true ∧ q2 = q := by
            have := hR.of hp2 hs2
            cases h : Acc st2 with
            | false => rw [h] at this; simp at this
            | true => rw [h] at this; simp at this; exact ⟨rfl, this.symm⟩
          rw [hacc.1]
          obtain rfl := hacc.2
          clear hacc
          have i5 : ((q2 - k : Nat) : Int) = (q2 : Int) - (k : Int) := by omega
          have i6 : 0 < q2 - k := by omega
          have i7 : (0 : Int) < ((q2 - k : Nat) : Int) := by omega
          have i8 : (k : Int) < (n : Int) := by omega
          go_wp2
          go_quiet (fail)
          go_wp2
          go_ret
          exact ⟨rfl, bel_drew (bel_drew hbel _) _⟩
      · obtain rfl : k = p := SpRun.det ⟨hk1, HS.out, fun h => absurd h (by have := hn.out; omega)⟩ hsp
        have d1 : decide ((k : Int) < (n : Int)) = false := decide_eq_false (by omega)
        exact absurd hpq (by omega)
end Go.Proofs.Qxb6601361a
