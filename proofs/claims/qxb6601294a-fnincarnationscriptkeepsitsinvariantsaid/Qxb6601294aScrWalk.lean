import Derived.Test.Qxb6601294aTake3
import Derived.Test.Qxb6601294aClone
import Derived.OpenShut
namespace Go.Proofs.Qxb6601294a
open Go.RowKit

theorem ft_news {id sent : Int} {any : Bool} {hid hs : Int} (h : ftA id sent any hid hs ≠ 0) : 1 ≤ ftA id sent any hid hs ∧ ftA id sent any hid hs ≤ 2 ∧ ftId id sent any hid hs = hid ∧ hs ≤ ftSent id sent any hid hs ∧
    (any = false → ftA id sent any hid hs = 1) ∧ (any = false → ftSent id sent any hid hs = hs) ∧ (∀ ds, sent ≤ ds → hs ≤ ds → ftSent id sent any hid hs ≤ ds) := by
  cases any
  · simp [ftA, ftId, ftSent]
  · by_cases h1 : id < hid
    · simp [ftA, ftId, ftSent, h1]
      exact ⟨by omega, fun _ _ _ => by omega⟩
    · by_cases h2 : sent < hs
      · simp [ftA, ftId, ftSent, h1, h2]
      · simp [ftA, h1, h2] at h

/-- What holds of the incarnation's fields ahead of round k. -/
def Inv (k : Nat) (did ds : Int) (dany : Bool) (rid rs : Int) (rany : Bool) (news : Int) : Prop :=
  (k = 0 ∧ dany = false ∧ rany = false ∧ rid = 0 ∧ rs = 0 ∧ news = 0) ∨
  (1 ≤ k ∧ dany = true ∧ 0 ≤ news ∧ news ≤ 9 ∧ ((rany = true ∧ rid < did ∧ rs ≤ ds) ∨ (rany = false ∧ rid = 0 ∧ rs = 0 ∧ news = 0)))

theorem inv_news {k : Nat} {did ds : Int} {dany : Bool} {rid rs : Int} {rany : Bool} {news : Int} (h : Inv k did ds dany rid rs rany news) : 0 ≤ news ∧ news ≤ 9 := by
  rcases h with ⟨_, _, _, _, _, h⟩ | ⟨_, _, h1, h2, _⟩
  · omega
  · exact ⟨h1, h2⟩

theorem inv_step {k : Nat} {did ds : Int} {dany : Bool} {rid rs : Int} {rany : Bool} {news hid hs : Int} {x : Inc} (h : Inv k did ds dany rid rs rany news) (hx : itake did ds dany rid rs rany news hid hs = x) :
    (x.a = 0 ∧ 1 ≤ k ∧ dany = true ∧ x.did = did ∧ x.dsent = ds ∧ 0 ≤ x.news ∧ x.news ≤ 9 ∧ ((x.rany = true ∧ x.rid < did ∧ x.rsent ≤ ds) ∨ (x.rany = false ∧ x.rid = 0 ∧ x.rsent = 0 ∧ x.news = 0))) ∨
    (1 ≤ x.a ∧ x.a ≤ 3 ∧ (k = 0 → x.a = 1) ∧ x.did = hid ∧ hs ≤ x.dsent ∧ x.rid = 0 ∧ x.rsent = 0 ∧ x.rany = false ∧ x.news = 0) := by
  subst hx
  unfold itake
  by_cases h1 : ftA did ds dany hid hs ≠ 0
  · rw [if_pos h1]
    obtain ⟨a1, a2, a3, a4, a5, _, _⟩ := ft_news h1
    right
    refine ⟨a1, by show ftA did ds dany hid hs ≤ 3; omega, fun hk => ?_, a3, a4, rfl, rfl, rfl, rfl⟩
    rcases h with ⟨_, hd, _⟩ | ⟨h', _⟩
    · exact a5 hd
    · omega
  · rw [if_neg h1]
    obtain ⟨b1, b2, b3, _, _⟩ := ft_zero (show ftA did ds dany hid hs = 0 by omega)
    rcases h with ⟨_, hd, _⟩ | ⟨hk, _, n0, n9, hr⟩
    · rw [hd] at b1; cases b1
    · by_cases h2 : did ≤ hid
      · rw [if_pos h2]
        exact Or.inl ⟨rfl, hk, b1, rfl, rfl, n0, n9, hr⟩
      · rw [if_neg h2]
        by_cases h3 : ftA rid rs rany hid hs = 0
        · rw [if_pos h3]
          obtain ⟨c1, _⟩ := ft_zero h3
          refine Or.inl ⟨rfl, hk, b1, rfl, rfl, n0, n9, Or.inl ⟨rfl, ?_⟩⟩
          rcases hr with ⟨_, h⟩ | ⟨hf, _⟩
          · exact h
          · rw [hf] at c1; cases c1
        · rw [if_neg h3]
          obtain ⟨a1, a2, a3, a4, a5, a6, a7⟩ := ft_news h3
          by_cases h4 : news < 9
          · rw [if_pos h4]
            refine Or.inl ⟨rfl, hk, b1, rfl, rfl, by show 0 ≤ news + 1; omega, by show news + 1 ≤ 9; omega, Or.inl ⟨rfl, ?_, ?_⟩⟩
            · show ftId _ _ _ _ _ < did
              omega
            · show ftSent _ _ _ _ _ ≤ ds
              rcases hr with ⟨_, _, h⟩ | ⟨hf, _⟩
              · exact a7 ds h b3
              · rw [a6 hf]; exact b3
          · rw [if_neg h4]
            exact Or.inr ⟨by show (1 : Int) ≤ 3; omega, by show (3 : Int) ≤ 3; omega, fun h => by omega, a3, a4, rfl, rfl, rfl, rfl⟩

set_option maxRecDepth 100000 in
set_option maxHeartbeats 2000000 in
theorem scr_main (a : Addr) (n cap : Nat) (I S R : Nat → Int) (w : World) (hn : n ≤ 4096) (hH : ArgHB w a n I S R) :
    Calls Try.prog 10 #[.slice (some a) n cap] w fun e w' => e = .returned (.bool true) ∧ Below w.heap.size w w' := by
  have hn0 : (0 : Int) ≤ (n : Int) := by omega
  go_enter Try.func10, Try.ntmps10
  go_wp2_with (first | (go_at_call 36; go_call (bytes36 (some a) n cap (by omega)) as e w1 ⟨rfl, hww⟩; subst w1) | (go_at_call 29; go_call (clone_any a n cap I S R _ (by omega) hH) as e w1 ⟨rfl, hbel1, hsz1, hH1⟩))
  go_loopw [3, 4, 5, 6, 7, 8, 9, 10] (fun v3 v4 v5 v6 v7 v8 v9 v10 wr => ∃ (k : Nat) (did ds : Int) (dany : Bool) (rid rs : Int) (rany : Bool) (news : Int), k ≤ n ∧ v10 = .int .i64 k ∧ v3 = .int .u64 did ∧ v5 = .int .i64 ds ∧ v7 = .bool dany ∧
      v4 = .int .u64 rid ∧ v6 = .int .i64 rs ∧ v8 = .bool rany ∧ v9 = .int .i64 news ∧ Inv k did ds dany rid rs rany news ∧ Below w.heap.size w wr ∧ w.heap.size < wr.heap.size ∧ HBat wr w.heap.size 0 n I S R)
    (fun _ _ _ _ _ _ _ v10 _ => n - (intOf v10).toNat)
  case atStart => exact ⟨0, 0, 0, false, 0, 0, false, 0, Nat.zero_le _, rfl, rfl, rfl, rfl, rfl, rfl, rfl, rfl, Or.inl ⟨rfl, rfl, rfl, rfl, rfl, rfl⟩, hbel1, hsz1, hH1⟩
  case round =>
    obtain ⟨k, did, ds, dany, rid, rs, rany, news, hk, rfl, rfl, rfl, rfl, rfl, rfl, rfl, rfl, hinv, hbel, hsz, hHr⟩ := hrel
    clear hH hH1 hbel1 hsz1
    by_cases hlt : k < n
    · obtain ⟨c0, c1, c2⟩ := hHr k hlt
      rw [Nat.zero_add] at c0 c1 c2
      obtain ⟨n0, n9⟩ := inv_news hinv
      go_wp2_with fail
      refine (zz_any did ds dany rid rs rany news (I k) (S k) (R k) _ n0 n9).mono ?_
      rintro e w2 ⟨x, hx, rfl, hb2⟩
      have hst := inv_step hinv hx
      have hs2 := hb2.size
      simp only [World.size_alloc] at hs2
      have d0 : w2.cell? ⟨wr.heap.size, 0, none⟩ = some (.int .u64 (I k)) := by rw [hb2.cell (by simp)]; simp [go_sem]
      have d1 : w2.cell? ⟨wr.heap.size, 1, none⟩ = some (.int .i64 (S k)) := by rw [hb2.cell (by simp)]; simp [go_sem]
      have hbel2 : Below w.heap.size w w2 := (hbel.alloc hbel.size _).trans (hb2.mono (by simp; have := hbel.size; omega))
      have hH2 : HBat w2 w.heap.size 0 n I S R := (hHr.below ((Below.refl wr.heap.size wr).alloc (Nat.le_refl _) _) hsz).below hb2 (by simp; omega)
      have hsz2 : w.heap.size < w2.heap.size := by omega
      clear hb2 hHr c0 c1 c2 hx hinv
      obtain ⟨ar, did', ds', rid', rs', rany', news'⟩ := x
      rcases hst with ⟨ha, hk1, hda, hdid, hds, p0, p9, hr⟩ | ⟨ha1, ha3, hk0, hdid, hds, hrid, hrs, hra, hnw⟩
      · simp only at ha hdid hds p0 p9 hr
        subst ha hda hdid hds
        rcases hr with ⟨hra, hr1, hr2⟩ | ⟨hra, hr1, hr2, hr3⟩
        · subst hra
          go_wp2
          go_roundw
          case rel => exact ⟨k + 1, did', ds', true, rid', rs', true, news', by omega, by go_num, rfl, rfl, rfl, rfl, rfl, rfl, rfl, Or.inr ⟨by omega, rfl, p0, p9, Or.inl ⟨rfl, hr1, hr2⟩⟩, hbel2, hsz2, hH2⟩
          case measure => simp [intOf]; omega
        · subst hra hr1 hr2 hr3
          go_wp2
          go_roundw
          case rel => exact ⟨k + 1, did', ds', true, 0, 0, false, 0, by omega, by go_num, rfl, rfl, rfl, rfl, rfl, rfl, rfl, Or.inr ⟨by omega, rfl, p0, p9, Or.inr ⟨rfl, rfl, rfl, rfl⟩⟩, hbel2, hsz2, hH2⟩
          case measure => simp [intOf]; omega
      · simp only at ha1 ha3 hk0 hdid hds hrid hrs hra hnw
        subst hdid hrid hrs hra hnw
        by_cases hk1 : k = 0
        · have ha := hk0 hk1
          subst ha hk1
          clear hk0
          go_wp2
          go_roundw
          case rel => exact ⟨1, I 0, ds', true, 0, 0, false, 0, by omega, by go_num, rfl, rfl, rfl, rfl, rfl, rfl, rfl, Or.inr ⟨by omega, rfl, by omega, by omega, Or.inr ⟨rfl, rfl, rfl, rfl⟩⟩, hbel2, hsz2, hH2⟩
          case measure => simp [intOf]; omega
        · clear hk0
          go_wp2
          go_roundw
          case rel => exact ⟨k + 1, I k, ds', true, 0, 0, false, 0, by omega, by go_num, rfl, rfl, rfl, rfl, rfl, rfl, rfl, Or.inr ⟨by omega, rfl, by omega, by omega, Or.inr ⟨rfl, rfl, rfl, rfl⟩⟩, hbel2, hsz2, hH2⟩
          case measure => simp [intOf]; omega
    · go_wp2
      go_ret
      exact ⟨rfl, hbel⟩

set_option maxRecDepth 100000 in
theorem scr_nil (w : World) : Calls Try.prog 10 #[.slice none 0 0] w fun e w' => e = .returned (.bool true) ∧ Below w.heap.size w w' := by
  go_enter Try.func10, Try.ntmps10
  go_wp2_with (first | (go_at_call 36; go_call (bytes36 none 0 0 (by omega)) as e w1 ⟨rfl, hww⟩; subst w1) | (go_at_call 29; go_call (clone_nil w) as e w1 ⟨rfl, hww⟩; subst w1))
  go_rounds 1
  go_ret
  exact ⟨rfl, Below.refl _ _⟩

set_option maxRecDepth 100000 in
theorem scr_mid (a : Option Addr) (n cap : Nat) (w : World) (h1 : 4096 < n) (h2 : n ≤ 1048576) : Calls Try.prog 10 #[.slice a n cap] w fun e w' => e = .returned (.bool true) ∧ Below w.heap.size w w' := by
  go_enter Try.func10, Try.ntmps10
  go_wp2_with (go_at_call 36; go_call (bytes36 a n cap h2) as e w1 ⟨rfl, hww⟩; subst w1)
  go_ret
  exact ⟨rfl, Below.refl _ _⟩

set_option maxRecDepth 100000 in
theorem scr_big (a : Option Addr) (n cap : Nat) (w : World) (h2 : 1048576 < n) : Calls Try.prog 10 #[.slice a n cap] w fun e w' => e = .returned (.bool true) ∧ Below w.heap.size w w' := by
  go_enter Try.func10, Try.ntmps10
  go_wp2_with (go_at_call 36; go_call (bytes36_big a n cap h2) as e w1 ⟨rfl, hww⟩; subst w1)
  go_ret
  exact ⟨rfl, Below.refl _ _⟩
end Go.Proofs.Qxb6601294a

namespace Go.Proofs.Qxb6601294a.fnIncarnationScriptKeepsItsInvariant
open Go.RowKit
theorem walk (a0 : Option Addr) (len0 cap0 : Nat) (w : World) (h : (a0 = none ∧ len0 = 0 ∧ cap0 = 0) ∨ ∃ (a : Addr) (I S R : Nat → Int), a0 = some a ∧ len0 ≤ maxLen ∧ ArgHB w a len0 I S R) :
    Calls Try.prog 10 #[.slice a0 len0 cap0] w fun e w' => e = .returned (.bool true) ∧ Below w.heap.size w w' := by
  rcases h with ⟨rfl, rfl, rfl⟩ | ⟨a, I, S, R, rfl, _, hH⟩
  · exact scr_nil w
  · by_cases h1 : len0 ≤ 4096
    · exact scr_main a len0 cap0 I S R w h1 hH
    · by_cases h2 : len0 ≤ 1048576
      · exact scr_mid _ _ _ w (by omega) h2
      · exact scr_big _ _ _ w (by omega)
end Go.Proofs.Qxb6601294a.fnIncarnationScriptKeepsItsInvariant
