import Derived.Test.Qxb6601294aJoin
import Derived.OpenShut
namespace Go.Proofs.Qxb6601294a
open Go.RowKit

/-- The heartbeat of a round lies in its own variable. -/
theorem box_keep {w w' : World} {B : Nat} {a b c : Value} (h : w'.heap[B]? = w.heap[B]?) (h0 : w.cell? ⟨B, 0, none⟩ = some a) (h1 : w.cell? ⟨B, 1, none⟩ = some b) (h2 : w.cell? ⟨B, 2, none⟩ = some c) :
    w'.cell? ⟨B, 0, none⟩ = some a ∧ w'.cell? ⟨B, 1, none⟩ = some b ∧ w'.cell? ⟨B, 2, none⟩ = some c :=
  ⟨(World.cell?_of_block (w := w) (a := ⟨B, 0, none⟩) h).trans h0, (World.cell?_of_block (w := w) (a := ⟨B, 1, none⟩) h).trans h1, (World.cell?_of_block (w := w) (a := ⟨B, 2, none⟩) h).trans h2⟩

set_option maxRecDepth 100000 in
set_option maxHeartbeats 1000000 in
theorem his_main (a : Addr) (n cap : Nat) (I S R : Nat → Int) (w : World) (hn : n ≤ 4096) (hH : ArgHB w a n I S R) :
    Calls Try.prog 8 #[.slice (some a) n cap] w fun e w' => e = .returned (.bool true) ∧ Below w.heap.size w w' := by
  have hn0 : (0 : Int) ≤ (n : Int) := by omega
  go_enter Try.func8, Try.ntmps8
  go_wp2_with (first | (go_at_call 28; go_call (bytes28 (some a) n cap (by omega)) as e w1 ⟨rfl, hww⟩; subst w1) | (go_at_call 29; go_call (clone_any a n cap I S R _ (by omega) hH) as e w1 ⟨rfl, hbel1, hsz1, hH1⟩))

  go_loopw [3, 4, 5, 6, 7, 8, 9, 10, 11, 12, 13] (fun v3 v4 v5 v6 v7 v8 v9 v10 v11 v12 v13 wr => ∃ (k : Nat) (del riv : List Hb) (news : Int), k ≤ n ∧ v13 = .int .i64 k ∧ v3 = .int .u64 (mx Hb.id del) ∧ v5 = .int .i64 (mx Hb.s del) ∧ v7 = .bool (!del.isEmpty) ∧
      v4 = .int .u64 (mx Hb.id riv) ∧ v6 = .int .i64 (mx Hb.s riv) ∧ v8 = .bool (!riv.isEmpty) ∧ v9 = .int .i64 news ∧ v12 = .int .i64 news ∧ 0 ≤ news ∧ news ≤ 9 ∧ del.length ≤ k ∧ riv.length ≤ k ∧ St w wr n I S R v10 v11 del riv)
    (fun _ _ _ _ _ _ _ _ _ _ v13 _ => n - (intOf v13).toNat)
  case atStart => exact ⟨0, [], [], 0, Nat.zero_le _, rfl, rfl, rfl, rfl, rfl, rfl, rfl, rfl, rfl, by omega, by omega, by simp, by simp, hbel1, hsz1, hH1, Or.inl ⟨rfl, rfl⟩, Or.inl ⟨rfl, rfl⟩, fun _ hx _ => by cases hx⟩
  case round =>
    obtain ⟨k, del, riv, news, hk, rfl, rfl, rfl, rfl, rfl, rfl, rfl, rfl, rfl, n0, n9, hdl, hrl, hst⟩ := hrel
    obtain ⟨vd, hvd⟩ : ∃ v, v = u10 := ⟨_, rfl⟩
    obtain ⟨vr, hvr⟩ : ∃ v, v = u11 := ⟨_, rfl⟩
    subst hvd hvr
    clear hH hH1 hbel1 hsz1
    by_cases hlt : k < n
    · obtain ⟨c0, c1, c2⟩ := hst.hb k hlt
      rw [Nat.zero_add] at c0 c1 c2
      have hsz := hst.size
      obtain ⟨h, hh0, hh1, hh2⟩ : ∃ h : Hb, I k = h.id ∧ S k = h.s ∧ R k = h.r := ⟨⟨I k, S k, R k⟩, rfl, rfl, rfl⟩
      rw [hh0] at c0
      rw [hh1] at c1
      rw [hh2] at c2
      clear hh0 hh1 hh2
      go_wp2_with fail
      refine (zz_any (mx Hb.id del) (mx Hb.s del) (!del.isEmpty) (mx Hb.id riv) (mx Hb.s riv) (!riv.isEmpty) news h.id h.s h.r _ n0 n9).mono ?_
      rintro e w2 ⟨x, hx, rfl, hb2⟩
      have hs2 := hb2.size
      simp only [World.size_alloc] at hs2
      obtain ⟨d0, d1, d2⟩ : w2.cell? ⟨wr.heap.size, 0, none⟩ = some (.int .u64 h.id) ∧ w2.cell? ⟨wr.heap.size, 1, none⟩ = some (.int .i64 h.s) ∧ w2.cell? ⟨wr.heap.size, 2, none⟩ = some (.int .i64 h.r) :=
        box_keep (hb2.block wr.heap.size (by simp)) (by simp [go_sem]) (by simp [go_sem]) (by simp [go_sem])
      have hst2 : St w w2 n I S R vd vr del riv := (hst.below ((Below.refl _ _).alloc (Nat.le_refl _) _)).below hb2
      clear hb2 hst c0 c1 c2
      by_cases hA : cls del h ≠ 0
      · rw [it_del del riv news h hA] at hx
        subst hx
        have HA : Hid (cls del h ≠ 0) := hA
        have hAb : (cls del h != 0) = true := by simpa using hA
        clear hA
        go_wp2_with fail
        refine (class_any vd (w.heap.size + 1) del h _ hst2.hdel (by omega)).mono ?_
        rintro e w3 ⟨rfl, hb3⟩
        have hs3 := hb3.size
        have hst3 := hst2.below hb3
        obtain ⟨d0', d1', d2'⟩ := box_keep (hb3.block wr.heap.size (by omega)) d0 d1 d2
        clear d0 d1 d2 hb3 hst2
        go_wp2_with fail
        refine (join_any vd (w.heap.size + 1) del h (cls del h) _ hst3.hdel (by omega) (by have := hst3.size; omega)).mono ?_
        rintro e w4 ⟨g, m, cp, rfl, hm, hmp, hml, hhist, hg, hat, hgr⟩
        have hst4 := hst3.joinDel hm.out hmp hhist hg hat hgr
        have hl4 := hhist.hl rfl
        clear hhist hg hat hgr hst3 d0' d1' d2'
        have hmm : m ≤ 1048576 := by omega
        have hmb : ((m : Int) == 0) = false := by simp; omega
        generalize joinL del h (cls del h) = D at hst4 hl4 hm ⊢
        have hDe : D.isEmpty = false := by have := hm.out; cases D <;> simp_all
        have HDe : Hid (D.isEmpty = false) := hDe
        clear hDe
        go_wp2_with fail
        refine (maxID_any g m cp D _ hm.out (by omega) hl4).mono ?_
        rintro e w9 ⟨rfl, hw9⟩
        subst w9
        go_wp2_with fail
        refine (maxSent_any g m cp D _ hm.out (by omega) hl4).mono ?_
        rintro e w9 ⟨rfl, hw9⟩
        subst w9
        go_wp2
        go_roundw
        case rel => exact ⟨k + 1, D, [], 0, by omega, by go_num, rfl, rfl, by rw [HDe.out]; rfl, rfl, rfl, rfl, rfl, rfl, by omega, by omega, by have := hm.out; omega, by simp, hst4⟩
        case measure => simp [intOf]; omega
      · have hA0 : cls del h = 0 := by omega
        clear hA
        have hdne := cls_zero del h hA0
        obtain ⟨gd, cd, rfl, hgd0, hgd, _⟩ : ∃ g cap, vd = .slice (some ⟨g, 0, none⟩) del.length cap ∧ w.heap.size + 1 ≤ g ∧ g < w2.heap.size ∧ True := by
          rcases hst2.hdel with ⟨h', _⟩ | ⟨_, g, cap, h1, h2, h3, _⟩
          · exact absurd h' hdne
          · exact ⟨g, cap, h1, h2, h3, trivial⟩
        have hdp : 0 < del.length := List.length_pos_iff.2 hdne
        have hdb : ((del.length : Int) == 0) = false := by simp; omega
        have hde : (!del.isEmpty) = true := by cases del <;> simp_all
        have HDE : Hid ((!del.isEmpty) = true) := hde
        clear hde
        have HA0 : Hid (cls del h = 0) := hA0
        clear hA0
        go_wp2_with fail
        refine (class_any _ (w.heap.size + 1) del h _ hst2.hdel (by omega)).mono ?_
        rw [HA0.out]
        rintro e w3 ⟨rfl, hb3⟩
        have hs3 := hb3.size
        have hst3 := hst2.below hb3
        obtain ⟨d0', d1', d2'⟩ := box_keep (hb3.block wr.heap.size (by omega)) d0 d1 d2
        clear d0 d1 d2 hb3 hst2
        have hld := hst3.hdel.hist.hl rfl
        have hge0 := allGe_mx Hb.id h.id del hdne
        by_cases hge : mx Hb.id del ≤ h.id
        · have hgt : allGe Hb.id h.id del = true := by rw [hge0]; exact decide_eq_true hge
          rw [it_old del riv news h HA0.out hge] at hx
          subst hx
          clear hge0
          go_wp2_with fail
          refine (atLeast_any gd del.length cd del h.id _ rfl (by omega) hld).mono ?_
          rw [hgt]
          rintro e w9 ⟨rfl, hw9⟩
          subst w9
          clear hgt
          go_wp2_with fail
          refine (maxID_any gd del.length cd del _ rfl (by omega) hld).mono ?_
          rintro e w9 ⟨rfl, hw9⟩
          subst w9
          go_wp2_with fail
          refine (maxSent_any gd del.length cd del _ rfl (by omega) hld).mono ?_
          rintro e w9 ⟨rfl, hw9⟩
          subst w9
          rcases hst3.hriv with ⟨hr0, hr1⟩ | ⟨hrne, gr, cr, hr1, hr2, hr3, hr4⟩
          · subst hr0
            have hr1' : vr = .slice none 0 0 := hr1
            subst hr1'
            have hr5 : mx Hb.id [] = 0 := rfl
            have hr6 : mx Hb.s [] = 0 := rfl
            have hr7 : ([] : List Hb).isEmpty = true := rfl
            go_wp2
            go_roundw
            case rel => exact ⟨k + 1, del, [], news, by omega, by go_num, rfl, rfl, by rw [HDE.out], rfl, rfl, rfl, rfl, rfl, n0, n9, by omega, by simp, hst3⟩
            case measure => simp [intOf]; omega
          · have hr1' := hr1
            subst hr1'
            have hrp : 0 < riv.length := List.length_pos_iff.2 hrne
            have hrb : ((riv.length : Int) == 0) = false := by simp; omega
            have hre : riv.isEmpty = false := by cases riv <;> simp_all
            have hlr := hst3.hriv.hist.hl rfl
            go_wp2_with fail
            refine (maxID_any gr riv.length cr riv _ rfl (by omega) hlr).mono ?_
            rintro e w9 ⟨rfl, hw9⟩
            subst w9
            go_wp2_with fail
            refine (maxSent_any gr riv.length cr riv _ rfl (by omega) hlr).mono ?_
            rintro e w9 ⟨rfl, hw9⟩
            subst w9
            go_wp2
            go_roundw
            case rel => exact ⟨k + 1, del, riv, news, by omega, by go_num, rfl, rfl, by rw [HDE.out], rfl, rfl, by rw [hre]; rfl, rfl, rfl, n0, n9, by omega, by omega, hst3⟩
            case measure => simp [intOf]; omega
        · have hgt : allGe Hb.id h.id del = false := by rw [hge0]; exact decide_eq_false hge
          clear hge0
          by_cases hR : cls riv h = 0
          · rw [it_same del riv news h HA0.out (by omega) hR] at hx
            subst hx
            have hrne := cls_zero riv h hR
            obtain ⟨gr, cr, rfl, _⟩ : ∃ g cap, vr = .slice (some ⟨g, 0, none⟩) riv.length cap ∧ True := by
              rcases hst3.hriv with ⟨h', _⟩ | ⟨_, g, cap, h1, _⟩
              · exact absurd h' hrne
              · exact ⟨g, cap, h1, trivial⟩
            have hrp : 0 < riv.length := List.length_pos_iff.2 hrne
            have hrb : ((riv.length : Int) == 0) = false := by simp; omega
            have hre : riv.isEmpty = false := by cases riv <;> simp_all
            have HRE : Hid (riv.isEmpty = false) := hre
            clear hre
            have HR : Hid (cls riv h = 0) := hR
            clear hR
            go_wp2_with fail
            refine (atLeast_any gd del.length cd del h.id _ rfl (by omega) hld).mono ?_
            rw [hgt]
            rintro e w9 ⟨rfl, hw9⟩
            subst w9
            clear hgt
            go_wp2_with fail
            refine (class_any _ (w.heap.size + 1) riv h _ hst3.hriv (by omega)).mono ?_
            rw [HR.out]
            rintro e w5 ⟨rfl, hb5⟩
            have hst5 := hst3.below hb5
            have hld5 := hst5.hdel.hist.hl rfl
            have hlr5 := hst5.hriv.hist.hl rfl
            clear hb5 hst3 hld d0' d1' d2'
            go_wp2_with fail
            refine (maxID_any gd del.length cd del _ rfl (by omega) hld5).mono ?_
            rintro e w9 ⟨rfl, hw9⟩
            subst w9
            go_wp2_with fail
            refine (maxSent_any gd del.length cd del _ rfl (by omega) hld5).mono ?_
            rintro e w9 ⟨rfl, hw9⟩
            subst w9
            go_wp2_with fail
            refine (maxID_any gr riv.length cr riv _ rfl (by omega) hlr5).mono ?_
            rintro e w9 ⟨rfl, hw9⟩
            subst w9
            go_wp2_with fail
            refine (maxSent_any gr riv.length cr riv _ rfl (by omega) hlr5).mono ?_
            rintro e w9 ⟨rfl, hw9⟩
            subst w9
            go_wp2
            go_roundw
            case rel => exact ⟨k + 1, del, riv, news, by omega, by go_num, rfl, rfl, by rw [HDE.out], rfl, rfl, by rw [HRE.out]; rfl, rfl, rfl, n0, n9, by omega, by omega, hst5⟩
            case measure => simp [intOf]; omega
          · have hRb : (cls riv h != 0) = true := by simpa using hR
            by_cases h9 : news < 9
            · rw [it_news del riv news h HA0.out (by omega) hR h9] at hx
              subst hx
              clear hR
              go_wp2_with fail
              refine (atLeast_any gd del.length cd del h.id _ rfl (by omega) hld).mono ?_
              rw [hgt]
              rintro e w9 ⟨rfl, hw9⟩
              subst w9
              clear hgt
              go_wp2_with fail
              refine (class_any _ (w.heap.size + 1) riv h _ hst3.hriv (by omega)).mono ?_
              rintro e w5 ⟨rfl, hb5⟩
              have hs5 := hb5.size
              have hst5 := hst3.below hb5
              obtain ⟨e0, e1, e2⟩ := box_keep (hb5.block wr.heap.size (by omega)) d0' d1' d2'
              clear hb5 hst3 hld d0' d1' d2'
              go_wp2_with fail
              refine (join_any vr (w.heap.size + 1) riv h (cls riv h) _ hst5.hriv (by omega) (by have := hst5.size; omega)).mono ?_
              rintro e w6 ⟨g, m, cp, rfl, hm, hmp, hml, hhist, hg, hat, hgr⟩
              have hst6 := hst5.joinRiv hm.out hmp hhist hg hat hgr
              clear hhist hg hat hgr hst5 e0 e1 e2
              have hmb : ((m : Int) == 0) = false := by simp; omega
              generalize joinL riv h (cls riv h) = D at hst6 hm ⊢
              have hDe : Hid (D.isEmpty = false) := by have := hm.out; cases D <;> simp_all [Hid]
              have hld6 := hst6.hdel.hist.hl rfl
              have hlr6 := hst6.hriv.hist.hl rfl
              go_wp2_with fail
              refine (maxID_any gd del.length cd del _ rfl (by omega) hld6).mono ?_
              rintro e w9 ⟨rfl, hw9⟩
              subst w9
              go_wp2_with fail
              refine (maxSent_any gd del.length cd del _ rfl (by omega) hld6).mono ?_
              rintro e w9 ⟨rfl, hw9⟩
              subst w9
              go_wp2_with fail
              refine (maxID_any g m cp D _ hm.out (by omega) hlr6).mono ?_
              rintro e w9 ⟨rfl, hw9⟩
              subst w9
              go_wp2_with fail
              refine (maxSent_any g m cp D _ hm.out (by omega) hlr6).mono ?_
              rintro e w9 ⟨rfl, hw9⟩
              subst w9
              go_wp2
              go_roundw
              case rel => exact ⟨k + 1, del, D, news + 1, by omega, by go_num, rfl, rfl, by rw [HDE.out], rfl, rfl, by rw [hDe.out]; rfl, rfl, rfl, by omega, by omega, by omega, by have := hm.out; omega, hst6⟩
              case measure => simp [intOf]; omega
            · obtain rfl : news = 9 := by omega
              rw [it_over del riv h HA0.out (by omega) hR] at hx
              subst hx
              clear hR
              go_wp2_with fail
              refine (atLeast_any gd del.length cd del h.id _ rfl (by omega) hld).mono ?_
              rw [hgt]
              rintro e w9 ⟨rfl, hw9⟩
              subst w9
              clear hgt
              go_wp2_with fail
              refine (class_any _ (w.heap.size + 1) riv h _ hst3.hriv (by omega)).mono ?_
              rintro e w5 ⟨rfl, hb5⟩
              have hs5 := hb5.size
              have hst5 := hst3.below hb5
              obtain ⟨e0, e1, e2⟩ := box_keep (hb5.block wr.heap.size (by omega)) d0' d1' d2'
              clear hb5 hst3 hld d0' d1' d2'
              go_wp2_with fail
              refine (join_any vr (w.heap.size + 1) riv h (cls riv h) _ hst5.hriv (by omega) (by have := hst5.size; omega)).mono ?_
              rintro e w6 ⟨g, m, cp, rfl, hm, hmp, hml, hhist, hg, hat, hgr⟩
              have hst6 := hst5.joinRiv hm.out hmp hhist hg hat hgr
              clear hhist hg hat hgr hst5 e0 e1 e2
              have hmb : ((m : Int) == 0) = false := by simp; omega
              generalize joinL riv h (cls riv h) = D at hst6 hm ⊢
              have hDe : Hid (D.isEmpty = false) := by have := hm.out; cases D <;> simp_all [Hid]
              have hld6 := hst6.hdel.hist.hl rfl
              have hlr6 := hst6.hriv.hist.hl rfl
              go_wp2_with fail
              refine (maxID_any g m cp D _ hm.out (by omega) hlr6).mono ?_
              rintro e w9 ⟨rfl, hw9⟩
              subst w9
              go_wp2_with fail
              refine (maxSent_any g m cp D _ hm.out (by omega) hlr6).mono ?_
              rintro e w9 ⟨rfl, hw9⟩
              subst w9
              go_wp2
              go_roundw
              case rel => exact ⟨k + 1, D, [], 0, by omega, by go_num, rfl, rfl, by rw [hDe.out]; rfl, rfl, rfl, rfl, rfl, rfl, by omega, by omega, by have := hm.out; omega, by simp, hst6.over⟩
              case measure => simp [intOf]; omega
    · go_wp2
      go_ret
      exact ⟨rfl, hst.bel⟩

set_option maxRecDepth 100000 in
theorem his_nil (w : World) : Calls Try.prog 8 #[.slice none 0 0] w fun e w' => e = .returned (.bool true) ∧ Below w.heap.size w w' := by
  go_enter Try.func8, Try.ntmps8
  go_wp2_with (first | (go_at_call 28; go_call (bytes28 none 0 0 (by omega)) as e w1 ⟨rfl, hww⟩; subst w1) | (go_at_call 29; go_call (clone_nil w) as e w1 ⟨rfl, hww⟩; subst w1))
  go_rounds 1
  go_ret
  exact ⟨rfl, Below.refl _ _⟩

set_option maxRecDepth 100000 in
theorem his_mid (a : Option Addr) (n cap : Nat) (w : World) (h1 : 4096 < n) (h2 : n ≤ 1048576) : Calls Try.prog 8 #[.slice a n cap] w fun e w' => e = .returned (.bool true) ∧ Below w.heap.size w w' := by
  go_enter Try.func8, Try.ntmps8
  go_wp2_with (go_at_call 28; go_call (bytes28 a n cap h2) as e w1 ⟨rfl, hww⟩; subst w1)
  go_ret
  exact ⟨rfl, Below.refl _ _⟩

set_option maxRecDepth 100000 in
theorem his_big (a : Option Addr) (n cap : Nat) (w : World) (h2 : 1048576 < n) : Calls Try.prog 8 #[.slice a n cap] w fun e w' => e = .returned (.bool true) ∧ Below w.heap.size w w' := by
  go_enter Try.func8, Try.ntmps8
  go_wp2_with (go_at_call 28; go_call (bytes28_big a n cap h2) as e w1 ⟨rfl, hww⟩; subst w1)
  go_ret
  exact ⟨rfl, Below.refl _ _⟩
end Go.Proofs.Qxb6601294a

namespace Go.Proofs.Qxb6601294a.fnIncarnationTakeAgreesWithHistories
open Go.RowKit
theorem walk (a0 : Option Addr) (len0 cap0 : Nat) (w : World) (h : (a0 = none ∧ len0 = 0 ∧ cap0 = 0) ∨ ∃ (a : Addr) (I S R : Nat → Int), a0 = some a ∧ len0 ≤ maxLen ∧ ArgHB w a len0 I S R) :
    Calls Try.prog 8 #[.slice a0 len0 cap0] w fun e w' => e = .returned (.bool true) ∧ Below w.heap.size w w' := by
  rcases h with ⟨rfl, rfl, rfl⟩ | ⟨a, I, S, R, rfl, _, hH⟩
  · exact his_nil w
  · by_cases h1 : len0 ≤ 4096
    · exact his_main a len0 cap0 I S R w h1 hH
    · by_cases h2 : len0 ≤ 1048576
      · exact his_mid _ _ _ w (by omega) h2
      · exact his_big _ _ _ w (by omega)
end Go.Proofs.Qxb6601294a.fnIncarnationTakeAgreesWithHistories
