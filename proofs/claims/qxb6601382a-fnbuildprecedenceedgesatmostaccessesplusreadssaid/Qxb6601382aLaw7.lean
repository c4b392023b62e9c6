/- The law on the count of edges (4). -/
import Derived.Test.Qxb6601382aSmall
namespace Go.Proofs.Qxb6601382a
open Go.RowKit

theorem accesses_succ {ops : List POp} {i : Nat} (h : i < ops.length) : accesses (ops.take (i + 1)) = accesses (ops.take i) + (if ops[i].kind = 0 ∨ ops[i].kind = 1 then 1 else 0) := by
  rw [List.take_succ_eq_append_getElem h, accesses, List.filter_append, List.length_append, accesses]
  congr 1
  by_cases e : ops[i].kind = 0 ∨ ops[i].kind = 1 <;> simp [e]
theorem reads_succ {ops : List POp} {i : Nat} (h : i < ops.length) : reads (ops.take (i + 1)) = reads (ops.take i) + (if ops[i].kind = 0 then 1 else 0) := by
  rw [List.take_succ_eq_append_getElem h, reads, List.filter_append, List.length_append, reads]
  congr 1
  by_cases e : ops[i].kind = 0 <;> simp [e]
theorem accesses_le (ops : List POp) : accesses ops ≤ ops.length := List.length_filter_le _ _
theorem reads_le (ops : List POp) : reads ops ≤ ops.length := List.length_filter_le _ _
theorem esum_mono (L : Nat → List Int) {a b : Nat} (h : a ≤ b) : esum a L ≤ esum b L := by
  induction b with
  | zero => obtain rfl : a = 0 := by omega
            exact Nat.le_refl _
  | succ b ih =>
    by_cases e : a = b + 1
    · subst e; exact Nat.le_refl _
    · have := ih (by omega); rw [esum_succ]; omega

set_option maxRecDepth 100000 in
set_option maxHeartbeats 2000000 in
theorem law7 (ao : Option Addr) (len cap : Nat) (ops : List POp) (w : World) (ha : ArgOps w ao ops) (hok : OkOps ops) (hlen : Hid (ops.length = len)) (hz : ao = none → len = 0 ∧ cap = 0) :
    Calls Try.prog 4 #[.slice ao len cap] w fun e w' => e = .returned (.bool true) ∧ Below w.heap.size w w' := by
  have h20 := bytes20 ao len cap ops w ha hlen
  have h11 := big_walk ao len cap ops w ha hlen
  have HZ : Hid (ao = none → len = 0 ∧ cap = 0) := hz
  clear hz
  go_enter Try.func4, Try.ntmps4
  go_wp2_with fail
  refine h20.mono ?_
  rintro e w9 ⟨hw9, rfl | rfl⟩
  · subst w9
    by_cases hl : len ≤ 65536
    · go_wp2_with fail
      refine h11.mono ?_
      rintro e w9 ⟨hw9, rfl | ⟨rfl, -⟩⟩
      · subst w9
        go_wp2
        go_ret
        exact ⟨rfl, Below.refl _ _⟩
      · subst w9
        have h13 := toOps_any ao len cap ops w ha hlen hl HZ.out
        clear h20 h11
        go_wp2_with fail
        refine h13.mono ?_
        rintro e w1 ⟨ao1, cap1, rfl, hb1, hops1⟩
        have h12 := zzbuild ao1 len cap1 ops w1 hops1 hok hlen hl
        clear h13
        go_wp2_with fail
        refine h12.mono ?_
        rintro e w2 ⟨S, n, T, ta, tc, sv, rfl, hG⟩
        clear h12
        obtain ⟨nm, hnm⟩ : ∃ nm, (namesOf ops).length = nm := ⟨_, rfl⟩
        have hle := hG.le
        have hle2 := hG.le2
        rw [hnm] at hle hle2 ⊢
        have hle3 : nm ≤ len := by have := hlen.out; omega
        have hb2 : Below w.heap.size w w2 := hb1.trans (hG.bel.mono hb1.size)
        have ha2 : ArgOps w2 ao ops := ha.below hb2
        have hed := edges_le n (abOf ops) (nodeOf T) ops
        have hal := accesses_le ops
        have hrl := reads_le ops
        rw [hlen.out] at hal hrl
        obtain ⟨L, hL⟩ : ∃ L, (prun (abOf ops) (nodeOf T) ops).succ = L := ⟨_, rfl⟩
        have hsuc := hG.suc
        have hrow := hG.row
        rw [hL] at hed hsuc
        clear hG hL hnm hle2 ha hops1 hb1
        go_wp2
        go_loop [6, 7, 8] (fun v6 v7 v8 => ∃ k : Nat, k ≤ len ∧ v6 = .int .i64 (accesses (ops.take k) : Nat) ∧ v7 = .int .i64 (reads (ops.take k) : Nat) ∧ v8 = .int .i64 k) (fun _ _ v8 => len - (intOf v8).toNat)
        case atStart => exact ⟨0, Nat.zero_le _, by simp [accesses], by simp [reads], rfl⟩
        case round =>
          obtain ⟨k, hk, rfl, rfl, rfl⟩ := hrel
          by_cases hlt : k < len
          · have hkx : k < ops.length := by have := hlen.out; omega
            obtain ⟨b, o, rfl, hb, hc⟩ := ha2.get hkx
            obtain ⟨g0, -, -⟩ := hc k hkx
            have HA : Hid (accesses (ops.take (k + 1)) = accesses (ops.take k) + (if ops[k].kind = 0 ∨ ops[k].kind = 1 then 1 else 0)) := accesses_succ hkx
            have HR : Hid (reads (ops.take (k + 1)) = reads (ops.take k) + (if ops[k].kind = 0 then 1 else 0)) := reads_succ hkx
            have hak : accesses (ops.take k) ≤ 65536 := Nat.le_trans (accesses_le _) (by rw [List.length_take]; omega)
            have hrk : reads (ops.take k) ≤ 65536 := Nat.le_trans (reads_le _) (by rw [List.length_take]; omega)
            obtain ⟨kd, hkd⟩ : ∃ kd, ops[k].kind = kd := ⟨_, rfl⟩
            rw [hkd] at g0 HA HR
            clear hkd hc
            have i1 : (k : Int) < (len : Int) := by omega
            generalize accesses (ops.take k) = A at hak HA ⊢
            generalize reads (ops.take k) = R at hrk HR ⊢
            by_cases h0 : kd = 0
            · subst h0
              go_wp2
              go_round
              case rel => exact ⟨k + 1, by omega, by rw [HA.out]; go_num, by rw [HR.out]; go_num, by go_num⟩
              case measure => simp [intOf]; omega
            · have e0 : (kd == 0) = false := by simp [h0]
              by_cases h1 : kd = 1
              · subst h1
                go_wp2
                go_round
                case rel => exact ⟨k + 1, by omega, by rw [HA.out]; go_num, by rw [HR.out]; go_num, by go_num⟩
                case measure => simp [intOf]; omega
              · have e1 : (kd == 1) = false := by simp [h1]
                go_wp2
                go_round
                case rel => exact ⟨k + 1, by omega, by rw [HA.out]; simp [h0, h1], by rw [HR.out]; simp [h0], by go_num⟩
                case measure => simp [intOf]; omega
          · obtain rfl : k = len := by omega
            have htk : ops.take k = ops := List.take_of_length_le (by have := hlen.out; omega)
            rw [htk]
            clear htk
            generalize accesses ops = A at hed hal ⊢
            generalize reads ops = R at hed hrl ⊢
            have i2 : decide ((nm : Int) < (n : Int)) = false := decide_eq_false (by omega)
            have i3 : decide ((k : Int) < (nm : Int)) = false := decide_eq_false (by omega)
            go_wp2
            go_loop [9, 10] (fun v9 v10 => ∃ j : Nat, j ≤ n ∧ v9 = .int .i64 (esum j L : Nat) ∧ v10 = .int .i64 j) (fun _ v10 => n - (intOf v10).toNat)
            case atStart => exact ⟨0, Nat.zero_le _, by simp [esum], rfl⟩
            case round =>
              obtain ⟨j, hj, rfl, rfl⟩ := hrel
              by_cases hlt2 : j < n
              · have cS := hrow.cell (i := j) hlt2
                obtain ⟨ja, jc, hv⟩ := (hsuc j hlt2).form
                rw [hv] at cS
                have hes := esum_succ j L
                have hem := esum_mono L (a := j + 1) (b := n) (by omega)
                have HE : Hid (esum (j + 1) L = esum j L + (L j).length) := hes
                have hbd : esum j L + (L j).length ≤ 131072 := by omega
                clear hes hem
                generalize esum j L = E0 at hbd HE ⊢
                generalize (L j).length = lj at hbd HE cS
                have j1 : (j : Int) < (n : Int) := by omega
                clear hv
                go_wp2
                go_round
                case rel => exact ⟨j + 1, by omega, by rw [HE.out]; go_num, by go_num⟩
                case measure => simp [intOf]; omega
              · obtain rfl : j = n := by omega
                generalize esum j L = E0 at hed ⊢
                have hd : decide ((E0 : Int) ≤ (A : Int) + (R : Int)) = true := decide_eq_true (by omega)
                go_wp2
                go_ret
                exact ⟨rfl, hb2⟩
    · go_wp2
      go_ret
      exact ⟨rfl, Below.refl _ _⟩
  · subst w9
    go_wp2
    go_ret
    exact ⟨rfl, Below.refl _ _⟩
end Go.Proofs.Qxb6601382a
