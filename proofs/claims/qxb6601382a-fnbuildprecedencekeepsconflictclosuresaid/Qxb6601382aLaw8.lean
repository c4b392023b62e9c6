/- The law on closures (3). -/
import Derived.Test.Qxb6601382aEdge
namespace Go.Proofs.Qxb6601382a
open Go.RowKit

theorem bel_dr {B q : Nat} {w w' : World} (h : Below B w w') : Below B w (w'.drewN q) := ⟨h.os, h.tape, h.output, h.size, h.block⟩
theorem mat_dr {w : World} {R n q : Nat} {M : Nat → Nat → Bool} (h : Mat w R n M) : Mat (w.drewN q) R n M := h.of_block fun _ _ _ => rfl
theorem item_eq {o p : POp} (h : o.key = p.key) : o.item = p.item := by
  unfold POp.key at h
  have h1 : o.item.data = p.item.data := Array.toList_inj.1 h
  exact ByteArray.ext h1

set_option maxRecDepth 100000 in
set_option maxHeartbeats 8000000 in
theorem law8 (ao : Option Addr) (len cap : Nat) (ops : List POp) (w : World) (ha : ArgOps w ao ops) (hok : OkOps ops) (hk0 : ∀ o ∈ ops, 0 ≤ o.kind) (hlen : Hid (ops.length = len)) (hz : ao = none → len = 0 ∧ cap = 0) :
    Calls Try.prog 3 #[.slice ao len cap] w fun e w' => e = .returned (.bool true) ∧ Below w.heap.size w w' := by
  have h10 := bytes10 ao len cap ops w ha hlen
  have h11 := big_walk ao len cap ops w ha hlen
  have HZ : Hid (ao = none → len = 0 ∧ cap = 0) := hz
  have HK0 : Hid (∀ o ∈ ops, 0 ≤ o.kind) := hk0
  clear hz hk0
  go_enter Try.func3, Try.ntmps3
  go_wp2_with fail
  refine h10.mono ?_
  rintro e w9 ⟨hw9, rfl | rfl⟩
  rotate_left
  · subst w9
    go_wp2
    go_ret
    exact ⟨rfl, Below.refl _ _⟩
  subst w9
  by_cases hl : len ≤ 256
  rotate_left
  · go_wp2
    go_ret
    exact ⟨rfl, Below.refl _ _⟩
  go_wp2_with fail
  refine h11.mono ?_
  rintro e w9 ⟨hw9, rfl | ⟨rfl, -⟩⟩
  · subst w9
    go_wp2
    go_ret
    exact ⟨rfl, Below.refl _ _⟩
  subst w9
  have h13 := toOps_any ao len cap ops w ha hlen (by omega) HZ.out
  clear h10 h11
  go_wp2_with fail
  refine h13.mono ?_
  rintro e w1 ⟨ao1, cap1, rfl, hb1, hops1⟩
  have h12 := zzbuild ao1 len cap1 ops w1 hops1 hok hlen (by omega)
  clear h13
  go_wp2_with fail
  refine h12.mono ?_
  rintro e w2 ⟨S, n, T, ta, tc, sv, rfl, hG⟩
  clear h12
  have hb2 : Below w.heap.size w w2 := hb1.trans (hG.bel.mono hb1.size)
  have ha2 : ArgOps w2 ao ops := ha.below hb2
  have HG : Hid (Graph w1 w2 ops S n T ta tc sv) := hG
  have hnl := hG.le
  have hnl2 := hG.le2
  obtain ⟨nm, hnm⟩ : ∃ nm, (namesOf ops).length = nm := ⟨_, rfl⟩
  rw [hnm] at hnl hnl2 ⊢
  have HNM : Hid ((namesOf ops).length = nm) := hnm
  have hnm2 : nm ≤ 256 := by have := hlen.out; omega
  obtain ⟨B0, hB0⟩ : ∃ B0, w2.heap.size = B0 := ⟨_, rfl⟩
  have HB2 : Hid (Below w.heap.size w w2) := hb2
  clear hG ha hops1 hb1 hb2 hnm hnl2
  obtain ⟨i0, hi0, hz0, hz1, hz2⟩ := info_parts info3
  obtain ⟨j0, hj0, hy0, hy1, hy2⟩ := info_parts info4
  go_wp2
  go_loopw [6, 7, 8] (fun v6 v7 v8 wx => ∃ (i m : Nat) (sa aa : Option Addr) (sc ac : Nat), i ≤ len ∧ v6 = .slice sa m sc ∧ v7 = .slice aa m ac ∧ v8 = .int .i64 i ∧ Hid ((namesOf (ops.take i)).length = m) ∧ m ≤ i ∧ SeenAt w2 wx B0 (namesOf (ops.take i)) ((namesOf (ops.take i)).map (abOf (ops.take i))) sa aa sc ac) (fun _ _ v8 _ => len - (intOf v8).toNat)
  case atStart => exact ⟨0, 0, none, none, 0, 0, Nat.zero_le _, rfl, rfl, rfl, rfl, Nat.le_refl _, ⟨World.ownsRow_nil _ _ _ _, World.ownsRow_nil _ _ _ _, fun b hb => by simp [Value.ownBlock] at hb, Below.refl _ _, by omega⟩⟩
  case round =>
    obtain ⟨i, m, sa, aa, sc, ac, hi, rfl, rfl, rfl, hm, hmi, hS⟩ := hrel
    by_cases hlt : i < len
    · have hix : i < ops.length := by have := hlen.out; omega
      obtain ⟨b, off, rfl, hbl, hc⟩ := ha2.get hix
      obtain ⟨g0, g1, g2⟩ := hc i hix
      rw [hB0] at hbl
      have g0w := g0
      rw [← hS.bel.cell (by exact hbl)] at g0 g1
      have hn1 := names_succ hix
      have hn2 := ab_succ hix
      obtain ⟨o, ho⟩ : ∃ o, ops[i] = o := ⟨_, rfl⟩
      rw [ho] at g0 g1 g0w hn1 hn2
      have hidx := indexOf sa m sc B0 (namesOf (ops.take i)) o.txn wr (by have := hS.own; rwa [hm.out] at this) hm (by omega)
      have i1 : (i : Int) < (len : Int) := by omega
      have hnd := names_nodup (ops.take i)
      have habn := @ab_not (ops.take i)
      have HG0 : Hid (w2.cell? ⟨b, off + i * 3, none⟩ = some (.int .u8 o.kind)) := g0w
      clear hc ho g2 g0w
      generalize hks : namesOf (ops.take i) = ks at hS hm hidx hn1 hnd habn
      generalize hab : abOf (ops.take i) = ab at hS hn2 habn
      have HN1 : Hid (namesOf (ops.take (i + 1)) = addK ks o.txn) := hn1
      have HN2 : Hid (abOf (ops.take (i + 1)) = updB ab o.txn (ab o.txn || (o.kind == 3))) := hn2
      clear hks hab hn1 hn2
      go_wp2_with fail
      refine hidx.mono ?_
      rintro e w9 ⟨rfl, hw9⟩
      subst w9
      clear hidx
      by_cases hin : o.txn ∈ ks
      · have hid : idxI ks o.txn = (ks.idxOf o.txn : Int) := if_pos hin
        have hidl : ks.idxOf o.txn < ks.length := List.idxOf_lt_length_of_mem hin
        have hak : addK ks o.txn = ks := if_pos hin
        have hfo := flags_old hnd ab (t := o.txn) (ab o.txn || (o.kind == 3))
        have hfs := flags_same (ks := ks) ab (t := o.txn)
        rw [hid]
        generalize ks.idxOf o.txn = d at hidl hfo
        have hdm : d < m := by have := hm.out; omega
        have HN3 : Hid (namesOf (ops.take (i + 1)) = ks) := HN1.out.trans hak
        obtain ⟨g, rfl, hcf⟩ := hS.fla.get (k := d) (by simpa using hidl)
        have hff := World.ownsRow.frozenAt hS.fla d
        generalize (ks.map ab)[d]'(by simpa using hidl) = fd at hcf
        have i2 : (d : Int) < (m : Int) := by omega
        have i3 : decide ((d : Int) < 0) = false := decide_eq_false (by omega)
        by_cases h3 : o.kind = 3
        · have e3 : (o.kind == 3) = true := by simp [h3]
          rw [e3, Bool.or_true] at hfo
          have HF : Hid ((namesOf (ops.take (i + 1))).map (abOf (ops.take (i + 1))) = (ks.map ab).set d true) := by
            show _ = _
            rw [HN3.out, HN2.out, e3, Bool.or_true]; exact hfo
          have hS2 := hS.flag (j := d)
          rw [h3] at g0
          clear hfo hfs hid hak hin habn hS e3 h3
          go_wp2
          go_roundw
          case rel => exact ⟨i + 1, m, sa, some ⟨g, 0, none⟩, sc, ac, by omega, rfl, rfl, by go_num, by rw [HN3.out]; exact hm, by omega, by rw [HF.out, HN3.out]; exact hS2⟩
          case measure => simp [intOf]; omega
        · have e3 : (o.kind == 3) = false := by simp [h3]
          have HF : Hid ((namesOf (ops.take (i + 1))).map (abOf (ops.take (i + 1))) = ks.map ab) := by
            show _ = _
            rw [HN3.out, HN2.out, e3, Bool.or_false]; exact hfs
          clear hfo hfs hid hak hin habn h3
          go_wp2
          go_roundw
          case rel => exact ⟨i + 1, m, sa, some ⟨g, 0, none⟩, sc, ac, by omega, rfl, rfl, by go_num, by rw [HN3.out]; exact hm, by omega, by rw [HF.out, HN3.out]; exact hS⟩
          case measure => simp [intOf]; omega
      · have hid : idxI ks o.txn = -1 := if_neg hin
        have hak : addK ks o.txn = ks ++ [o.txn] := if_neg hin
        have habf := habn hin
        have hfn := flags_new ab hin (ab o.txn || (o.kind == 3))
        rw [habf, Bool.false_or] at hfn
        have HN3 : Hid (namesOf (ops.take (i + 1)) = ks ++ [o.txn]) := HN1.out.trans hak
        have HF : Hid ((namesOf (ops.take (i + 1))).map (abOf (ops.take (i + 1))) = ks.map ab ++ [o.kind == 3]) := by
          show _ = _
          rw [HN3.out, HN2.out, habf, Bool.false_or]; exact hfn
        rw [hid]
        clear hfn habf hak hid hin habn
        have hmo := hm.out
        have hsw := hS.size
        have hown1 : wr.ownsRow B0 3 1 (.slice sa m sc) m (ints ks) := by have := hS.own; unfold OwnI at this; rw [hmo] at this; exact this
        go_upto_region 16 with (first
          | (at_builtin; refine wpList_append_lies _ rfl _ _ 24 rfl B0 3 i0 (.int .i64 0) 1 8 Try.underlying24 hi0 hz0 hz1 hz2 rfl (by decide) (.slice sa m sc) m (ints ks) rfl (hown1.alloc _) ⟨wr.heap.size, 0, none⟩ 1 1 [.int .i64 o.txn] rfl rfl (cell_one_new _ _ _) (by simp [Value.oneCell']) (by decide) (by unfold maxLen; omega) (by omega) (by simp; omega) (wr.heap.size + 1) (by simp) ?_
             intro gg cp w3 hown3 hgrow3 hat3 hlt3)
          | go_in)
        have hfl3 : OwnB w3 B0 (.slice aa m ac) (ks.map ab) := by
          have h0 := hS.fla
          rw [List.length_map, hmo] at h0
          refine OwnB.grown (World.ownsRow.alloc h0 _) hgrow3 ?_
          cases e : (Value.slice aa m ac).ownBlock with
          | none => exact Or.inl rfl
          | some x => exact Or.inr fun e' => hS.apart x (by rw [hmo]; exact e'.symm) (by rw [List.length_map, hmo]; exact e)
        have hfl4 : w3.ownsRow B0 4 1 (.slice aa m ac) m ((ks.map ab).map Value.bool) := by have := hfl3; unfold OwnB at this; rw [List.length_map, hmo] at this; exact this
        have hs3 := hgrow3.size
        simp at hs3
        have hpush : ∀ (o2 : Obj) (gg2 cp2 : Nat) (w4 : World), w4.ownsRow B0 4 1 (.slice (some ⟨gg2, 0, none⟩) (m + 1) cp2) (m + 1) ((ks.map ab).map Value.bool ++ [.bool false]) → (w3.alloc o2).grownBy w4 (Value.slice aa m ac).ownBlock → ((Value.slice aa m ac).ownBlock = some gg2 ∨ gg2 = w3.heap.size + 1) →
            SeenAt w2 w4 B0 (ks ++ [o.txn]) (ks.map ab ++ [false]) (some ⟨gg, 0, none⟩) (some ⟨gg2, 0, none⟩) cp cp2 := fun o2 gg2 cp2 w4 h1 h2 h3 => by
          subst hmo
          have hl : (ks.map ab).length = ks.length := by simp
          exact hS.push hgrow3 hown3 hat3 hlt3 (by rw [hl]; exact h2) (by rw [hl]; exact h1) (by rw [hl]; exact h3)
        clear hown1 hfl3 g0 g1
        by_cases h3 : o.kind = 3
        · have e3 : (o.kind == 3) = true := by simp [h3]
          have i4 : (m : Int) + 1 - 1 = (m : Int) := by omega
          go_wp2_with (first
            | (at_builtin; refine wpList_append_lies _ rfl _ _ 30 rfl B0 4 j0 (.bool false) 1 1 Try.underlying30 hj0 hy0 hy1 hy2 rfl (by decide) (.slice aa m ac) m ((ks.map ab).map Value.bool) rfl (hfl4.alloc _) ⟨w3.heap.size, 0, none⟩ 1 1 [.bool false] rfl rfl (cell_one_new _ _ _) (by simp [Value.oneCell']) (by decide) (by unfold maxLen; omega) (by omega) (by simp; omega) (w3.heap.size + 1) (by simp) ?_
               intro gg2 cp2 w4 hown4 hgrow4 hat4 hlt4
               have hS4 := hpush _ gg2 cp2 w4 hown4 hgrow4 hat4
               have g0' := (hS4.bel.cell (p := ⟨b, off + i * 3, none⟩) hbl).trans HG0.out
               rw [h3] at g0'
               obtain ⟨fd, hcm⟩ := OwnB.at hS4.fla (k := m) (by simp; omega)
               have hfm := World.ownsRow.frozenAt hS4.fla m)
            | go_in)
          have hS5 := hS4.flag (j := m)
          rw [set_last _ _ _ (by simp; exact hmo)] at hS5
          exact ⟨⟨i + 1, m + 1, some ⟨gg, 0, none⟩, some ⟨gg2, 0, none⟩, cp, cp2, by omega, rfl, rfl, by go_num, by rw [HN3.out]; simp [Hid, hmo], by omega, by rw [HF.out, HN3.out, e3]; exact hS5⟩, by simp [intOf]; omega⟩
        · have e3 : (o.kind == 3) = false := by simp [h3]
          go_wp2_with (first
            | (at_builtin; refine wpList_append_lies _ rfl _ _ 30 rfl B0 4 j0 (.bool false) 1 1 Try.underlying30 hj0 hy0 hy1 hy2 rfl (by decide) (.slice aa m ac) m ((ks.map ab).map Value.bool) rfl (hfl4.alloc _) ⟨w3.heap.size, 0, none⟩ 1 1 [.bool false] rfl rfl (cell_one_new _ _ _) (by simp [Value.oneCell']) (by decide) (by unfold maxLen; omega) (by omega) (by simp; omega) (w3.heap.size + 1) (by simp) ?_
               intro gg2 cp2 w4 hown4 hgrow4 hat4 hlt4
               have hS4 := hpush _ gg2 cp2 w4 hown4 hgrow4 hat4
               have g0' := (hS4.bel.cell (p := ⟨b, off + i * 3, none⟩) hbl).trans HG0.out)
            | go_in)
          have hS5 := hS4
          exact ⟨⟨i + 1, m + 1, some ⟨gg, 0, none⟩, some ⟨gg2, 0, none⟩, cp, cp2, by omega, rfl, rfl, by go_num, by rw [HN3.out]; simp [Hid, hmo], by omega, by rw [HF.out, HN3.out, e3]; exact hS5⟩, by simp [intOf]; omega⟩
    · obtain rfl : i = len := by omega
      have htk : ops.take i = ops := List.take_of_length_le (by have := hlen.out; omega)
      rw [htk] at hS hm
      obtain rfl : m = nm := by have := hm.out; have := HNM.out; omega
      obtain ⟨ks, hks⟩ : ∃ ks, namesOf ops = ks := ⟨_, rfl⟩
      obtain ⟨ab, hab⟩ : ∃ ab, abOf ops = ab := ⟨_, rfl⟩
      rw [hks, hab] at hS
      rw [hks] at hm
      have HKS : Hid (namesOf ops = ks) := hks
      have HAB : Hid (abOf ops = ab) := hab
      have hnd : Hid (ks.Nodup) := by rw [← hks]; exact names_nodup ops
      clear hks hab htk HNM hlt
      obtain ⟨B1, hB1⟩ : ∃ B1, wr.heap.size = B1 := ⟨_, rfl⟩
      have hB01 : B0 ≤ B1 := by rw [← hB1]; exact hS.size
      obtain ⟨W0, hW0⟩ : ∃ W0, W0 = wr := ⟨_, rfl⟩
      subst hW0
      go_wp2
      go_loopw [10, 11] (fun v10 v11 wx => ∃ (k l : Nat) (na : Option Addr) (nc : Nat), k ≤ m ∧ l ≤ k ∧ v10 = .slice na l nc ∧ v11 = .int .i64 k ∧ Hid ((nodesOf ab (ks.take k)).length = l) ∧ Below B1 W0 wx ∧ OwnI wx B1 (.slice na l nc) (nodesOf ab (ks.take k)) ∧ B1 ≤ wx.heap.size) (fun _ v11 _ => m - (intOf v11).toNat)
      case atStart => exact ⟨0, 0, none, 0, Nat.zero_le _, Nat.le_refl _, rfl, rfl, rfl, Below.refl _ _, World.ownsRow_nil _ _ _ _, by omega⟩
      case round =>
        obtain ⟨k, l, na, nc, hk, hlk, rfl, rfl, hln, hbx, hox, hsx⟩ := hrel
        by_cases hlt : k < m
        · have hkx : k < ks.length := by have := hm.out; omega
          have hfb : OwnB wr B0 (.slice aa (ks.map ab).length ac) (ks.map ab) := hS.fla.below (by rw [hB1]; exact hbx)
          obtain ⟨ga, rfl, hcf⟩ := hfb.get (k := k) (by simpa using hkx)
          have hob : OwnI wr B0 (.slice sa ks.length sc) ks := hS.own.below (by rw [hB1]; exact hbx)
          obtain ⟨gs, rfl, hcs⟩ := hob.get hkx
          rw [List.getElem_map] at hcf
          have hns := nodes_succ (ab := ab) hkx
          obtain ⟨x, hx⟩ : ∃ x, ks[k] = x := ⟨_, rfl⟩
          rw [hx] at hcf hcs hns
          have i1 : (k : Int) < (m : Int) := by omega
          have hown1 : wr.ownsRow B1 3 1 (.slice na l nc) l (ints (nodesOf ab (ks.take k))) := by have := hox; unfold OwnI at this; rw [hln.out] at this; exact this
          clear hfb hob hx
          cases hb : ab x with
          | true =>
            rw [hb] at hcf hns
            have HNS : Hid (nodesOf ab (ks.take (k + 1)) = nodesOf ab (ks.take k)) := hns
            clear hns hb
            go_wp2
            go_roundw
            case rel => exact ⟨k + 1, l, na, nc, by omega, by omega, rfl, by go_num, by rw [HNS.out]; exact hln, hbx, by rw [HNS.out]; exact hox, hsx⟩
            case measure => simp [intOf]; omega
          | false =>
            rw [hb] at hcf hns
            have HNS : Hid (nodesOf ab (ks.take (k + 1)) = nodesOf ab (ks.take k) ++ [x]) := hns
            clear hns hb
            generalize hnk : nodesOf ab (ks.take k) = nk at hox hln HNS hown1
            go_wp2_with (first
              | (at_builtin; refine wpList_append_lies _ rfl _ _ 24 rfl B1 3 i0 (.int .i64 0) 1 8 Try.underlying24 hi0 hz0 hz1 hz2 rfl (by decide) (.slice na l nc) l (ints nk) rfl (hown1.alloc _) ⟨wr.heap.size, 0, none⟩ 1 1 [.int .i64 x] rfl rfl (cell_one_new _ _ _) (by simp [Value.oneCell']) (by decide) (by unfold maxLen; omega) (by omega) (by simp; omega) (wr.heap.size + 1) (by simp) ?_
                 intro gg cp w3 hown3 hgrow3 hat3 hlt3)
              | go_in)
            have hbz : Below B1 W0 w3 := (hbx.alloc hsx _).grown hgrow3 (by simp; omega) (fun j hj => (World.ownsRow.lt hown1 j hj).1)
            have hsz3 : B1 ≤ w3.heap.size := by have := hgrow3.size; simp at this; omega
            have hoz : OwnI w3 B1 (.slice (some ⟨gg, 0, none⟩) (l + 1) cp) (nk ++ [x]) := by
              have hl := hln.out
              subst hl
              have := app_own hown3
              rwa [List.length_append] at this
            first
              | exact ⟨⟨k + 1, l + 1, some ⟨gg, 0, none⟩, cp, by omega, by omega, rfl, by go_num, by rw [HNS.out]; simp [Hid, hln.out], hbz, by rw [HNS.out]; exact hoz, hsz3⟩, by simp [intOf]; omega⟩
              | (go_roundw
                 case rel => exact ⟨k + 1, l + 1, some ⟨gg, 0, none⟩, cp, by omega, by omega, rfl, by go_num, by rw [HNS.out]; simp [Hid, hln.out], hbz, by rw [HNS.out]; exact hoz, hsz3⟩
                 case measure => simp [intOf]; omega)
        · obtain rfl : k = m := by omega
          rw [show ks.take k = ks from List.take_of_length_le (by have := hm.out; omega)] at hox hln
          have hsrt := insSort na l nc B1 (nodesOf ab ks) wr hox hln (by omega)
          go_wp2_with fail
          refine hsrt.mono ?_
          rintro e w5 ⟨rfl, hg5, l', hp5, hs5, ho5⟩
          have hTl : l' = T := by
            refine sorted_eq (hp5.trans (perm_of_mem (hnd.out.filter _) HG.out.nodup fun x => ?_)) hs5 HG.out.sorted
            rw [HG.out.mem x, HKS.out, HAB.out]
            simp [nodesOf, List.mem_filter]
          subst hTl
          have hln2 : l = n := by rw [← hln.out, ← HG.out.len]; exact hp5.length_eq.symm
          subst hln2
          have hb5 : Below B1 W0 w5 := hbx.grown hg5 hsx (fun j hj => (hox.lt j hj).1)
          have hsz5 : B1 ≤ w5.heap.size := by have := hg5.size; omega
          clear hsrt hox hln hp5 hs5 hg5 hbx hsx
          have hB5 : Below B0 w2 w5 := hS.bel.trans (hb5.mono hB01)
          have hB5' : Below w2.heap.size w2 w5 := by rw [hB0]; exact hB5
          have hT5 := HG.out.own.below hB5'
          have hTn := HG.out.len
          have heq := equalInts ta na l tc nc w1.heap.size B1 l' w5 hT5 ho5 hTn (by omega)
          go_wp2_with fail
          refine heq.mono ?_
          rintro e w6 ⟨rfl, q6, hw6⟩
          have hb56 : Below w5.heap.size w5 w6 := by rw [hw6]; exact ⟨rfl, rfl, rfl, Nat.le_refl _, fun _ _ => rfl⟩
          have hB6 : Below w2.heap.size w2 w6 := hB5'.trans (hb56.mono (by rw [hB0]; omega))
          have HT : Hid (Below w.heap.size w w6) := HB2.out.trans (hB6.mono HB2.out.size)
          have ha6 : ArgOps w6 ao ops := ha2.below hB6
          have hrow6 : w6.rowIs S 24 l sv := HG.out.row.of_block (hB6.block S HG.out.row.lt)
          have hsuc6 : ∀ j, j < l → OwnI w6 w1.heap.size (sv j) ((prun (abOf ops) (nodeOf l') ops).succ j) := fun j hj => (HG.out.suc j hj).below hB6
          have ho6 : OwnI w6 B1 (.slice na l nc) l' := ho5.below hb56
          have hmem := HG.out.mem
          clear heq hw6 hT5 ho5 hb5 hsz5 hB5 hB5' hb56 hB6 HG HB2 hS hnd HKS HAB hm ha2 hB01 hB1 hB0 hnm2 hnl
          obtain ⟨L, hL⟩ : ∃ L, (prun (abOf ops) (nodeOf l') ops).succ = L := ⟨_, rfl⟩
          have hed : Hid (∀ (a : Nat) (x : Int), x ∈ L a → ∃ b : Nat, x = b ∧ b < l ∧ a < l ∧ b ≠ a) := fun a x hx => by
            rw [← hL] at hx
            have := edge_ok hmem hx
            rwa [hTn] at this
          have HMEM : Hid (∀ x, x ∈ l' ↔ x ∈ namesOf ops ∧ abOf ops x = false) := hmem
          rw [hL] at hsuc6
          have HL : Hid ((prun (abOf ops) (nodeOf l') ops).succ = L) := hL
          have HTN : Hid (l'.length = l) := hTn
          clear hL hmem hTn
          obtain ⟨R1, hR1⟩ : ∃ R1, w6.heap.size = R1 := ⟨_, rfl⟩
          have hnew1 := newMat l w6 (by omega) R1 hR1
          go_wp2_with fail
          refine hnew1.mono ?_
          rintro e w7 ⟨rfl, hb7, hM7⟩
          clear hnew1
          have hrowS := hrow6.lt
          go_wp2
          go_loopw [14] (fun v wx => ∃ (v' : Nat) (C : Nat → Nat → Bool), v' ≤ l ∧ v = .int .i64 v' ∧ Below R1 w6 wx ∧ Mat wx R1 l C ∧ Hid (∀ a b, C a b = true ↔ a < v' ∧ (b : Int) ∈ L a)) (fun v _ => l - (intOf v).toNat)
          case atStart => exact ⟨0, _, Nat.zero_le _, rfl, hb7, hM7, fun a b => by simp⟩
          case round =>
            obtain ⟨v', C, hv, rfl, hbx, hMx, hC⟩ := hrel
            by_cases hlt : v' < l
            · have i1 : (v' : Int) < (l : Int) := by omega
              have cS := hrow6.cell (i := v') hlt
              rw [← hbx.cell (p := ⟨S, v', none⟩) (by show S < R1; omega)] at cS
              have hov : OwnI wr w1.heap.size (sv v') (L v') := (hsuc6 v' hlt).below (by rw [hR1]; exact hbx)
              obtain ⟨ra, rc, hrv⟩ := hov.form
              obtain ⟨rl, hrl⟩ : ∃ rl, (L v').length = rl := ⟨_, rfl⟩
              have HRL : Hid ((L v').length = rl) := hrl
              rw [hrl] at hrv
              rw [hrv] at cS
              have hov6 : OwnI w6 w1.heap.size (.slice ra rl rc) (L v') := by rw [← hrv]; exact hsuc6 v' hlt
              have hrb : rl ≤ 9223372036854775807 := by
                rcases hov6.2 with ⟨h1, h2⟩ | ⟨g, cap', cur, h1, h2, h3, h4, h5, h6, h7⟩
                · omega
                · unfold maxLen at h5; omega
              clear hov hrl hrv
              go_wp2
              clear cS
              rename_i wrp
              go_loopw [16] (fun v wx => ∃ (e : Nat) (C' : Nat → Nat → Bool), e ≤ rl ∧ v = .int .i64 e ∧ Below R1 w6 wx ∧ Mat wx R1 l C' ∧ Hid (∀ a b, C' a b = true ↔ (a < v' ∧ (b : Int) ∈ L a) ∨ (a = v' ∧ (b : Int) ∈ (L v').take e))) (fun v _ => rl - (intOf v).toNat)
              case atStart => exact ⟨0, C, Nat.zero_le _, rfl, hbx, hMx, fun a b => by simp only [List.take_zero, List.not_mem_nil, and_false, or_false]; exact hC.out a b⟩
              case round =>
                obtain ⟨e, C', he, rfl, hby, hMy, hC'⟩ := hrel
                by_cases hlt2 : e < rl
                · have hex : e < (L v').length := by have := HRL.out; omega
                  have ho7 : OwnI wr w1.heap.size (.slice ra rl rc) (L v') := hov6.below (by rw [hR1]; exact hby)
                  obtain ⟨g, rfl, hcell⟩ := ho7.get hex
                  obtain ⟨h, hh, hhl, -, hhv⟩ := hed.out v' _ (List.getElem_mem hex)
                  have ht := List.take_succ_eq_append_getElem hex
                  rw [hh] at hcell ht
                  have HC2 : Hid (∀ a b, updM C' v' h a b = true ↔ (a < v' ∧ (b : Int) ∈ L a) ∨ (a = v' ∧ (b : Int) ∈ (L v').take (e + 1))) := fun a b => by
                    rw [ht]
                    unfold updM
                    by_cases e1 : a = v' ∧ b = h
                    · rw [if_pos e1]
                      simp only [true_iff]
                      right
                      refine ⟨e1.1, List.mem_append_right _ ?_⟩
                      rw [e1.2]; exact List.mem_singleton.2 rfl
                    · rw [if_neg e1, hC'.out a b]
                      refine ⟨fun h1 => h1.imp id fun h2 => ⟨h2.1, List.mem_append_left _ h2.2⟩, fun h1 => h1.imp id fun h2 => ⟨h2.1, ?_⟩⟩
                      rcases List.mem_append.1 h2.2 with h3 | h3
                      · exact h3
                      · exact absurd ⟨h2.1, by have := List.mem_singleton.1 h3; omega⟩ e1
                  have r0 := hMy.1.cell (i := v') hlt
                  have r1 := (hMy.2 v' hlt).cell (i := h) hhl
                  have f1 := (hMy.2 v' hlt).frozen h
                  have hMz := hMy.set (i := v') (j := h)
                  have hbz : Below R1 w6 (wr.setCell ⟨R1 + 1 + v', h, none⟩ (.bool true)) := hby.setCell (by show R1 ≤ R1 + 1 + v'; omega) _
                  generalize C' v' h = cvh at r1
                  have i2 : (e : Int) < (rl : Int) := by omega
                  have i3 : decide ((h : Int) < 0) = false := decide_eq_false (by omega)
                  have i4 : decide ((l : Int) ≤ (h : Int)) = false := decide_eq_false (by omega)
                  have i5 : ((h : Int) == (v' : Int)) = false := by simp; omega
                  have i6 : (h : Int) < (l : Int) := by omega
                  clear ho7 hh ht hC' hex
                  go_wp2
                  go_roundw
                  case rel => exact ⟨e + 1, _, by omega, by go_num, hbz, hMz, HC2.out⟩
                  case measure => simp [intOf]; omega
                · obtain rfl : e = rl := by omega
                  have hC3 : Hid (∀ a b, C' a b = true ↔ a < v' + 1 ∧ (b : Int) ∈ L a) := fun a b => by
                    rw [hC'.out a b, List.take_of_length_le (by have := HRL.out; omega)]
                    refine ⟨fun h1 => ?_, fun h1 => ?_⟩
                    · rcases h1 with h1 | ⟨rfl, h1⟩
                      · exact ⟨by omega, h1.2⟩
                      · exact ⟨by omega, h1⟩
                    · by_cases e : a = v'
                      · subst e; exact Or.inr ⟨rfl, h1.2⟩
                      · exact Or.inl ⟨by omega, h1.2⟩
                  clear hC' hC
                  go_wp2
                  go_roundw
                  case rel => exact ⟨v' + 1, C', by omega, by go_num, hby, hMy, hC3.out⟩
                  case measure => simp [intOf]; omega
            · obtain rfl : v' = l := by omega
              have hGot : Hid (∀ a b, a < v' → b < v' → (C a b = true ↔ Got (prun (abOf ops) (nodeOf l') ops) a b)) := fun a b ha hb => by
                rw [hC.out a b, Got, HL.out]
                exact ⟨fun h => h.2, fun h => ⟨ha, h⟩⟩
              have ha8 : ArgOps wr ao ops := ha6.below (by rw [hR1]; exact hbx)
              have ho8 : OwnI wr B1 (.slice na v' nc) l' := ho6.below (by rw [hR1]; exact hbx)
              have HT8 : Hid (Below w.heap.size w wr) := HT.out.trans (hbx.mono (by rw [← hR1]; exact HT.out.size))
              clear hC hsuc6 hrow6 ho6 ha6 hM7 hb7 HT HL hed hrowS
              obtain ⟨R2, hR2⟩ : ∃ R2, wr.heap.size = R2 := ⟨_, rfl⟩
              have hMlt := hMx.lt
              have hnew2 := newMat v' wr (by omega) R2 hR2
              go_wp2_with fail
              refine hnew2.mono ?_
              rintro e w9 ⟨rfl, hb9, hM9⟩
              clear hnew2
              obtain ⟨W8, hW8⟩ : ∃ W8, W8 = wr := ⟨_, rfl⟩
              subst hW8
              go_wp2
              go_loopw [19] (fun v wx => ∃ (jj : Nat) (C2 : Nat → Nat → Bool), jj ≤ i ∧ v = .int .i64 jj ∧ Below R2 W8 wx ∧ Mat wx R2 v' C2 ∧ Hid (∀ a b, C2 a b = true ↔ Upto8 (abOf ops) (nodeOf l') ops jj 0 a b)) (fun v _ => i - (intOf v).toNat)
              case atStart => exact ⟨0, _, Nat.zero_le _, rfl, hb9, hM9, fun a b => by simp only [Bool.false_eq_true, false_iff]; exact upto_none⟩
              case round =>
                obtain ⟨jj, C2, hjj, rfl, hbx2, hMx2, hC2⟩ := hrel
                by_cases hlt2 : jj < i
                · have hjx : jj < ops.length := by have := hlen.out; omega
                  obtain ⟨b, off, rfl, hbl, hc⟩ := ha8.get hjx
                  rw [hR2] at hbl
                  have i1 : (jj : Int) < (i : Int) := by omega
                  go_wp2
                  rename_i wrz
                  go_loopw [20] (fun v wx => ∃ (ii : Nat) (C3 : Nat → Nat → Bool), ii ≤ jj ∧ v = .int .i64 ii ∧ Below R2 W8 wx ∧ Mat wx R2 v' C3 ∧ Hid (∀ a b, C3 a b = true ↔ Upto8 (abOf ops) (nodeOf l') ops jj ii a b)) (fun v _ => jj - (intOf v).toNat)
                  case atStart => exact ⟨0, C2, Nat.zero_le _, rfl, hbx2, hMx2, hC2.out⟩
                  case round =>
                    obtain ⟨ii, C3, hii, rfl, hby, hMy, hC3⟩ := hrel
                    by_cases hlt3 : ii < jj
                    · have hix : ii < ops.length := by omega
                      obtain ⟨p0, p1, p2⟩ := hc ii hix
                      obtain ⟨q0, q1, q2⟩ := hc jj hjx
                      rw [← hby.cell (by exact hbl)] at p0 p1 p2 q0 q1 q2
                      have hskip : ¬ Conf (abOf ops) ops[ii] ops[jj] → Hid (∀ a b, C3 a b = true ↔ Upto8 (abOf ops) (nodeOf l') ops jj (ii + 1) a b) := fun hc a b => by rw [upto_skip hix hjx hc]; exact hC3.out a b
                      have hhit : Conf (abOf ops) ops[ii] ops[jj] → Hid (∀ a b, updM C3 (nodeOf l' ops[ii].txn) (nodeOf l' ops[jj].txn) a b = true ↔ Upto8 (abOf ops) (nodeOf l') ops jj (ii + 1) a b) := fun hc a b => by
                        rw [upto_hit hix hjx hlt3 hc]
                        unfold updM
                        by_cases e : a = nodeOf l' ops[ii].txn ∧ b = nodeOf l' ops[jj].txn
                        · rw [if_pos e]; simp [e]
                        · rw [if_neg e, hC3.out a b]; exact ⟨Or.inl, fun h => h.resolve_right e⟩
                      have hki := HK0.out _ (List.getElem_mem hix)
                      have hkj := HK0.out _ (List.getElem_mem hjx)
                      have hmi := live_mem HMEM.out (List.getElem_mem hix)
                      have hmj := live_mem HMEM.out (List.getElem_mem hjx)
                      have hti : ops[ii].txn ∈ l' → abOf ops ops[ii].txn = false := fun h => ((HMEM.out _).1 h).2
                      have htj : ops[jj].txn ∈ l' → abOf ops ops[jj].txn = false := fun h => ((HMEM.out _).1 h).2
                      obtain ⟨oi, hoi⟩ : ∃ oi, ops[ii] = oi := ⟨_, rfl⟩
                      obtain ⟨oj, hoj⟩ : ∃ oj, ops[jj] = oj := ⟨_, rfl⟩
                      rw [hoi] at p0 p1 p2 hskip hhit hki hmi hti
                      rw [hoj] at q0 q1 q2 hskip hhit hkj hmj htj
                      have HSK : Hid (¬ Conf (abOf ops) oi oj → Hid (∀ a b, C3 a b = true ↔ Upto8 (abOf ops) (nodeOf l') ops jj (ii + 1) a b)) := hskip
                      have HHT : Hid (Conf (abOf ops) oi oj → Hid (∀ a b, updM C3 (nodeOf l' oi.txn) (nodeOf l' oj.txn) a b = true ↔ Upto8 (abOf ops) (nodeOf l') ops jj (ii + 1) a b)) := hhit
                      have i2 : (ii : Int) < (jj : Int) := by omega
                      have i3 : (ii : Int) < (i : Int) := by omega
                      clear hskip hhit hoi hoj hC3
                      by_cases a1 : 1 < oi.kind
                      · have HS2 := HSK.out fun hc => by have := live_kind hc.1; omega
                        have HS3 : Hid (∀ a b, C3 a b = true ↔ Upto8 (abOf ops) (nodeOf l') ops jj (ii + 1) a b) := HS2
                        clear HS2 hmi hmj hti htj
                        have d1 : decide (1 < oi.kind) = true := decide_eq_true a1
                        go_wp2
                        go_roundw
                        case rel => exact ⟨ii + 1, C3, by omega, by go_num, hby, hMy, HS3.out⟩
                        case measure => simp [intOf]; omega
                      have d1 : decide (1 < oi.kind) = false := decide_eq_false a1
                      by_cases a2 : 1 < oj.kind
                      · have HS2 := HSK.out fun hc => by have := live_kind hc.2.1; omega
                        have HS3 : Hid (∀ a b, C3 a b = true ↔ Upto8 (abOf ops) (nodeOf l') ops jj (ii + 1) a b) := HS2
                        clear HS2 hmi hmj hti htj
                        have d2 : decide (1 < oj.kind) = true := decide_eq_true a2
                        go_wp2
                        go_roundw
                        case rel => exact ⟨ii + 1, C3, by omega, by go_num, hby, hMy, HS3.out⟩
                        case measure => simp [intOf]; omega
                      have d2 : decide (1 < oj.kind) = false := decide_eq_false a2
                      by_cases a3 : oi.kind = 1 ∨ oj.kind = 1
                      rotate_left
                      · have HS2 := HSK.out fun hc => a3 hc.2.2.1
                        have HS3 : Hid (∀ a b, C3 a b = true ↔ Upto8 (abOf ops) (nodeOf l') ops jj (ii + 1) a b) := HS2
                        clear HS2 hmi hmj hti htj
                        have d3 : (oi.kind != 1) = true := by simp; omega
                        have d4 : (oj.kind != 1) = true := by simp; omega
                        go_wp2
                        go_roundw
                        case rel => exact ⟨ii + 1, C3, by omega, by go_num, hby, hMy, HS3.out⟩
                        case measure => simp [intOf]; omega
                      have a4 : ((oi.kind != 1) = false) ∨ ((oi.kind != 1) = true ∧ (oj.kind != 1) = false) := by
                        by_cases h : oi.kind = 1
                        · left; simp [h]
                        · right; exact ⟨by simp [h], by have := a3.resolve_left h; simp [this]⟩
                      have hlvi : oi.txn ∈ l' → Live (abOf ops) oi := fun h hs => by
                        rcases hs with h1 | h1
                        · rw [hti h] at h1; cases h1
                        · omega
                      have hlvj : oj.txn ∈ l' → Live (abOf ops) oj := fun h hs => by
                        rcases hs with h1 | h1
                        · rw [htj h] at h1; cases h1
                        · omega
                      have HMI : Hid (Live (abOf ops) oi → oi.txn ∈ l') := hmi
                      have HMJ : Hid (Live (abOf ops) oj → oj.txn ∈ l') := hmj
                      have HVI : Hid (oi.txn ∈ l' → Live (abOf ops) oi) := hlvi
                      have HVJ : Hid (oj.txn ∈ l' → Live (abOf ops) oj) := hlvj
                      have HA3 : Hid (oi.kind = 1 ∨ oj.kind = 1) := a3
                      clear hmi hmj hti htj hlvi hlvj a3 a1 a2 hki hkj
                      by_cases b1 : oi.item = oj.item
                      rotate_left
                      · have HS2 := HSK.out fun hc => b1 (item_eq hc.2.2.2.1)
                        have HS3 : Hid (∀ a b, C3 a b = true ↔ Upto8 (abOf ops) (nodeOf l') ops jj (ii + 1) a b) := HS2
                        have e1 : (oi.item.toList == oj.item.toList) = false := by
                          rw [ByteArray.toList_eq, ByteArray.toList_eq]
                          exact beq_false_of_ne fun h => b1 (item_eq h)
                        clear HS2 b1
                        rcases a4 with e4 | ⟨e4, e5⟩
                        all_goals
                          go_wp2
                          go_quiet (fail)
                          go_wp2
                          go_roundw
                          case rel => exact ⟨ii + 1, C3, by omega, by go_num, bel_dr hby, mat_dr hMy, HS3.out⟩
                          case measure => simp [intOf]; omega
                      have HB1 : Hid (oi.item = oj.item) := b1
                      rw [b1] at p2
                      clear b1
                      by_cases b2 : oi.txn = oj.txn
                      · have HS2 := HSK.out fun hc => hc.2.2.2.2 b2
                        have HS3 : Hid (∀ a b, C3 a b = true ↔ Upto8 (abOf ops) (nodeOf l') ops jj (ii + 1) a b) := HS2
                        rw [b2] at p1
                        clear HS2 b2
                        rcases a4 with e4 | ⟨e4, e5⟩
                        all_goals
                          go_wp2
                          go_quiet (fail)
                          go_wp2
                          go_roundw
                          case rel => exact ⟨ii + 1, C3, by omega, by go_num, bel_dr hby, mat_dr hMy, HS3.out⟩
                          case measure => simp [intOf]; omega
                      have e6 : (oi.txn == oj.txn) = false := by simpa using b2
                      have HB2' : Hid (¬ oi.txn = oj.txn) := b2
                      clear b2
                      have hox0 : OwnI wr B1 (.slice na v' nc) l' := ho8.below (by rw [hR2]; exact hby)
                      have hox : ∀ q, OwnI (wr.drewN q) B1 (.slice na v' nc) l' := fun q => hox0.of_block fun _ _ => rfl
                      rcases a4 with e4 | ⟨e4, e5⟩
                      all_goals
                        go_wp2
                        go_quiet (fail)
                        go_wp2_with fail
                        refine (indexOf na v' nc B1 l' oi.txn _ (hox _) HTN (by omega)).mono ?_
                        rintro e w' ⟨rfl, hw'⟩
                        subst w'
                        go_wp2_with fail
                        refine (indexOf na v' nc B1 l' oj.txn _ (hox _) HTN (by omega)).mono ?_
                        rintro e w' ⟨rfl, hw'⟩
                        subst w'
                        by_cases c1 : oi.txn ∈ l'
                        rotate_left
                        · have HS2 := HSK.out fun hc => c1 (HMI.out hc.1)
                          have HS3 : Hid (∀ a b, C3 a b = true ↔ Upto8 (abOf ops) (nodeOf l') ops jj (ii + 1) a b) := HS2
                          rw [show idxI l' oi.txn = -1 from if_neg c1]
                          clear HS2 c1
                          generalize idxI l' oj.txn = bj
                          go_wp2
                          go_roundw
                          case rel => exact ⟨ii + 1, C3, by omega, by go_num, bel_dr hby, mat_dr hMy, HS3.out⟩
                          case measure => simp [intOf]; omega
                        by_cases c2 : oj.txn ∈ l'
                        rotate_left
                        · have HS2 := HSK.out fun hc => c2 (HMJ.out hc.2.1)
                          have HS3 : Hid (∀ a b, C3 a b = true ↔ Upto8 (abOf ops) (nodeOf l') ops jj (ii + 1) a b) := HS2
                          rw [show idxI l' oj.txn = -1 from if_neg c2, show idxI l' oi.txn = (nodeOf l' oi.txn : Int) by rw [idxI, if_pos c1, nodeOf, if_pos c1]]
                          have d7 : decide ((nodeOf l' oi.txn : Int) < 0) = false := decide_eq_false (by omega)
                          clear HS2 c1 c2
                          generalize nodeOf l' oi.txn = ai at d7 HHT ⊢
                          go_wp2
                          go_roundw
                          case rel => exact ⟨ii + 1, C3, by omega, by go_num, bel_dr hby, mat_dr hMy, HS3.out⟩
                          case measure => simp [intOf]; omega
                        have HS2 := HHT.out ⟨HVI.out c1, HVJ.out c2, HA3.out, by rw [POp.key, POp.key, HB1.out], HB2'.out⟩
                        have hai := node_lt c1
                        have hbj := node_lt c2
                        rw [HTN.out] at hai hbj
                        rw [show idxI l' oj.txn = (nodeOf l' oj.txn : Int) by rw [idxI, if_pos c2, nodeOf, if_pos c2], show idxI l' oi.txn = (nodeOf l' oi.txn : Int) by rw [idxI, if_pos c1, nodeOf, if_pos c1]]
                        have HS3 : Hid (∀ a b, updM C3 (nodeOf l' oi.txn) (nodeOf l' oj.txn) a b = true ↔ Upto8 (abOf ops) (nodeOf l') ops jj (ii + 1) a b) := HS2
                        clear HS2 c1 c2 HHT HSK
                        generalize nodeOf l' oi.txn = ai at hai HS3 ⊢
                        generalize nodeOf l' oj.txn = bj at hbj HS3 ⊢
                        have r0 := hMy.1.cell (i := ai) hai
                        have r1 := (hMy.2 ai hai).cell (i := bj) hbj
                        have f1 := (hMy.2 ai hai).frozen bj
                        have d7 : decide ((ai : Int) < 0) = false := decide_eq_false (by omega)
                        have d8 : decide ((bj : Int) < 0) = false := decide_eq_false (by omega)
                        have i7 : (ai : Int) < (v' : Int) := by omega
                        have i8 : (bj : Int) < (v' : Int) := by omega
                        generalize C3 ai bj = cab at r1
                        go_wp2
                        go_roundw
                        case rel =>
                          refine ⟨ii + 1, updM C3 ai bj, by omega, by go_num, ?_, ?_, HS3.out⟩
                          · exact bel_dr (hby.setCell (p := ⟨R2 + 1 + ai, bj, none⟩) (by show R2 ≤ R2 + 1 + ai; omega) (.bool true))
                          · exact mat_dr (hMy.set (i := ai) (j := bj))
                        case measure => simp [intOf]; omega
                    · obtain rfl : ii = jj := by omega
                      have HC4 : Hid (∀ a b, C3 a b = true ↔ Upto8 (abOf ops) (nodeOf l') ops (ii + 1) 0 a b) := fun a b => by rw [hC3.out a b]; exact upto_row
                      clear hC3 hC2 hc
                      go_wp2
                      go_roundw
                      case rel => exact ⟨ii + 1, C3, by omega, by go_num, hby, hMy, HC4.out⟩
                      case measure => simp [intOf]; omega
                · obtain rfl : jj = i := by omega
                  have hWant : ∀ a b, a < v' → b < v' → (C2 a b = true ↔ Want (abOf ops) (nodeOf l') ops a b) := fun a b _ _ => by
                    have h1 := hC2.out a b
                    rw [← hlen.out, upto_all] at h1
                    exact h1
                  have hfin : ∀ (A B : Nat → Nat → Bool), (∀ s v, s < v' → v < v' → (A s v = true ↔ RT (Adj v' C) s v)) → (∀ s v, s < v' → v < v' → (B s v = true ↔ RT (Adj v' C2) s v)) → ∀ x y, x < v' → y < v' → A x y = B x y := fun A B h1 h2 x y hx hy => by
                    rw [Bool.eq_iff_iff, h1 x y hx hy, h2 x y hx hy]
                    exact mats_eq HMEM.out HTN.out hGot.out hWant x y
                  have HFIN : Hid (∀ (A B : Nat → Nat → Bool), (∀ s v, s < v' → v < v' → (A s v = true ↔ RT (Adj v' C) s v)) → (∀ s v, s < v' → v < v' → (B s v = true ↔ RT (Adj v' C2) s v)) → ∀ x y, x < v' → y < v' → A x y = B x y) := hfin
                  have hMg : Mat wr R1 v' C := hMx.below hbx2 (by omega)
                  have hMl2 := hMx2.lt
                  obtain ⟨R3, hR3⟩ : ∃ R3, wr.heap.size = R3 := ⟨_, rfl⟩
                  have hR23 : R2 ≤ R3 := by omega
                  have hcl1 := closure_walk R1 v' C wr (by omega) hMg R3 hR3
                  have HBW : Hid (Below w.heap.size w wr) := HT8.out.trans (hbx2.mono (by rw [← hR2]; exact HT8.out.size))
                  clear hC2 hWant hfin hGot HMEM
                  go_wp2_with fail
                  refine hcl1.mono ?_
                  rintro e w10 ⟨rfl, hb10, CA, hM10, hCA⟩
                  clear hcl1
                  have hM10b : Mat w10 R2 v' C2 := hMx2.below hb10 (by omega)
                  obtain ⟨R4, hR4⟩ : ∃ R4, w10.heap.size = R4 := ⟨_, rfl⟩
                  have hM10l := hM10.lt
                  have hcl2 := closure_walk R2 v' C2 w10 (by omega) hM10b R4 hR4
                  go_wp2_with fail
                  refine hcl2.mono ?_
                  rintro e w11 ⟨rfl, hb11, CB, hM11, hCB⟩
                  clear hcl2
                  have hM11b : Mat w11 R3 v' CA := hM10.below hb11 (by omega)
                  have hsm := sameMat R3 R4 v' CA CB w11 (by omega) hM11b hM11 (HFIN.out CA CB hCA hCB)
                  have HBE : Hid (Below w.heap.size w w11) := (HBW.out.trans (hb10.mono (by rw [← hR3]; exact HBW.out.size))).trans (hb11.mono (by rw [← hR4]; exact Nat.le_trans HBW.out.size hb10.size))
                  go_wp2_with fail
                  refine hsm.mono ?_
                  rintro e w12 ⟨rfl, q12, rfl⟩
                  go_wp2
                  go_ret
                  exact ⟨rfl, bel_dr HBE.out⟩
end Go.Proofs.Qxb6601382a
