/- buildPrecedence (34). -/
import Derived.Test.Qxb6601382aR24
import Derived.Deep.DrawnRows
import Derived.Deep.DeepCutAuto
import Derived.Deep.CutBlock
namespace Go.Proofs.Qxb6601382a
open Go.RowKit

theorem sorted_sortI (l : List Int) : (sortI l).Pairwise (· ≤ ·) := by
  have h := List.pairwise_mergeSort (le := fun x y : Int => decide (x ≤ y)) (fun a b c h1 h2 => by simp at h1 h2 ⊢; omega) (fun a b => by simp; omega) l
  exact h.imp fun h => by simpa using h

/-- What buildPrecedence leaves behind: the graph in new memory. -/
def Built (w w' : World) (ops : List POp) (G : Nat) : Prop := ∃ (S n : Nat) (T : List Int) (ta : Option Addr) (tc : Nat) (sv : Nat → Value), Below w.heap.size w w' ∧ w'.rowIs G 52 3 (gF (namesOf ops).length (.slice ta n tc) (.slice (some ⟨S, 0, none⟩) n n)) ∧ OwnI w' w.heap.size (.slice ta n tc) T ∧
  T.length = n ∧ T.Nodup ∧ T.Pairwise (· ≤ ·) ∧ (∀ x, x ∈ T ↔ x ∈ namesOf ops ∧ abOf ops x = false) ∧ w'.rowIs S 24 n sv ∧ (∀ j, j < n → OwnI w' w.heap.size (sv j) ((prun (abOf ops) (nodeOf T) ops).succ j)) ∧ n ≤ (namesOf ops).length ∧ (namesOf ops).length ≤ ops.length

theorem mem_addK (ks : List Int) (t x : Int) : x ∈ addK ks t ↔ x ∈ ks ∨ x = t := by
  unfold addK; split
  next e => exact ⟨Or.inl, fun h => h.elim id (fun e' => e' ▸ e)⟩
  next e => simp
theorem mem_names {ops : List POp} {o : POp} (h : o ∈ ops) : o.txn ∈ namesOf ops := by
  suffices H : ∀ (l : List POp) (ks : List Int), (o ∈ l ∨ o.txn ∈ ks) → o.txn ∈ l.foldl (fun ks o => addK ks o.txn) ks from H ops [] (Or.inl h)
  intro l
  induction l with
  | nil => intro ks h; simpa using h
  | cons a l ih =>
    intro ks h
    refine ih (addK ks a.txn) ?_
    rw [mem_addK]
    rcases h with h | h
    · rcases List.mem_cons.1 h with rfl | h
      · exact Or.inr (Or.inr rfl)
      · exact Or.inl h
    · exact Or.inr (Or.inl h)
theorem node_lt {T : List Int} {x : Int} (h : x ∈ T) : nodeOf T x < T.length := by
  unfold nodeOf; rw [if_pos h]; exact List.idxOf_lt_length_of_mem h

set_option maxRecDepth 100000 in
set_option maxHeartbeats 4000000 in
theorem build_walk (ao : Option Addr) (cap : Nat) (ops : List POp) (w : World) (hops : OpsAt w ao ops) (hok : OkOps ops) (len : Nat) (hlen : Hid (ops.length = len)) (hl : len ≤ 65536) (M1 : Nat) (hM1 : w.heap.size = M1) :
    Calls Try.prog 34 #[.slice ao len cap] w fun e w' => ∃ G, e = .returned (.pointer (some ⟨G, 0, none⟩)) ∧ Built w w' ops G := by
  have hmm := @run_makeMap Try.prog
  have hmh := run_makeMap_hint
  go_enter Try.func34, Try.ntmps34
  go_wp2
  go_loopw [24] (fun v wr => ∃ i : Nat, i ≤ len ∧ v = .int .i64 i ∧ Below M1 w wr ∧ M1 < wr.heap.size ∧ MapB wr M1 i (namesOf (ops.take i)) (abOf (ops.take i))) (fun v _ => len - (intOf v).toNat)
  case atStart =>
    refine ⟨0, Nat.zero_le _, rfl, (Below.refl _ _).alloc (by omega) _, by simp; omega, .map [], ?_, rfl, List.nodup_nil, fun x hx => by simp [namesOf] at hx, fun x hx => ⟨by simp [namesOf, Maps.has], fun hx => by simp [namesOf] at hx, fun _ => rfl⟩⟩
    subst hM1
    exact World.ownsMap_made w _ _ _
  case round =>
    obtain ⟨i, hi, rfl, hbel, hMs, hm⟩ := hrel
    by_cases hlt : i < len
    · have hix : i < ops.length := by have := hlen.out; omega
      obtain ⟨b, rfl, hb, hc⟩ := hops.get hix
      obtain ⟨g0, g1, g2⟩ := hc i hix
      rw [← hbel.cell (by simpa [hM1] using hb)] at g0 g1 g2
      obtain ⟨hw, hsz⟩ := hok _ (List.getElem_mem hix)
      have hn1 := names_succ hix
      have hn2 := ab_succ hix
      obtain ⟨o, ho⟩ : ∃ o, ops[i] = o := ⟨_, rfl⟩
      rw [ho] at g0 g1 g2 hw hsz hn1 hn2
      have i1 : (i : Int) < (len : Int) := by omega
      have hmx : i < maxLen := by unfold maxLen; omega
      have hma := fun ob : Obj => hm.kept (World.grownBy_alloc wr ob none) (by simp)
      have HN1 : Hid (namesOf (ops.take (i + 1)) = addK (namesOf (ops.take i)) o.txn) := hn1
      clear hn1 ho
      cases hab : abOf (ops.take i) o.txn with
      | true =>
        rw [hab] at hn2
        have HN2 : Hid (abOf (ops.take (i + 1)) = updB (abOf (ops.take i)) o.txn (true || (o.kind == 3))) := hn2
        clear hn2
        go_wp2_with (first
          | (at_lookup; refine wpList_lookB _ rfl _ _ rfl M1 i _ _ rfl (hma _) o.txn hw rfl ?_)
          | (at_mapUpdate; refine wpList_putB _ rfl _ _ _ rfl M1 i _ _ rfl (hma _) hmx o.txn hw true rfl rfl ?_; intro w1 hm1 hg1)
          | go_in)
        go_roundw
        case rel =>
          refine ⟨i + 1, by omega, by go_num, (hbel.alloc (by omega) _).grown hg1 (by simp; omega) (fun j hj => by cases hj; exact Nat.le_refl _), by have := hg1.size; simp at this; omega, ?_⟩
          rw [HN1.out, HN2.out]; exact hm1
        case measure => simp [intOf]; omega
      | false =>
        rw [hab] at hn2
        have HN2 : Hid (abOf (ops.take (i + 1)) = updB (abOf (ops.take i)) o.txn (false || (o.kind == 3))) := hn2
        clear hn2
        go_wp2_with (first
          | (at_lookup; refine wpList_lookB _ rfl _ _ rfl M1 i _ _ rfl (hma _) o.txn hw rfl ?_)
          | (at_mapUpdate; refine wpList_putB _ rfl _ _ _ rfl M1 i _ _ rfl (hma _) hmx o.txn hw (o.kind == 3) rfl rfl ?_; intro w1 hm1 hg1)
          | go_in)
        go_roundw
        case rel =>
          refine ⟨i + 1, by omega, by go_num, (hbel.alloc (by omega) _).grown hg1 (by simp; omega) (fun j hj => by cases hj; exact Nat.le_refl _), by have := hg1.size; simp at this; omega, ?_⟩
          rw [HN1.out, HN2.out]; exact hm1
        case measure => simp [intOf]; omega
    · obtain rfl : i = len := by omega
      have htk : ops.take i = ops := List.take_of_length_le (by have := hlen.out; omega)
      rw [htk] at hm
      clear htk hlt
      obtain ⟨ks, hks⟩ : ∃ ks, namesOf ops = ks := ⟨_, rfl⟩
      obtain ⟨ab, hab⟩ : ∃ ab, abOf ops = ab := ⟨_, rfl⟩
      rw [hks, hab] at hm
      have Hks : Hid (namesOf ops = ks) := hks
      have Hab : Hid (abOf ops = ab) := hab
      clear hks hab
      obtain ⟨D, hD, hB⟩ := hm
      have hksl : ks.length ≤ i := by have := hD.size_le; rw [hB.1] at this; exact this
      obtain ⟨G, hG⟩ : ∃ G, wr.heap.size = G := ⟨_, rfl⟩
      go_wp2_with (first
        | (at_len; refine wpList_lenB _ rfl _ rfl M1 i D ks ab rfl hD hB ?_)
        | (at_range; refine Go.wpList_range_own _ rfl _ 60 rfl 3 4 law3 Try.underlying60 _ M1 i D rfl (hD.alloc _) ?_; intro w0 hrg0 hg0 hs0)
        | go_in)
      go_frame
      obtain ⟨i0, hi0, hz0, hz1, hz2⟩ := info_parts info3
      have hGM : M1 < G := by omega
      have e1 : (wr.alloc (.cells #[.int .i64 ks.length, .slice none 0 0, .slice none 0 0] 52)).heap.size = G + 1 := by simp [hG]
      have hbG : Below M1 w (wr.alloc (.cells #[.int .i64 ks.length, .slice none 0 0, .slice none 0 0] 52)) := hbel.alloc (by omega) _
      have hrowG : (wr.alloc (.cells #[.int .i64 ks.length, .slice none 0 0, .slice none 0 0] 52)).rowIs G 52 3 (gF ks.length (.slice none 0 0) (.slice none 0 0)) := by
        rw [← hG]
        exact World.rowIs_alloc wr #[.int .i64 ks.length, .slice none 0 0, .slice none 0 0] 52 _ fun i hi => by
          match i, hi with
          | 0, _ => rfl
          | 1, _ => rfl
          | 2, _ => rfl
      have hrow0 : w0.rowIs G 52 3 (gF ks.length (.slice none 0 0) (.slice none 0 0)) := hrowG.of_block (hg0.block G (by rw [e1]; omega) (by simp))
      have hb0 : Below M1 w w0 := hbG.grown hg0 (by rw [e1]; omega) (fun j hj => by cases hj)
      rw [e1] at hrg0 hs0 ⊢
      clear hrowG hbG hg0 e1 hD hG
      rename_i wr1
      go_loopw [7] (fun _ wx => ∃ (left : Lit → Bool) (cnt : Nat) (ts : List Int) (ta : Option Addr) (tc : Nat), wx.ranges Try.prog 3 (plainElem Try.prog 4) M1 (G + 1) i D left cnt ∧ ts.length + cnt ≤ ks.length ∧ wx.rowIs G 52 3 (gF ks.length (.slice ta ts.length tc) (.slice none 0 0)) ∧
          OwnI wx (G + 2) (.slice ta ts.length tc) ts ∧ Coll ks ab left ts ∧ Below M1 w wx ∧ G + 2 ≤ wx.heap.size)
        (fun _ wx => wx.rangeLeft M1 (G + 1))
      case atStart => exact ⟨_, _, [], none, 0, hrg0, by rw [hB.1]; simp, hrow0, World.ownsRow_nil _ _ _ _, Coll.start hB, hb0, by omega⟩
      case round =>
        obtain ⟨left, cnt, ts, ta, tc, hrg, hcs, hrow, hown, hC, hbx, hsx⟩ := hrel
        go_wp2_with (first
          | (at_next; refine wpList_nextB _ rfl _ rfl M1 (G + 1) i D _ _ rfl hrg ?_ ?_ ?_)
          | go_in)
        · intro hc0 hl0
          obtain ⟨hnd, hmem⟩ := hC.done hl0
          have hsrt := sort_own hown (by omega)
          have c1 := hrow.cell (i := 1) (by omega)
          simp only [gF] at c1
          have hm : MapB wr M1 i ks ab := ⟨D, hrg.owns, hB⟩
          have hwf : ∀ x ∈ ks, Wf x := hB.2.2.1
          have hsize := hrow.lt
          have htk : ts.length ≤ ks.length := by omega
          clear hc0 hl0 hC hrg hcs
          go_wp2_with fail
          refine hsrt.mono ?_
          rintro e w1 ⟨rfl, hT1, hgs⟩
          have hrow1 := hrow.of_block (hgs.block G hsize (hown.ne (by omega)))
          have hm1 := hm.kept hgs (hown.ne (by omega))
          have hb1 := hbx.grown hgs (by omega) (fun j hj => by have := (hown.lt j hj).1; omega)
          have hs1 : G + 2 ≤ w1.heap.size := by have := hgs.size; omega
          have htlt := hT1.lt
          clear hsrt hm hrow hown hbx hgs c1
          obtain ⟨T, hTT⟩ : ∃ T, sortI ts = T := ⟨_, rfl⟩
          have hTn : T.length = ts.length := by rw [← hTT]; exact len_sortI ts
          have hTd : T.Nodup := by rw [← hTT]; exact nodup_sortI hnd
          have hTm : ∀ x, x ∈ T ↔ x ∈ ks ∧ ab x = false := fun x => by rw [← hTT, mem_sortI]; exact hmem x
          have hTs : T.Pairwise (· ≤ ·) := by rw [← hTT]; exact sorted_sortI ts
          rw [hTT] at hT1
          clear hTT hnd hmem
          obtain ⟨n, hn⟩ : ∃ n, ts.length = n := ⟨_, rfl⟩
          rw [hn] at hT1 hTn hrow1 htlt htk ⊢
          clear hn ts
          have c1 := hrow1.cell (i := 1) (by omega)
          simp only [gF] at c1
          obtain ⟨M2, hM2⟩ : ∃ M2, w1.heap.size = M2 := ⟨_, rfl⟩
          have hG2 : G < M2 := by rw [← hM2]; exact hrow1.lt
          have hne1 : ¬ G = M2 := by omega
          have hne2 : ¬ M2 = G := by omega
          go_wp2
          clear hsize hsx c1 hmh
          have hmN : MapN (w1.alloc (.map #[] 0)) M2 0 (nodeOf (T.take 0)) := by
            rw [← hM2]
            exact ⟨.map [], World.ownsMap_made w1 _ _ _, fun x _ => by simp [nodeOf, DataW.atKey]⟩
          have hg1 := World.grownBy_alloc w1 (.map #[] 0) none
          have hrow2 := hrow1.of_block (hg1.block G (by omega) (by simp))
          have hT2 := hT1.alloc (.map #[] 0)
          have hmB2 := hm1.kept hg1 (by simp)
          have hb2 := hb1.alloc (by omega) (.map #[] 0)
          have hnl : n ≤ 65536 := by omega
          have hTlt : ∀ k, (Value.slice ta n tc).ownBlock = some k → G + 2 ≤ k ∧ k < M2 := fun k hk => by rw [← hM2]; exact htlt k hk
          clear htlt hrow1 hT1 hm1 hb1 hg1
          go_loopw [80] (fun v wx => ∃ k : Nat, k ≤ n ∧ v = .int .i64 k ∧ MapN wx M2 k (nodeOf (T.take k)) ∧ wx.rowIs G 52 3 (gF ks.length (.slice ta n tc) (.slice none 0 0)) ∧ OwnI wx (G + 2) (.slice ta n tc) T ∧ MapB wx M1 i ks ab ∧ Below M1 w wx ∧ M2 < wx.heap.size) (fun v _ => n - (intOf v).toNat)
          case atStart => exact ⟨0, Nat.zero_le _, rfl, hmN, hrow2, hT2, hmB2, hb2, by simp; omega⟩
          case round =>
            obtain ⟨k, hk, rfl, hN, hrow3, hT3, hmB3, hb3, hs3⟩ := hrel
            by_cases hlt : k < n
            · have hkT : k < T.length := by omega
              obtain ⟨g, rfl, hcell⟩ := hT3.get hkT
              have hwT : Wf T[k] := hwf _ ((hTm _).1 (List.getElem_mem hkT)).1
              have hns := node_succ hTd hkT
              obtain ⟨x, hx⟩ : ∃ x, T[k] = x := ⟨_, rfl⟩
              rw [hx] at hcell hwT hns
              have HNS : Hid (nodeOf (T.take (k + 1)) = updN (nodeOf (T.take k)) x k) := hns
              clear hns hx
              have hwk : Wf k := WalkArith.wf_i64 (by omega)
              have hmx : k < maxLen := by unfold maxLen; omega
              have i1 : (k : Int) < (n : Int) := by omega
              go_wp2_with (first
                | (at_mapUpdate; refine wpList_putN _ rfl _ _ _ rfl M2 k _ rfl hN hmx x hwT k hwk rfl rfl ?_; intro w4 hN4 hg4)
                | go_in)
              have hg2 := hTlt g rfl
              go_roundw
              case rel => exact ⟨k + 1, by omega, by go_num, by rw [HNS.out]; exact hN4, hrow3.of_block (hg4.block G (by omega) (by simp; omega)), hT3.grown hg4 (Or.inr (by simp [Value.ownBlock]; omega)), hmB3.kept hg4 (by simp; omega), hb3.grown hg4 (by omega) (fun j hj => by cases hj; omega), by have := hg4.size; omega⟩
              case measure => simp [intOf]; omega
            · obtain rfl : k = n := by omega
              rw [show T.take k = T from List.take_of_length_le (by omega)] at hN
              have c1 := hrow3.cell (i := 1) (by omega)
              have d2 := fun ob : Obj => (hrow3.alloc ob).cell (i := 2) (by omega)
              have f2 := fun ob : Obj => (hrow3.alloc ob).frozen 2
              simp only [gF] at c1 d2
              have hmk := make25 k hnl
              obtain ⟨S, hS⟩ : ∃ S, wr.heap.size = S := ⟨_, rfl⟩
              have hne3 : ¬ G = S := by omega
              have hne4 : ¬ S = G := by omega
              clear hlt hmN hrow2 hT2 hmB2 hb2
              go_wp2
              have hR0 := rep0 hS hGM hG2 (by omega) hrow3 hT3 hmB3 hN hTlt
              have hb4 : Below M1 w (((wr.alloc (.cells (madeCells #[.slice none 0 0] k) 24)).setCell ⟨G, 2, none⟩ (.slice (some ⟨S, 0, none⟩) k k)).alloc (.map #[] 0)) := ((hb3.alloc (by omega) _).setCell (by show M1 ≤ G; omega) _).alloc (by simp; omega) _
              clear hrow3 hT3 hmB3 hN hTlt hS hne1 hne2 hne3 hne4 c1 d2 f2 hmk hb3 hs3 hM2 hs1 hmm
              rename_i wr2
              go_loopw [101] (fun v wx => ∃ (q : Nat) (tag : Nat → Tag) (sv : Nat → Value) (bl : List UInt8 → Nat) (rv : List UInt8 → Value), q ≤ i ∧ v = .int .i64 q ∧ Rep (fix0 M1 M2 G S k i ks ab ta tc T) wx q tag sv bl rv (prun ab (nodeOf T) (ops.take q)).succ (prun ab (nodeOf T) (ops.take q)).items ∧ Fits k q (prun ab (nodeOf T) (ops.take q)) ∧ Below M1 w wx) (fun v _ => i - (intOf v).toNat)
              case atStart => exact ⟨0, _, _, _, _, Nat.zero_le _, rfl, hR0, fits0 k, hb4⟩
              case round =>
                obtain ⟨q, tag, sv, bl, rv, hq, rfl, hR, hF, hb⟩ := hrel
                by_cases hlt : q < i
                · have hix : q < ops.length := by have := hlen.out; omega
                  obtain ⟨b, rfl, hbl, hc⟩ := hops.get hix
                  obtain ⟨g0, g1, g2⟩ := hc q hix
                  rw [← hb.cell (by simpa [hM1] using hbl)] at g0 g1 g2
                  obtain ⟨hw, hsz⟩ := hok _ (List.getElem_mem hix)
                  have hps := prun_snoc ab (nodeOf T) (ops.take q) ops[q]
                  rw [← List.take_succ_eq_append_getElem hix] at hps
                  have hnm : ops[q].txn ∈ ks := by rw [← Hks.out]; exact mem_names (List.getElem_mem hix)
                  obtain ⟨o, ho⟩ : ∃ o, ops[q] = o := ⟨_, rfl⟩
                  rw [ho] at g0 g1 g2 hw hsz hps hnm
                  have hNl : ¬ o.skips ab → nodeOf T o.txn < k := fun hs => by
                    rw [← hTn]
                    refine node_lt ((hTm _).2 ⟨hnm, ?_⟩)
                    cases h : ab o.txn with
                    | false => rfl
                    | true => exact absurd (Or.inl h) hs
                  have HPS : Hid (prun ab (nodeOf T) (ops.take (q + 1)) = pstep ab (nodeOf T) (prun ab (nodeOf T) (ops.take q)) o) := hps
                  have i1 : (q : Int) < (i : Int) := by omega
                  have hBs : M1 ≤ wr.heap.size := by have := hb.size; omega
                  have hF2 := hF.step ab (nodeOf T) o (by omega) hNl
                  clear hps ho hnm
                  go_upto_block 7 with fail
                  refine round24 (fix0 M1 M2 G S k i ks ab ta tc T) q tag sv bl rv (prun ab (nodeOf T) (ops.take q)) o b i cap wr _ _ hR hF hlt hl hBs g0 g1 g2 hw hsz hNl ?_
                  intro y14 y15 y16 y17 y18 y20 y103 y104 y105 y106 y107 y108 y109 y110 y111 y112 y113 y114 y115 y116 y117 y118 y119 y120 y121 y122 y123 y124 y125 y126 y127 y128 y129 y130 y131 y132 y133 y134 y135 y136 y137 y138 y139 y140 y141 y142 y143 y144 y145 y146 y147 y148 y149 y150 y151 y152 y153 y154 y155 y156 y157 y158 y159 y160 y161 y162 y163 y164 y165 y166 y167 y168 y169 y170 y171 y172 y173 y174 y175 y176 y177 y178 y179 y180 y181 y182 y183 y184 y185 y186 y187 y188 y189 y190 y191 y192 y193 y194 y195 y196 y197 y198 y199 y200 y201 y202 y203 y204 y205 y206 y207 y208 y209 y210 y211 y212 y213 y214 y215 y216 y217 y218 y219 y220 y221 y222 y223 y224 y225 y226 y227 y228 y229 y230 y231 y232 y233 y234 y235 y236 y237 y238 y239 y240 y241 y242 y243 y244 y245 w1 tag1 sv1 bl1 rv1 hR1 hC1
                  have hb1 : Below M1 w w1 := hC1.below hb hBs fun x hx => Classical.byContradiction fun hne => by
                    have := (hR.lt x hne).1
                    simp only [fix0] at this
                    omega
                  dsimp only [fix0]
                  go_wp2
                  go_roundw
                  case rel => exact ⟨q + 1, tag1, sv1, bl1, rv1, by omega, by go_num, by rw [HPS.out]; exact hR1, by rw [HPS.out]; exact hF2, hb1⟩
                  case measure => simp [intOf]; omega
                · obtain rfl : q = i := by omega
                  rw [List.take_of_length_le (by have := hlen.out; omega)] at hR
                  go_wp2
                  go_ret
                  refine ⟨G, rfl, S, k, T, ta, tc, sv, by rw [hM1]; exact hb, ?_, ?_, hTn, hTd, hTs, ?_, hR.s, fun j hj => ?_, ?_, ?_⟩
                  · rw [Hks.out]; exact hR.g
                  · rw [hM1]; exact hR.t
                  · rw [Hks.out, Hab.out]; exact hTm
                  · rw [hM1, Hab.out]; exact (hR.suc j hj).1
                  · rw [Hks.out]; exact htk
                  · rw [Hks.out, hlen.out]; exact hksl
        · intro x w1 cnt1 hwx hlx hat hrg1 hlt hg1 hs1 hen
          obtain ⟨hxk, hxa, hC1⟩ := hC.step hB hwx hlx hat
          have HS1 : Hid (w1.heap.size = wr.heap.size) := hs1
          have hrow1 := hrow.of_block (hg1.block G (by omega) (by simp))
          have hown1 := hown.grown hg1 (Or.inr (Ne.symm (hown.ne (by omega))))
          have hb1 := hbx.grown hg1 (by omega) (fun j hj => by cases hj; omega)
          clear hs1 hat hxa
          have hg1s := hg1.size
          have c1 := hrow1.cell (i := 1) (by omega)
          simp only [gF] at c1
          have htl : ts.length < 65536 := by omega
          have hG1 : G < w1.heap.size := hrow1.lt
          go_wp2_with (first
            | (at_builtin; refine wpList_append_lies _ rfl _ _ 24 rfl (G + 2) 3 i0 (.int .i64 0) 1 8 Try.underlying24 hi0 hz0 hz1 hz2 rfl (by decide) (.slice ta ts.length tc) ts.length (ints ts) rfl (hown1.alloc _) ⟨w1.heap.size, 0, none⟩ 1 1 [.int .i64 x] rfl rfl (cell_one_new _ _ _) (by simp [Value.oneCell']) (by decide) (by unfold maxLen; omega) (by omega) (by simp; omega) (w1.heap.size + 1) (by simp) ?_
               intro gg cp w2 hown2 hgrow hat2 hlt2
               have hrow2 := (hrow1.alloc (.cells #[.int .i64 x] 3)).of_block (hgrow.block G (by simp; omega) (hown1.ne (by omega)))
               have d1 := hrow2.cell (i := 1) (by omega)
               have f1 := hrow2.frozen 1
               simp only [gF] at d1)
            | go_in)
          have hown3 := app_own hown2
          have hgg : G + 2 ≤ gg := (hown3.lt gg rfl).1
          refine ⟨⟨_, cnt1, ts ++ [x], some ⟨gg, 0, none⟩, cp, ((hrg1.alloc _).kept hgrow (hown1.ne (by omega)) (hown1.ne (by omega))).kept (grown_set _ _ _) (by simp; omega) (by simp), by simp; omega, ?_, ?_, by simpa using hC1, ?_, ?_⟩, ?_⟩
          · refine (hrow2.set 1 _).congr fun j hj => ?_
            match j, hj with
            | 0, _ => rfl
            | 1, _ => simp [gF]
            | 2, _ => rfl
          · exact hown3.grown (grown_set _ _ _) (Or.inr (by simp [Value.ownBlock]; omega))
          · exact ((hb1.alloc (by omega) _).grown hgrow (by simp; omega) (fun j hj => by have := (hown1.lt j hj).1; omega)).setCell (by simp; omega) _
          · have := hgrow.size; simp at this ⊢; omega
          · rw [(((hrg1.alloc _).kept hgrow (hown1.ne (by omega)) (hown1.ne (by omega))).kept (grown_set _ ⟨G, 1, none⟩ _) (by simp; omega) (by simp)).left_eq, hrg.left_eq]; exact hlt
        · intro x w1 cnt1 hwx hlx hat hrg1 hlt hg1 hs1 hen
          obtain ⟨hxk, hxa, hC1⟩ := hC.step hB hwx hlx hat
          have HS1 : Hid (w1.heap.size = wr.heap.size) := hs1
          have hrow1 := hrow.of_block (hg1.block G (by omega) (by simp))
          have hown1 := hown.grown hg1 (Or.inr (Ne.symm (hown.ne (by omega))))
          have hb1 := hbx.grown hg1 (by omega) (fun j hj => by cases hj; omega)
          clear hs1 hat hxa
          go_wp2
          go_roundw
          case rel => exact ⟨_, cnt1, ts, ta, tc, hrg1, by omega, hrow1, hown1, by simpa using hC1, hb1, by have := HS1.out; omega⟩
          case measure => rw [hrg1.left_eq, hrg.left_eq]; exact hlt
end Go.Proofs.Qxb6601382a
