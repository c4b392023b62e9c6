/- b1AppendDecimal (19), b1FieldFits (18). -/
import Derived.Test.Qxb6601361aProg
import Derived.Test.Qxb6601361aDigits
import Derived.WalkKit
import Derived.WalkSpells
import Derived.Deep.OwnRows
import Derived.Deep.AppendLies
import Derived.OwnWalk
import Derived.Handy
namespace Go.Proofs.Qxb6601361a
open Go.RowKit

theorem info5 : (Try.prog.info? 5).map (fun i => (i.zero, i.size, i.bytes)) = some (some (.int .u8 0), 1, 1) := by kernel_rfl

/-- The bytes xs lie in the slice v, of the call's own. -/
def Own (w : World) (base : Nat) (v : Value) (xs : List Int) : Prop := w.ownsRow base 5 1 v xs.length (xs.map (Value.int .u8))

theorem fits_any (v : Int) (w : World) : Calls Try.prog 18 #[.int .i64 v] w fun e w' => e = .returned (.bool (decide (0 ≤ v ∧ v ≤ 999999999999999999))) ∧ w' = w := by
  by_cases h0 : 0 ≤ v
  · by_cases h1 : v ≤ 999999999999999999
    · rw [decide_eq_true (⟨h0, h1⟩ : 0 ≤ v ∧ v ≤ 999999999999999999)]
      go_enter Try.func18, Try.ntmps18
      go_wp2
      go_ret
      exact ⟨rfl, rfl⟩
    · rw [decide_eq_false (fun h => h1 h.2 : ¬ (0 ≤ v ∧ v ≤ 999999999999999999))]
      go_enter Try.func18, Try.ntmps18
      go_wp2
      go_ret
      exact ⟨rfl, rfl⟩
  · rw [decide_eq_false (fun h => h0 h.1 : ¬ (0 ≤ v ∧ v ≤ 999999999999999999))]
    go_enter Try.func18, Try.ntmps18
    go_wp2
    go_ret
    exact ⟨rfl, rfl⟩

/-- What an append leaves. -/
def Appended (w w' : World) (base : Nat) (v v' : Value) (ys : List Int) : Prop := ∃ g cap, v' = .slice (some ⟨g, 0, none⟩) ys.length cap ∧ Own w' base v' ys ∧ base ≤ g ∧ g < w'.heap.size ∧ (v.ownBlock = some g ∨ w.heap.size ≤ g) ∧ w.grownBy w' v.ownBlock

set_option maxHeartbeats 400000 in
theorem dec_neg (v : Value) (base : Nat) (xs : List Int) (w : World) (ho : Own w base v xs) (hl : xs.length ≤ 100) (hbase : base ≤ w.heap.size) :
    Calls Try.prog 19 #[v, .int .i64 (-1)] w fun e w' => ∃ g cap, e = .returned (.slice (some ⟨g, 0, none⟩) (xs.length + 2) cap) ∧ Own w' base (.slice (some ⟨g, 0, none⟩) (xs.length + 2) cap) (xs ++ [45, 49]) ∧ g < w'.heap.size ∧ (v.ownBlock = some g ∨ w.heap.size ≤ g) ∧ w.grownBy w' v.ownBlock := by
  obtain ⟨i0, hi, hz, hs, hb⟩ := info_parts info5
  have hm : xs.length + 2 ≤ maxLen := by unfold maxLen; omega
  go_enter Try.func19, Try.ntmps19
  go_wp2_with (at_builtin; refine wpList_append_lies _ rfl _ _ 22 rfl base 5 i0 (.int .u8 0) 1 1 Try.underlying22 hi hz hs hb rfl (by decide) v xs.length (xs.map (Value.int .u8)) rfl ?hown ⟨w.heap.size, 0, none⟩ 2 2 [.int .u8 45, .int .u8 49] rfl rfl ?hnews ?hone (by decide) hm ?hby ?hbase (w.heap.size + 1) ?hsz ?_)
  case hown => exact World.ownsRow.alloc ho _
  case hnews => exact World.news_of_block (cs := #[.int .u8 45, .int .u8 49]) (t := 5) (fr := (0, 0)) (by exact (MapKept.heap_alloc w _).1)
  case hone => intro u hu; simp at hu; rcases hu with rfl | rfl <;> rfl
  case hby => omega
  case hbase => simp; omega
  case hsz => simp
  intro g cap w1 hown hgrow hat hlt
  have hgr : w.grownBy w1 v.ownBlock := by
    refine ⟨hgrow.os, hgrow.tape, hgrow.output, ?_, fun k hk hne => ?_⟩
    · have := hgrow.size; simp at this; omega
    · rw [hgrow.block k (by simp; omega) hne, Below.heap_alloc _ _ _ hk]
  have hat' : v.ownBlock = some g ∨ w.heap.size ≤ g := by
    rcases hat with h | h
    · exact Or.inl h
    · exact Or.inr (by omega)
  have hH : Own w1 base (.slice (some ⟨g, 0, none⟩) (xs.length + 2) cap) (xs ++ [45, 49]) := by
    unfold Own
    rw [List.length_append, List.map_append]
    exact hown
  clear hown hgrow hat
  go_wp2
  go_ret
  exact ⟨g, cap, rfl, hH, hlt, hat', hgr⟩

/-- The digits ds lie at the end of a row of twenty. -/
def Tail (f : Nat → Value) (ds : List Int) : Prop := ∀ i (h : i < ds.length), f (20 - ds.length + i) = .int .u8 ds[i]

theorem alen59 : Try.prog.arrayLen 59 = 20 := by kernel_rfl
theorem elem59 : Try.prog.elem 59 = 5 := by kernel_rfl
theorem und59 : Try.prog.underlying 59 = some (.array (Try.prog.arrayLen 59) (Try.prog.elem 59)) := by kernel_rfl
theorem size5 (w : World) : (sizeOf 5).run Try.prog w = .ok 1 w := by kernel_rfl
theorem slice_buf (B p : Nat) (h1 : 1 ≤ p) (h2 : p ≤ 20) (w : World) : (Instr.sliceAt 59 (.pointer (some ⟨B, 0, none⟩)) (some (.int .i64 ((p : Int) - 1))) none none).run Try.prog w = .ok (.slice (some ⟨B, p - 1, none⟩) (21 - p) (21 - p)) w := by
  rw [run_sliceAt_array_l w 59 ⟨B, 0, none⟩ und59 .i64 _ (by omega) (by rw [alen59]; omega), elem59, size5, alen59]
  have e : ((p : Int) - 1).toNat = p - 1 := by omega
  simp only [Result.andThen_ok, slicedAt, e, WideShapes.add_plain, Nat.mul_one, Nat.zero_add]
  rw [if_neg (by omega), show 20 - (p - 1) = 21 - p by omega]

theorem dig_cons {ds : List Int} {m : Int} (h : ∀ d ∈ ds, isDig d) (h0 : 0 ≤ m) (h1 : m ≤ 9) : ∀ d ∈ (48 + m) :: ds, isDig d := by
  intro d hd
  rcases List.mem_cons.1 hd with rfl | hd
  · exact ⟨by omega, by omega⟩
  · exact h d hd

theorem tail_step {f : Nat → Value} {ds : List Int} {p : Nat} {d : Int} (hp : p + ds.length = 20) (hp1 : 1 ≤ p) (h : Tail f ds) : Tail (fun j => if j = p - 1 then .int .u8 d else f j) (d :: ds) := by
  intro i hi
  cases i with
  | zero =>
    have e : 20 - (d :: ds).length + 0 = p - 1 := by simp; omega
    simp only [e, if_true, List.getElem_cons_zero]
  | succ i =>
    have hi' : i < ds.length := by simpa using hi
    have e : 20 - (d :: ds).length + (i + 1) = 20 - ds.length + i := by simp; omega
    have e2 : ¬ (20 - ds.length + i = p - 1) := by omega
    simp only [e, if_neg e2, List.getElem_cons_succ]
    exact h i hi'

theorem own_below {w w' : World} {base B : Nat} {v : Value} {xs : List Int} (h : Own w base v xs) (hb : Below B w w') (hv : ∀ g, v.ownBlock = some g → g < B) : Own w' base v xs := by
  obtain ⟨h1, h2⟩ := h
  refine ⟨h1, ?_⟩
  rcases h2 with h2 | ⟨g, cap, cur, hv', hg, hh, r⟩
  · exact Or.inl h2
  · exact Or.inr ⟨g, cap, cur, hv', hg, by rw [hb.block g (hv g (by rw [hv']; rfl))]; exact hh, r⟩

theorem tail_news {w : World} {B p : Nat} {f : Nat → Value} {ds : List Int} (hr : w.rowIs B 59 20 f) (ht : Tail f ds) (hl : ds.length = 21 - p) (hp1 : 1 ≤ p) (hp : p ≤ 20) :
    ∀ j u, (ds.map (Value.int .u8))[j]? = some u → w.cell? ((⟨B, p - 1, none⟩ : Addr).add j) = some u := by
  intro j u hu
  rw [List.getElem?_map] at hu
  obtain ⟨d, hd, rfl⟩ := Option.map_eq_some_iff.1 hu
  obtain ⟨hj, rfl⟩ := List.getElem?_eq_some_iff.1 hd
  rw [WideShapes.add_plain, hr.cell (by omega)]
  have := ht j hj
  rw [show 20 - ds.length + j = p - 1 + j by omega] at this
  rw [this]

set_option maxHeartbeats 1000000 in
theorem dec_pos (v : Value) (base : Nat) (xs : List Int) (x : Int) (w : World) (ho : Own w base v xs) (hl : xs.length ≤ 100) (hbase : base ≤ w.heap.size) (hv : ∀ g, v.ownBlock = some g → g < w.heap.size) (x0 : 0 ≤ x) (x1 : x ≤ 999999999999999999) :
    Calls Try.prog 19 #[v, .int .i64 x] w fun e w' => ∃ ds g n cap, Writes ds x ∧ Hid (n = xs.length + ds.length) ∧ n ≤ xs.length + 18 ∧ e = .returned (.slice (some ⟨g, 0, none⟩) n cap) ∧ Own w' base (.slice (some ⟨g, 0, none⟩) n cap) (xs ++ ds) ∧ g < w'.heap.size ∧ (v.ownBlock = some g ∨ w.heap.size ≤ g) ∧ w.grownBy w' v.ownBlock := by
  obtain ⟨i0, hi, hz, hs, hb⟩ := info_parts info5
  have hxn : (x == -1) = false := by simp; omega
  go_enter Try.func19, Try.ntmps19
  go_wp2
  go_loopw [1, 6] (fun v1 v6 wr => ∃ (p : Nat) (ds : List Int) (cur : Int) (f : Nat → Value), v6 = .int .i64 p ∧ v1 = .int .i64 cur ∧ p ≤ 20 ∧ 0 ≤ cur ∧ cur ≤ 999999999999999999 ∧ (1 ≤ cur ∨ ds = []) ∧ (∀ d ∈ ds, isDig d) ∧ Hid (p + ds.length = 20) ∧
      Hid (x = cur * 10 ^ ds.length + valL ds) ∧ Below w.heap.size w wr ∧ wr.rowIs w.heap.size 59 20 f ∧ Tail f ds)
    (fun v1 v6 _ => (intOf v6).toNat)
  case atStart =>
    refine ⟨20, [], x, _, rfl, rfl, by omega, x0, x1, Or.inr rfl, by simp, by simp [Hid], by simp [Hid, valL], (Below.refl _ _).alloc (Nat.le_refl _) _, World.rowIs_alloc w _ 59 (fun _ => .int .u8 0) (fun i hi => ?_), fun i hi => absurd hi (by simp)⟩
    simp at hi
    match i, hi with
    | 0, _ | 1, _ | 2, _ | 3, _ | 4, _ | 5, _ | 6, _ | 7, _ | 8, _ | 9, _ | 10, _ | 11, _ | 12, _ | 13, _ | 14, _ | 15, _ | 16, _ | 17, _ | 18, _ | 19, _ => rfl
    | k + 20, h => exact absurd h (by omega)
  case round =>
    obtain ⟨p, ds, cur, f, rfl, rfl, hp, c0, c1, hcd, hdig, hpl, hval, hbel, hrow, htail⟩ := hrel
    have hvb := val_bd ds hdig
    have hlen : ds.length < 18 := by
      rcases hcd with h | h
      · exact len_lt x cur ds x1 h hvb.1 hval.out
      · subst h; simp
    have hp3 : 3 ≤ p := by have := hpl.out; omega
    have hg := hrow.cell (i := p - 1) (by omega)
    have hfr := fun j => hrow.frozen j
    have hB := hrow.lt
    have HC : Hid (1 ≤ cur ∨ ds = []) := hcd
    have HD : Hid (∀ d ∈ ds, isDig d) := hdig
    clear hvb hcd hdig
    have hq0 : 0 ≤ cur / 10 := by omega
    have hm0 : 0 ≤ cur % 10 := by omega
    have hm1 : cur % 10 ≤ 9 := by omega
    by_cases hz0 : cur / 10 = 0
    · have hzb : (cur / 10 == 0) = true := by simpa using hz0
      have hsb := slice_buf w.heap.size p (by omega) hp
      have hw1 : Writes ((48 + cur % 10) :: ds) x := ⟨dig_cons HD.out hm0 hm1, by simp, by simp; omega, by have := val_step x cur ds hval.out; rw [hz0] at this; omega⟩
      have hrow1 := hrow.set (p - 1) (.int .u8 (48 + cur % 10))
      have htail1 := tail_step (d := 48 + cur % 10) hpl.out (by omega) htail
      have hbel1 := hbel.setCell (p := ⟨w.heap.size, p - 1, none⟩) (Nat.le_refl _) (.int .u8 (48 + cur % 10))
      have hown1 : Own (wr.setCell ⟨w.heap.size, p - 1, none⟩ (.int .u8 (48 + cur % 10))) base v xs := own_below ho hbel1 hv
      have HZ : Hid (cur / 10 = 0) := hz0
      have HW : Hid (Writes ((48 + cur % 10) :: ds) x) := hw1
      have hlen1 : ((48 + cur % 10) :: ds).length = 21 - p := by have := hpl.out; simp; omega
      have HL : Hid (((48 + cur % 10) :: ds).length = 21 - p) := hlen1
      have HT : Hid (Tail (fun j => if j = p - 1 then .int .u8 (48 + cur % 10) else f j) ((48 + cur % 10) :: ds)) := htail1
      have HR : Hid ((wr.setCell ⟨w.heap.size, p - 1, none⟩ (.int .u8 (48 + cur % 10))).rowIs w.heap.size 59 20 (fun j => if j = p - 1 then .int .u8 (48 + cur % 10) else f j)) := hrow1
      clear hz0 hw1 hlen1 htail1 htail hrow1
      go_wp2_with (at_builtin; refine wpList_append_lies _ rfl _ _ 22 rfl base 5 i0 (.int .u8 0) 1 1 Try.underlying22 hi hz hs hb rfl (by decide) v xs.length (xs.map (Value.int .u8)) rfl ?hown ⟨w.heap.size, p - 1, none⟩ (21 - p) (21 - p) (((48 + cur % 10) :: ds).map (Value.int .u8)) rfl ?hlen ?hnews ?hone ?hpos ?hmax ?hby ?hbase (wr.heap.size) ?hsz ?_)
      case hown => exact hown1
      case hlen => rw [List.length_map, HL.out]; omega
      case hnews => exact tail_news HR.out HT.out HL.out (by omega) hp
      case hone => intro u hu; obtain ⟨y, _, rfl⟩ := List.mem_map.1 hu; rfl
      case hpos => omega
      case hmax => unfold maxLen; omega
      case hby => omega
      case hbase => have := hbel1.size; simp; omega
      case hsz => simp
      intro g cap w1 hown hgrow hat hlt
      have hsz := hbel1.size
      have hgr : w.grownBy w1 v.ownBlock := by
        refine ⟨hgrow.os.trans hbel1.os, hgrow.tape.trans hbel1.tape, hgrow.output.trans hbel1.output, Nat.le_trans hsz hgrow.size, fun k hk hne => ?_⟩
        rw [hgrow.block k (by omega) hne]
        exact hbel1.block k hk
      have hat' : v.ownBlock = some g ∨ w.heap.size ≤ g := by
        rcases hat with h | h
        · exact Or.inl h
        · exact Or.inr (by omega)
      have hH : Own w1 base (.slice (some ⟨g, 0, none⟩) (xs.length + (21 - p)) cap) (xs ++ (48 + cur % 10) :: ds) := by
        unfold Own
        rw [List.length_append, HL.out, List.map_append]
        exact hown
      clear hown hgrow hat hsb hown1 hbel1
      go_wp2
      go_ret
      exact ⟨_, g, _, cap, HW.out, by rw [HL.out]; rfl, by omega, rfl, hH, hlt, hat', hgr⟩
    · have hzb : (cur / 10 == 0) = false := by simpa using hz0
      go_wp2
      go_roundw
      case rel => exact ⟨p - 1, (48 + cur % 10) :: ds, cur / 10, _, by go_num, rfl, by omega, hq0, by omega, Or.inl (by omega), dig_cons HD.out hm0 hm1, by have := hpl.out; simp [Hid]; omega, val_step x cur ds hval.out, hbel.setCell (Nat.le_refl _) _, hrow.set _ _, tail_step hpl.out (by omega) htail⟩
      case measure => simp [intOf]; omega
end Go.Proofs.Qxb6601361a
