/- The argument in memory; the byte bounds (20, 10), sb1OpsTooBig (11), sb1ToOps (13), ZZBuildPrecedence (12). -/
import Derived.Test.Qxb6601382aBuild
namespace Go.Proofs.Qxb6601382a
open Go.RowKit

/-- The operations lie in block b from offset o on, three cells each. -/
def LieAt (w : World) (b o : Nat) (ops : List POp) : Prop := ∀ i (h : i < ops.length), w.cell? ⟨b, o + i * 3, none⟩ = some (.int .u8 ops[i].kind) ∧ w.cell? ⟨b, o + i * 3 + 1, none⟩ = some (.int .i64 ops[i].txn) ∧ w.cell? ⟨b, o + i * 3 + 2, none⟩ = some (.string ops[i].item)
def ArgOps (w : World) (ao : Option Addr) (ops : List POp) : Prop := ops = [] ∨ ∃ b o, ao = some ⟨b, o, none⟩ ∧ b < w.heap.size ∧ LieAt w b o ops
theorem ArgOps.get {w : World} {ao : Option Addr} {ops : List POp} (h : ArgOps w ao ops) {i : Nat} (hi : i < ops.length) : ∃ b o, ao = some ⟨b, o, none⟩ ∧ b < w.heap.size ∧ LieAt w b o ops := by
  rcases h with h | h
  · rw [h] at hi; simp at hi
  · exact h
theorem LieAt.below {w w' : World} {B b o : Nat} {ops : List POp} (h : LieAt w b o ops) (hb : Below B w w') (hl : b < B) : LieAt w' b o ops := fun i hi => by
  rw [hb.cell (by exact hl), hb.cell (by exact hl), hb.cell (by exact hl)]
  exact h i hi
theorem ArgOps.below {w w' : World} {ao : Option Addr} {ops : List POp} (h : ArgOps w ao ops) (hb : Below w.heap.size w w') : ArgOps w' ao ops := by
  rcases h with h | ⟨b, o, rfl, h1, h2⟩
  · exact Or.inl h
  · exact Or.inr ⟨b, o, rfl, Nat.lt_of_lt_of_le h1 hb.size, h2.below hb h1⟩

set_option maxHeartbeats 1000000 in
theorem big_walk (ao : Option Addr) (len cap : Nat) (ops : List POp) (w : World) (ha : ArgOps w ao ops) (hlen : Hid (ops.length = len)) :
    Calls Try.prog 11 #[.slice ao len cap] w fun e w' => w' = w ∧ (e = .returned (.bool true) ∨ (e = .returned (.bool false) ∧ len ≤ 65536)) := by
  by_cases hl : len ≤ 65536
  · go_enter Try.func11, Try.ntmps11
    go_wp2
    go_loop [3, 4] (fun v3 v4 => ∃ (t k : Nat), t ≤ 1048576 ∧ k ≤ len ∧ v3 = .int .i64 t ∧ v4 = .int .i64 k) (fun _ v4 => len - (intOf v4).toNat)
    case atStart => exact ⟨0, 0, by omega, Nat.zero_le _, rfl, rfl⟩
    case round =>
      obtain ⟨t, k, ht, hk, rfl, rfl⟩ := hrel
      by_cases hlt : k < len
      · have hkx : k < ops.length := by have := hlen.out; omega
        obtain ⟨b, o, rfl, hb, hc⟩ := ha.get hkx
        obtain ⟨-, -, g2⟩ := hc k hkx
        obtain ⟨s, hs⟩ : ∃ s, ops[k].item = s := ⟨_, rfl⟩
        rw [hs] at g2
        clear hs hc
        have i1 : (k : Int) < (len : Int) := by omega
        by_cases h1 : s.size ≤ 1048576
        · by_cases h2 : t + (32 + s.size) ≤ 1048576
          · go_wp2
            go_round
            case rel => exact ⟨t + (32 + s.size), k + 1, by omega, by omega, by go_num, by go_num⟩
            case measure => simp [intOf]; omega
          · go_wp2
            go_ret
            exact ⟨rfl, Or.inl rfl⟩
        · go_wp2
          go_ret
          exact ⟨rfl, Or.inl rfl⟩
      · go_wp2
        go_ret
        exact ⟨rfl, Or.inr rfl⟩
  · go_enter Try.func11, Try.ntmps11
    go_wp2
    go_ret
    exact ⟨rfl, Or.inl rfl⟩

set_option maxHeartbeats 1000000 in
theorem bytes20 (ao : Option Addr) (len cap : Nat) (ops : List POp) (w : World) (ha : ArgOps w ao ops) (hlen : Hid (ops.length = len)) :
    Calls Try.prog 20 #[.slice ao len cap] w fun e w' => w' = w ∧ (e = .returned (.bool true) ∨ e = .returned (.bool false)) := by
  by_cases hl : len ≤ 1048576
  · go_enter Try.func20, Try.ntmps20
    go_wp2
    go_loop [3, 4] (fun v3 v4 => ∃ (t k : Nat), t ≤ 1048576 ∧ k ≤ len ∧ v3 = .int .i64 t ∧ v4 = .int .i64 k) (fun _ v4 => len - (intOf v4).toNat)
    case atStart => exact ⟨len, 0, by omega, Nat.zero_le _, by go_num, rfl⟩
    case round =>
      obtain ⟨t, k, ht, hk, rfl, rfl⟩ := hrel
      by_cases hlt : k < len
      · have hkx : k < ops.length := by have := hlen.out; omega
        obtain ⟨b, o, rfl, hb, hc⟩ := ha.get hkx
        obtain ⟨-, -, g2⟩ := hc k hkx
        obtain ⟨s, hs⟩ : ∃ s, ops[k].item = s := ⟨_, rfl⟩
        rw [hs] at g2
        clear hs hc
        have i1 : (k : Int) < (len : Int) := by omega
        by_cases h1 : s.size ≤ 1048576
        · by_cases h2 : t + s.size ≤ 1048576
          · go_wp2
            go_round
            case rel => exact ⟨t + s.size, k + 1, by omega, by omega, by go_num, by go_num⟩
            case measure => simp [intOf]; omega
          · go_wp2
            go_ret
            exact ⟨rfl, Or.inr rfl⟩
        · go_wp2
          go_ret
          exact ⟨rfl, Or.inr rfl⟩
      · go_wp2
        go_ret
        exact ⟨rfl, Or.inl rfl⟩
  · go_enter Try.func20, Try.ntmps20
    go_wp2
    go_ret
    exact ⟨rfl, Or.inr rfl⟩
theorem info55 : (Try.prog.info? 55).map (fun i => (i.zero, i.size, i.bytes)) = some (some (.agg #[.int .u8 0, .int .i64 0, .string ⟨#[]⟩]), 3, 32) := by kernel_rfl
theorem make28 (n : Nat) (hn : n ≤ 65536) (w : World) : (Instr.makeSlice 28 (.int .i64 (n : Int)) (.int .i64 (n : Int))).run Try.prog w =
    .ok (.slice (some ⟨w.heap.size, 0, none⟩) n n) (w.alloc (.cells (madeCells #[.int .u8 0, .int .i64 0, .string ⟨#[]⟩] (n * 3)) 55)) := by
  obtain ⟨i, hi, hz, hs, hb⟩ := info_parts info55
  have h := run_make (P := Try.prog) w 28 55 i _ Try.underlying28 hi hz .i64 .i64 n n (by omega) (Int.le_refl _) (by rw [hb]; omega) (by omega)
  rw [hs] at h
  simpa [Value.cells] using h
theorem made_row (w : World) (n : Nat) : ∃ f, (w.alloc (.cells (madeCells #[.int .u8 0, .int .i64 0, .string ⟨#[]⟩] (n * 3)) 55)).rowIs w.heap.size 55 (n * 3) f := by
  have h := World.rowIs_alloc w (madeCells #[.int .u8 0, .int .i64 0, .string ⟨#[]⟩] (n * 3)) 55 (fun j => (madeCells #[.int .u8 0, .int .i64 0, .string ⟨#[]⟩] (n * 3)).getD j undef) (fun i hi => by simp [Array.getD, hi])
  rw [size_madeCells] at h
  exact ⟨_, h⟩
/-- Of a row of operations the first k are copied. -/
def Copied (f : Nat → Value) (k : Nat) (ops : List POp) : Prop := ∀ i (h : i < ops.length), i < k → f (i * 3) = .int .u8 ops[i].kind ∧ f (i * 3 + 1) = .int .i64 ops[i].txn ∧ f (i * 3 + 2) = .string ops[i].item
theorem copied_step {w : World} {B n k : Nat} {f : Nat → Value} {ops : List POp} (hk : k < ops.length) (hr : w.rowIs B 55 (n * 3) f) (hc : Copied f k ops) :
    ∃ g, (((w.setCell ⟨B, k * 3, none⟩ (.int .u8 ops[k].kind)).setCell ⟨B, k * 3 + 1, none⟩ (.int .i64 ops[k].txn)).setCell ⟨B, k * 3 + 2, none⟩ (.string ops[k].item)).rowIs B 55 (n * 3) g ∧ Copied g (k + 1) ops := by
  refine ⟨_, ((hr.set _ _).set _ _).set _ _, fun i hi hlt => ?_⟩
  by_cases e : i = k
  · subst e
    refine ⟨?_, ?_, ?_⟩ <;> simp
  · have h := hc i hi (by omega)
    refine ⟨?_, ?_, ?_⟩
    · simp only [show ¬ i * 3 = k * 3 + 2 by omega, show ¬ i * 3 = k * 3 + 1 by omega, show ¬ i * 3 = k * 3 by omega, if_false]; exact h.1
    · simp only [show ¬ i * 3 + 1 = k * 3 + 2 by omega, show ¬ i * 3 + 1 = k * 3 + 1 by omega, show ¬ i * 3 + 1 = k * 3 by omega, if_false]; exact h.2.1
    · simp only [show ¬ i * 3 + 2 = k * 3 + 2 by omega, show ¬ i * 3 + 2 = k * 3 + 1 by omega, show ¬ i * 3 + 2 = k * 3 by omega, if_false]; exact h.2.2

theorem toOps_nil (w : World) : Calls Try.prog 13 #[.slice none 0 0] w fun e w' => e = .returned (.slice none 0 0) ∧ w' = w := by
  have hne := fun wx => @Lib.run_eql_slice_nil Try.prog wx
  go_enter Try.func13, Try.ntmps13
  go_wp2
  go_ret
  exact ⟨rfl, rfl⟩

set_option maxRecDepth 100000 in
set_option maxHeartbeats 2000000 in
theorem toOps_some (a : Addr) (len cap : Nat) (ops : List POp) (w : World) (ha : ArgOps w (some a) ops) (hlen : Hid (ops.length = len)) (hl : len ≤ 65536) :
    Calls Try.prog 13 #[.slice (some a) len cap] w fun e w' => e = .returned (.slice (some ⟨w.heap.size, 0, none⟩) len len) ∧ Below w.heap.size w w' ∧ OpsAt w' (some ⟨w.heap.size, 0, none⟩) ops := by
  have hmk := make28 len hl
  have hne := fun wx => @Lib.run_eql_slice_nil Try.prog wx
  obtain ⟨B, hB⟩ : ∃ B, w.heap.size = B := ⟨_, rfl⟩
  go_enter Try.func13, Try.ntmps13
  go_wp2
  go_loopw [4] (fun v wr => ∃ (k : Nat) (f : Nat → Value), k ≤ len ∧ v = .int .i64 k ∧ Below B w wr ∧ wr.rowIs B 55 (len * 3) f ∧ Copied f k ops) (fun v _ => len - (intOf v).toNat)
  case atStart =>
    obtain ⟨f, hf⟩ := made_row w len
    rw [hB] at hf
    exact ⟨0, f, Nat.zero_le _, rfl, (Below.refl _ _).alloc (by omega) _, hf, fun i _ hi => absurd hi (by omega)⟩
  case round =>
    obtain ⟨k, f, hk, rfl, hbel, hrow, hcop⟩ := hrel
    by_cases hlt : k < len
    · have hkx : k < ops.length := by have := hlen.out; omega
      obtain ⟨b, o, ha', hb, hc⟩ := ha.get hkx
      cases ha'
      obtain ⟨h0, h1, h2⟩ := (hc.below hbel (by omega)) k hkx
      obtain ⟨g, hg, hcg⟩ := copied_step hkx hrow hcop
      have hBl := hrow.lt
      have g0 := hrow.cell (i := k * 3) (by omega)
      have g1 := hrow.cell (i := k * 3 + 1) (by omega)
      have g2 := hrow.cell (i := k * 3 + 2) (by omega)
      have hfr := fun j => hrow.frozen j
      have i1 : (k : Int) < (len : Int) := by omega
      have i0 : (0 : Int) ≤ (k : Int) := by omega
      have nb : ¬ b = B := by omega
      have nb2 : ¬ B = b := by omega
      clear hc
      obtain ⟨op, hop⟩ : ∃ op, ops[k] = op := ⟨_, rfl⟩
      rw [hop] at h0 h1 h2 hg
      clear hop
      go_wp2_with fail
      go_region_held3 (fun w' => w'.cell? ⟨b, o + k * 3, none⟩ = some (.int .u8 op.kind) ∧ w'.cell? ⟨b, o + k * 3 + 1, none⟩ = some (.int .i64 op.txn) ∧ w'.cell? ⟨b, o + k * 3 + 2, none⟩ = some (.string op.item)) (go_keep) (fail)
      go_wp2
      go_roundw
      case rel => exact ⟨k + 1, g, by omega, by go_num, ((((hbel.setCell (by simp) _).setCell (by simp) _).setCell (by simp) _).drew), hg, hcg⟩
      case measure => simp [intOf]; omega
    · obtain rfl : k = len := by omega
      go_wp2
      go_ret
      refine ⟨by rw [hB]; rfl, by rw [hB]; exact hbel, Or.inr ⟨B, by rw [hB], hrow.lt, fun i hi => ?_⟩⟩
      obtain ⟨e0, e1, e2⟩ := hcop i hi (by have := hlen.out; omega)
      have hi2 : i < k := by have := hlen.out; omega
      rw [hrow.cell (by omega), hrow.cell (by omega), hrow.cell (by omega), e0, e1, e2]
      exact ⟨rfl, rfl, rfl⟩

theorem toOps_any (ao : Option Addr) (len cap : Nat) (ops : List POp) (w : World) (ha : ArgOps w ao ops) (hlen : Hid (ops.length = len)) (hl : len ≤ 65536) (hz : ao = none → len = 0 ∧ cap = 0) :
    Calls Try.prog 13 #[.slice ao len cap] w fun e w' => ∃ ao' cap', e = .returned (.slice ao' len cap') ∧ Below w.heap.size w w' ∧ OpsAt w' ao' ops := by
  cases ao with
  | none =>
    obtain ⟨rfl, rfl⟩ := hz rfl
    refine (toOps_nil w).mono ?_
    rintro e w' ⟨rfl, rfl⟩
    exact ⟨none, 0, rfl, Below.refl _ _, Or.inl (List.length_eq_zero_iff.1 hlen.out)⟩
  | some a =>
    refine (toOps_some a len cap ops w ha hlen hl).mono ?_
    rintro e w' ⟨rfl, h1, h2⟩
    exact ⟨_, _, rfl, h1, h2⟩

/-- The graph as ZZBuildPrecedence hands it out. -/
structure Graph (w w' : World) (ops : List POp) (S n : Nat) (T : List Int) (ta : Option Addr) (tc : Nat) (sv : Nat → Value) : Prop where
  bel : Below w.heap.size w w'
  own : OwnI w' w.heap.size (.slice ta n tc) T
  len : T.length = n
  nodup : T.Nodup
  sorted : T.Pairwise (· ≤ ·)
  mem : ∀ x, x ∈ T ↔ x ∈ namesOf ops ∧ abOf ops x = false
  row : w'.rowIs S 24 n sv
  suc : ∀ j, j < n → OwnI w' w.heap.size (sv j) ((prun (abOf ops) (nodeOf T) ops).succ j)
  le : n ≤ (namesOf ops).length
  le2 : (namesOf ops).length ≤ ops.length

set_option maxRecDepth 100000 in
set_option maxHeartbeats 1000000 in
theorem zzbuild (ao : Option Addr) (len cap : Nat) (ops : List POp) (w : World) (hops : OpsAt w ao ops) (hok : OkOps ops) (hlen : Hid (ops.length = len)) (hl : len ≤ 65536) :
    Calls Try.prog 12 #[.slice ao len cap] w fun e w' => ∃ S n T ta tc sv, e = .returned (.tuple #[.int .i64 (namesOf ops).length, .slice ta n tc, .slice (some ⟨S, 0, none⟩) n n]) ∧ Graph w w' ops S n T ta tc sv := by
  have hb := build_walk ao cap ops w hops hok len hlen hl w.heap.size rfl
  go_enter Try.func12, Try.ntmps12
  go_wp2_with fail
  refine hb.mono ?_
  rintro e w1 ⟨G, rfl, S, n, T, ta, tc, sv, h1, h2, h3, h4, h5, h6, h7, h8, h9, h10, h11⟩
  have c0 := h2.cell (i := 0) (by omega)
  have c1 := h2.cell (i := 1) (by omega)
  have c2 := h2.cell (i := 2) (by omega)
  simp only [gF] at c0 c1 c2
  go_wp2_with fail
  go_quiet (fail)
  go_wp2
  refine bodyPost_ret (by simp [results, Try.results12, go_sem]) rfl ⟨S, n, T, ta, tc, sv, rfl, ?_⟩
  exact ⟨⟨h1.os, h1.tape, h1.output, h1.size, h1.block⟩, h3, h4, h5, h6, h7, h8, h9, h10, h11⟩
end Go.Proofs.Qxb6601382a
