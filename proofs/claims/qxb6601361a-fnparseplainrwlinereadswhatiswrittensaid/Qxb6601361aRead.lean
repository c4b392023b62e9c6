/- ZZParsePlainRWLine (16) and the law's walk (6). -/
import Derived.Test.Qxb6601361aLine
import Derived.OpenShut
namespace Go.Proofs.Qxb6601361a
open Go.RowKit

theorem zeros35 (w : World) : (w.alloc (.cells #[.int .i64 0, .int .i64 0, .int .i64 0, .int .i64 0] 35)).rowIs w.heap.size 35 4 (fun _ => .int .i64 0) :=
  World.rowIs_alloc w _ 35 _ (fun i hi => by
    simp at hi
    match i, hi with
    | 0, _ | 1, _ | 2, _ | 3, _ => rfl
    | k + 4, h => exact absurd h (by omega))

theorem laid35 {w1 : World} {F : Nat} {φ : Nat → Value} (h : w1.rowIs F 35 4 φ) (V : Nat → Int) :
    ((((w1.setCell ⟨F, 0, none⟩ (.int .i64 (V 0))).setCell ⟨F, 1, none⟩ (.int .i64 (V 1))).setCell ⟨F, 2, none⟩ (.int .i64 (V 2))).setCell ⟨F, 3, none⟩ (.int .i64 (V 3))).cell? ⟨F, 0, none⟩ = some (.int .i64 (V 0)) ∧
    ((((w1.setCell ⟨F, 0, none⟩ (.int .i64 (V 0))).setCell ⟨F, 1, none⟩ (.int .i64 (V 1))).setCell ⟨F, 2, none⟩ (.int .i64 (V 2))).setCell ⟨F, 3, none⟩ (.int .i64 (V 3))).cell? ⟨F, 1, none⟩ = some (.int .i64 (V 1)) ∧
    ((((w1.setCell ⟨F, 0, none⟩ (.int .i64 (V 0))).setCell ⟨F, 1, none⟩ (.int .i64 (V 1))).setCell ⟨F, 2, none⟩ (.int .i64 (V 2))).setCell ⟨F, 3, none⟩ (.int .i64 (V 3))).cell? ⟨F, 2, none⟩ = some (.int .i64 (V 2)) ∧
    ((((w1.setCell ⟨F, 0, none⟩ (.int .i64 (V 0))).setCell ⟨F, 1, none⟩ (.int .i64 (V 1))).setCell ⟨F, 2, none⟩ (.int .i64 (V 2))).setCell ⟨F, 3, none⟩ (.int .i64 (V 3))).cell? ⟨F, 3, none⟩ = some (.int .i64 (V 3)) := by
  have hr := ((((h.set 0 (.int .i64 (V 0))).set 1 (.int .i64 (V 1))).set 2 (.int .i64 (V 2))).set 3 (.int .i64 (V 3)))
  exact ⟨hr.cell (i := 0) (by omega), hr.cell (i := 1) (by omega), hr.cell (i := 2) (by omega), hr.cell (i := 3) (by omega)⟩

set_option maxHeartbeats 400000 in
theorem zz_parse (kd k0 : Int) (neg : Bool) (g n cap : Nat) (D : Nat → List Int) (P : Nat → Nat) (V : Nat → Int) (w : World) (hg : g < w.heap.size) (hc : n ≤ cap) (hm : n ≤ 1048576) (hL : Line w g n k0 D P)
    (hk : (kd = 1 ∧ k0 = 114) ∨ (kd = 2 ∧ k0 = 119)) (hD : ∀ f, f < 3 → Writes (D f) (V f)) (hD3 : (neg = false ∧ Writes (D 3) (V 3)) ∨ (neg = true ∧ kd = 2 ∧ D 3 = [45, 49] ∧ V 3 = -1)) :
    Calls Try.prog 16 #[.slice (some ⟨g, 0, none⟩) n cap] w fun e w' => e = .returned (ans kd V (!(kd == 2 && V 1 == 0))) ∧ Below w.heap.size w w' := by
  have hL1 : ∀ o, Line (w.alloc o) g n k0 D P := fun o => hL.below ((Below.refl _ _).alloc (Nat.le_refl _) o) hg
  have hp := fun o => parse_any kd k0 neg g n cap D P V (w.alloc o) (by simp; omega) hc hm (hL1 o) hk hD hD3
  generalize (!(kd == 2 && V 1 == 0)) = ok at hp ⊢
  unfold ans at hp ⊢
  generalize (if ok = true then kd else 0) = q at hp ⊢
  go_enter Try.func16, Try.ntmps16
  go_wp2_with fail
  refine (hp _).mono ?_
  rintro e w1 ⟨rfl, hb1⟩
  have hs1 := hb1.size
  simp only [World.size_alloc] at hs1
  have hrow : w1.rowIs w.heap.size 35 4 (fun _ => .int .i64 0) := (zeros35 w).of_block (hb1.block w.heap.size (by simp))
  have b0 := hrow.cell (i := 0) (by omega)
  have b1 := hrow.cell (i := 1) (by omega)
  have b2 := hrow.cell (i := 2) (by omega)
  have b3 := hrow.cell (i := 3) (by omega)
  have bf := fun o => hrow.frozen o
  have hB := hrow.lt
  have hbel : Below w.heap.size w w1 := ((Below.refl w.heap.size w).alloc (Nat.le_refl _) _).trans (hb1.mono (by simp))
  clear hp hL1 hb1
  go_wp2
  obtain ⟨r0, r1, r2, r3⟩ := laid35 hrow V
  have hbW : Below w.heap.size w ((((w1.setCell ⟨w.heap.size, 0, none⟩ (.int .i64 (V 0))).setCell ⟨w.heap.size, 1, none⟩ (.int .i64 (V 1))).setCell ⟨w.heap.size, 2, none⟩ (.int .i64 (V 2))).setCell ⟨w.heap.size, 3, none⟩ (.int .i64 (V 3))) := (((hbel.setCell (Nat.le_refl _) _).setCell (Nat.le_refl _) _).setCell (Nat.le_refl _) _).setCell (Nat.le_refl _) _
  generalize (((w1.setCell ⟨w.heap.size, 0, none⟩ (.int .i64 (V 0))).setCell ⟨w.heap.size, 1, none⟩ (.int .i64 (V 1))).setCell ⟨w.heap.size, 2, none⟩ (.int .i64 (V 2))).setCell ⟨w.heap.size, 3, none⟩ (.int .i64 (V 3)) = W at r0 r1 r2 r3 hbW ⊢
  exact bodyPost_ret (v := .tuple #[.int .u8 q, .agg #[.int .i64 (V 0), .int .i64 (V 1), .int .i64 (V 2), .int .i64 (V 3)], .bool ok]) (by simp [results, Try.results16, go_sem, r0, r1, r2, r3]) rfl ⟨rfl, hbW⟩

/-- The line so far: n bytes xs in the call's own block g; w is the world in which the call began. -/
structure Buf (w wi : World) (g n cap : Nat) (xs : List Int) : Prop where
  bel : Below w.heap.size w wi
  own : wi.ownsRow w.heap.size 5 1 (.slice (some ⟨g, 0, none⟩) n cap) n (xs.map (Value.int .u8))
  ge : w.heap.size ≤ g
  lt : g < wi.heap.size

theorem Buf.len {w wi : World} {g n cap : Nat} {xs : List Int} (h : Buf w wi g n cap xs) : xs.length = n := by
  have := h.own.1
  simpa using this

theorem Buf.cap {w wi : World} {g n cap : Nat} {xs : List Int} (h : Buf w wi g n cap xs) : n ≤ cap := by
  rcases h.own.2 with ⟨h1, _⟩ | ⟨g', cap', cur, h1, _, _, h2, _⟩
  · cases h1
  · simp at h1
    omega

theorem Buf.at {w wi : World} {g n cap : Nat} {xs : List Int} (h : Buf w wi g n cap xs) : At wi g 0 xs := by
  intro i hi
  have := World.ownsRow.cells h.own (g := g) rfl i (.int .u8 xs[i]) (by rw [List.getElem?_map, List.getElem?_eq_getElem hi]; rfl)
  rw [WideShapes.add_plain] at this
  exact this

theorem make80 (w : World) : (Instr.makeSlice 22 (.int .i64 0) (.int .i64 80)).run Try.prog w = .ok (.slice (some ⟨w.heap.size, 0, none⟩) 0 80) (w.alloc (.cells (madeCells #[.int .u8 0] 80) 5)) := by
  obtain ⟨i, hi, hz, hs, hb⟩ := info_parts info5
  have h := run_make (P := Try.prog) w 22 5 i _ Try.underlying22 hi hz .i64 .i64 0 80 (by omega) (by omega) (by rw [hb]; omega) (by omega)
  rw [hs] at h
  simpa [Value.cells] using h

theorem buf_made (w : World) : Buf w (w.alloc (.cells (madeCells #[.int .u8 0] 80) 5)) w.heap.size 0 80 [] :=
  ⟨(Below.refl _ _).alloc (Nat.le_refl _) _, World.ownsRow_made w _ 80 (Nat.le_refl _) (by unfold maxLen; omega) (by simp [size_madeCells]), Nat.le_refl _, by simp⟩

/-- 'line = append(line, c)': the byte lies in a new block of its own. -/
theorem wp_app1 {w wi : World} {ops : Array Oper} {rest : List Oper} {o : Oper} {a : Act} {Q : Exit → Act → World → Prop} (g n cap : Nat) (xs : List Int) (c : Int) (hB : Buf w wi g n cap xs) (hn : n ≤ 1000)
    (hgd : o.guard = none) (s x : Operand) (ho : o.op = .call { callee := .builtin .append, args := #[s, x], argTypes := #[22, 22] })
    (hs : a.eval s = .slice (some ⟨g, 0, none⟩) n cap) (H : Nat) (hH : wi.heap.size = H) (hx : a.eval x = .slice (some ⟨H, 0, none⟩) 1 1)
    (h : ∀ g' cap' w', Buf w w' g' (n + 1) cap' (xs ++ [c]) → wpList Try.prog ops Q rest (a.put o.dst (.slice (some ⟨g', 0, none⟩) (n + 1) cap')) w') :
    wpList Try.prog ops Q (o :: rest) a (wi.alloc (.cells #[.int .u8 c] 5)) := by
  subst hH
  obtain ⟨i0, hi, hz, hsz, hb⟩ := info_parts info5
  have hsize := hB.bel.size
  refine wpList_append_lies _ hgd s x 22 ho w.heap.size 5 i0 (.int .u8 0) 1 1 Try.underlying22 hi hz hsz hb rfl (by decide) _ n (xs.map (Value.int .u8)) hs (World.ownsRow.alloc hB.own _) ⟨wi.heap.size, 0, none⟩ 1 1 [.int .u8 c] hx rfl
    (World.news_of_block (cs := #[.int .u8 c]) (t := 5) (fr := (0, 0)) (by exact (MapKept.heap_alloc wi _).1)) (by intro u hu; simp at hu; subst hu; rfl) (by decide) (by unfold maxLen; omega) (by omega) (by simp; omega) (wi.heap.size + 1) (by simp) ?_
  intro g' cap' w' hown hgrow hat hlt
  have hsz2 := hgrow.size
  simp at hsz2
  refine h g' cap' w' ⟨?_, by rw [List.map_append]; exact hown, ?_, hlt⟩
  · refine hB.bel.trans ⟨hgrow.os, hgrow.tape, hgrow.output, by omega, fun k hk => ?_⟩
    rw [hgrow.block k (by simp; omega) (by intro e; have : k = g := by simpa [Value.ownBlock] using e
                                           have := hB.ge; omega), Below.heap_alloc _ _ _ (by omega)]
  · rcases hat with h1 | h1
    · have : g = g' := by simpa [Value.ownBlock] using h1
      have := hB.ge
      omega
    · omega

theorem dec_buf {w wi : World} (g n cap : Nat) (xs : List Int) (x : Int) (hB : Buf w wi g n cap xs) (hn : n ≤ 100) (x0 : 0 ≤ x) (x1 : x ≤ 999999999999999999) :
    Calls Try.prog 19 #[.slice (some ⟨g, 0, none⟩) n cap, .int .i64 x] wi fun e w' => ∃ ds g' n' cap', Writes ds x ∧ n' ≤ n + 18 ∧ e = .returned (.slice (some ⟨g', 0, none⟩) n' cap') ∧ Buf w w' g' n' cap' (xs ++ ds) := by
  have hl := hB.len
  have hsize := hB.bel.size
  have ho : Own wi w.heap.size (.slice (some ⟨g, 0, none⟩) n cap) xs := by unfold Own; rw [hl]; exact hB.own
  refine (dec_pos (.slice (some ⟨g, 0, none⟩) n cap) w.heap.size xs x wi ho (by omega) hsize (fun k hk => by have : g = k := by simpa [Value.ownBlock] using hk
                                                                                                             have := hB.lt; omega) x0 x1).mono ?_
  rintro e w' ⟨ds, g', n', cap', hw, hn', hle, he, hown, hlt, hat, hgr⟩
  refine ⟨ds, g', n', cap', hw, by omega, he, ⟨?_, ?_, ?_, hlt⟩⟩
  · refine hB.bel.trans ⟨hgr.os, hgr.tape, hgr.output, hgr.size, fun k hk => hgr.block k (by omega) (by intro e; have : k = g := by simpa [Value.ownBlock] using e
                                                                                                        have := hB.ge; omega)⟩
  · unfold Own at hown
    rw [List.length_append, ← hn'.out] at hown
    exact hown
  · rcases hat with h1 | h1
    · have : g = g' := by simpa [Value.ownBlock] using h1
      have := hB.ge
      omega
    · omega

theorem dec_buf_neg {w wi : World} (g n cap : Nat) (xs : List Int) (hB : Buf w wi g n cap xs) (hn : n ≤ 100) :
    Calls Try.prog 19 #[.slice (some ⟨g, 0, none⟩) n cap, .int .i64 (-1)] wi fun e w' => ∃ g' n' cap', n' ≤ n + 18 ∧ e = .returned (.slice (some ⟨g', 0, none⟩) n' cap') ∧ Buf w w' g' n' cap' (xs ++ [45, 49]) := by
  have hl := hB.len
  have hsize := hB.bel.size
  have ho : Own wi w.heap.size (.slice (some ⟨g, 0, none⟩) n cap) xs := by unfold Own; rw [hl]; exact hB.own
  refine (dec_neg (.slice (some ⟨g, 0, none⟩) n cap) w.heap.size xs wi ho (by omega) hsize).mono ?_
  rintro e w' ⟨g', cap', he, hown, hlt, hat, hgr⟩
  rw [hl] at he hown
  refine ⟨g', n + 2, cap', by omega, he, ⟨?_, ?_, ?_, hlt⟩⟩
  · refine hB.bel.trans ⟨hgr.os, hgr.tape, hgr.output, hgr.size, fun k hk => hgr.block k (by omega) (by intro e; have : k = g := by simpa [Value.ownBlock] using e
                                                                                                        have := hB.ge; omega)⟩
  · unfold Own at hown
    rw [List.length_append, hl] at hown
    exact hown
  · rcases hat with h1 | h1
    · have : g = g' := by simpa [Value.ownBlock] using h1
      have := hB.ge
      omega
    · omega
end Go.Proofs.Qxb6601361a
