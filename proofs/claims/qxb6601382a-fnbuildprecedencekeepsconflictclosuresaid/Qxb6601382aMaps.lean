/- The three maps of buildPrecedence, key by key: map[int]bool (60), map[int]int (61), map[string]*access (62). -/
import Derived.Test.Qxb6601382aPlain
import Derived.WalkKit
import Derived.WalkSpells
import Derived.Maps.OwnSet
import Derived.Maps.OwnOps
import Derived.Maps.RangeWalk
import Derived.Sort.KeysCollected
namespace Go.Proofs.Qxb6601382a
open Go.RowKit Go.Maps

theorem keyOf_string_mk' {s : ByteArray} (hs : s.size ≤ maxLen) : keyOf Try.prog 9 (.string s) = some (.string s.data.toList) := WideMaps.keyOf_string_mk Try.underlying9 hs
theorem law3 : Keyed Try.prog 3 := int_keyed Try.underlying3
theorem law9 : Keyed Try.prog 9 := string_keyed Try.underlying9
theorem zero4 (w : World) : (zeroValue 4).run Try.prog w = .ok (.bool false) w := by kernel_rfl
theorem zero3 (w : World) : (zeroValue 3).run Try.prog w = .ok (.int .i64 0) w := by kernel_rfl
theorem zero63 (w : World) : (zeroValue 63).run Try.prog w = .ok (.pointer none) w := by kernel_rfl
def Wf (x : Int) : Prop := (Lit.int .i64 x).wf = true

theorem plainElem_bool_inv {P : Program} {e : TypeId} (he : P.underlying e = some .bool) {v : Value} {z : DataW Unit × List MemPlace} (h : plainElem P e v = some z) : ∃ x, v = .bool x ∧ z = (.lit (.bool x), []) := by
  unfold plainElem at h
  rw [he] at h
  cases v <;> simp at h
  exact ⟨_, rfl, h.symm⟩

def HoldsB (D : DataW Unit) (ks : List Int) (ab : Int → Bool) : Prop :=
  Maps.size D = ks.length ∧ ks.Nodup ∧ (∀ x ∈ ks, Wf x) ∧ ∀ x, Wf x → Maps.has D (.int .i64 x) = decide (x ∈ ks) ∧ (x ∈ ks → ∀ zd, D.atKey (.int .i64 x) zd = .lit (.bool (ab x))) ∧ (x ∉ ks → ab x = false)
def MapB (w : World) (b n : Nat) (ks : List Int) (ab : Int → Bool) : Prop := ∃ D : DataW Unit, w.ownsMap Try.prog 3 (plainElem Try.prog 4) b n D ∧ HoldsB D ks ab

def addK (ks : List Int) (t : Int) : List Int := if t ∈ ks then ks else ks ++ [t]
def updB (ab : Int → Bool) (t : Int) (v : Bool) : Int → Bool := fun x => if x = t then v else ab x

theorem HoldsB.at0 {D : DataW Unit} {ks : List Int} {ab : Int → Bool} (h : HoldsB D ks ab) {x : Int} (hw : Wf x) : D.atKey (.int .i64 x) (.lit (.bool false)) = .lit (.bool (ab x)) := by
  obtain ⟨h1, h2, h3⟩ := h.2.2.2 x hw
  by_cases hx : x ∈ ks
  · exact h2 hx _
  · rw [h3 hx]
    exact atKey_of_not_has (by rw [h1]; simp [hx]) _

theorem HoldsB.put {D : DataW Unit} {ks : List Int} {ab : Int → Bool} (h : HoldsB D ks ab) (ht : Tidy D) {t : Int} (hw : Wf t) (v : Bool) : HoldsB (D.put (.int .i64 t) (.lit (.bool v))) (addK ks t) (updB ab t v) := by
  have hk : WideAt.IsKeyLit (.int .i64 t) := trivial
  obtain ⟨s1, s2, s3, s4⟩ := h
  refine ⟨?_, ?_, ?_, fun x hx => ?_⟩
  · rw [size_put ht, (s4 t hw).1, s1]
    unfold addK
    by_cases e : t ∈ ks <;> simp [e]
  · unfold addK
    split
    · exact s2
    next e => rw [List.nodup_append]; exact ⟨s2, by simp, fun a ha b hb => by simp at hb; subst hb; exact fun e' => e (e' ▸ ha)⟩
  · intro x hx
    unfold addK at hx
    split at hx
    · exact s3 x hx
    · rcases List.mem_append.1 hx with hx | hx
      · exact s3 x hx
      · simp at hx; subst hx; exact hw
  · have hm : x ∈ addK ks t ↔ x ∈ ks ∨ x = t := by
      unfold addK; split
      next e => exact ⟨Or.inl, fun h => h.elim id (fun e' => e' ▸ e)⟩
      next e => simp
    by_cases e : x = t
    · subst e
      refine ⟨by rw [has_put_same ht.isMap hk]; simp [hm], fun _ zd => ?_, fun hn => absurd (hm.2 (Or.inr rfl)) hn⟩
      rw [atKey_put_same ht.isMap hk]; simp [updB]
    · have hne : (Lit.int .i64 x) ≠ .int .i64 t := fun h => e (by simpa using h)
      obtain ⟨g1, g2, g3⟩ := s4 x hx
      refine ⟨by rw [has_put_other hne, g1]; simp [hm, e], fun hi zd => ?_, fun hn => ?_⟩
      · rw [atKey_put_other hne]
        simp only [updB, if_neg e]
        exact g2 ((hm.1 hi).resolve_right e) zd
      · simp only [updB, if_neg e]
        exact g3 fun hi => hn (hm.2 (Or.inl hi))

theorem MapB.kept {w w' : World} {b n : Nat} {ks : List Int} {ab : Int → Bool} {row : Option Nat} (h : MapB w b n ks ab) (hg : w.grownBy w' row) (hne : some b ≠ row) : MapB w' b n ks ab := by
  obtain ⟨D, h1, h2⟩ := h
  exact ⟨D, h1.kept hg hne, h2⟩

/-! ### map[int]int -/
def MapN (w : World) (b n : Nat) (N : Int → Nat) : Prop := ∃ D : DataW Unit, w.ownsMap Try.prog 3 (plainElem Try.prog 3) b n D ∧ ∀ x, Wf x → D.atKey (.int .i64 x) (.lit (.int .i64 0)) = .lit (.int .i64 (N x))
theorem MapN.kept {w w' : World} {b n : Nat} {N : Int → Nat} {row : Option Nat} (h : MapN w b n N) (hg : w.grownBy w' row) (hne : some b ≠ row) : MapN w' b n N := by
  obtain ⟨D, h1, h2⟩ := h
  exact ⟨D, h1.kept hg hne, h2⟩

/-! ### map[string]*access: the datum holds the access block's number -/
def ptrElem : Value → Option (DataW Unit × List MemPlace)
  | .pointer none => some (.lit (.int .i64 (-1)), [])
  | .pointer (some a) => if a.off = 0 ∧ a.spot = none then some (.lit (.int .i64 a.block), []) else none
  | _ => none
def MapP (w : World) (b n : Nat) (f : List UInt8 → Option Nat) : Prop := ∃ D : DataW Unit, w.ownsMap Try.prog 9 ptrElem b n D ∧ ∀ k, Maps.has D (.string k) = (f k).isSome ∧ ∀ x, f k = some x → ∀ zd, D.atKey (.string k) zd = .lit (.int .i64 x)
theorem MapP.kept {w w' : World} {b n : Nat} {f : List UInt8 → Option Nat} {row : Option Nat} (h : MapP w b n f) (hg : w.grownBy w' row) (hne : some b ≠ row) : MapP w' b n f := by
  obtain ⟨D, h1, h2⟩ := h
  exact ⟨D, h1.kept hg hne, h2⟩
theorem ptrElem_some {v : Value} {x : Nat} {ps : List MemPlace} (h : ptrElem v = some (.lit (.int .i64 x), ps)) : v = .pointer (some ⟨x, 0, none⟩) := by
  unfold ptrElem at h
  split at h
  · simp at h
  next a =>
    split at h
    next e =>
      obtain ⟨b, o, sp⟩ := a
      simp at h e
      obtain ⟨rfl, rfl⟩ := e
      have : b = x := by omega
      rw [this]
    · cases h
  · cases h
theorem ptrElem_none {v : Value} {ps : List MemPlace} (h : ptrElem v = some (.lit (.int .i64 (-1)), ps)) : v = .pointer none := by
  unfold ptrElem at h
  split at h
  · rfl
  next a =>
    split at h
    · simp at h
    · cases h
  · cases h

/-! ### at the operation -/
section
variable (w : World) {ops : Array Oper} {rest : List Oper} {o : Oper} {a : Act} {Q : Exit → Act → World → Prop}

theorem wpList_lookB (hg : o.guard = none) (m x : Operand) (hop : o.op = Op.lookup 60 m x false) (b n : Nat) (ks : List Int) (ab : Int → Bool) (hm : a.eval m = .map (some b)) (h : MapB w b n ks ab) (t : Int) (ht : Wf t) (hx : a.eval x = .int .i64 t)
    (hK : wpList Try.prog ops Q rest (a.put o.dst (.bool (ab t))) w) : wpList Try.prog ops Q (o :: rest) a w := by
  refine wpList_plain hg fun K' hK' => ?_
  obtain ⟨D, h1, h2⟩ := h
  obtain ⟨v, ps, hrun, hv⟩ := h1.lookup law3 Try.underlying60 (zero4 w) (plainElem_bool Try.underlying4 false) (keyOf_int_mk Try.underlying3 ht)
  rw [h2.at0 ht] at hv
  obtain ⟨c, rfl, hc⟩ := plainElem_bool_inv Try.underlying4 hv
  simp at hc
  obtain ⟨rfl, -⟩ := hc
  unfold Oper.wp
  simp [execOp, hop, hm, hx, hrun, Result.andThen]
  exact hK' _ _ hK

theorem wpList_putB (hg : o.guard = none) (m x y : Operand) (hop : o.op = Op.mapUpdate 60 m x y) (b n : Nat) (ks : List Int) (ab : Int → Bool) (hm : a.eval m = .map (some b)) (h : MapB w b n ks ab) (hn : n < maxLen) (t : Int) (ht : Wf t) (v : Bool) (hx : a.eval x = .int .i64 t) (hy : a.eval y = .bool v)
    (hK : ∀ w', MapB w' b (n + 1) (addK ks t) (updB ab t v) → w.grownBy w' (some b) → wpList Try.prog ops Q rest (a.put o.dst undef) w') : wpList Try.prog ops Q (o :: rest) a w := by
  obtain ⟨D, h1, h2⟩ := h
  exact wpList_mapUpdate_own w hg m x y 60 hop 3 4 law3 Try.underlying60 _ b n D hm h1 hn _ _ _ hx hy (keyOf_int_mk Try.underlying3 ht) _ [] (plainElem_bool Try.underlying4 v) (fun w' h3 h4 => hK w' ⟨_, h3, h2.put (h1.tidy law3) ht v⟩ h4)

theorem wpList_lookN (hg : o.guard = none) (m x : Operand) (hop : o.op = Op.lookup 61 m x false) (b n : Nat) (N : Int → Nat) (hm : a.eval m = .map (some b)) (h : MapN w b n N) (t : Int) (ht : Wf t) (hx : a.eval x = .int .i64 t)
    (hK : wpList Try.prog ops Q rest (a.put o.dst (.int .i64 (N t))) w) : wpList Try.prog ops Q (o :: rest) a w := by
  refine wpList_plain hg fun K' hK' => ?_
  obtain ⟨D, h1, h2⟩ := h
  obtain ⟨c, hrun, hat, -⟩ := h1.lookup_int law3 Try.underlying61 Try.underlying3 (zero3 w) (keyOf_int_mk Try.underlying3 ht)
  rw [h2 t ht] at hat
  simp at hat
  subst hat
  unfold Oper.wp
  simp [execOp, hop, hm, hx, hrun, Result.andThen]
  exact hK' _ _ hK

def updN (N : Int → Nat) (t : Int) (v : Nat) : Int → Nat := fun x => if x = t then v else N x
theorem wpList_putN (hg : o.guard = none) (m x y : Operand) (hop : o.op = Op.mapUpdate 61 m x y) (b n : Nat) (N : Int → Nat) (hm : a.eval m = .map (some b)) (h : MapN w b n N) (hn : n < maxLen) (t : Int) (ht : Wf t) (v : Nat) (hv : Wf v) (hx : a.eval x = .int .i64 t) (hy : a.eval y = .int .i64 v)
    (hK : ∀ w', MapN w' b (n + 1) (updN N t v) → w.grownBy w' (some b) → wpList Try.prog ops Q rest (a.put o.dst undef) w') : wpList Try.prog ops Q (o :: rest) a w := by
  obtain ⟨D, h1, h2⟩ := h
  refine wpList_mapUpdate_own w hg m x y 61 hop 3 3 law3 Try.underlying61 _ b n D hm h1 hn _ _ _ hx hy (keyOf_int_mk Try.underlying3 ht) _ [] (plainElem_int Try.underlying3 hv) (fun w' h3 h4 => hK w' ⟨_, h3, fun x hx => ?_⟩ h4)
  unfold updN
  by_cases e : x = t
  · subst e
    have hk : WideAt.IsKeyLit (.int .i64 x) := trivial
    rw [if_pos rfl, atKey_put_same h1.isMap hk]
  · rw [if_neg e, atKey_put_other (fun h => e (by simpa using h)), h2 x hx]

theorem look_P {b n : Nat} {f : List UInt8 → Option Nat} (h : MapP w b n f) (s : ByteArray) (hs : s.size ≤ maxLen) :
    (Instr.lookup 62 (.map (some b)) (.string s) true).run Try.prog w = .ok (.tuple #[match f s.data.toList with | some x => .pointer (some ⟨x, 0, none⟩) | none => .pointer none, .bool (f s.data.toList).isSome]) w := by
  obtain ⟨D, h1, h2⟩ := h
  obtain ⟨v, ps, hrun, hv⟩ := h1.look_ok law9 Try.underlying62 (zero63 w) (zd := .lit (.int .i64 (-1))) (zp := []) rfl (keyOf_string_mk' hs)
  obtain ⟨g1, g2⟩ := h2 s.data.toList
  rw [hrun, g1]
  cases hf : f s.data.toList with
  | some x =>
    rw [g2 x hf] at hv
    rw [ptrElem_some hv]
  | none =>
    rw [atKey_of_not_has (by rw [g1, hf]; rfl)] at hv
    rw [ptrElem_none hv]

theorem wpList_lookP (hg : o.guard = none) (m x : Operand) (hop : o.op = Op.lookup 62 m x true) (b n : Nat) (f : List UInt8 → Option Nat) (hm : a.eval m = .map (some b)) (h : MapP w b n f) (s : ByteArray) (hs : s.size ≤ maxLen) (hx : a.eval x = .string s) (p : Value) (c : Bool)
    (hp : p = match f s.data.toList with | some x => .pointer (some ⟨x, 0, none⟩) | none => .pointer none) (hc : (f s.data.toList).isSome = c)
    (hK : wpList Try.prog ops Q rest (a.put o.dst (.tuple #[p, .bool c])) w) : wpList Try.prog ops Q (o :: rest) a w := by
  refine wpList_plain hg fun K' hK' => ?_
  have hrun := look_P w h s hs
  rw [hc, ← hp] at hrun
  unfold Oper.wp
  simp [execOp, hop, hm, hx, hrun, Result.andThen]
  exact hK' _ _ hK
theorem wpList_lookP_some (hg : o.guard = none) (m x : Operand) (hop : o.op = Op.lookup 62 m x true) (b n : Nat) (f : List UInt8 → Option Nat) (hm : a.eval m = .map (some b)) (h : MapP w b n f) (s : ByteArray) (hs : s.size ≤ maxLen) (hx : a.eval x = .string s) (c : Nat) (hc : f s.data.toList = some c)
    (hK : wpList Try.prog ops Q rest (a.put o.dst (.tuple #[.pointer (some ⟨c, 0, none⟩), .bool true])) w) : wpList Try.prog ops Q (o :: rest) a w := by
  refine wpList_plain hg fun K' hK' => ?_
  have hrun := look_P w h s hs
  rw [hc] at hrun
  unfold Oper.wp
  simp at hrun
  simp [execOp, hop, hm, hx, hrun, Result.andThen]
  exact hK' _ _ hK
theorem wpList_lookP_none (hg : o.guard = none) (m x : Operand) (hop : o.op = Op.lookup 62 m x true) (b n : Nat) (f : List UInt8 → Option Nat) (hm : a.eval m = .map (some b)) (h : MapP w b n f) (s : ByteArray) (hs : s.size ≤ maxLen) (hx : a.eval x = .string s) (hc : f s.data.toList = none)
    (hK : wpList Try.prog ops Q rest (a.put o.dst (.tuple #[.pointer none, .bool false])) w) : wpList Try.prog ops Q (o :: rest) a w := by
  refine wpList_plain hg fun K' hK' => ?_
  have hrun := look_P w h s hs
  rw [hc] at hrun
  unfold Oper.wp
  simp at hrun
  simp [execOp, hop, hm, hx, hrun, Result.andThen]
  exact hK' _ _ hK

def updP (f : List UInt8 → Option Nat) (k : List UInt8) (c : Nat) : List UInt8 → Option Nat := fun x => if x = k then some c else f x
theorem wpList_putP (hg : o.guard = none) (m x y : Operand) (hop : o.op = Op.mapUpdate 62 m x y) (b n : Nat) (f : List UInt8 → Option Nat) (hm : a.eval m = .map (some b)) (h : MapP w b n f) (hn : n < maxLen) (s : ByteArray) (hs : s.size ≤ maxLen) (c : Nat) (hx : a.eval x = .string s) (hy : a.eval y = .pointer (some ⟨c, 0, none⟩))
    (hK : ∀ w', MapP w' b (n + 1) (updP f s.data.toList c) → w.grownBy w' (some b) → wpList Try.prog ops Q rest (a.put o.dst undef) w') : wpList Try.prog ops Q (o :: rest) a w := by
  obtain ⟨D, h1, h2⟩ := h
  refine wpList_mapUpdate_own w hg m x y 62 hop 9 63 law9 Try.underlying62 ptrElem b n D hm h1 hn _ _ _ hx hy (keyOf_string_mk' hs) (.lit (.int .i64 c)) [] (by simp [ptrElem]) (fun w' h3 h4 => hK w' ⟨_, h3, fun k => ?_⟩ h4)
  have hk : WideAt.IsKeyLit (.string s.data.toList) := trivial
  unfold updP
  by_cases e : k = s.data.toList
  · subst e
    rw [if_pos rfl]
    refine ⟨by rw [has_put_same h1.isMap hk]; rfl, fun x hx zd => ?_⟩
    cases hx
    rw [atKey_put_same h1.isMap hk]
  · have hne : (Lit.string k) ≠ .string s.data.toList := fun h => e (by simpa using h)
    rw [if_neg e]
    refine ⟨by rw [has_put_other hne, (h2 k).1], fun x hx zd => ?_⟩
    rw [atKey_put_other hne]
    exact (h2 k).2 x hx zd
end
end Go.Proofs.Qxb6601382a
