/- The conflict graph without Go: the fold's graph has the same reflexive and transitive closure. -/
import Derived.Test.Qxb6601382aPlain
namespace Go.Proofs.Qxb6601382a

def RTn (R : Nat → Nat → Prop) (a : Nat) : Nat → Nat → Prop
  | 0, b => a = b
  | n + 1, c => ∃ b, RTn R a n b ∧ R b c
/-- The reflexive and transitive closure. -/
def RT (R : Nat → Nat → Prop) (a b : Nat) : Prop := ∃ n, RTn R a n b
theorem RT.refl {R : Nat → Nat → Prop} (a : Nat) : RT R a a := ⟨0, rfl⟩
theorem RT.tail {R : Nat → Nat → Prop} {a b c : Nat} (h : RT R a b) (e : R b c) : RT R a c := by
  obtain ⟨n, hn⟩ := h
  exact ⟨n + 1, b, hn, e⟩
theorem RT.ind {R : Nat → Nat → Prop} {a : Nat} {P : Nat → Prop} (h0 : P a) (hs : ∀ b c, P b → R b c → P c) {b : Nat} (h : RT R a b) : P b := by
  obtain ⟨n, hn⟩ := h
  induction n generalizing b with
  | zero => exact hn ▸ h0
  | succ n ih =>
    obtain ⟨c, hc, e⟩ := hn
    exact hs c b (ih hc) e
theorem RT.one {R : Nat → Nat → Prop} {a b : Nat} (h : R a b) : RT R a b := .tail (.refl a) h
theorem RT.trans {R : Nat → Nat → Prop} {a b c : Nat} (h : RT R a b) (k : RT R b c) : RT R a c :=
  k.ind (P := fun x => RT R a x) h fun _ _ h e => .tail h e
theorem RT.mono {R R' : Nat → Nat → Prop} (h : ∀ a b, R a b → RT R' a b) {a b : Nat} (k : RT R a b) : RT R' a b :=
  k.ind (P := fun x => RT R' a x) (.refl a) fun b c hb e => hb.trans (h b c e)

def Live (ab : Int → Bool) (o : POp) : Prop := ¬ o.skips ab
/-- o stands ahead of p and is in conflict with it. -/
def Conf (ab : Int → Bool) (o p : POp) : Prop := Live ab o ∧ Live ab p ∧ (o.kind = 1 ∨ p.kind = 1) ∧ o.key = p.key ∧ o.txn ≠ p.txn
/-- The textbook's edges among the operations so far. -/
def Want (ab : Int → Bool) (N : Int → Nat) (ops : List POp) (a b : Nat) : Prop := ∃ i j, ∃ (hi : i < ops.length) (hj : j < ops.length), i < j ∧ Conf ab ops[i] ops[j] ∧ a = N ops[i].txn ∧ b = N ops[j].txn
def Got (s : St) (a b : Nat) : Prop := (b : Int) ∈ s.succ a

theorem want_old {ab : Int → Bool} {N : Int → Nat} {ops : List POp} {p : POp} {a b : Nat} (h : Want ab N ops a b) : Want ab N (ops ++ [p]) a b := by
  obtain ⟨i, j, hi, hj, hij, hc, rfl, rfl⟩ := h
  refine ⟨i, j, by simp; omega, by simp; omega, hij, ?_, ?_, ?_⟩ <;> simp only [List.getElem_append_left hi, List.getElem_append_left hj]
  exact hc
theorem want_new {ab : Int → Bool} {N : Int → Nat} {ops : List POp} {p o : POp} (ho : o ∈ ops) (hc : Conf ab o p) : Want ab N (ops ++ [p]) (N o.txn) (N p.txn) := by
  obtain ⟨i, hi, rfl⟩ := List.getElem_of_mem ho
  refine ⟨i, ops.length, by simp; omega, by simp, hi, ?_, ?_, ?_⟩ <;> simp only [List.getElem_append_left hi, List.getElem_concat_length]
  exact hc
theorem want_inv {ab : Int → Bool} {N : Int → Nat} {ops : List POp} {p : POp} {a b : Nat} (h : Want ab N (ops ++ [p]) a b) : Want ab N ops a b ∨ ∃ o ∈ ops, Conf ab o p ∧ a = N o.txn ∧ b = N p.txn := by
  obtain ⟨i, j, hi, hj, hij, hc, rfl, rfl⟩ := h
  simp only [List.length_append, List.length_singleton] at hi hj
  have hi' : i < ops.length := by omega
  by_cases e : j < ops.length
  · left
    rw [List.getElem_append_left hi', List.getElem_append_left e] at hc
    exact ⟨i, j, hi', e, hij, hc, by rw [List.getElem_append_left hi'], by rw [List.getElem_append_left e]⟩
  · right
    obtain rfl : j = ops.length := by omega
    rw [List.getElem_append_left hi', List.getElem_concat_length rfl] at hc
    exact ⟨ops[i], List.getElem_mem hi', hc, by rw [List.getElem_append_left hi'], by rw [List.getElem_concat_length rfl]⟩

/-- What the fold keeps. -/
structure Keep (ab : Int → Bool) (N : Int → Nat) (ops : List POp) (s : St) : Prop where
  writer : ∀ k (v : Int), (accOf s.items k).1 = v → 0 ≤ v → ∃ o ∈ ops, Live ab o ∧ o.kind = 1 ∧ o.key = k ∧ (N o.txn : Int) = v
  reader : ∀ k r, r ∈ (accOf s.items k).2 → ∃ o ∈ ops, Live ab o ∧ o.key = k ∧ (N o.txn : Int) = r
  sound : ∀ a b : Nat, Got s a b → Want ab N ops a b
  head : ∀ a (r : Int), r ∈ s.succ a → ∃ b : Nat, r = b
  path : ∀ o ∈ ops, Live ab o → (0 ≤ (accOf s.items o.key).1 ∧ RT (Got s) (N o.txn) (accOf s.items o.key).1.toNat) ∨ (o.kind = 0 ∧ (N o.txn : Int) ∈ (accOf s.items o.key).2)
  whole : ∀ a b : Nat, Want ab N ops a b → RT (Got s) a b

theorem accOf_set (I : Items) (k k' : List UInt8) (p : Int × List Int) : accOf (setI I k p) k' = if k' = k then p else accOf I k' := by
  unfold accOf setI; split <;> simp
theorem mem_addE {L : Nat → List Int} {r v x : Int} {a : Nat} : x ∈ addE L r v a ↔ x ∈ L a ∨ ((a : Int) = r ∧ x = v) := by
  unfold addE; split
  next e => simp [e]
  next e => simp [e]
theorem mem_addW {L : Nat → List Int} {wr v x : Int} {a : Nat} : x ∈ addW L wr v a ↔ x ∈ L a ∨ (0 ≤ wr ∧ wr ≠ v ∧ (a : Int) = wr ∧ x = v) := by
  unfold addW; split
  next e => rw [mem_addE]; simp [e]
  next e => simp only [not_and] at e; exact ⟨Or.inl, fun h => h.elim id fun ⟨h1, h2, _⟩ => absurd h2 (e h1)⟩
theorem mem_addAll {v x : Int} {a : Nat} : ∀ (rs : List Int) (L : Nat → List Int), x ∈ addAll L rs v a ↔ x ∈ L a ∨ ((a : Int) ∈ rs ∧ (a : Int) ≠ v ∧ x = v)
  | [], L => by simp [addAll]
  | r :: rs, L => by
    have ih := mem_addAll (v := v) (x := x) (a := a) rs (add1 L r v)
    have e1 : addAll L (r :: rs) v = addAll (add1 L r v) rs v := rfl
    rw [e1, ih]
    have e2 : x ∈ add1 L r v a ↔ x ∈ L a ∨ (r ≠ v ∧ (a : Int) = r ∧ x = v) := by
      unfold add1; split
      next e => simp [e]
      next e => rw [mem_addE]; simp [e]
    rw [e2]
    simp only [List.mem_cons]
    constructor
    · rintro ((h | ⟨h1, h2, h3⟩) | ⟨h1, h2, h3⟩)
      · exact Or.inl h
      · exact Or.inr ⟨Or.inl h2, by rw [h2]; exact h1, h3⟩
      · exact Or.inr ⟨Or.inr h1, h2, h3⟩
    · rintro (h | ⟨h1 | h1, h2, h3⟩)
      · exact Or.inl (Or.inl h)
      · exact Or.inl (Or.inr ⟨by rw [← h1]; exact h2, h1, h3⟩)
      · exact Or.inr ⟨h1, h2, h3⟩
theorem self_addR (rd : List Int) (v : Int) : v ∈ addR rd v := by
  unfold addR; split
  next e => exact List.mem_of_getLast? e
  · simp
theorem sub_addR {rd : List Int} {v r : Int} (h : r ∈ rd) : r ∈ addR rd v := by
  unfold addR; split
  · exact h
  · simp [h]

theorem live_kind {ab : Int → Bool} {o : POp} (h : Live ab o) : o.kind = 0 ∨ o.kind = 1 := by
  by_cases h0 : o.kind = 0
  · exact Or.inl h0
  · by_cases h1 : o.kind = 1
    · exact Or.inr h1
    · exact absurd (Or.inr ⟨h0, h1⟩) h

theorem Keep.step {ab : Int → Bool} {N : Int → Nat} {ops : List POp} {s : St} (h : Keep ab N ops s) (p : POp) (hinj : ∀ o ∈ ops, Live ab o → Live ab p → N o.txn = N p.txn → o.txn = p.txn) : Keep ab N (ops ++ [p]) (pstep ab N s p) := by
  by_cases hl : p.skips ab
  · have e : pstep ab N s p = s := if_pos hl
    rw [e]
    refine ⟨fun k v h1 h2 => ?_, fun k r hr => ?_, fun a b hg => want_old (h.sound a b hg), h.head, fun o ho hlo => ?_, fun a b hw => ?_⟩
    · obtain ⟨o, ho, r⟩ := h.writer k v h1 h2; exact ⟨o, List.mem_append_left _ ho, r⟩
    · obtain ⟨o, ho, r⟩ := h.reader k r hr; exact ⟨o, List.mem_append_left _ ho, r⟩
    · rcases List.mem_append.1 ho with ho | ho
      · exact h.path o ho hlo
      · simp at ho; subst ho; exact absurd hl hlo
    · rcases want_inv hw with hw | ⟨o, _, hc, _⟩
      · exact h.whole a b hw
      · exact absurd hl hc.2.1
  have hlp : Live ab p := hl
  obtain ⟨wr, hwr⟩ : ∃ wr, (accOf s.items p.key).1 = wr := ⟨_, rfl⟩
  obtain ⟨rd, hrd⟩ : ∃ rd, (accOf s.items p.key).2 = rd := ⟨_, rfl⟩
  have newW : ∀ a b : Nat, 0 ≤ wr → wr ≠ (N p.txn : Int) → (a : Int) = wr → (b : Int) = (N p.txn : Int) → Want ab N (ops ++ [p]) a b := fun a b h0 hne ha hb => by
    obtain ⟨o, ho, hlo, hk, hkey, hn⟩ := h.writer p.key wr hwr h0
    have e1 : a = N o.txn := by omega
    have e2 : b = N p.txn := by omega
    rw [e1, e2]
    exact want_new ho ⟨hlo, hlp, Or.inl hk, hkey, fun e => hne (by rw [← hn, e])⟩
  by_cases h0 : p.kind = 0
  · have e : pstep ab N s p = ⟨addW s.succ wr (N p.txn), setI s.items p.key (wr, addR rd (N p.txn))⟩ := by
      unfold pstep; rw [if_neg hl, if_pos h0, hwr, hrd]
    rw [e]
    have mono : ∀ a b, Got s a b → RT (Got ⟨addW s.succ wr (N p.txn), setI s.items p.key (wr, addR rd (N p.txn))⟩) a b := fun a b hg => .one (mem_addW.2 (Or.inl hg))
    have E1 : 0 ≤ wr → RT (Got ⟨addW s.succ wr (N p.txn), setI s.items p.key (wr, addR rd (N p.txn))⟩) wr.toNat (N p.txn) := fun h0 => by
      by_cases he : wr = (N p.txn : Int)
      · rw [he]; exact .refl _
      · exact .one (mem_addW.2 (Or.inr ⟨h0, he, by omega, rfl⟩))
    refine ⟨fun k v h1 h2 => ?_, fun k r hr => ?_, fun a b hg => ?_, fun a r hr => ?_, fun o ho hlo => ?_, fun a b hw => ?_⟩
    · rw [accOf_set] at h1
      split at h1
      next ek =>
        obtain ⟨o, ho, r⟩ := h.writer p.key v (hwr.trans h1) h2
        exact ⟨o, List.mem_append_left _ ho, by rw [ek]; exact r⟩
      next ek =>
        obtain ⟨o, ho, r⟩ := h.writer k v h1 h2
        exact ⟨o, List.mem_append_left _ ho, r⟩
    · rw [accOf_set] at hr
      split at hr
      next ek =>
        rcases addR_mem hr with hr | hr
        · obtain ⟨o, ho, q⟩ := h.reader p.key r (by rw [hrd]; exact hr)
          exact ⟨o, List.mem_append_left _ ho, by rw [ek]; exact q⟩
        · exact ⟨p, by simp, hlp, ek.symm, hr.symm⟩
      next ek =>
        obtain ⟨o, ho, q⟩ := h.reader k r hr
        exact ⟨o, List.mem_append_left _ ho, q⟩
    · rcases mem_addW.1 hg with hg | ⟨g1, g2, g3, g4⟩
      · exact want_old (h.sound a b hg)
      · exact newW a b g1 g2 g3 g4
    · rcases mem_addW.1 hr with hr | ⟨_, _, _, g4⟩
      · exact h.head a r hr
      · exact ⟨_, g4⟩
    · rcases List.mem_append.1 ho with ho | ho
      · rw [accOf_set]
        split
        next ek =>
          have := h.path o ho hlo
          rw [ek, hwr, hrd] at this
          rcases this with ⟨g1, g2⟩ | ⟨g1, g2⟩
          · exact Or.inl ⟨g1, g2.mono mono⟩
          · exact Or.inr ⟨g1, sub_addR g2⟩
        · exact (h.path o ho hlo).imp (fun ⟨g1, g2⟩ => ⟨g1, g2.mono mono⟩) id
      · simp at ho
        subst ho
        rw [accOf_set, if_pos rfl]
        exact Or.inr ⟨h0, self_addR _ _⟩
    · rcases want_inv hw with hw | ⟨o, ho, hc, rfl, rfl⟩
      · exact (h.whole a b hw).mono mono
      · have hk1 : o.kind = 1 := hc.2.2.1.resolve_right (by rw [h0]; decide)
        have := h.path o ho hc.1
        rw [hc.2.2.2.1, hwr] at this
        rcases this with ⟨g1, g2⟩ | ⟨g1, _⟩
        · exact (g2.mono mono).trans (E1 g1)
        · rw [hk1] at g1; cases g1
  · have h1 : p.kind = 1 := (live_kind hlp).resolve_left h0
    have e : pstep ab N s p = ⟨addAll (addW s.succ wr (N p.txn)) rd (N p.txn), setI s.items p.key ((N p.txn : Int), [])⟩ := by
      unfold pstep; rw [if_neg hl, if_neg h0, hwr, hrd]
    rw [e]
    have memA : ∀ (x : Int) (a : Nat), x ∈ addAll (addW s.succ wr (N p.txn)) rd (N p.txn) a ↔ (x ∈ s.succ a ∨ (0 ≤ wr ∧ wr ≠ (N p.txn : Int) ∧ (a : Int) = wr ∧ x = (N p.txn : Int))) ∨ ((a : Int) ∈ rd ∧ (a : Int) ≠ (N p.txn : Int) ∧ x = (N p.txn : Int)) := fun x a => by rw [mem_addAll, mem_addW]
    have mono : ∀ a b, Got s a b → RT (Got ⟨addAll (addW s.succ wr (N p.txn)) rd (N p.txn), setI s.items p.key ((N p.txn : Int), [])⟩) a b := fun a b hg => .one ((memA _ _).2 (Or.inl (Or.inl hg)))
    have E1 : 0 ≤ wr → RT (Got ⟨addAll (addW s.succ wr (N p.txn)) rd (N p.txn), setI s.items p.key ((N p.txn : Int), [])⟩) wr.toNat (N p.txn) := fun h0 => by
      by_cases he : wr = (N p.txn : Int)
      · rw [he]; exact .refl _
      · exact .one ((memA _ _).2 (Or.inl (Or.inr ⟨h0, he, by omega, rfl⟩)))
    have E2 : ∀ m : Nat, (m : Int) ∈ rd → RT (Got ⟨addAll (addW s.succ wr (N p.txn)) rd (N p.txn), setI s.items p.key ((N p.txn : Int), [])⟩) m (N p.txn) := fun m hm => by
      by_cases he : (m : Int) = (N p.txn : Int)
      · have : m = N p.txn := by omega
        rw [this]; exact .refl _
      · exact .one ((memA _ _).2 (Or.inr ⟨hm, he, rfl⟩))
    refine ⟨fun k v g1 g2 => ?_, fun k r hr => ?_, fun a b hg => ?_, fun a r hr => ?_, fun o ho hlo => ?_, fun a b hw => ?_⟩
    · rw [accOf_set] at g1
      split at g1
      next ek => exact ⟨p, by simp, hlp, h1, ek.symm, g1⟩
      next ek =>
        obtain ⟨o, ho, r⟩ := h.writer k v g1 g2
        exact ⟨o, List.mem_append_left _ ho, r⟩
    · rw [accOf_set] at hr
      split at hr
      · cases hr
      · obtain ⟨o, ho, q⟩ := h.reader k r hr
        exact ⟨o, List.mem_append_left _ ho, q⟩
    · rcases (memA _ _).1 hg with (hg | ⟨g1, g2, g3, g4⟩) | ⟨g1, g2, g3⟩
      · exact want_old (h.sound a b hg)
      · exact newW a b g1 g2 g3 g4
      · obtain ⟨o, ho, hlo, hkey, hn⟩ := h.reader p.key (a : Int) (by rw [hrd]; exact g1)
        have e1 : a = N o.txn := by omega
        have e2 : b = N p.txn := by omega
        rw [e1, e2]
        exact want_new ho ⟨hlo, hlp, Or.inr h1, hkey, fun e => g2 (by rw [← hn, e])⟩
    · rcases (memA _ _).1 hr with (hr | ⟨_, _, _, g4⟩) | ⟨_, _, g4⟩
      · exact h.head a r hr
      · exact ⟨_, g4⟩
      · exact ⟨_, g4⟩
    · rcases List.mem_append.1 ho with ho | ho
      · rw [accOf_set]
        split
        next ek =>
          have := h.path o ho hlo
          rw [ek, hwr, hrd] at this
          refine Or.inl ⟨by simp, ?_⟩
          rcases this with ⟨g1, g2⟩ | ⟨_, g2⟩
          · exact (g2.mono mono).trans (E1 g1)
          · exact E2 _ g2
        · exact (h.path o ho hlo).imp (fun ⟨g1, g2⟩ => ⟨g1, g2.mono mono⟩) id
      · simp at ho
        subst ho
        rw [accOf_set, if_pos rfl]
        exact Or.inl ⟨by simp, .refl _⟩
    · rcases want_inv hw with hw | ⟨o, ho, hc, rfl, rfl⟩
      · exact (h.whole a b hw).mono mono
      · have := h.path o ho hc.1
        rw [hc.2.2.2.1, hwr, hrd] at this
        rcases this with ⟨g1, g2⟩ | ⟨_, g2⟩
        · exact (g2.mono mono).trans (E1 g1)
        · exact E2 _ g2

theorem keep0 (ab : Int → Bool) (N : Int → Nat) : Keep ab N [] st0 :=
  ⟨fun k v h1 h2 => by simp [accOf, st0] at h1; omega, fun k r hr => by simp [accOf, st0] at hr, fun a b h => by simp [Got, st0] at h, fun a r h => by simp [st0] at h, fun o ho => by simp at ho, fun a b ⟨i, j, hi, _⟩ => by simp at hi⟩

theorem keep_all {ab : Int → Bool} {N : Int → Nat} {ops : List POp} (hinj : ∀ o ∈ ops, ∀ p ∈ ops, Live ab o → Live ab p → N o.txn = N p.txn → o.txn = p.txn) : Keep ab N ops (prun ab N ops) := by
  suffices H : ∀ m, m ≤ ops.length → Keep ab N (ops.take m) (prun ab N (ops.take m)) by
    have := H ops.length (Nat.le_refl _)
    simpa using this
  intro m
  induction m with
  | zero => intro _; exact keep0 ab N
  | succ m ih =>
    intro hm
    have ht : ops.take (m + 1) = ops.take m ++ [ops[m]] := by rw [List.take_succ_eq_append_getElem (by omega)]
    rw [ht, prun_snoc]
    exact (ih (by omega)).step _ fun o ho hlo hlp => hinj o (List.mem_of_mem_take ho) _ (List.getElem_mem _) hlo hlp

/-- The two graphs have one closure. -/
theorem closure_eq {ab : Int → Bool} {N : Int → Nat} {ops : List POp} (hinj : ∀ o ∈ ops, ∀ p ∈ ops, Live ab o → Live ab p → N o.txn = N p.txn → o.txn = p.txn) (a b : Nat) : RT (Got (prun ab N ops)) a b ↔ RT (Want ab N ops) a b :=
  have h := keep_all hinj
  ⟨fun k => k.mono fun a b e => .one (h.sound a b e), fun k => k.mono h.whole⟩
end Go.Proofs.Qxb6601382a
