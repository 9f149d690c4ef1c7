import PyProof.Rows.All
import Wide.All
import OpenK.AllK
import Wide.FinOn
import KE.KNestM
import Lean
import PySem.Challenge.RW_il0064_01
set_option Elab.async false
set_option maxRecDepth 100000
namespace Mine
open PySem PySem.W PyProof.Rows PySem.Calls

/-! ## Many at once -/
inductive E2 {α β : Type} (p : α → β → Prop) : Prop
  | mk (x0 : α) (x1 : β) (h : p x0 x1) : E2 p
inductive E3 {α β γ : Type} (p : α → β → γ → Prop) : Prop
  | mk (x0 : α) (x1 : β) (x2 : γ) (h : p x0 x1 x2) : E3 p
inductive E4 {α β γ δ : Type} (p : α → β → γ → δ → Prop) : Prop
  | mk (x0 : α) (x1 : β) (x2 : γ) (x3 : δ) (h : p x0 x1 x2 x3) : E4 p
inductive E5 {α β γ δ ε : Type} (p : α → β → γ → δ → ε → Prop) : Prop
  | mk (x0 : α) (x1 : β) (x2 : γ) (x3 : δ) (x4 : ε) (h : p x0 x1 x2 x3 x4) : E5 p
inductive E6 {α β γ δ ε ζ : Type} (p : α → β → γ → δ → ε → ζ → Prop) : Prop
  | mk (x0 : α) (x1 : β) (x2 : γ) (x3 : δ) (x4 : ε) (x5 : ζ) (h : p x0 x1 x2 x3 x4 x5) : E6 p
inductive E7 {α β γ δ ε ζ η : Type} (p : α → β → γ → δ → ε → ζ → η → Prop) : Prop
  | mk (x0 : α) (x1 : β) (x2 : γ) (x3 : δ) (x4 : ε) (x5 : ζ) (x6 : η) (h : p x0 x1 x2 x3 x4 x5 x6) : E7 p
inductive E8 {α β γ δ ε ζ η θ : Type} (p : α → β → γ → δ → ε → ζ → η → θ → Prop) : Prop
  | mk (x0 : α) (x1 : β) (x2 : γ) (x3 : δ) (x4 : ε) (x5 : ζ) (x6 : η) (x7 : θ) (h : p x0 x1 x2 x3 x4 x5 x6 x7) : E8 p
inductive E9 {α β γ δ ε ζ η θ ι : Type} (p : α → β → γ → δ → ε → ζ → η → θ → ι → Prop) : Prop
  | mk (x0 : α) (x1 : β) (x2 : γ) (x3 : δ) (x4 : ε) (x5 : ζ) (x6 : η) (x7 : θ) (x8 : ι) (h : p x0 x1 x2 x3 x4 x5 x6 x7 x8) : E9 p
inductive E11 {α β γ δ ε ζ η θ ι κ μ : Type} (p : α → β → γ → δ → ε → ζ → η → θ → ι → κ → μ → Prop) : Prop
  | mk (x0 : α) (x1 : β) (x2 : γ) (x3 : δ) (x4 : ε) (x5 : ζ) (x6 : η) (x7 : θ) (x8 : ι) (x9 : κ) (x10 : μ) (h : p x0 x1 x2 x3 x4 x5 x6 x7 x8 x9 x10) : E11 p
inductive E16 {α β γ δ ε ζ η θ ι κ μ ν ξ ο π ρ : Type} (p : α → β → γ → δ → ε → ζ → η → θ → ι → κ → μ → ν → ξ → ο → π → ρ → Prop) : Prop
  | mk (x0 : α) (x1 : β) (x2 : γ) (x3 : δ) (x4 : ε) (x5 : ζ) (x6 : η) (x7 : θ) (x8 : ι) (x9 : κ) (x10 : μ) (x11 : ν) (x12 : ξ) (x13 : ο) (x14 : π) (x15 : ρ) (h : p x0 x1 x2 x3 x4 x5 x6 x7 x8 x9 x10 x11 x12 x13 x14 x15) : E16 p
inductive C3 (p0 p1 p2 : Prop) : Prop
  | mk (h0 : p0) (h1 : p1) (h2 : p2) : C3 p0 p1 p2
inductive C4 (p0 p1 p2 p3 : Prop) : Prop
  | mk (h0 : p0) (h1 : p1) (h2 : p2) (h3 : p3) : C4 p0 p1 p2 p3
inductive C5 (p0 p1 p2 p3 p4 : Prop) : Prop
  | mk (h0 : p0) (h1 : p1) (h2 : p2) (h3 : p3) (h4 : p4) : C5 p0 p1 p2 p3 p4
inductive C6 (p0 p1 p2 p3 p4 p5 : Prop) : Prop
  | mk (h0 : p0) (h1 : p1) (h2 : p2) (h3 : p3) (h4 : p4) (h5 : p5) : C6 p0 p1 p2 p3 p4 p5
inductive C7 (p0 p1 p2 p3 p4 p5 p6 : Prop) : Prop
  | mk (h0 : p0) (h1 : p1) (h2 : p2) (h3 : p3) (h4 : p4) (h5 : p5) (h6 : p6) : C7 p0 p1 p2 p3 p4 p5 p6
inductive C8 (p0 p1 p2 p3 p4 p5 p6 p7 : Prop) : Prop
  | mk (h0 : p0) (h1 : p1) (h2 : p2) (h3 : p3) (h4 : p4) (h5 : p5) (h6 : p6) (h7 : p7) : C8 p0 p1 p2 p3 p4 p5 p6 p7
inductive C9 (p0 p1 p2 p3 p4 p5 p6 p7 p8 : Prop) : Prop
  | mk (h0 : p0) (h1 : p1) (h2 : p2) (h3 : p3) (h4 : p4) (h5 : p5) (h6 : p6) (h7 : p7) (h8 : p8) : C9 p0 p1 p2 p3 p4 p5 p6 p7 p8
inductive C13 (p0 p1 p2 p3 p4 p5 p6 p7 p8 p9 p10 p11 p12 : Prop) : Prop
  | mk (h0 : p0) (h1 : p1) (h2 : p2) (h3 : p3) (h4 : p4) (h5 : p5) (h6 : p6) (h7 : p7) (h8 : p8) (h9 : p9) (h10 : p10) (h11 : p11) (h12 : p12) : C13 p0 p1 p2 p3 p4 p5 p6 p7 p8 p9 p10 p11 p12
/-! ## Views, frames -/
noncomputable abbrev Vw := Addr → Option Obj
noncomputable def Sub (g : Vw) (h : Heap) : Prop := ∀ b o, g b = some o → h.get? b = some o
noncomputable def Le (g g' : Vw) : Prop := ∀ b o, g b = some o → g' b = some o
theorem Le.refl (g : Vw) : Le g g := fun _ _ e => e
theorem Le.trans {a b c : Vw} (x : Le a b) (y : Le b c) : Le a c := fun p o e => y p o (x p o e)

structure Base where
  T : Vw
  s : Shared
  g : Vw
  k : Vw
  off : Addr → Prop

structure IF (B : Base) (g : Vw) (mu : List (Addr × Obj)) (L : Addr) (m : Str → Option Value) (cs : List (Str × Addr)) (cm : Str → Option Value) (s : Shared) : Prop where
  same : ∃ h tk, s = { B.s with heap := h, toks := tk }
  stat : Le B.T g
  ge : Le B.g g
  off : ∀ b, B.off b → g b = none ∧ s.heap.get? b ≠ none
  keep : ∀ b o, B.k b = some o → s.heap.get? b = some o
  sub : Sub g s.heap
  ns : s.heap.Ns L m
  Lg : g L = none
  Lk : B.k L = none
  cell : ∀ n c, (n, c) ∈ cs → s.heap.IsCell c (cm n)
  cg : ∀ n c, (n, c) ∈ cs → g c = none ∧ B.k c = none ∧ c ≠ L
  cap : cs.Pairwise fun x y => x.2 ≠ y.2
  muH : ∀ p ∈ mu, s.heap.get? p.1 = some p.2 ∧ g p.1 = none ∧ B.k p.1 = none ∧ p.1 ≠ L ∧ ∀ q ∈ cs, q.2 ≠ p.1
  nd : (mu.map (·.1)).Nodup

structure After (g : Vw) (s : Shared) (g' : Vw) (s' : Shared) : Prop where
  same : ∃ h tk, s' = { s with heap := h, toks := tk }
  keep : ∀ b o, s.heap.get? b = some o → s'.heap.get? b = some o
  le : Le g g'
  sub : Sub g' s'.heap
  new : ∀ b, s.heap.get? b ≠ none → g b = none → g' b = none

theorem alive {h : Heap} {b : Addr} {o : Obj} (e : h.get? b = some o) : h.get? b ≠ none := by rw [e]; exact fun q => nomatch q
theorem alive_keep {h h' : Heap} (k : ∀ b o, h.get? b = some o → h'.get? b = some o) {b : Addr} (e : h.get? b ≠ none) : h'.get? b ≠ none := by
  cases q : h.get? b with
  | none => exact absurd q e
  | some o => exact alive (k b o q)
theorem After.refl {g : Vw} {s : Shared} (h : Sub g s.heap) : After g s g s := ⟨⟨_, _, rfl⟩, fun _ _ e => e, Le.refl g, h, fun _ _ e => e⟩
theorem After.tok {g : Vw} {s : Shared} (h : Sub g s.heap) (t : Nat) : After g s g { s with toks := t } := ⟨⟨_, _, rfl⟩, fun _ _ e => e, Le.refl g, h, fun _ _ e => e⟩
theorem After.trans {g g' g'' : Vw} {s s' s'' : Shared} (a : After g s g' s') (b : After g' s' g'' s'') : After g s g'' s'' := by
  refine ⟨?_, fun p o e => b.keep p o (a.keep p o e), a.le.trans b.le, b.sub, fun p hp e => b.new p (alive_keep a.keep hp) (a.new p hp e)⟩
  obtain ⟨h1, t1, rfl⟩ := a.same
  obtain ⟨h2, t2, e⟩ := b.same
  exact ⟨h2, t2, e⟩
/-- more objects, none frozen -/
theorem After.more {g : Vw} {s : Shared} (h : Sub g s.heap) {h' : Heap} {t : Nat} (hk : ∀ b o, s.heap.get? b = some o → h'.get? b = some o) : After g s g { s with heap := h', toks := t } :=
  ⟨⟨_, _, rfl⟩, hk, Le.refl g, fun b o e => hk b o (h b o e), fun _ _ e => e⟩
noncomputable def put (g : Vw) (a : Addr) (o : Obj) : Vw := fun b => if b = a then some o else g b
theorem put_self (g : Vw) (a : Addr) (o : Obj) : put g a o a = some o := if_pos rfl
theorem put_ne {g : Vw} {a b : Addr} {o : Obj} (h : b ≠ a) : put g a o b = g b := if_neg h
theorem le_put {g : Vw} {a : Addr} {o : Obj} (h : g a = none) : Le g (put g a o) := fun b o' e => by
  by_cases hb : b = a
  · subst hb; rw [h] at e; cases e
  · rw [put_ne hb]; exact e
theorem none_of_size {g : Vw} {h : Heap} (hs : Sub g h) {a : Addr} (ha : h.objs.size ≤ a) : g a = none := by
  cases e : g a with
  | none => rfl
  | some o => exact absurd (Heap.lt_size (hs a o e)) (Nat.not_lt.mpr ha)
theorem get_none_of_size {h : Heap} {a : Addr} (ha : h.objs.size ≤ a) : h.get? a = none := by
  cases e : h.get? a with
  | none => rfl
  | some o => exact absurd (Heap.lt_size e) (Nat.not_lt.mpr ha)
/-- one new frozen object -/
theorem After.push {g : Vw} {s : Shared} (h : Sub g s.heap) (o : Obj) {t : Nat} (hf : o.isFreed = false := by rfl) : After g s (put g s.heap.objs.size o) { s with heap := s.heap.push o, toks := t } := by
  have hn : g s.heap.objs.size = none := none_of_size h (Nat.le_refl _)
  refine ⟨⟨_, _, rfl⟩, fun b o' e => Heap.get?_push_of_some _ e, le_put hn, fun b o' e => ?_, fun b hb e => ?_⟩
  · by_cases hb : b = s.heap.objs.size
    · subst hb; rw [put_self] at e; cases e; exact Heap.get?_push_size _ hf
    · rw [put_ne hb] at e; exact Heap.get?_push_of_some _ (h b o' e)
  · rw [put_ne (fun q => hb (by rw [q]; exact get_none_of_size (Nat.le_refl _)))]; exact e
/-- a new object among more new ones is frozen -/
theorem After.freeze {g g' : Vw} {s s' : Shared} (a : After g s g' s') {D : Addr} {o : Obj} (hD : s.heap.get? D = none) (hg : g' D = none) (ho : s'.heap.get? D = some o) : After g s (put g' D o) s' := by
  refine ⟨a.same, a.keep, a.le.trans (le_put hg), fun b o' e => ?_, fun b hb e => ?_⟩
  · by_cases hb : b = D
    · subst hb; rw [put_self] at e; cases e; exact ho
    · rw [put_ne hb] at e; exact a.sub b o' e
  · rw [put_ne (fun q => hb (by rw [q]; exact hD))]; exact a.new b hb e
theorem After.toks {g g' : Vw} {s s' : Shared} (a : After g s g' s') (t : Nat) : After g s g' { s' with toks := t } := by
  refine ⟨?_, a.keep, a.le, a.sub, a.new⟩
  obtain ⟨h, tk, rfl⟩ := a.same
  exact ⟨h, t, rfl⟩

section
variable {B : Base} {g g' : Vw} {mu : List (Addr × Obj)} {L : Addr} {m : Str → Option Value} {cs : List (Str × Addr)} {cm : Str → Option Value} {s s' : Shared}

theorem IF.after (I : IF B g mu L m cs cm s) (a : After g s g' s') : IF B g' mu L m cs cm s' := by
  have up : ∀ {b o}, s.heap.get? b = some o → g b = none → g' b = none := fun e h => a.new _ (alive e) h
  have LL : s.heap.get? L ≠ none := by obtain ⟨_, _, _, e, _⟩ := I.ns; exact alive e
  refine ⟨?_, I.stat.trans a.le, I.ge.trans a.le, fun b hb => ⟨a.new b (I.off b hb).2 (I.off b hb).1, alive_keep a.keep (I.off b hb).2⟩, fun b o e => a.keep b o (I.keep b o e), a.sub, I.ns.keeps a.keep,
    a.new L LL I.Lg, I.Lk, fun n c hc => (I.cell n c hc).keeps a.keep, fun n c hc => ⟨a.new c (by obtain ⟨_, e, _⟩ := I.cell n c hc; exact alive e) (I.cg n c hc).1, (I.cg n c hc).2⟩, I.cap,
    fun p hp => ⟨a.keep _ _ (I.muH p hp).1, up (I.muH p hp).1 (I.muH p hp).2.1, (I.muH p hp).2.2⟩, I.nd⟩
  obtain ⟨h1, t1, e1⟩ := I.same
  obtain ⟨h2, t2, rfl⟩ := a.same
  exact ⟨h2, t2, by rw [e1]⟩
theorem IF.tok (I : IF B g mu L m cs cm s) (t : Nat) : IF B g mu L m cs cm { s with toks := t } := I.after (.tok I.sub t)

noncomputable def upd (m : Str → Option Value) (x : Str) (v : Value) : Str → Option Value := fun y => if y = x then some v else m y

theorem IF.store (I : IF B g mu L m cs cm s) {m' : Str → Option Value} {h' : Heap} {t : Nat} (hn : h'.Ns L m') (hs : Heap.SameBut L s.heap h') : IF B g mu L m' cs cm { s with heap := h', toks := t } := by
  have nL : ∀ b, g b ≠ none → b ≠ L := fun b hb e => hb (e ▸ I.Lg)
  refine ⟨?_, I.stat, I.ge, fun b hb => ⟨(I.off b hb).1, by
    by_cases q : b = L
    · subst q; obtain ⟨_, _, _, e, _⟩ := hn; exact alive e
    · rw [hs.2 b q]; exact (I.off b hb).2⟩, fun b o e => (hs.2 b (fun q => by rw [q, I.Lk] at e; cases e)).trans (I.keep b o e),
    fun b o e => (hs.2 b (fun q => by rw [q, I.Lg] at e; cases e)).trans (I.sub b o e), hn, I.Lg, I.Lk, fun n c hc => (I.cell n c hc).sameBut hs (I.cg n c hc).2.2, I.cg, I.cap,
    fun p hp => ⟨(hs.2 _ (I.muH p hp).2.2.2.1).trans (I.muH p hp).1, (I.muH p hp).2⟩, I.nd⟩
  obtain ⟨h1, t1, e1⟩ := I.same
  exact ⟨h', t, by rw [e1]⟩
theorem IF.storeCell (I : IF B g mu L m cs cm s) {n : Str} {c : Addr} {v : Value} (hc : (n, c) ∈ cs) {h' : Heap} {t : Nat} (hv : h'.IsCell c (some v)) (hs : Heap.SameBut c s.heap h') (hu : ∀ n' c', (n', c') ∈ cs → (n' = n ↔ c' = c)) : IF B g mu L m cs (upd cm n v) { s with heap := h', toks := t } := by
  obtain ⟨gc, kc, cL⟩ := I.cg n c hc
  refine ⟨?_, I.stat, I.ge, fun b hb => ⟨(I.off b hb).1, by
    by_cases q : b = c
    · subst q; obtain ⟨_, e, _⟩ := hv; exact alive e
    · rw [hs.2 b q]; exact (I.off b hb).2⟩, fun b o e => (hs.2 b (fun q => by rw [q, kc] at e; cases e)).trans (I.keep b o e),
    fun b o e => (hs.2 b (fun q => by rw [q, gc] at e; cases e)).trans (I.sub b o e), I.ns.sameBut hs (Ne.symm cL), I.Lg, I.Lk, fun n' c' hc' => ?_, I.cg, I.cap,
    fun p hp => ⟨(hs.2 _ (Ne.symm ((I.muH p hp).2.2.2.2 (n, c) hc))).trans (I.muH p hp).1, (I.muH p hp).2⟩, I.nd⟩
  · obtain ⟨h1, t1, e1⟩ := I.same
    exact ⟨h', t, by rw [e1]⟩
  · by_cases q : n' = n
    · have := (hu n' c' hc').mp q
      subst q; subst this
      simpa [upd] using hv
    · have hne : c' ≠ c := fun e => q ((hu n' c' hc').mpr e)
      unfold upd
      rw [if_neg q]
      exact (I.cell n' c' hc').sameBut hs hne
theorem IF.weaken {mu' : List (Addr × Obj)} (I : IF B g mu L m cs cm s) (h : ∀ p ∈ mu', p ∈ mu) (hn : (mu'.map (·.1)).Nodup) : IF B g mu' L m cs cm s := { I with muH := fun p hp => I.muH p (h p hp), nd := hn }
theorem IF.head (I : IF B g mu L m cs cm s) {a : Addr} {o : Obj} (h : (a, o) ∈ mu) : s.heap.get? a = some o := (I.muH _ h).1
/-- a mutable object is turned -/
theorem IF.turn {a : Addr} {o o' : Obj} (I : IF B g ((a, o) :: mu) L m cs cm s) {h' : Heap} {t : Nat} (ho : h'.get? a = some o') (hs : Heap.SameBut a s.heap h') : IF B g ((a, o') :: mu) L m cs cm { s with heap := h', toks := t } := by
  obtain ⟨h0, h1, h2, h3, h4⟩ := I.muH _ (.head _)
  refine ⟨?_, I.stat, I.ge, fun b hb => ⟨(I.off b hb).1, by
    by_cases q : b = a
    · subst q; exact alive ho
    · rw [hs.2 b q]; exact (I.off b hb).2⟩, fun b x e => (hs.2 b (fun q => by rw [q, h2] at e; cases e)).trans (I.keep b x e),
    fun b x e => (hs.2 b (fun q => by rw [q, h1] at e; cases e)).trans (I.sub b x e), I.ns.sameBut hs (Ne.symm h3), I.Lg, I.Lk, fun n c hc => (I.cell n c hc).sameBut hs (h4 (n, c) hc), I.cg, I.cap, fun p hp => ?_, I.nd⟩
  · obtain ⟨x1, t1, e1⟩ := I.same
    exact ⟨h', t, by rw [e1]⟩
  · rcases List.mem_cons.mp hp with rfl | hp
    · exact ⟨ho, h1, h2, h3, h4⟩
    · have hne : p.1 ≠ a := fun e => by
        have := I.nd
        rw [List.map_cons, List.nodup_cons] at this
        exact this.1 (List.mem_map.mpr ⟨p, hp, e⟩)
      exact ⟨(hs.2 _ hne).trans (I.muH p (.tail _ hp)).1, (I.muH p (.tail _ hp)).2⟩
/-- a mutable object is frozen -/
theorem IF.freeze {a : Addr} {o : Obj} (I : IF B g ((a, o) :: mu) L m cs cm s) (ha : ¬ B.off a) : IF B (put g a o) mu L m cs cm s := by
  obtain ⟨h0, h1, h2, h3, h4⟩ := I.muH _ (.head _)
  have nd := I.nd
  rw [List.map_cons, List.nodup_cons] at nd
  refine ⟨I.same, I.stat.trans (le_put h1), I.ge.trans (le_put h1), fun b hb => ⟨?_, (I.off b hb).2⟩, I.keep, fun b x e => ?_, I.ns, ?_, I.Lk, I.cell, fun n c hc => ⟨?_, (I.cg n c hc).2⟩, I.cap, fun p hp => ?_, nd.2⟩
  · rw [put_ne (fun q => ha (by rw [← q]; exact hb))]; exact (I.off b hb).1
  · by_cases hb : b = a
    · subst hb; rw [put_self] at e; cases e; exact h0
    · rw [put_ne hb] at e; exact I.sub b x e
  · rw [put_ne (Ne.symm h3)]; exact I.Lg
  · rw [put_ne (h4 (n, c) hc)]; exact (I.cg n c hc).1
  · have q := I.muH p (.tail _ hp)
    have hne : p.1 ≠ a := fun e => nd.1 (List.mem_map.mpr ⟨p, hp, e⟩)
    exact ⟨q.1, by rw [put_ne hne]; exact q.2.1, q.2.2⟩
/-- a new mutable object -/
theorem IF.newOff (I : IF B g mu L m cs cm s) : ¬ B.off s.heap.objs.size := fun h => (I.off _ h).2 (get_none_of_size (Nat.le_refl _))
theorem IF.newMu (I : IF B g mu L m cs cm s) {o : Obj} {t : Nat} (hf : o.isFreed = false := by rfl) : IF B g ((s.heap.objs.size, o) :: mu) L m cs cm { s with heap := s.heap.push o, toks := t } := by
  have hg : g s.heap.objs.size = none := none_of_size I.sub (Nat.le_refl _)
  have hk : B.k s.heap.objs.size = none := by
    cases e : B.k s.heap.objs.size with
    | none => rfl
    | some x => exact absurd (Heap.lt_size (I.keep _ _ e)) (Nat.lt_irrefl _)
  have J := I.after (.more I.sub (h' := s.heap.push o) (t := t) fun b x e => Heap.get?_push_of_some _ e)
  refine { J with muH := fun p hp => ?_, nd := ?_ }
  · rcases List.mem_cons.mp hp with rfl | hp
    · exact ⟨Heap.get?_push_size _ hf, hg, hk, fun e => absurd I.ns.lt (by rw [← e]; exact Nat.lt_irrefl _), fun q hq e => absurd (I.cell q.1 q.2 hq).lt (by rw [e]; exact Nat.lt_irrefl _)⟩
    · exact J.muH p hp
  · rw [List.map_cons, List.nodup_cons]
    refine ⟨fun h => ?_, I.nd⟩
    obtain ⟨p, hp, e⟩ := List.mem_map.mp h
    exact absurd (Heap.lt_size (I.muH p hp).1) (by rw [e]; exact Nat.lt_irrefl _)
end

/-! ## The static part -/
/-- a letter for what is wanted behind a step -/
theorem gq {α : Type} {M : Model} {A : Around} {t : Sem α} {Q : α → Shared → Prop} {E : Value → Shared → Prop} {s : Shared} (h : ∀ Q' : α → Shared → Prop, (∀ r s', Q r s' → Q' r s') → wpAny M A t Q' E s) : wpAny M A t Q E s := h Q fun _ _ x => x
noncomputable def stmtAt (i : Nat) : Stmt := PySem.Challenge.pw_il0064_01.main.body.getD i (.Pass default)
noncomputable def fName : Stmt → Str | .FunctionDef n .. => n | _ => Str.empty
noncomputable def fArgs : Stmt → Arguments | .FunctionDef _ a .. => a | _ => default
noncomputable def fBody : Stmt → List Stmt | .FunctionDef _ _ b .. => b | _ => []
noncomputable def fScope : Stmt → Scope | .FunctionDef _ _ _ _ _ _ s .. => s | _ => default
/-- a plain def of the text, its own object at a -/
noncomputable def fdOf (i : Nat) (pm cd doc dV : Value) : FuncData :=
  { name := fName (stmtAt i), qualname := fName (stmtAt i), params := fArgs (stmtAt i), body := .stmts (fBody (stmtAt i)), scope := fScope (stmtAt i), globals := mainGlobals, closure := [], defaults := dV, kwdefaults := .none, doc, pyModule := pm, code := cd, builtins := builtinsNs }
structure FnAt (h : Heap) (a : Addr) (i : Nat) (pm cd doc dV : Value) : Prop where
  obj : ∃ o, h.get? a = some o ∧ o.data = .func (fdOf i pm cd doc dV)
  code : h.CodeRec cd (fName (stmtAt i))

structure Room (A : Around) (d : Nat) : Prop where
  handled : A.handled = none
  depth : A.depth + d ≤ 900
  units : A.units + 30 * d ≤ 9000
theorem Room.le {A : Around} {d d' : Nat} (r : Room A d) (h : d' ≤ d) : Room A d' := ⟨r.handled, by have := r.depth; lia, by have := r.units; lia⟩
theorem Room.deeper {A : Around} {d : Nat} {env : Env} (r : Room A (d + 1)) : Room (A.deeper env) d := ⟨r.handled, by have := r.depth; simp only [Around.deeper]; lia, by have := r.units; simp only [Around.deeper]; lia⟩
theorem Room.lim {A : Around} {d : Nat} (r : Room A d) : A.depth < recursionLimit := by have := r.depth; unfold recursionLimit; lia
theorem Room.line {A : Around} {d : Nat} (r : Room A d) : A.units < cLine := by have := r.units; unfold cLine; lia

structure Stat (S : Heap) (mg mb : Str → Option Value) : Prop where
  g : S.Ns mainGlobals mg
  b : S.Ns builtinsNs mb
  boot : ∀ x : Str, x ≠ "__name__" → mb x = bootBuiltins x
  lim : S.NoLimit

section
variable {prog : Program} {w : World} {A : Around} {E : Value → Shared → Prop} {s : Shared} {env : Env}
variable {B : Base} {g : Vw} {mu : List (Addr × Obj)} {L : Addr} {m : Str → Option Value} {cs : List (Str × Addr)} {cm : Str → Option Value} {S : Heap} {mg mb : Str → Option Value}

theorem IF.st (I : IF B g mu L m cs cm s) (hT : B.T = S.get?) : ∀ b o, S.get? b = some o → s.heap.get? b = some o := fun b o e => I.sub b o (I.stat b o (by rw [hT]; exact e))

theorem r_local {x : Str} {pos : Pos} {v : Value} {Q : Value → Shared → Prop} (I : IF B g mu env.locals m cs cm s) (hk : env.scope.kind = .function) (hl : env.kindOf x = some .local) (hv : m x = some v)
    (hd : (x == ("__debug__" : Str)) = false) (h : Q v s) : wpAny (model prog w) A (eval (.Name x pos) env) Q E s := wpAny_Name (wpAny_loadName_local hk hl I.ns hv h) hd
theorem r_cell {x : Str} {pos : Pos} {c : Addr} {v : Value} {Q : Value → Shared → Prop} (hk : env.scope.kind = .function) (hl : env.kindOf x = some .cell) (hc : env.cells.lookup x = some c) (hv : s.heap.IsCell c (some v))
    (hd : (x == ("__debug__" : Str)) = false) (h : Q v s) : wpAny (model prog w) A (eval (.Name x pos) env) Q E s := wpAny_Name (wpAny_loadName_cell hk hl hc hv h) hd
theorem r_free {x : Str} {pos : Pos} {c : Addr} {v : Value} {Q : Value → Shared → Prop} (hk : env.scope.kind = .function) (hl : env.kindOf x = some .free) (hc : env.cells.lookup x = some c) (hv : s.heap.IsCell c (some v))
    (hd : (x == ("__debug__" : Str)) = false) (hn : (x == ("__classdict__" : Str)) = false) (h : Q v s) : wpAny (model prog w) A (eval (.Name x pos) env) Q E s := wpAny_Name (wpAny_loadName_free hk hl hc hv h hn) hd
theorem r_global {x : Str} {pos : Pos} {v : Value} {Q : Value → Shared → Prop} (I : IF B g mu L m cs cm s) (ST : Stat S mg mb) (hT : B.T = S.get?) (hk : env.scope.kind = .function) (hg : env.globals = mainGlobals) (hl : env.kindOf x = some .globalImplicit)
    (hv : mg x = some v) (hd : (x == ("__debug__" : Str)) = false) (h : Q v s) : wpAny (model prog w) A (eval (.Name x pos) env) Q E s :=
  Name_function_global hk hl (loadGlobal_global (by rw [hg]; exact ST.g.keeps (I.st hT)) hv h) hd
theorem r_builtin {x : Str} {pos : Pos} {v : Value} {Q : Value → Shared → Prop} (I : IF B g mu L m cs cm s) (ST : Stat S mg mb) (hT : B.T = S.get?) (hk : env.scope.kind = .function) (hg : env.globals = mainGlobals) (hb : env.builtins = builtinsNs) (hl : env.kindOf x = some .globalImplicit)
    (hm : mg x = none) (hv : bootBuiltins x = some v) (hn : x ≠ "__name__") (hd : (x == ("__debug__" : Str)) = false) (h : Q v s) : wpAny (model prog w) A (eval (.Name x pos) env) Q E s :=
  Name_function_global hk hl (loadGlobal_builtin (by rw [hg]; exact ST.g.keeps (I.st hT)) hm (by rw [hb]; exact ST.b.keeps (I.st hT)) ((ST.boot x hn).trans hv) h) hd

theorem r_storeLocal {x : Str} {v : Value} {Q : Unit → Shared → Prop} (I : IF B g mu env.locals m cs cm s) (hk : env.scope.kind = .function) (hl : env.kindOf x = some .local)
    (h : ∀ s', IF B g mu env.locals (upd m x v) cs cm s' → Q () s') : wpAny (model prog w) A (storeName env x v) Q E s :=
  wpAny_storeName_local hl I.ns (fun h' hn hs => h _ (I.store hn hs)) (by rw [hk]; rfl)
theorem r_storeCell {x : Str} {c : Addr} {v : Value} {Q : Unit → Shared → Prop} (I : IF B g mu L m cs cm s) (hk : env.scope.kind = .function) (hl : env.kindOf x = some .cell) (he : env.cells.lookup x = some c) (hc : (x, c) ∈ cs)
    (hu : ∀ n' c', (n', c') ∈ cs → (n' = x ↔ c' = c)) (h : ∀ s', IF B g mu L m cs (upd cm x v) s' → Q () s') : wpAny (model prog w) A (storeName env x v) Q E s :=
  wpAny_storeName_cell hk hl he (I.cell x c hc) fun h' hv hs => h _ (I.storeCell (t := s.toks) hc hv hs hu)

theorem r_int {i : Int} {k pos} {Q : Value → Shared → Prop} (I : IF B g mu L m cs cm s) (h : ∀ t s', IF B g mu L m cs cm s' → Q (.int i t) s') : wpAny (model prog w) A (eval (.Constant (.int i) k pos) env) Q E s := wpAny_Constant_int (h _ _ (I.tok _))
theorem r_str {x : Str} {k pos} {Q : Value → Shared → Prop} (I : IF B g mu L m cs cm s) (h : ∀ t s', IF B g mu L m cs cm s' → Q (.str x t) s') : wpAny (model prog w) A (eval (.Constant (.str x) k pos) env) Q E s := wpAny_Constant_str (h _ _ (I.tok _))

theorem lookup_of_mem : ∀ {l : List (Str × Addr)} {n : Str} {c : Addr}, (l.map (·.1)).Nodup → (n, c) ∈ l → l.lookup n = some c
  | (k, v) :: r, n, c, hn, hm => by
    rw [List.map_cons, List.nodup_cons] at hn
    rw [List.lookup_cons]
    rcases List.mem_cons.mp hm with e | hm
    · cases e; simp
    · have hne : (n == k) = false := by
        simp only [beq_eq_false_iff_ne]
        intro e
        exact hn.1 (e ▸ List.mem_map.mpr ⟨(n, c), hm, rfl⟩)
      rw [hne]
      exact lookup_of_mem hn.2 hm
/-- a call of a def of the text -/
theorem call_fn {a : Addr} {i : Nat} {pm cd doc dV : Value} {vals : List Value} {binds : List (Str × Value)} {Q : Value → Shared → Prop} {T : Vw} {d : Nat}
    (hg : Sub g s.heap) (hTg : Le T g) (ST : Stat S mg mb) (hT : T = S.get?) (F : FnAt S a i pm cd doc dV) (r : Room A (d + 1))
    (hbind : bindArgs (fdOf i pm cd doc dV) ⟨vals, []⟩ = pure binds)
    (hkind : (binds.all fun y => (fScope (stmtAt i)).names.lookup y.1 == some .local || (fScope (stmtAt i)).names.lookup y.1 == some .cell) = true)
    (hnd : ((cellsFrom 0 (fScope (stmtAt i)).names []).map (·.1)).Nodup)
    (hco : (fScope (stmtAt i)).isCoroutine = false) (hgen : (fScope (stmtAt i)).isGenerator = false) (hk : (fScope (stmtAt i)).kind = .function)
    (h : ∀ L env s₁, env = callEnvC (fdOf i pm cd doc dV) L a → s.heap.objs.size = L → IF ⟨T, s, g, s.heap.get?, fun b => s.heap.get? b ≠ none ∧ g b = none⟩ g [] L (bindL env.kindOf binds fun _ => none) (cellsFrom (L + 1) (fScope (stmtAt i)).names []) (bindC env.kindOf binds fun _ => none) s₁ →
      wpAny (model prog w) (A.deeper env) (execs (fBody (stmtAt i)) env) (fun f s' => Q (match f with | .ret v => v | _ => .none) s') (fun _ _ => False) s₁) :
    wpAny (model prog w) A (call (.ref a) vals) Q E s := by
  refine wpAny_call ?_
  obtain ⟨o, ho, hd⟩ := F.obj
  have up : ∀ b o, S.get? b = some o → s.heap.get? b = some o := fun b o e => hg b o (hTg b o (by rw [hT]; exact e))
  have hcd : s.heap.CodeRec cd (fName (stmtAt i)) := by
    obtain ⟨c, o, vs, t, e1, e2, e3, e4⟩ := F.code
    exact ⟨c, o, vs, t, e1, up _ _ e2, e3, e4⟩
  refine codeAny_call_cells (fd := fdOf i pm cd doc dV) (body := fBody (stmtAt i)) r.lim (up _ _ ho) hd (ST.lim.keeps up) hcd rfl hbind rfl (PySem.W.kindsX hkind _) (fun s₁ x => ?_) hco hgen hk
  refine wpAny_mono (h _ _ s₁ rfl rfl ?_) (fun f s' q => q) (fun _ _ q => q.elim)
  have hL : g s.heap.objs.size = none := none_of_size hg (Nat.le_refl _)
  have hab := x.above
  have hin := x.toInCall
  have mem : ∀ n c, (n, c) ∈ cellsFrom (s.heap.objs.size + 1) (fScope (stmtAt i)).names [] → (cellsFrom (s.heap.objs.size + 1) (fScope (stmtAt i)).names []).lookup n = some c := by
    intro n c hm
    refine lookup_of_mem ?_ hm
    rw [cellsFrom_names (fScope (stmtAt i)).names (s.heap.objs.size + 1) 0 [] [] rfl]
    exact hnd
  refine ⟨hin.same, hTg, Le.refl g, fun b hb => ⟨hb.2, alive_keep hin.keep hb.1⟩, hin.keep, fun b o e => hin.keep b o (hg b o e), hin.ns, hL, get_none_of_size (Nat.le_refl _), fun n c hc => x.cell n c (mem n c hc), fun n c hc => ?_, x.apart, fun p hp => (nomatch hp), List.nodup_nil⟩
  · have := hab n c hc
    have hle : s.heap.objs.size ≤ c := Nat.le_of_lt this
    exact ⟨none_of_size hg hle, get_none_of_size hle, Nat.ne_of_gt this⟩
/-- what the end of a frame gives back -/
theorem IF.end_ {T : Vw} {s' : Shared} {g₀ : Vw} (I : IF ⟨T, s, g₀, s.heap.get?, fun b => s.heap.get? b ≠ none ∧ g₀ b = none⟩ g mu L m cs cm s') : After g₀ s g s' :=
  ⟨I.same, I.keep, I.ge, I.sub, fun b hb e => (I.off b ⟨hb, e⟩).1⟩
structure Opens (T : Vw) (g : Vw) (s : Shared) (B : Base) : Prop where
  T : B.T = T
  fin : ∀ {g' mu L m cs cm s'}, IF B g' mu L m cs cm s' → After g s g' s'
  old : ∀ b, s.heap.get? b = none → ¬ B.off b
  keep : ∀ b o, s.heap.get? b = some o → B.k b = some o
theorem call_c {a : Addr} {i : Nat} {pm cd doc dV : Value} {vals : List Value} {binds : List (Str × Value)} {m0 cm0 : Str → Option Value} {cs0 : Addr → List (Str × Addr)} {Q : Value → Shared → Prop} {T : Vw} {d : Nat}
    (hg : Sub g s.heap) (hTg : Le T g) (ST : Stat S mg mb) (hT : T = S.get?) (F : FnAt S a i pm cd doc dV) (r : Room A (d + 1))
    (hbind : bindArgs (fdOf i pm cd doc dV) ⟨vals, []⟩ = pure binds)
    (hkind : (binds.all fun y => (fScope (stmtAt i)).names.lookup y.1 == some .local || (fScope (stmtAt i)).names.lookup y.1 == some .cell) = true)
    (hnd : ((cellsFrom 0 (fScope (stmtAt i)).names []).map (·.1)).Nodup)
    (hm : ∀ L, bindL (callEnvC (fdOf i pm cd doc dV) L a).kindOf binds (fun _ => none) = m0) (hcm : ∀ L, bindC (callEnvC (fdOf i pm cd doc dV) L a).kindOf binds (fun _ => none) = cm0) (hcs : ∀ L, cellsFrom (L + 1) (fScope (stmtAt i)).names [] = cs0 L)
    (hco : (fScope (stmtAt i)).isCoroutine = false) (hgen : (fScope (stmtAt i)).isGenerator = false) (hk : (fScope (stmtAt i)).kind = .function)
    (h : ∀ B L s₁, Opens T g s B → ∀ A', Room A' d → IF B g [] L m0 (cs0 L) cm0 s₁ →
      wpAny (model prog w) A' (execs (fBody (stmtAt i)) (callEnvC (fdOf i pm cd doc dV) L a)) (fun f s' => Q (match f with | .ret v => v | _ => .none) s') (fun _ _ => False) s₁) :
    wpAny (model prog w) A (call (.ref a) vals) Q E s := by
  refine call_fn hg hTg ST hT F r hbind hkind hnd hco hgen hk fun L env s₁ he hL I => ?_
  subst he
  rw [hm, hcm, hcs] at I
  exact h _ L s₁ ⟨rfl, fun I => I.end_, fun b hb q => q.1 hb, fun _ _ e => e⟩ _ r.deeper I
end
end Mine
set_option Elab.async false
set_option maxRecDepth 100000
namespace Mine
open PySem PySem.W PyProof.Rows PySem.Calls

/-! ## Texts as lists -/
noncomputable abbrev tl (x : Str) : List Nat := x.cps.toList
theorem str_ext {x y : Str} (h : tl x = tl y) : x = y := by
  obtain ⟨⟨a⟩⟩ := x; obtain ⟨⟨b⟩⟩ := y
  have : a = b := h
  rw [this]
theorem len_tl (x : Str) : (tl x).length = x.length := by simp [tl, Str.length]
theorem tl_append (x y : Str) : tl (x ++ y) = tl x ++ tl y := by
  show (x.cps ++ y.cps).toList = _
  simp [tl]

theorem sliceMade_run (x : Str) (t : Tok) (l u : Option (Int × Tok)) {a k : Nat} (hp : slicePicked x l u none = (List.range k).map (a + ·)) (hak : a + k ≤ x.length) {Q : Value → Shared → Prop} {s : Shared} (hlen : x.length ≤ 100000)
    (h : ∀ y t' tk, tl y = ((tl x).drop a).take k → Q (.str y t') { s with toks := tk }) : (sliceMade x t l u none).post Q s := by
  have pick : (slicePicked x l u none).filterMap (x.cps[·]?) = ((tl x).drop a).take k := by rw [hp]; exact pick_run x.cps a k
  unfold sliceMade
  split
  · rename_i e
    simp only [Option.map_none, Option.getD_none, beq_self_eq_true, Bool.true_and, beq_iff_eq] at e
    rw [hp, List.length_map, List.length_range] at e
    have ha : a = 0 := by lia
    subst ha
    have := h x t s.toks
    refine this ?_
    rw [List.drop_zero, e, ← len_tl x, List.take_length]
  · refine ⟨?_, h _ _ _ pick⟩
    show (List.toArray _).size ≤ sizeLine
    rw [pick, List.size_toArray, sizeLine_eq]
    have := List.length_take_le k ((tl x).drop a)
    lia
theorem pick_from (x : Str) (i : Nat) (t : Tok) : slicePicked x (some (i, t)) none none = (List.range (x.length - min i x.length)).map (min i x.length + ·) := by
  unfold slicePicked PySem.Builtin.Str.strSliceIndices
  simp only [Option.map_some, Option.map_none, Option.getD_none, show (1 : Int) > 0 by decide, if_true]
  have e : (max 0 (min (if (i : Int) < 0 then (i : Int) + x.length else i) x.length) : Int) = ((min i x.length : Nat) : Int) := by
    rw [if_neg (by lia)]; lia
  rw [e, sliceRange_one]
theorem pick_to (x : Str) (i : Nat) (t : Tok) : slicePicked x none (some (i, t)) none = (List.range (min i x.length)).map (0 + ·) := by
  unfold slicePicked PySem.Builtin.Str.strSliceIndices
  simp only [Option.map_some, Option.map_none, Option.getD_none, show (1 : Int) > 0 by decide, if_true]
  have e : (max 0 (min (if (i : Int) < 0 then (i : Int) + x.length else i) x.length) : Int) = ((min i x.length : Nat) : Int) := by
    rw [if_neg (by lia)]; lia
  rw [e]
  exact sliceRange_one 0 _
theorem pick_last (x : Str) (t : Tok) : slicePicked x none (some (-1, t)) none = (List.range (x.length - 1)).map (0 + ·) := by
  unfold slicePicked PySem.Builtin.Str.strSliceIndices
  simp only [Option.map_some, Option.map_none, Option.getD_none, show (1 : Int) > 0 by decide, if_true]
  have e : (max 0 (min (if (-1 : Int) < 0 then (-1 : Int) + x.length else -1) x.length) : Int) = ((x.length - 1 : Nat) : Int) := by
    rw [if_pos (by decide)]; lia
  rw [e]
  exact sliceRange_one 0 _

theorem starts_tl (x : Str) (c : Nat) : Txt.startswith x ⟨#[c]⟩ = ((tl x).head? == some c) := by
  unfold Txt.startswith
  rw [StrLaws.subAt_eq, ← len_tl x]
  show (decide (0 + 1 ≤ (tl x).length) && ((tl x).drop 0).take 1 == [c]) = _
  cases tl x with
  | nil => rfl
  | cons a r => simp
theorem ends_tl (x : Str) (c : Nat) : Txt.endswith x ⟨#[c]⟩ = ((tl x).getLast? == some c) := by
  unfold Txt.endswith
  rw [StrLaws.subAt_eq, ← len_tl x]
  show (decide (0 + 1 ≤ (tl x).length) && ((tl x).drop ((tl x).length - 1)).take 1 == [c]) = _
  generalize tl x = l
  rcases List.eq_nil_or_concat l with rfl | ⟨r, a, rfl⟩
  · rfl
  · simp

/-! ## Expressions -/
section
variable {prog : Program} {w : World} {A : Around} {E : Value → Shared → Prop} {s : Shared} {env : Env}
variable {B : Base} {g : Vw} {mu : List (Addr × Obj)} {L : Addr} {m : Str → Option Value} {cs : List (Str × Addr)} {cm : Str → Option Value}

theorem r_starts {o e : Expr} {apos pos : Pos} {Q : Value → Shared → Prop} (hbase : attributeBase o "startswith" env (eval o env) = eval o env) (hs : starEach [e] env = [(false, eval e env)]) (hline : (apos.endLine == pos.line) = true)
    (h : wpAny (model prog w) A (eval o env) (fun ov s₁ => ∃ x t, ov = .str x t ∧ wpAny (model prog w) A (eval e env) (fun v s₂ => ∃ c u, v = .str ⟨#[c]⟩ u ∧ Q (.bool ((tl x).head? == some c)) s₂) E s₁) E s) :
    wpAny (model prog w) A (eval (.Call (.Attribute o "startswith" apos) [e] [] pos) env) Q E s := by
  refine Call_method1 hbase hs hline (wpAny_mono h (fun ov s₁ h₁ => ?_) fun _ _ q => q)
  obtain ⟨x, t, rfl, h₁⟩ := h₁
  refine SB.startswith (wpAny_mono h₁ (fun v s₂ h₂ => ?_) fun _ _ q => q)
  obtain ⟨c, u, rfl, h₂⟩ := h₂
  exact ⟨_, _, rfl, by rw [starts_tl]; exact h₂⟩
theorem r_ends {o e : Expr} {apos pos : Pos} {Q : Value → Shared → Prop} (hbase : attributeBase o "endswith" env (eval o env) = eval o env) (hs : starEach [e] env = [(false, eval e env)]) (hline : (apos.endLine == pos.line) = true)
    (h : wpAny (model prog w) A (eval o env) (fun ov s₁ => ∃ x t, ov = .str x t ∧ wpAny (model prog w) A (eval e env) (fun v s₂ => ∃ c u, v = .str ⟨#[c]⟩ u ∧ Q (.bool ((tl x).getLast? == some c)) s₂) E s₁) E s) :
    wpAny (model prog w) A (eval (.Call (.Attribute o "endswith" apos) [e] [] pos) env) Q E s := by
  refine Call_method1 hbase hs hline (wpAny_mono h (fun ov s₁ h₁ => ?_) fun _ _ q => q)
  obtain ⟨x, t, rfl, h₁⟩ := h₁
  refine SB.endswith (wpAny_mono h₁ (fun v s₂ h₂ => ?_) fun _ _ q => q)
  obtain ⟨c, u, rfl, h₂⟩ := h₂
  exact ⟨_, _, rfl, by rw [ends_tl]; exact h₂⟩

theorem IF.slice (I : IF B g mu L m cs cm s) (l u st : Value) {t : Nat} : IF B g mu L m cs cm { s with heap := s.heap.push { cls := .type "slice", data := .fields #[l, u, st] }, toks := t } :=
  I.after (.more I.sub fun b o e => Heap.get?_push_of_some _ e)

theorem slice_sn {e : Expr} {p : Pos} {Q : Value → Shared → Prop}
    (h : wpAny (model prog w) A (eval e env) (fun l s₁ => Q (.ref s₁.heap.objs.size) { s₁ with heap := s₁.heap.push { cls := .type "slice", data := .fields #[l, .none, .none] } }) E s) :
    wpAny (model prog w) A (eval (.Slice (some e) none none p) env) Q E s := by
  refine wpAny_Slice ?_
  rw [evalPart_some]
  exact wpAny_mono h (fun v s₂ h₂ => by rw [evalPart_none]; exact wpAny_pure (wpAny_pure h₂)) fun _ _ q => q
theorem slice_ns {e : Expr} {p : Pos} {Q : Value → Shared → Prop}
    (h : wpAny (model prog w) A (eval e env) (fun l s₁ => Q (.ref s₁.heap.objs.size) { s₁ with heap := s₁.heap.push { cls := .type "slice", data := .fields #[.none, l, .none] } }) E s) :
    wpAny (model prog w) A (eval (.Slice none (some e) none p) env) Q E s := by
  refine wpAny_Slice ?_
  rw [evalPart_none]
  refine wpAny_pure ?_
  rw [evalPart_some]
  exact wpAny_mono h (fun v s₂ h₂ => wpAny_pure h₂) fun _ _ q => q

theorem t_str {value slice : Expr} {x : Str} {t : Tok} {l u : Option (Int × Tok)} {a k : Nat} {Q : Value → Shared → Prop} (I : IF B g mu L m cs cm s) (hp : slicePicked x l u none = (List.range k).map (a + ·)) (hak : a + k ≤ x.length) (hx : x.length ≤ 100000)
    (h : ∀ y t' s', IF B g mu L m cs cm s' → tl y = ((tl x).drop a).take k → Q (.str y t') s')
    (hs : subscripted slice false (.str x t) (.ref s.heap.objs.size) = operate [.ref s.heap.objs.size, .str x t] (getItem (.str x t) (.ref s.heap.objs.size))) :
    wpAny (model prog w) A (subscriptTail value slice (.str x t) (.ref s.heap.objs.size)) Q E { s with heap := s.heap.push { cls := .type "slice", data := .fields #[partValue l, partValue u, .none] } } := by
  refine tail_any (typeIs_str _ x t) F.slot_str_getitem.lookup ?_ hs
  refine wpAny_getItem_str_slice (l := l) (u := u) (st := none) ⟨_, Heap.get?_push_size _ rfl, rfl, rfl⟩ rfl ?_
  exact sliceMade_run x t _ _ hp hak hx fun y t' tk hy => h y t' _ (I.slice _ _ _) hy
/-- x[i:] -/
theorem t_strFrom {value slice : Expr} {x : Str} {t u : Tok} {i : Nat} {Q : Value → Shared → Prop} (I : IF B g mu L m cs cm s) (hx : x.length ≤ 100000)
    (h : ∀ y t' s', IF B g mu L m cs cm s' → tl y = (tl x).drop i → Q (.str y t') s')
    (hs : subscripted slice false (.str x t) (.ref s.heap.objs.size) = operate [.ref s.heap.objs.size, .str x t] (getItem (.str x t) (.ref s.heap.objs.size)) := by with_unfolding_all rfl) :
    wpAny (model prog w) A (subscriptTail value slice (.str x t) (.ref s.heap.objs.size)) Q E { s with heap := s.heap.push { cls := .type "slice", data := .fields #[.int (i : Nat) u, .none, .none] } } := by
  refine t_str (l := some (i, u)) (u := none) I (pick_from x i u) (by lia) hx (fun y t' s' I' hy => h y t' s' I' ?_) hs
  rw [hy, ← len_tl x]
  by_cases hi : i ≤ (tl x).length
  · rw [Nat.min_eq_left hi, List.take_of_length_le (by simp)]
  · rw [Nat.min_eq_right (by lia), List.drop_eq_nil_of_le (Nat.le_refl _), List.drop_eq_nil_of_le (by lia)]; simp
/-- x[:i] -/
theorem t_strTo {value slice : Expr} {x : Str} {t u : Tok} {i : Nat} {Q : Value → Shared → Prop} (I : IF B g mu L m cs cm s) (hx : x.length ≤ 100000)
    (h : ∀ y t' s', IF B g mu L m cs cm s' → tl y = (tl x).take i → Q (.str y t') s')
    (hs : subscripted slice false (.str x t) (.ref s.heap.objs.size) = operate [.ref s.heap.objs.size, .str x t] (getItem (.str x t) (.ref s.heap.objs.size)) := by with_unfolding_all rfl) :
    wpAny (model prog w) A (subscriptTail value slice (.str x t) (.ref s.heap.objs.size)) Q E { s with heap := s.heap.push { cls := .type "slice", data := .fields #[.none, .int (i : Nat) u, .none] } } := by
  refine t_str (l := none) (u := some (i, u)) I (pick_to x i u) (by lia) hx (fun y t' s' I' hy => h y t' s' I' ?_) hs
  rw [hy, ← len_tl x, List.drop_zero]
  by_cases hi : i ≤ (tl x).length
  · rw [Nat.min_eq_left hi]
  · rw [Nat.min_eq_right (by lia), List.take_length, List.take_of_length_le (by lia)]
/-- x[:-1] -/
theorem t_strLast {value slice : Expr} {x : Str} {t u : Tok} {Q : Value → Shared → Prop} (I : IF B g mu L m cs cm s) (hx : x.length ≤ 100000)
    (h : ∀ y t' s', IF B g mu L m cs cm s' → tl y = (tl x).dropLast → Q (.str y t') s')
    (hs : subscripted slice false (.str x t) (.ref s.heap.objs.size) = operate [.ref s.heap.objs.size, .str x t] (getItem (.str x t) (.ref s.heap.objs.size)) := by with_unfolding_all rfl) :
    wpAny (model prog w) A (subscriptTail value slice (.str x t) (.ref s.heap.objs.size)) Q E { s with heap := s.heap.push { cls := .type "slice", data := .fields #[.none, .int (-1) u, .none] } } := by
  refine t_str (l := none) (u := some (-1, u)) I (pick_last x u) (by lia) hx (fun y t' s' I' hy => h y t' s' I' ?_) hs
  rw [hy, ← len_tl x, List.drop_zero, List.dropLast_eq_take]

theorem r_negInt {i : Int} {k p pos} {Q : Value → Shared → Prop} (I : IF B g mu L m cs cm s) (h : ∀ t s', IF B g mu L m cs cm s' → Q (.int (-i) t) s') :
    wpAny (model prog w) A (eval (.UnaryOp .USub (.Constant (.int i) k p) pos) env) Q E s :=
  wpAny_UnaryOp (wpAny_Constant_int (PyProof.Rows.neg_int (h _ _ ((I.tok _).tok _))))

/-- a test that is a value -/
theorem r_test {e : Expr} {whole : Sem Value} {Q : Bool → Shared → Prop} (h : wpAny (model prog w) A whole (fun v s₁ => wpAny (model prog w) A (truthy v) Q E s₁) E s)
    (he : isTrue e env whole = (do let v ← whole; standAt e.pos; holding [v] (truthy v))) : wpAny (model prog w) A (isTrue e env whole) Q E s := wpAny_isTrue_value h he
theorem r_if {test : Expr} {body orelse : List Stmt} {pos : Pos} {rest : List Stmt} {Q : Flow → Shared → Prop} (J : Shared → Prop)
    (h : wpAny (model prog w) A (isTrue test env (eval test env)) (fun b s₂ => if b = true then wpAny (model prog w) A (execs body env) (fun f s' => f = .next ∧ J s') E s₂ else wpAny (model prog w) A (execs orelse env) (fun f s' => f = .next ∧ J s') E s₂) E s)
    (h2 : ∀ s', J s' → wpAny (model prog w) A (execs rest env) Q E s') : wpAny (model prog w) A (execs (.If test body orelse pos :: rest) env) Q E s := by
  refine wpAny_execs_cons (wpAny_mono (wpAny_If h) (fun f s' q => ?_) fun _ _ q => q)
  obtain ⟨rfl, q⟩ := q
  exact h2 s' q
theorem r_ifp {test : Expr} {body orelse : List Stmt} {pos : Pos} {rest : List Stmt} {Q : Flow → Shared → Prop}
    (h : wpAny (model prog w) A (isTrue test env (eval test env)) (fun b s₂ => if b = true then wpAny (model prog w) A (execs body env) (fun f s' => match f with | .next => wpAny (model prog w) A (execs rest env) Q E s' | f => Q f s') E s₂ else wpAny (model prog w) A (execs orelse env) (fun f s' => match f with | .next => wpAny (model prog w) A (execs rest env) Q E s' | f => Q f s') E s₂) E s) :
    wpAny (model prog w) A (execs (.If test body orelse pos :: rest) env) Q E s := wpAny_execs_cons (wpAny_If h)
theorem r_nil {Q : Flow → Shared → Prop} (h : Q .next s) : wpAny (model prog w) A (execs [] env) Q E s := wpAny_execs_nil h
theorem r_assign {x : Str} {p : Pos} {value : Expr} {pos : Pos} {rest : List Stmt} {Q : Flow → Shared → Prop} (hs : swapsWith value (some (.Name x p)) pos.line env = pure false)
    (h : wpAny (model prog w) A (eval value env) (fun v s₁ => wpAny (model prog w) A (storeName env x v) (fun _ s₂ => wpAny (model prog w) A (execs rest env) Q E s₂) E s₁) E s) :
    wpAny (model prog w) A (execs (.Assign [.Name x p] value pos :: rest) env) Q E s := wpAny_execs_cons (wpAny_Assign_Name h hs)
theorem r_return {e : Expr} {pos : Pos} {rest : List Stmt} {Q : Flow → Shared → Prop} (h : wpAny (model prog w) A (eval e env) (fun v => Q (.ret v)) E s) :
    wpAny (model prog w) A (execs (.Return (some e) pos :: rest) env) Q E s := wpAny_execs_cons (wpAny_Return_some h)
theorem ite_of {b : Bool} {p q : Prop} (h1 : b = true → p) (h2 : b = false → q) : if b = true then p else q := by
  cases b with
  | true => exact h1 rfl
  | false => exact h2 rfl
end

/-! ## strip_quotes -/
noncomputable def stripL (l : List Nat) : List Nat :=
  let l := if l.head? == some 34 then l.drop 1 else l
  if l.getLast? == some 34 then l.dropLast else l
theorem q34 : Str.ofString "\"" = (⟨#[34]⟩ : Str) := by decide +kernel
theorem stripL_le (l : List Nat) : (stripL l).length ≤ l.length := by
  unfold stripL
  dsimp only
  split <;> split <;> (try simp only [List.length_dropLast, List.length_drop]) <;> lia

section
variable {prog : Program} {w : World} {A : Around} {E : Value → Shared → Prop} {s : Shared} {g : Vw} {S : Heap} {mg mb : Str → Option Value}
set_option maxHeartbeats 400000 in
theorem strip_call {a : Addr} {pm cd doc : Value} {x : Str} {t : Tok} {d : Nat} {Q : Value → Shared → Prop} (hg : Sub g s.heap) (hTg : Le S.get? g) (ST : Stat S mg mb) (F : FnAt S a 23 pm cd doc .none) (r : Room A (d + 1)) (hx : x.length ≤ 1000)
    (h : ∀ y t' s', After g s g s' → tl y = stripL (tl x) → Q (.str y t') s') : wpAny (model prog w) A (call (.ref a) [.str x t]) Q E s := by
  refine call_c (m0 := upd (fun _ => none) (Str.ofString "text") (.str x t)) (cm0 := fun _ => none) (cs0 := fun _ => []) hg hTg ST rfl F r (binds := [(Str.ofString "text", .str x t)]) (by rfl) (by rfl) (by decide +kernel) (fun _ => rfl) (fun _ => rfl) (fun _ => rfl) (by rfl) (by rfl) (by rfl) ?_
  intro B L s₁ O A1 r I
  refine r_if (fun s' => ∃ m x1 t1, IF B g [] L m [] (fun _ => none) s' ∧ m (Str.ofString "text") = some (.str x1 t1) ∧ tl x1 = (if (tl x).head? == some 34 then (tl x).drop 1 else tl x)) ?_ ?_
  · refine r_test ?_ (by rfl)
    refine r_starts (by rfl) (by rfl) (by rfl) ?_
    refine r_local I (by rfl) (by rfl) (by rfl) (by decide) ?_
    refine ⟨_, _, rfl, ?_⟩
    refine r_str I ?_
    intro t1 s2 I
    refine ⟨34, _, by rw [← q34], ?_⟩
    refine wpAny_truthy_bool ?_
    refine ite_of (fun hb => ?_) (fun hb => ?_)
    · refine r_assign (by rfl) ?_
      refine Subscript_ ?_
      refine r_local I (by rfl) (by rfl) (by rfl) (by decide) ?_
      refine slice_sn (r_int I ?_)
      intro t2 s3 I
      refine t_strFrom (i := 1) I (by lia) ?_
      intro y t3 s4 I hy
      refine r_storeLocal I (by rfl) (by rfl) ?_
      intro s5 I
      exact r_nil ⟨rfl, _, y, t3, I, by rfl, by rw [hy, if_pos hb]⟩
    · refine r_nil ⟨rfl, _, x, t, I, by rfl, by rw [if_neg (by rw [hb]; decide)]⟩
  · rintro s' ⟨m, x1, t1, I, hm, hx1⟩
    have hl : x1.length ≤ 1000 := by
      rw [← len_tl, hx1]
      have := len_tl x
      split <;> (try simp only [List.length_drop]) <;> lia
    refine r_if (fun s' => ∃ m x2 t1, IF B g [] L m [] (fun _ => none) s' ∧ m (Str.ofString "text") = some (.str x2 t1) ∧ tl x2 = stripL (tl x)) ?_ ?_
    · refine r_test ?_ (by rfl)
      refine r_ends (by rfl) (by rfl) (by rfl) ?_
      refine r_local I (by rfl) (by rfl) hm (by decide) ?_
      refine ⟨_, _, rfl, ?_⟩
      refine r_str I ?_
      intro t1 s2 I
      refine ⟨34, _, by rw [← q34], ?_⟩
      refine wpAny_truthy_bool ?_
      refine ite_of (fun hb => ?_) (fun hb => ?_)
      · refine r_assign (by rfl) ?_
        refine Subscript_ ?_
        refine r_local I (by rfl) (by rfl) hm (by decide) ?_
        refine slice_ns (r_negInt I ?_)
        intro t2 s3 I
        refine t_strLast I (by lia) ?_
        intro y t3 s4 I hy
        refine r_storeLocal I (by rfl) (by rfl) ?_
        intro s5 I
        refine r_nil ⟨rfl, _, y, t3, I, by rfl, ?_⟩
        rw [hy]
        unfold stripL
        rw [← hx1]
        exact (if_pos hb).symm
      · refine r_nil ⟨rfl, _, x1, _, I, hm, ?_⟩
        unfold stripL
        rw [← hx1]
        exact (if_neg (by rw [hb]; decide)).symm
    · rintro s' ⟨m, x2, t1, I, hm, hx2⟩
      refine r_return ?_
      refine r_local I (by rfl) (by rfl) hm (by decide) ?_
      exact h _ _ _ (O.fin I) hx2
end
end Mine
set_option Elab.async false
set_option maxRecDepth 100000
namespace Mine
open PySem PySem.W PyProof.Rows PySem.Calls

noncomputable abbrev lo (vs : List Value) (n : Nat) : Obj := { cls := .type "list", data := .seq vs.toArray n }
noncomputable abbrev to_ (vs : List Value) (n : Nat) : Obj := { cls := .type "tuple", data := .seq vs.toArray n }
noncomputable abbrev NoE : Value → Shared → Prop := fun _ _ => False
noncomputable def StrV (v : Value) (x : Str) : Prop := ∃ t, v = .str x t
noncomputable def IntV (v : Value) (i : Int) : Prop := ∃ t, v = .int i t

inductive All₂ {α β : Type} (R : α → β → Prop) : List α → List β → Prop
  | nil : All₂ R [] []
  | cons {a b as bs} : R a b → All₂ R as bs → All₂ R (a :: as) (b :: bs)
namespace All₂
variable {α β : Type} {R R' : α → β → Prop}
theorem length {as : List α} {bs : List β} (h : All₂ R as bs) : as.length = bs.length := by
  induction h with
  | nil => rfl
  | cons _ _ ih => rw [List.length_cons, List.length_cons, ih]
theorem mono (h : ∀ a b, R a b → R' a b) {as : List α} {bs : List β} (x : All₂ R as bs) : All₂ R' as bs := by
  induction x with
  | nil => exact .nil
  | cons x _ ih => exact .cons (h _ _ x) ih
theorem append {as : List α} {bs : List β} {as' : List α} {bs' : List β} (x : All₂ R as bs) (y : All₂ R as' bs') : All₂ R (as ++ as') (bs ++ bs') := by
  induction x with
  | nil => exact y
  | cons x _ ih => exact .cons x ih
theorem get {as : List α} {bs : List β} (x : All₂ R as bs) : ∀ {i : Nat} {b : β}, bs[i]? = some b → ∃ a, as[i]? = some a ∧ R a b := by
  induction x with
  | nil => intro i b h; cases h
  | cons x _ ih =>
    intro i b h
    cases i with
    | zero => cases h; exact ⟨_, rfl, x⟩
    | succ i => exact ih (i := i) h
theorem get' {as : List α} {bs : List β} (x : All₂ R as bs) : ∀ {i : Nat} {a : α}, as[i]? = some a → ∃ b, bs[i]? = some b ∧ R a b := by
  induction x with
  | nil => intro i b h; cases h
  | cons x _ ih =>
    intro i b h
    cases i with
    | zero => cases h; exact ⟨_, rfl, x⟩
    | succ i => exact ih (i := i) h
theorem take {as : List α} {bs : List β} (x : All₂ R as bs) : ∀ n, All₂ R (as.take n) (bs.take n) := by
  induction x with
  | nil => intro n; cases n <;> exact .nil
  | cons x _ ih => intro n; cases n with
    | zero => exact .nil
    | succ n => exact .cons x (ih n)
theorem drop {as : List α} {bs : List β} (x : All₂ R as bs) : ∀ n, All₂ R (as.drop n) (bs.drop n) := by
  induction x with
  | nil => intro n; cases n <;> exact .nil
  | cons x t ih => intro n; cases n with
    | zero => exact .cons x t
    | succ n => exact ih n
end All₂

/-- a list object of the view, its items told -/
inductive LstV {α : Type} (g : Vw) (P : Value → α → Prop) (v : Value) (xs : List α) : Prop
  | mk (a : Addr) (vs : List Value) (n : Nat) (h1 : v = .ref a) (h2 : g a = some (lo vs n)) (h3 : All₂ P vs xs) : LstV g P v xs
theorem LstV.mono {α : Type} {g g' : Vw} {P P' : Value → α → Prop} {v : Value} {xs : List α} (h : LstV g P v xs) (hg : Le g g') (hP : ∀ v x, P v x → P' v x) : LstV g' P' v xs := by
  obtain ⟨a, vs, n, rfl, h1, h2⟩ := h
  exact ⟨a, vs, n, rfl, hg _ _ h1, h2.mono hP⟩
noncomputable abbrev StrsV (g : Vw) : Value → List Str → Prop := LstV g StrV
theorem StrsV.up {g g' : Vw} {v : Value} {xs : List Str} (h : StrsV g v xs) (hg : Le g g') : StrsV g' v xs := LstV.mono h hg fun _ _ x => x
noncomputable abbrev RowsV (g : Vw) : Value → List (List Str) → Prop := LstV g (StrsV g)
theorem RowsV.up {g g' : Vw} {v : Value} {xs : List (List Str)} (h : RowsV g v xs) (hg : Le g g') : RowsV g' v xs := LstV.mono h hg fun _ _ x => x.up hg

theorem isList_lo {h : Heap} {a : Addr} {vs : List Value} {n : Nat} (e : h.get? a = some (lo vs n)) : h.IsList a vs.toArray := ⟨_, e, rfl, n, rfl⟩
theorem plainL_lo {h : Heap} {a : Addr} {vs : List Value} {n : Nat} (e : h.get? a = some (lo vs n)) : PlainL h a vs.toArray := ⟨_, n, e, rfl, rfl, rfl⟩

section
variable {prog : Program} {w : World} {A : Around} {E : Value → Shared → Prop} {s : Shared} {env : Env}
variable {B : Base} {g : Vw} {mu : List (Addr × Obj)} {L : Addr} {m : Str → Option Value} {cs : List (Str × Addr)} {cm : Str → Option Value} {S : Heap} {mg mb : Str → Option Value}

/-! ### displays -/
noncomputable def Made (o : Obj) (n : Nat) (Q : Value → Shared → Prop) (s : Shared) : Prop := n ≤ sizeLine ∧ Q (.ref s.heap.objs.size) { s with heap := s.heap.push o }
theorem r_list {elts : List Expr} {pos : Pos} {Q : Value → Shared → Prop}
    (h : wpAny (model prog w) A (spliced (backTo pos (starEach elts env))) (fun vs s₁ => Made (lo vs 0) vs.length Q s₁) E s) : wpAny (model prog w) A (eval (.List elts pos) env) Q E s := wpAny_List h
theorem r_tuple {elts : List Expr} {k : Nat} {pos : Pos} {Q : Value → Shared → Prop}
    (h : wpAny (model prog w) A (spliced (backTo pos (starEach elts env))) (fun vs s₁ => Made (to_ vs 0) vs.length Q s₁) E s) : wpAny (model prog w) A (eval (.Tuple elts k pos) env) Q E s := wpAny_Tuple h
theorem r_items {pos : Pos} {e : Expr} {rest : List Expr} {Q : List Value → Shared → Prop} (he : starEach (e :: rest) env = (false, eval e env) :: starEach rest env)
    (h : wpAny (model prog w) A (eval e env) (fun v s₁ => wpAny (model prog w) A (spliced (backTo pos (starEach rest env))) (fun vs s₂ => Q (v :: vs) s₂) E s₁) E s) :
    wpAny (model prog w) A (spliced (backTo pos (starEach (e :: rest) env))) Q E s := wpAny_items_cons h he
theorem r_items0 {pos : Pos} {Q : List Value → Shared → Prop} (h : Q [] s) : wpAny (model prog w) A (spliced (backTo pos (starEach [] env))) Q E s := wpAny_items_nil h
/-- a made object that may be turned -/
theorem t_mu {o : Obj} {n : Nat} {Q : Value → Shared → Prop} (I : IF B g mu L m cs cm s) (hn : n ≤ 100000) (hf : o.isFreed = false) (h : ∀ D s', IF B g ((D, o) :: mu) L m cs cm s' → ¬ B.off D → Q (.ref D) s') :
    Made o n Q s := ⟨by rw [sizeLine_eq]; lia, h _ _ (I.newMu (t := s.toks) hf) I.newOff⟩
/-- a made object that stays -/
theorem t_fz {o : Obj} {n : Nat} {Q : Value → Shared → Prop} (I : IF B g mu L m cs cm s) (hn : n ≤ 100000) (hf : o.isFreed = false) (h : ∀ D g' s', IF B g' mu L m cs cm s' → Le g g' → g' D = some o → Q (.ref D) s') :
    Made o n Q s := by
  have a := After.push (t := s.toks) I.sub o hf
  exact ⟨by rw [sizeLine_eq]; lia, h _ _ _ (I.after a) a.le (put_self ..)⟩

/-! ### items -/
theorem t_listNeg1 {value slice : Expr} {l : Addr} {vs : List Value} {n : Nat} {u : Tok} {x : Value} {Q : Value → Shared → Prop} (hl : s.heap.get? l = some (lo vs n)) (hx : vs.getLast? = some x) (h : Q x s)
    (hs : subscripted slice false (.ref l) (.int (-1) u) = operate [.ref l, .int (-1) u] (getItem (.ref l) (.int (-1) u)) := by with_unfolding_all rfl) :
    wpAny (model prog w) A (subscriptTail value slice (.ref l) (.int (-1) u)) Q E s := by
  have hl' := isList_lo hl
  have hpos : 0 < vs.length := by
    rcases List.eq_nil_or_concat vs with rfl | ⟨r, a, rfl⟩
    · cases hx
    · simp
  refine tail_any hl'.typeIs slot_list_getitem.lookup (wpAny_getItem_list_neg hl' (by decide) ?_ (by decide) ?_ h) hs
  · rw [List.size_toArray]; lia
  · rw [List.size_toArray]
    have e : (-1 + (vs.length : Int)).toNat = vs.length - 1 := by lia
    rw [e]
    rw [List.getLast?_eq_getElem?] at hx
    simpa using hx
theorem t_list {value slice : Expr} {l : Addr} {vs : List Value} {n : Nat} {u : Tok} {k : Nat} {x : Value} {Q : Value → Shared → Prop} (hl : s.heap.get? l = some (lo vs n)) (hx : vs[k]? = some x) (hk : k < 2 ^ 62) (h : Q x s)
    (hs : subscripted slice false (.ref l) (.int (k : Nat) u) = operate [.ref l, .int (k : Nat) u] (getItem (.ref l) (.int (k : Nat) u)) := by with_unfolding_all rfl) :
    wpAny (model prog w) A (subscriptTail value slice (.ref l) (.int (k : Nat) u)) Q E s := by
  have hl' := isList_lo hl
  exact tail_any hl'.typeIs slot_list_getitem.lookup (wpAny_getItem_list hl' (by lia) (by lia) (by simpa using hx) h) hs
theorem isTup_to {h : Heap} {a : Addr} {vs : List Value} {n : Nat} (e : h.get? a = some (to_ vs n)) : IsTup h a vs.toArray := ⟨_, e, rfl, n, rfl⟩
theorem t_tup {value slice : Expr} {l : Addr} {vs : List Value} {n : Nat} {u : Tok} {k : Nat} {x : Value} {Q : Value → Shared → Prop} (hl : s.heap.get? l = some (to_ vs n)) (hx : vs[k]? = some x) (hk : k < 2 ^ 62) (h : Q x s)
    (hs : subscripted slice false (.ref l) (.int (k : Nat) u) = operate [.ref l, .int (k : Nat) u] (getItem (.ref l) (.int (k : Nat) u)) := by with_unfolding_all rfl) :
    wpAny (model prog w) A (subscriptTail value slice (.ref l) (.int (k : Nat) u)) Q E s := by
  have hlt : k < vs.length := (List.getElem?_eq_some_iff.mp hx).1
  exact item_tupleT (isTup_to hl) (by lia) (by lia) (seqIndex_of (by lia) (by lia)) (by simpa using hx) h hs

/-! ### append -/
theorem r_append {o elt : Expr} {apos pos p : Pos} {rest : List Stmt} {Q : Flow → Shared → Prop}
    (hbase : attributeBase o "append" env (eval o env) = eval o env) (hline : (apos.endLine == pos.line) = true) (htrees : backTo pos (starEach [elt] env) = [(false, eval elt env)])
    (hi : interactive env = false)
    (h : wpAny (model prog w) A (eval o env) (fun ov s₁ => E3 fun D vs n => C3 (ov = .ref D) (s₁.heap.get? D = some (lo vs n)) (wpAny (model prog w) A (eval elt env) (fun y s₂ => wpAny (model prog w) A (call (.builtin "list.append") [.ref D, y]) (fun v s₃ => match v with | .ref _ => False | _ => wpAny (model prog w) A (execs rest env) Q E s₃) E s₂) E s₁)) E s) :
    wpAny (model prog w) A (execs (.Expr (.Call (.Attribute o "append" apos) [elt] [] pos) p :: rest) env) Q E s := by
  refine wpAny_execs_cons (wpAny_Expr (wpAny_Call_append hbase (by rw [htrees]; rfl) hline htrees (wpAny_mono h (fun ov s₁ h₁ => ?_) fun _ _ q => q)) hi (by rfl))
  obtain ⟨D, vs, n, rfl, hl, h₁⟩ := h₁
  exact ⟨D, vs.toArray, rfl, plainL_lo hl, h₁⟩
theorem t_append {D : Addr} {vs : List Value} {n : Nat} {y : Value} {K : Shared → Prop} (I : IF B g ((D, lo vs n) :: mu) L m cs cm s) (hn : vs.length ≤ 100000)
    (h : ∀ s' n', IF B g ((D, lo (vs ++ [y]) n') :: mu) L m cs cm s' → K s') :
    wpAny (model prog w) A (call (.builtin "list.append") [.ref D, y]) (fun v s₃ => match v with | .ref _ => False | _ => K s₃) E s := by
  have h0 := (I.muH _ (.head _)).1
  refine wpAny_list_append_plain (items := vs.toArray) ⟨n, h0⟩ (fun h' hp hs => ?_) (by rw [List.size_toArray, sizeLine_eq]; lia)
  obtain ⟨n', hp⟩ := hp
  refine h _ n' (I.turn (t := s.toks) (o' := lo (vs ++ [y]) n') ?_ hs)
  rw [hp, List.push_toArray]

/-! ### calls of the text's defs -/
noncomputable def Kp (S : Heap) (s : Shared) : Prop := ∀ b o, S.get? b = some o → s.heap.get? b = some o
theorem r_call {x : Str} {p pos : Pos} {e : Expr} {rest : List Expr} {a : Addr} {i : Nat} {pm cd doc dV : Value} {Q : Value → Shared → Prop} (I : IF B g mu L m cs cm s) (ST : Stat S mg mb) (hT : B.T = S.get?) (hk : env.scope.kind = .function) (hg : env.globals = mainGlobals) (hl : env.kindOf x = some .globalImplicit)
    (hv : mg x = some (.ref a)) (hd : (x == ("__debug__" : Str)) = false) (F : FnAt S a i pm cd doc dV) (he : starEach (e :: rest) env = (false, eval e env) :: starEach rest env) (hkw : backToKw pos (keywordEach [] env) = [])
    (h : wpAny (model prog w) A (spliced (backTo pos (starEach (e :: rest) env))) (fun vs s₁ => Kp S s₁ ∧ wpAny (model prog w) A (call (.ref a) vs) Q E s₁) E s) :
    wpAny (model prog w) A (eval (.Call (.Name x p) (e :: rest) [] pos) env) Q E s := by
  rw [arm_eval_Call_Name', hkw]
  obtain ⟨o, ho, hdd⟩ := F.obj
  refine wpAny_bind (r_global I ST hT hk hg hl hv hd (callWith_function (o := o) (fd := fdOf i pm cd doc dV) ?_))
  rw [he] at h ⊢
  exact evalArgs_plain (wpAny_mono h (fun vs s₁ h₁ => ⟨⟨h₁.1 _ _ ho, hdd⟩, by simpa using h₁.2⟩) fun _ _ q => q)

/-! ### while -/
theorem r_while {test : Expr} {body : List Stmt} {pos : Pos} {rest : List Stmt} {Q : Flow → Shared → Prop} (Inv : Nat → Shared → Prop) (n : Nat) (h0 : Inv n s)
    (turn : ∀ n s (K : Flow → Shared → Prop) (Ke : Shared → Prop), (∀ f s₃, (match f with
            | .next | .cont => ∃ m, m < n ∧ Inv m s₃
            | .brk => wpAny (model prog w) A (execs rest env) Q NoE s₃
            | .ret v => Q (.ret v) s₃) → K f s₃) → (∀ s₃, wpAny (model prog w) A (execs rest env) Q NoE s₃ → Ke s₃) → Inv n s →
      wpAny (model prog w) A (isTrue test env (eval test env)) (fun b s₂ => if b = true then wpAny (model prog w) A (execs body env) K NoE s₂ else Ke s₂) NoE s) :
    wpAny (model prog w) A (execs (.While test body [] pos :: rest) env) Q NoE s := by
  refine wpAny_execs_cons (wpAny_While (codeAny_whileLoop (R := fun r s' => match r with | .ok f => (match f with | .next => wpAny (model prog w) A (execs rest env) Q NoE s' | f => Q f s') | .error e => cameBackBy (model prog w) A env NoE e s') Inv (fun n s hI => ?_) n h0))
  refine wpAny_mono (turn n s _ _ (fun _ _ q => q) (fun _ q => q) hI) (fun b s₂ h₂ => ?_) fun _ _ q => q.elim
  cases b with
  | true =>
    simp only [if_true] at h₂ ⊢
    exact wpAny_mono h₂ (fun f s₃ h₃ => by cases f <;> exact h₃) fun _ _ q => q.elim
  | false =>
    simp only [Bool.false_eq_true, if_false] at h₂ ⊢
    exact wpAny_execs_nil h₂

/-! ### comparing -/
theorem r_cmp {op : CmpOp} {l r : Expr} {pos : Pos} {Q : Value → Shared → Prop} (hm : behindInMarks op r = false)
    (h : wpAny (model prog w) A (eval l env) (fun a s₁ => wpAny (model prog w) A (eval r env) (fun b s₂ => wpAny (model prog w) A (compareOp op a b) Q E s₂) E s₁) E s) :
    wpAny (model prog w) A (eval (.Compare l [op] [r] pos) env) Q E s := wpAny_Compare1 h hm
theorem r_cmpT {op : CmpOp} {l r : Expr} {pos : Pos} {whole : Sem Value} {Q : Bool → Shared → Prop} (hm : behindInMarks op r = false)
    (h : wpAny (model prog w) A (eval l env) (fun a s₁ => wpAny (model prog w) A (eval r env) (fun b s₂ => wpAny (model prog w) A (compareOp op a b) (fun c s₃ => wpAny (model prog w) A (truthy c) Q E s₃) E s₂) E s₁) E s) :
    wpAny (model prog w) A (isTrue (.Compare l [op] [r] pos) env whole) Q E s := wpAny_isTrue_Compare1 h hm
theorem c_neStr {x y : Str} {t u : Tok} {Q : Value → Shared → Prop} (h : Q (.bool (decide (x ≠ y))) s) : wpAny (model prog w) A (compareOp .NotEq (.str x t) (.str y u)) Q E s :=
  PyProof.Rows.ne_str (by
    have : (x != y) = decide (x ≠ y) := by
      by_cases e : x = y <;> simp [e]
    rw [this]; exact h)
theorem c_eqStr {x y : Str} {t u : Tok} {Q : Value → Shared → Prop} (h : Q (.bool (decide (x = y))) s) : wpAny (model prog w) A (compareOp .Eq (.str x t) (.str y u)) Q E s :=
  PyProof.Rows.eq_str (by
    have : (x == y) = decide (x = y) := by
      by_cases e : x = y <;> simp [e]
    rw [this]; exact h)
end
end Mine
set_option Elab.async false
set_option maxRecDepth 100000
namespace Mine
open PySem PySem.W PyProof.Rows PySem.Calls

inductive DefAt (S : Heap) (mg : Str → Option Value) (x : Str) (i : Nat) (dV : Value) (a : Addr) : Prop
  | mk (h : mg x = some (.ref a)) (pm cd doc : Value) (F : FnAt S a i pm cd doc dV) : DefAt S mg x i dV a

/-! ## _law_stripped -/
theorem stripL_lt {l : List Nat} (h : stripL l ≠ l) : (stripL l).length < l.length := by
  unfold stripL at *
  dsimp only at *
  by_cases h1 : (l.head? == some 34) = true
  · rw [if_pos h1] at *
    cases l with
    | nil => simp at h1
    | cons a r =>
      simp only [List.drop_succ_cons, List.drop_zero, List.length_cons] at *
      split
      · rw [List.length_dropLast]; lia
      · lia
  · rw [if_neg h1] at *
    by_cases h2 : (l.getLast? == some 34) = true
    · rw [if_pos h2] at *
      rcases List.eq_nil_or_concat l with rfl | ⟨r, a, rfl⟩
      · simp at h2
      · simp
    · rw [if_neg h2] at h
      exact absurd rfl h
noncomputable def chainL (l : List Nat) : List (List Nat) := if h : stripL l = l then [l] else l :: chainL (stripL l)
termination_by l.length
decreasing_by exact stripL_lt h
theorem chainL_end {l : List Nat} (h : stripL l = l) : chainL l = [l] := by unfold chainL; rw [dif_pos h]
theorem chainL_step {l : List Nat} (h : stripL l ≠ l) : chainL l = l :: chainL (stripL l) := by rw [chainL, dif_neg h]

section
variable {prog : Program} {w : World} {A : Around} {E : Value → Shared → Prop} {s : Shared} {g : Vw} {S : Heap} {mg mb : Str → Option Value}
set_option maxHeartbeats 400000 in
theorem stripped_call {a a23 : Addr} {pm cd doc : Value} {x : Str} {t : Tok} {d : Nat} {Q : Value → Shared → Prop} (hg : Sub g s.heap) (hTg : Le S.get? g) (ST : Stat S mg mb) (F : FnAt S a 29 pm cd doc .none) (D23 : DefAt S mg (Str.ofString "strip_quotes") 23 .none a23) (r : Room A (d + 2)) (hx : x.length ≤ 1000)
    (h : ∀ v xs g' s', After g s g' s' → StrsV g' v xs → xs.map tl = chainL (tl x) → Q v s') : wpAny (model prog w) A (call (.ref a) [.str x t]) Q E s := by
  refine call_c (m0 := upd (fun _ => none) (Str.ofString "text") (.str x t)) (cm0 := fun _ => none) (cs0 := fun _ => []) hg hTg ST rfl F r (binds := [(Str.ofString "text", .str x t)]) (by rfl) (by rfl) (by decide +kernel) (fun _ => rfl) (fun _ => rfl) (fun _ => rfl) (by rfl) (by rfl) (by rfl) ?_
  intro B L s₁ O A1 r I
  obtain ⟨hv23, pm23, cd23, doc23, F23⟩ := D23
  refine r_assign (by rfl) ?_
  refine r_list ?_
  refine r_items (by rfl) (r_local I (by rfl) (by rfl) (by rfl) (by decide) (r_items0 ?_))
  refine t_mu I (Nat.le_of_ble_eq_true rfl) (by rfl) ?_
  intro D s₂ I hD
  refine r_storeLocal I (by rfl) (by rfl) ?_
  intro s₃ I
  refine r_while (fun n s => E5 fun m vs k xs y => C7 (IF B g [(D, lo vs k)] L m [] (fun _ => none) s) (m (Str.ofString "row") = some (.ref D)) (All₂ StrV vs (xs ++ [y])) (xs.map tl ++ chainL (tl y) = chainL (tl x)) (n = y.length) (vs.length + n ≤ 2000) (n ≤ 1000)) x.length ⟨_, _, _, [], x, I, by rfl, .cons ⟨_, rfl⟩ .nil, rfl, rfl, by simp only [List.length_cons, List.length_nil]; lia, hx⟩ ?_
  rintro n s K Ke hK hKe ⟨m, vs, k, xs, y, I, hm, hvs, hch, rfl, hb, hb'⟩
  obtain ⟨vl, hvl, tk, rfl⟩ := hvs.get (i := xs.length) (b := y) (by simp)
  have hlast : vs.getLast? = some (.str y tk) := by
    rw [List.getLast?_eq_getElem?, hvs.length, List.length_append, List.length_singleton]
    exact hvl
  refine r_cmpT (by rfl) ?_
  refine r_call I ST O.T (by rfl) (by rfl) (by rfl) hv23 (by decide) F23 (by rfl) (by rfl) ?_
  refine r_items (by rfl) ?_
  refine Subscript_ (r_local I (by rfl) (by rfl) hm (by decide) (r_negInt I ?_))
  intro t1 s1 I
  refine t_listNeg1 (I.head (.head _)) hlast ?_
  refine r_items0 ⟨I.st O.T, ?_⟩
  refine strip_call I.sub (O.T ▸ I.stat) ST F23 r hb' ?_
  intro z tz s2 af hz
  have I := I.after af
  refine Subscript_ (r_local I (by rfl) (by rfl) hm (by decide) (r_negInt I ?_))
  intro t2 s3 I
  refine t_listNeg1 (I.head (.head _)) hlast ?_
  refine c_neStr (wpAny_truthy_bool (ite_of (fun hb1 => ?_) fun hb1 => ?_))
  · have hne : stripL (tl y) ≠ tl y := fun e => (of_decide_eq_true hb1) (str_ext (by rw [hz, e]))
    have hlt := stripL_lt hne
    refine r_append (by rfl) (by rfl) (by rfl) (by rfl) ?_
    refine r_local I (by rfl) (by rfl) hm (by decide) ?_
    refine ⟨_, _, _, rfl, I.head (.head _), ?_⟩
    refine r_call I ST O.T (by rfl) (by rfl) (by rfl) hv23 (by decide) F23 (by rfl) (by rfl) ?_
    refine r_items (by rfl) ?_
    refine Subscript_ (r_local I (by rfl) (by rfl) hm (by decide) (r_negInt I ?_))
    intro t1 s1 I
    refine t_listNeg1 (I.head (.head _)) hlast ?_
    refine r_items0 ⟨I.st O.T, ?_⟩
    refine strip_call I.sub (O.T ▸ I.stat) ST F23 r hb' ?_
    intro z' tz' s2 af hz'
    have I := I.after af
    refine t_append I (by lia) ?_
    intro s4 n' I
    refine r_nil (hK _ _ ⟨z'.length, ?_, _, _, _, xs ++ [y], z', I, hm, hvs.append (.cons ⟨_, rfl⟩ .nil), ?_, rfl, ?_, ?_⟩)
    · rw [← len_tl, ← len_tl y, hz']; exact hlt
    · rw [← hch, chainL_step hne, hz']; simp
    · rw [List.length_append, ← len_tl, hz']
      rw [← len_tl y] at hb
      simp only [List.length_cons, List.length_nil]
      lia
    · rw [← len_tl, hz']; rw [← len_tl y] at hb'; lia
  · have he : stripL (tl y) = tl y := by
      have := of_decide_eq_false hb1
      rw [← hz]
      exact congrArg tl (Decidable.not_not.mp this)
    refine hKe _ (r_return (r_local I (by rfl) (by rfl) hm (by decide) ?_))
    have J := I.freeze hD
    · refine h _ (xs ++ [y]) _ _ (O.fin J) ⟨D, vs, k, rfl, put_self .., hvs⟩ ?_
      rw [← hch, chainL_end he]; simp
end
end Mine
set_option Elab.async false
set_option maxRecDepth 100000
namespace Mine
open PySem PySem.W PyProof.Rows PySem.Calls

section
variable {prog : Program} {w : World} {A : Around} {E : Value → Shared → Prop} {s : Shared} {env : Env}
variable {B : Base} {g : Vw} {mu : List (Addr × Obj)} {L : Addr} {m : Str → Option Value} {cs : List (Str × Addr)} {cm : Str → Option Value} {S : Heap} {mg mb : Str → Option Value}

/-! ### the bridge to the library's frames and ledgers -/
noncomputable def allOf (h : Heap) (L : Addr) : List (Addr × Obj) := (List.range h.objs.size).filterMap fun a => if a = L then none else (h.get? a).map (a, ·)
theorem mem_allOf {h : Heap} {L a : Addr} {o : Obj} : (a, o) ∈ allOf h L ↔ a ≠ L ∧ h.get? a = some o := by
  unfold allOf
  rw [List.mem_filterMap]
  constructor
  · rintro ⟨b, hb, e⟩
    by_cases q : b = L
    · rw [if_pos q] at e; cases e
    · rw [if_neg q] at e
      cases he : h.get? b with
      | none => rw [he] at e; cases e
      | some x => rw [he] at e; cases e; exact ⟨q, he⟩
  · rintro ⟨q, e⟩
    exact ⟨a, List.mem_range.mpr (Heap.lt_size e), by rw [if_neg q, e]; rfl⟩
noncomputable def hNil : Heap := {}
theorem get_hNil (a : Addr) : hNil.get? a = none := by simp [hNil, Heap.get?]
theorem IF.fr (I : IF B g mu L m cs cm s) : Fr hNil L s.heap m := ⟨I.ns, fun b o e => (by rw [get_hNil] at e; cases e), Nat.zero_le _⟩
theorem news_all (s : Shared) (L : Addr) : News hNil L s.heap (allOf s.heap L) := fun p hp => by
  have := mem_allOf.mp (show (p.1, p.2) ∈ _ from hp)
  exact ⟨this.2, this.1, get_hNil _⟩
theorem IF.back (I : IF B g mu L m cs cm s) {h' : Heap} {t : Nat} {new : List (Addr × Obj)} (F : Fr hNil L h' m) (N : News hNil L h' (new ++ allOf s.heap L)) : IF B g mu L m cs cm { s with heap := h', toks := t } := by
  have up : ∀ b o, b ≠ L → s.heap.get? b = some o → h'.get? b = some o := fun b o hb e => (N (b, o) (List.mem_append_right _ (mem_allOf.mpr ⟨hb, e⟩))).1
  have LL : h'.get? L ≠ none := by obtain ⟨_, _, _, e, _⟩ := F.ns; exact alive e
  refine ⟨?_, I.stat, I.ge, fun b hb => ⟨(I.off b hb).1, ?_⟩, fun b o e => up b o (fun q => by rw [q, I.Lk] at e; cases e) (I.keep b o e), fun b o e => up b o (fun q => by rw [q, I.Lg] at e; cases e) (I.sub b o e), F.ns, I.Lg, I.Lk,
    fun n c hc => ?_, I.cg, I.cap, fun p hp => ⟨up _ _ (I.muH p hp).2.2.2.1 (I.muH p hp).1, (I.muH p hp).2⟩, I.nd⟩
  · obtain ⟨x, y, e⟩ := I.same; exact ⟨h', t, by rw [e]⟩
  · by_cases q : b = L
    · rw [q]; exact LL
    · have := (I.off b hb).2
      cases e : s.heap.get? b with
      | none => exact absurd e this
      | some o => exact alive (up b o q e)
  · obtain ⟨o, ho, hd⟩ := I.cell n c hc
    exact ⟨o, up c o (I.cg n c hc).2.2 ho, hd⟩
/-- a new object, met through the bridge, stays -/
theorem IF.fz (I : IF B g mu L m cs cm s) {h' : Heap} {t : Nat} {o : Obj} (F : Fr hNil L h' m) (N : News hNil L h' ((s.heap.objs.size, o) :: allOf s.heap L)) :
    IF B (put g s.heap.objs.size o) mu L m cs cm { s with heap := h', toks := t } := by
  have J := I.back (t := t) (new := [(s.heap.objs.size, o)]) F N
  have hg : g s.heap.objs.size = none := none_of_size I.sub (Nat.le_refl _)
  have hn : ∀ b, s.heap.get? b ≠ none → b ≠ s.heap.objs.size := fun b hb e => hb (by rw [e]; exact get_none_of_size (Nat.le_refl _))
  have LL : s.heap.get? L ≠ none := by obtain ⟨_, _, _, e, _⟩ := I.ns; exact alive e
  refine ⟨J.same, J.stat.trans (le_put hg), J.ge.trans (le_put hg), fun b hb => ⟨?_, (J.off b hb).2⟩, J.keep, fun b x e => ?_, J.ns, ?_, J.Lk, J.cell, fun n c hc => ⟨?_, (J.cg n c hc).2⟩, J.cap, fun p hp => ⟨(J.muH p hp).1, ?_, (J.muH p hp).2.2⟩, J.nd⟩
  · rw [put_ne (hn b (I.off b hb).2)]; exact (I.off b hb).1
  · by_cases hb : b = s.heap.objs.size
    · subst hb; rw [put_self] at e; cases e; exact (N _ (.head _)).1
    · rw [put_ne hb] at e; exact J.sub b x e
  · rw [put_ne (hn L LL)]; exact J.Lg
  · rw [put_ne (hn c (by obtain ⟨_, e, _⟩ := I.cell n c hc; exact alive e))]; exact (J.cg n c hc).1
  · rw [put_ne (hn p.1 (alive (I.muH p hp).1))]; exact (I.muH p hp).2.1
theorem IF.kept (I : IF B g mu L m cs cm s) {h' : Heap} {t : Nat} (hk : ∀ b o, s.heap.get? b = some o → h'.get? b = some o) : IF B g mu L m cs cm { s with heap := h', toks := t } := I.after (.more I.sub hk)

/-! ### operators -/
theorem r_bin {op : Operator} {l r : Expr} {pos : Pos} {Q : Value → Shared → Prop}
    (h : wpAny (model prog w) A (eval l env) (fun a s₁ => wpAny (model prog w) A (eval r env) (fun b s₂ => wpAny (model prog w) A (binaryOp op a b) Q E s₂) E s₁) E s) :
    wpAny (model prog w) A (eval (.BinOp l op r pos) env) Q E s := wpAny_BinOp h
theorem o_add {a b : Int} {t u : Tok} {Q : Value → Shared → Prop} (I : IF B g mu L m cs cm s) (h : ∀ t s', IF B g mu L m cs cm s' → Q (.int (a + b) t) s') : wpAny (model prog w) A (binaryOp .Add (.int a t) (.int b u)) Q E s := PyProof.Rows.add_int (h _ _ (I.tok _))
theorem o_sub {a b : Int} {t u : Tok} {Q : Value → Shared → Prop} (I : IF B g mu L m cs cm s) (h : ∀ t s', IF B g mu L m cs cm s' → Q (.int (a - b) t) s') : wpAny (model prog w) A (binaryOp .Sub (.int a t) (.int b u)) Q E s := PyProof.Rows.sub_int (h _ _ (I.tok _))
theorem o_addStr {x y : Str} {t u : Tok} {Q : Value → Shared → Prop} (I : IF B g mu L m cs cm s) (hsz : x.length + y.length ≤ 100000) (h : ∀ t s', IF B g mu L m cs cm s' → Q (.str (x ++ y) t) s') :
    wpAny (model prog w) A (binaryOp .Add (.str x t) (.str y u)) Q E s := PyProof.Rows.add_str (fun t' tk => h _ _ (I.tok _)) (by rw [sizeLine_eq]; lia)
theorem foldl_app (c : Nat) : ∀ n : Nat, (List.replicate n (#[c] : Array Nat)).foldl (· ++ ·) #[] = (List.replicate n c).toArray := by
  have key : ∀ (n : Nat) (a : Array Nat), (List.replicate n (#[c] : Array Nat)).foldl (· ++ ·) a = a ++ (List.replicate n c).toArray := by
    intro n
    induction n with
    | zero => intro a; simp
    | succ n ih => intro a; rw [List.replicate_succ, List.foldl_cons, ih]; apply Array.ext'; simp [List.replicate_succ]
  intro n
  rw [key]; simp
theorem mul_tl (c n : Nat) : tl (Txt.mul ⟨#[c]⟩ (n : Int)) = List.replicate n c := by
  unfold Txt.mul
  by_cases h0 : n = 0
  · subst h0; rfl
  · rw [if_neg (by lia)]
    by_cases h1 : n = 1
    · subst h1; rfl
    · have : (((n : Int) == 1) || ((⟨#[c]⟩ : Str).length == 0)) = false := by
        have e : ((n : Int) == 1) = false := by simp; lia
        rw [e]; rfl
      rw [if_neg (by rw [this]; decide)]
      show (List.foldl (· ++ ·) #[] (List.replicate ((n : Int)).toNat #[c])).toList = _
      rw [Int.toNat_natCast, foldl_app]
theorem o_mulStr {c n : Nat} {t u : Tok} {Q : Value → Shared → Prop} (I : IF B g mu L m cs cm s) (hn : n ≤ 10000) (h : ∀ y t s', IF B g mu L m cs cm s' → tl y = List.replicate n c → Q (.str y t) s') :
    wpAny (model prog w) A (binaryOp .Mult (.str ⟨#[c]⟩ t) (.int (n : Int) u)) Q E s := by
  refine SB.mul ⟨?_, fun h1 _ => ?_, fun _ _ => ?_⟩ fun t' k => h _ _ _ (I.tok _) (mul_tl c n)
  · rw [decide_eq_false (by lia), decide_eq_false (by lia)]; rfl
  · have : (1 : Int) ≤ (2 ^ 63 - 1) / (n : Int) := Int.le_ediv_of_mul_le (by lia) (by lia)
    show ¬ (((1 : Nat) : Int) > _)
    lia
  · unfold PySem.Builtin.Str.tooLong
    simp only [Int.toNat_natCast]
    show decide (1 * n > sizeLine) = false
    rw [decide_eq_false]; rw [sizeLine_eq]; lia
theorem foldl_appV (v : Value) : ∀ n : Nat, (List.replicate n (#[v] : Array Value)).foldl (fun x1 x2 => x1 ++ x2) #[] = (List.replicate n v).toArray := by
  have key : ∀ (n : Nat) (a : Array Value), (List.replicate n (#[v] : Array Value)).foldl (fun x1 x2 => x1 ++ x2) a = a ++ (List.replicate n v).toArray := by
    intro n
    induction n with
    | zero => intro a; simp
    | succ n ih => intro a; rw [List.replicate_succ, List.foldl_cons, ih]; apply Array.ext'; simp [List.replicate_succ]
  intro n
  rw [key]; simp
/-- [v] * x -/
theorem o_mulList {l : Addr} {v : Value} {k : Nat} {x : Int} {u : Tok} {Q : Value → Shared → Prop} (I : IF B g mu L m cs cm s) (hl : s.heap.get? l = some (lo [v] k)) (h1 : -10000 ≤ x) (h2 : x ≤ 10000)
    (h : ∀ D g' s', IF B g' mu L m cs cm s' → Le g g' → g' D = some (lo (List.replicate x.toNat v) 0) → Q (.ref D) s') : wpAny (model prog w) A (binaryOp .Mult (.ref l) (.int x u)) Q E s := by
  refine mul_list I.fr (news_all s L) (items := #[v]) hl (by lia) (by lia) (by show 1 * x.toNat ≤ _; lia) fun h' F N => ?_
  have e : (if (#[v] : Array Value).isEmpty = true then 0 else x.toNat) = x.toNat := rfl
  rw [e, foldl_appV] at N
  exact h _ _ _ (I.fz (t := s.toks) F N) (le_put (none_of_size I.sub (Nat.le_refl _))) (put_self ..)
theorem o_addList {l b : Addr} {vs ws : List Value} {k k' : Nat} {Q : Value → Shared → Prop} (I : IF B g mu L m cs cm s) (hl : s.heap.get? l = some (lo vs k)) (hb : s.heap.get? b = some (lo ws k')) (hsz : vs.length + ws.length ≤ 100000)
    (h : ∀ D g' s', IF B g' mu L m cs cm s' → Le g g' → g' D = some (lo (vs ++ ws) 0) → Q (.ref D) s') : wpAny (model prog w) A (binaryOp .Add (.ref l) (.ref b)) Q E s :=
  add_lists I.fr (news_all s L) (isList_lo hl) (isList_lo hb) (fun h' F N => h _ _ _ (I.fz (t := s.toks) F N) (le_put (none_of_size I.sub (Nat.le_refl _))) (put_self ..)) (by rw [sizeLine_eq]; lia)

/-! ### truth -/
theorem tr_str {x : Str} {t : Tok} {Q : Bool → Shared → Prop} (I : IF B g mu L m cs cm s) (hx : x.length ≤ 100000) (h : ∀ s', IF B g mu L m cs cm s' → Q (decide (tl x ≠ [])) s') : wpAny (model prog w) A (truthy (.str x t)) Q E s := by
  refine PySem.P.truthy_str (by lia) ?_
  have e : ((x.length : Int) != 0) = decide (tl x ≠ []) := by
    rw [← len_tl]
    cases tl x with
    | nil => rfl
    | cons a r => simp; lia
  rw [e]
  exact h _ (I.tok _)
theorem tr_int {i : Int} {t : Tok} {Q : Bool → Shared → Prop} (h : Q (i != 0) s) : wpAny (model prog w) A (truthy (.int i t)) Q E s := PyProof.Rows.truthy_int h
theorem tr_list {l : Addr} {vs : List Value} {n : Nat} {Q : Bool → Shared → Prop} (I : IF B g mu L m cs cm s) (hl : s.heap.get? l = some (lo vs n)) (hx : vs.length ≤ 100000) (h : ∀ s', IF B g mu L m cs cm s' → Q (decide (vs ≠ [])) s') : wpAny (model prog w) A (truthy (.ref l)) Q E s := by
  refine wpAny_truthy_list (isList_lo hl) (by rw [List.size_toArray]; lia) ?_
  have e : (!vs.toArray.isEmpty) = decide (vs ≠ []) := by cases vs <;> simp
  rw [e]
  exact h _ (I.tok _)

/-! ### calls of built-ins -/
theorem r_callB {x : Str} {p pos : Pos} {e : Expr} {rest : List Expr} {id : String} {Q : Value → Shared → Prop} (I : IF B g mu L m cs cm s) (ST : Stat S mg mb) (hT : B.T = S.get?) (hk : env.scope.kind = .function) (hg : env.globals = mainGlobals) (hb : env.builtins = builtinsNs) (hl : env.kindOf x = some .globalImplicit)
    (hm : mg x = none) (hv : bootBuiltins x = some (.builtin id)) (hn : x ≠ "__name__") (hd : (x == ("__debug__" : Str)) = false) (he : starEach (e :: rest) env = (false, eval e env) :: starEach rest env) (hkw : backToKw pos (keywordEach [] env) = []) (hpl : (backTo pos (starEach (e :: rest) env)).any (·.1) = false)
    (h : wpAny (model prog w) A (spliced (backTo pos (starEach (e :: rest) env))) (fun vs s₁ => wpAny (model prog w) A (call (.builtin id) vs) Q E s₁) E s) :
    wpAny (model prog w) A (eval (.Call (.Name x p) (e :: rest) [] pos) env) Q E s := by
  rw [arm_eval_Call_Name', hkw]
  refine wpAny_bind (r_builtin I ST hT hk hg hb hl hm hv hn hd (callWith_builtin hpl ?_))
  rw [he] at h ⊢
  exact evalArgs_plain (wpAny_mono h (fun vs s₁ h₁ => by simpa using h₁) fun _ _ q => q)
theorem b_max {a b : Int} {t u : Tok} {Q : Value → Shared → Prop} (I : IF B g mu L m cs cm s) (hh : A.handled = none) (h : ∀ t s', IF B g mu L m cs cm s' → Q (.int (max a b) t) s') : wpAny (model prog w) A (call (.builtin "max") [.int a t, .int b u]) Q E s := by
  refine PySem.max_two_ints hh fun h' tk hk => ?_
  by_cases hba : b > a
  · rw [if_pos hba]
    have := h u _ (I.kept (t := tk) hk)
    rwa [Int.max_eq_right (by lia)] at this
  · rw [if_neg hba]
    have := h t _ (I.kept (t := tk) hk)
    rwa [Int.max_eq_left (by lia)] at this
theorem b_min {a b : Int} {t u : Tok} {Q : Value → Shared → Prop} (I : IF B g mu L m cs cm s) (hh : A.handled = none) (h : ∀ t s', IF B g mu L m cs cm s' → Q (.int (min a b) t) s') : wpAny (model prog w) A (call (.builtin "min") [.int a t, .int b u]) Q E s := by
  refine PySem.min_two_ints hh fun h' tk hk => ?_
  by_cases hba : b < a
  · rw [if_pos hba]
    have := h u _ (I.kept (t := tk) hk)
    rwa [Int.min_eq_right (by lia)] at this
  · rw [if_neg hba]
    have := h t _ (I.kept (t := tk) hk)
    rwa [Int.min_eq_left (by lia)] at this
end

/-! ## _law_text -/
noncomputable def qText (a : Nat) (core : List Nat) (b : Nat) : List Nat := List.replicate a 34 ++ core ++ List.replicate b 34
section
variable {prog : Program} {w : World} {A : Around} {E : Value → Shared → Prop} {s : Shared} {g : Vw} {S : Heap} {mg mb : Str → Option Value}
set_option maxHeartbeats 400000 in
theorem text_call {a : Addr} {pm cd doc : Value} {na nb : Nat} {core : Str} {ta tc tb : Tok} {d : Nat} {Q : Value → Shared → Prop} (hg : Sub g s.heap) (hTg : Le S.get? g) (ST : Stat S mg mb) (F : FnAt S a 27 pm cd doc .none) (r : Room A (d + 1)) (ha : na ≤ 100) (hb : nb ≤ 100) (hc : core.length ≤ 100)
    (h : ∀ y t' s', After g s g s' → tl y = qText na (tl core) nb → Q (.str y t') s') : wpAny (model prog w) A (call (.ref a) [.int (na : Int) ta, .str core tc, .int (nb : Int) tb]) Q E s := by
  refine call_c (m0 := upd (upd (upd (fun _ => none) (Str.ofString "ahead") (.int na ta)) (Str.ofString "core") (.str core tc)) (Str.ofString "behind") (.int nb tb)) (cm0 := fun _ => none) (cs0 := fun _ => []) hg hTg ST rfl F r
    (binds := [(Str.ofString "ahead", .int na ta), (Str.ofString "core", .str core tc), (Str.ofString "behind", .int nb tb)]) (by rfl) (by rfl) (by decide +kernel) (fun _ => rfl) (fun _ => rfl) (fun _ => rfl) (by rfl) (by rfl) (by rfl) ?_
  intro B L s₁ O A1 r I
  refine r_return (r_bin (r_bin (r_bin (r_str I ?_))))
  intro t1 s2 I
  refine r_local I (by rfl) (by rfl) (by rfl) (by decide) ?_
  rw [q34]
  refine o_mulStr I (by lia) ?_
  intro y t2 s3 I hy
  refine r_local I (by rfl) (by rfl) (by rfl) (by decide) ?_
  have hyl : y.length = na := by rw [← len_tl, hy, List.length_replicate]
  refine o_addStr I (by lia) ?_
  intro t3 s4 I
  refine r_bin (r_str I ?_)
  intro t4 s5 I
  refine r_local I (by rfl) (by rfl) (by rfl) (by decide) ?_
  refine o_mulStr I (by lia) ?_
  intro z t5 s6 I hz
  have hzl : z.length = nb := by rw [← len_tl, hz, List.length_replicate]
  refine o_addStr I ?_ ?_
  · rw [← len_tl, tl_append, List.length_append, len_tl, len_tl]; lia
  intro t6 s7 I
  refine h _ _ _ (O.fin I) ?_
  rw [tl_append, tl_append, hy, hz]; rfl
end
end Mine
set_option Elab.async false
set_option maxRecDepth 100000
namespace Mine
open PySem PySem.W PyProof.Rows PySem.Calls

section
variable {prog : Program} {w : World} {A : Around} {E : Value → Shared → Prop} {s : Shared} {env : Env}
variable {B : Base} {g : Vw} {mu : List (Addr × Obj)} {L : Addr} {m : Str → Option Value} {cs : List (Str × Addr)} {cm : Str → Option Value} {S : Heap} {mg mb : Str → Option Value}
theorem o_div {a b : Nat} {t u : Tok} {Q : Value → Shared → Prop} (I : IF B g mu L m cs cm s) (hb : b ≠ 0) (hs' : b < 1000000) (h : ∀ t s', IF B g mu L m cs cm s' → Q (.int ((a / b : Nat) : Int) t) s') : wpAny (model prog w) A (binaryOp .FloorDiv (.int (a : Int) t) (.int (b : Int) u)) Q E s := by
  refine PyProof.Rows.floordiv_int (by lia) ?_ (Or.inl (PyProof.noPylong_small (by lia)))
  have e : ((a : Int).fdiv (b : Int)) = ((a / b : Nat) : Int) := by
    rw [Int.fdiv_eq_ediv_of_nonneg _ (by lia)]; lia
  rw [e]
  exact h _ _ (I.tok _)
theorem o_mod {a b : Nat} {t u : Tok} {Q : Value → Shared → Prop} (I : IF B g mu L m cs cm s) (hb : b ≠ 0) (hs' : b < 1000000) (h : ∀ t s', IF B g mu L m cs cm s' → Q (.int ((a % b : Nat) : Int) t) s') : wpAny (model prog w) A (binaryOp .Mod (.int (a : Int) t) (.int (b : Int) u)) Q E s := by
  refine PyProof.Rows.mod_int' (by lia) ?_
  have e : ((a : Int).fmod (b : Int)) = ((a % b : Nat) : Int) := by
    rw [Int.fmod_eq_emod_of_nonneg _ (by lia)]; lia
  rw [e]
  exact h _ _ (I.tok _)
theorem r_ifexp {test body orelse : Expr} {pos : Pos} {Q : Value → Shared → Prop}
    (h : wpAny (model prog w) A (isTrue test env (eval test env)) (fun b s₁ => if b = true then wpAny (model prog w) A (eval body env) Q E s₁ else wpAny (model prog w) A (eval orelse env) Q E s₁) E s) :
    wpAny (model prog w) A (eval (.IfExp test body orelse pos) env) Q E s := wpAny_IfExp h
end

/-! ## _law_names -/
noncomputable def namesL (a : Nat) (core : List Nat) (b : Nat) : List (List Nat) :=
  if core ≠ [] then core :: (List.replicate (a - b) [97] ++ List.replicate (b - a) [99] ++ List.replicate (min a b) [98])
  else [122] :: (if (a + b) % 2 ≠ 0 then List.replicate ((a + b) / 2 + 1) [111] else List.replicate ((a + b) / 2) [101])
theorem all_rep {v : Value} {x : Str} (h : StrV v x) : ∀ n : Nat, All₂ StrV (List.replicate n v) (List.replicate n x)
  | 0 => .nil
  | n + 1 => .cons h (all_rep h n)
theorem tl_a : tl (Str.ofString "a") = [97] := by decide +kernel
theorem tl_b : tl (Str.ofString "b") = [98] := by decide +kernel
theorem tl_c : tl (Str.ofString "c") = [99] := by decide +kernel
theorem tl_o : tl (Str.ofString "o") = [111] := by decide +kernel
theorem tl_e : tl (Str.ofString "e") = [101] := by decide +kernel
theorem tl_z : tl (Str.ofString "z") = [122] := by decide +kernel
section
variable {prog : Program} {w : World} {A : Around} {E : Value → Shared → Prop} {s : Shared} {g : Vw} {S : Heap} {mg mb : Str → Option Value}
set_option maxHeartbeats 1000000 in
theorem names_call {a : Addr} {pm cd doc : Value} {na nb : Nat} {core : Str} {ta tc tb : Tok} {d : Nat} {Q : Value → Shared → Prop} (hg : Sub g s.heap) (hTg : Le S.get? g) (ST : Stat S mg mb) (F : FnAt S a 28 pm cd doc .none) (nmin : mg (Str.ofString "min") = none) (r : Room A (d + 1)) (ha : na ≤ 100) (hb : nb ≤ 100) (hc : core.length ≤ 100)
    (h : ∀ v xs g' s', After g s g' s' → StrsV g' v xs → xs.map tl = namesL na (tl core) nb → Q v s') : wpAny (model prog w) A (call (.ref a) [.int (na : Int) ta, .str core tc, .int (nb : Int) tb]) Q E s := by
  refine call_c (m0 := upd (upd (upd (fun _ => none) (Str.ofString "ahead") (.int na ta)) (Str.ofString "core") (.str core tc)) (Str.ofString "behind") (.int nb tb)) (cm0 := fun _ => none) (cs0 := fun _ => []) hg hTg ST rfl F r
    (binds := [(Str.ofString "ahead", .int na ta), (Str.ofString "core", .str core tc), (Str.ofString "behind", .int nb tb)]) (by rfl) (by rfl) (by decide +kernel) (fun _ => rfl) (fun _ => rfl) (fun _ => rfl) (by rfl) (by rfl) (by rfl) ?_
  intro B L s₁ O A1 r I
  refine r_ifp (r_test (r_local I (by rfl) (by rfl) (by rfl) (by decide) (tr_str I (by lia) ?_)) (by rfl))
  intro s2 I
  refine ite_of (fun hb1 => ?_) fun hb1 => ?_
  · have hcore : tl core ≠ [] := of_decide_eq_true hb1
    refine r_return (r_bin (r_bin (r_bin ?_)))
    -- [core]
    refine r_list (r_items (by rfl) (r_local I (by rfl) (by rfl) (by rfl) (by decide) (r_items0 ?_)))
    refine t_fz I (Nat.le_of_ble_eq_true rfl) (by rfl) ?_
    intro D1 g1 s3 I l1 e1
    -- ['a'] * ..
    refine r_bin (r_list (r_items (by rfl) (r_str I ?_)))
    intro t1 s4 I
    refine r_items0 (t_fz I (Nat.le_of_ble_eq_true rfl) (by rfl) ?_)
    intro D2 g2 s5 I l2 e2
    refine r_bin (r_local I (by rfl) (by rfl) (by rfl) (by decide) (r_local I (by rfl) (by rfl) (by rfl) (by decide) (o_sub I ?_)))
    intro t2 s6 I
    refine o_mulList I (I.sub _ _ e2) (by lia) (by lia) ?_
    intro D3 g3 s7 I l3 e3
    have e1 := l3 _ _ (l2 _ _ e1)
    refine o_addList I (I.sub _ _ e1) (I.sub _ _ e3) (by simp only [List.length_cons, List.length_nil, List.length_replicate]; lia) ?_
    intro D4 g4 s8 I l4 e4
    refine r_bin (r_list (r_items (by rfl) (r_str I ?_)))
    intro t3 s9 I
    refine r_items0 (t_fz I (Nat.le_of_ble_eq_true rfl) (by rfl) ?_)
    intro D5 g5 s10 I l5 e5
    refine r_bin (r_local I (by rfl) (by rfl) (by rfl) (by decide) (r_local I (by rfl) (by rfl) (by rfl) (by decide) (o_sub I ?_)))
    intro t4 s11 I
    refine o_mulList I (I.sub _ _ e5) (by lia) (by lia) ?_
    intro D6 g6 s12 I l6 e6
    have e4 := l6 _ _ (l5 _ _ e4)
    refine o_addList I (I.sub _ _ e4) (I.sub _ _ e6) (by simp only [List.length_append, List.length_cons, List.length_nil, List.length_replicate]; lia) ?_
    intro D7 g7 s13 I l7 e7
    refine r_bin (r_list (r_items (by rfl) (r_str I ?_)))
    intro t5 s14 I
    refine r_items0 (t_fz I (Nat.le_of_ble_eq_true rfl) (by rfl) ?_)
    intro D8 g8 s15 I l8 e8
    refine r_callB I ST O.T (by rfl) (by rfl) (by rfl) (by rfl) nmin (by rfl) (by decide) (by decide) (by rfl) (by rfl) (by rfl) ?_
    refine r_items (by rfl) (r_local I (by rfl) (by rfl) (by rfl) (by decide) (r_items (by rfl) (r_local I (by rfl) (by rfl) (by rfl) (by decide) (r_items0 ?_))))
    refine b_min I r.handled ?_
    intro t6 s16 I
    refine o_mulList I (I.sub _ _ e8) (by lia) (by lia) ?_
    intro D9 g9 s17 I l9 e9
    have e7 := l9 _ _ (l8 _ _ e7)
    refine o_addList I (I.sub _ _ e7) (I.sub _ _ e9) (by simp only [List.length_append, List.length_cons, List.length_nil, List.length_replicate]; lia) ?_
    intro D10 g10 s18 I l10 e10
    refine h _ (core :: (List.replicate (na - nb) (Str.ofString "a") ++ List.replicate (nb - na) (Str.ofString "c") ++ List.replicate (min na nb) (Str.ofString "b"))) _ _ (O.fin I) ⟨D10, _, _, rfl, e10, ?_⟩ ?_
    · rw [show ((na : Int) - (nb : Int)).toNat = na - nb by lia, show ((nb : Int) - (na : Int)).toNat = nb - na by lia, show (min (na : Int) (nb : Int)).toNat = min na nb by lia]
      exact All₂.append (All₂.append (.cons ⟨_, rfl⟩ (all_rep ⟨_, rfl⟩ _)) (all_rep ⟨_, rfl⟩ _)) (all_rep ⟨_, rfl⟩ _)
    · unfold namesL
      rw [if_pos hcore]
      simp only [List.map_cons, List.map_append, List.map_replicate, tl_a, tl_b, tl_c]
  · have hcore : tl core = [] := Decidable.not_not.mp (of_decide_eq_false hb1)
    refine r_nil ?_
    refine r_assign (by rfl) (r_bin (r_local I (by rfl) (by rfl) (by rfl) (by decide) (r_local I (by rfl) (by rfl) (by rfl) (by decide) (o_add I ?_))))
    intro t1 s3 I
    rw [show (na : Int) + (nb : Int) = ((na + nb : Nat) : Int) by lia]
    refine r_storeLocal I (by rfl) (by rfl) ?_
    intro s4 I
    refine r_return (r_bin (r_list (r_items (by rfl) (r_str I ?_))))
    intro t2 s5 I
    refine r_items0 (t_fz I (Nat.le_of_ble_eq_true rfl) (by rfl) ?_)
    intro D1 g1 s6 I l1 e1
    refine r_ifexp (r_test (r_bin (r_local I (by rfl) (by rfl) (by rfl) (by decide) (r_int I ?_))) (by rfl))
    intro t3 s7 I
    refine o_mod (b := 2) I (by decide) (by decide) ?_
    intro t4 s8 I
    refine tr_int ?_
    refine ite_of (fun hb2 => ?_) fun hb2 => ?_
    · refine r_bin (r_list (r_items (by rfl) (r_str I ?_)))
      intro t5 s9 I
      refine r_items0 (t_fz I (Nat.le_of_ble_eq_true rfl) (by rfl) ?_)
      intro D2 g2 s10 I l2 e2
      refine r_bin (r_bin (r_local I (by rfl) (by rfl) (by rfl) (by decide) (r_int I ?_)))
      intro t6 s11 I
      refine o_div (b := 2) I (by decide) (by decide) ?_
      intro t7 s12 I
      refine r_int I ?_
      intro t8 s13 I
      refine o_add I ?_
      intro t9 s14 I
      refine o_mulList I (I.sub _ _ e2) (by lia) (by lia) ?_
      intro D3 g3 s15 I l3 e3
      refine o_addList I (I.sub _ _ (l3 _ _ (l2 _ _ e1))) (I.sub _ _ e3) (by simp only [List.length_cons, List.length_nil, List.length_replicate]; lia) ?_
      intro D4 g4 s16 I l4 e4
      refine h _ (Str.ofString "z" :: List.replicate ((na + nb) / 2 + 1) (Str.ofString "o")) _ _ (O.fin I) ⟨D4, _, _, rfl, e4, ?_⟩ ?_
      · rw [show ((((na + nb) / 2 : Nat) : Int) + 1).toNat = (na + nb) / 2 + 1 by lia]
        exact .cons ⟨_, rfl⟩ (all_rep ⟨_, rfl⟩ _)
      · unfold namesL
        rw [if_neg (by rw [hcore]; simp), if_pos (by simp at hb2; lia)]
        simp only [List.map_cons, List.map_replicate, tl_o, tl_z]
    · refine r_bin (r_list (r_items (by rfl) (r_str I ?_)))
      intro t5 s9 I
      refine r_items0 (t_fz I (Nat.le_of_ble_eq_true rfl) (by rfl) ?_)
      intro D2 g2 s10 I l2 e2
      refine r_bin (r_local I (by rfl) (by rfl) (by rfl) (by decide) (r_int I ?_))
      intro t6 s11 I
      refine o_div (b := 2) I (by decide) (by decide) ?_
      intro t7 s12 I
      refine o_mulList I (I.sub _ _ e2) (by lia) (by lia) ?_
      intro D3 g3 s15 I l3 e3
      refine o_addList I (I.sub _ _ (l3 _ _ (l2 _ _ e1))) (I.sub _ _ e3) (by simp only [List.length_cons, List.length_nil, List.length_replicate]; lia) ?_
      intro D4 g4 s16 I l4 e4
      refine h _ (Str.ofString "z" :: List.replicate ((na + nb) / 2) (Str.ofString "e")) _ _ (O.fin I) ⟨D4, _, _, rfl, e4, ?_⟩ ?_
      · rw [show ((((na + nb) / 2 : Nat) : Int)).toNat = (na + nb) / 2 by lia]
        exact .cons ⟨_, rfl⟩ (all_rep ⟨_, rfl⟩ _)
      · unfold namesL
        rw [if_neg (by rw [hcore]; simp), if_neg (by simp at hb2; lia)]
        simp only [List.map_cons, List.map_replicate, tl_e, tl_z]
end
end Mine
set_option Elab.async false
set_option maxRecDepth 100000
namespace Mine
open PySem PySem.W PyProof.Rows PySem.Calls

section
variable {prog : Program} {w : World} {A : Around} {E : Value → Shared → Prop} {s : Shared} {env : Env}
variable {B : Base} {g : Vw} {mu : List (Addr × Obj)} {L : Addr} {m : Str → Option Value} {cs : List (Str × Addr)} {cm : Str → Option Value} {S : Heap} {mg mb : Str → Option Value}
theorem IF.ext (I : IF B g mu L m cs cm s) {h' : Heap} {t : Nat} (he : Heap.ExtBut s.heap.objs.size s.heap h') : IF B g mu L m cs cm { s with heap := h', toks := t } :=
  I.kept fun b o e => he b o (Nat.ne_of_lt (Heap.lt_size e)) e
theorem a_name {x : Str} {p : Pos} {v : Value} {Q : Unit → Shared → Prop} (h : wpAny (model prog w) A (storeName env x v) Q E s) : wpAny (model prog w) A (assign (.Name x p) env v) Q E s := PySem.wpAny_assign_Name h
theorem a_tup3 {x y z : Str} {p1 p2 p3 pos : Pos} {k : Nat} {t : Addr} {v1 v2 v3 : Value} {n : Nat} {Q : Unit → Shared → Prop} (I : IF B g mu env.locals m cs cm s) (hh : A.handled = none) (hk : env.scope.kind = .function) (hx : env.kindOf x = some .local) (hy : env.kindOf y = some .local) (hz : env.kindOf z = some .local)
    (ht : s.heap.get? t = some (to_ [v1, v2, v3] n)) (h : ∀ s', IF B g mu env.locals (upd (upd (upd m x v1) y v2) z v3) cs cm s' → Q () s') :
    wpAny (model prog w) A (assign (.Tuple [.Name x p1, .Name y p2, .Name z p3] k pos) env (.ref t)) Q E s := by
  refine assign_Tuple_tuple hh (isTup_to ht) (by rfl) (by rfl) fun h' he => ?_
  have I := I.ext (t := s.toks) he
  show wpAny (model prog w) A (assignInOrder [assign (.Name x p1) env, assign (.Name y p2) env, assign (.Name z p3) env] [v1, v2, v3]) Q E _
  refine assignInOrder_cons (a_name (r_storeLocal I hk hx fun s' I => ?_))
  refine assignInOrder_cons (a_name (r_storeLocal I hk hy fun s' I => ?_))
  refine assignInOrder_cons (a_name (r_storeLocal I hk hz fun s' I => ?_))
  exact assignInOrder_nil (h _ I)
theorem a_tup2 {x y : Str} {p1 p2 pos : Pos} {k : Nat} {t : Addr} {v1 v2 : Value} {n : Nat} {Q : Unit → Shared → Prop} (I : IF B g mu env.locals m cs cm s) (hh : A.handled = none) (hk : env.scope.kind = .function) (hx : env.kindOf x = some .local) (hy : env.kindOf y = some .local)
    (ht : s.heap.get? t = some (to_ [v1, v2] n)) (h : ∀ s', IF B g mu env.locals (upd (upd m x v1) y v2) cs cm s' → Q () s') :
    wpAny (model prog w) A (assign (.Tuple [.Name x p1, .Name y p2] k pos) env (.ref t)) Q E s := by
  refine assign_Tuple_tuple hh (isTup_to ht) (by rfl) (by rfl) fun h' he => ?_
  have I := I.ext (t := s.toks) he
  show wpAny (model prog w) A (assignInOrder [assign (.Name x p1) env, assign (.Name y p2) env] [v1, v2]) Q E _
  refine assignInOrder_cons (a_name (r_storeLocal I hk hx fun s' I => ?_))
  refine assignInOrder_cons (a_name (r_storeLocal I hk hy fun s' I => ?_))
  exact assignInOrder_nil (h _ I)
theorem r_assignT {elts k tpos value pos} {rest : List Stmt} {Q : Flow → Shared → Prop} (hs : swapsWithSole [.Tuple elts k tpos] value pos.line env = pure false) (hw : swappedStores [.Tuple elts k tpos] value env = pure none)
    (h : wpAny (model prog w) A (eval value env) (fun v s₁ => wpAny (model prog w) A (assign (.Tuple elts k tpos) env v) (fun _ s₂ => wpAny (model prog w) A (execs rest env) Q E s₂) E s₁) E s) :
    wpAny (model prog w) A (execs (.Assign [.Tuple elts k tpos] value pos :: rest) env) Q E s := wpAny_execs_cons (Assign_Tuple h hs hw)
end

/-! ## _law_told -/
noncomputable abbrev Trip := Nat × Str × Nat
inductive TripV (g : Vw) (v : Value) (x : Trip) : Prop
  | mk (a : Addr) (n : Nat) (ta tc tb : Tok) (h1 : v = .ref a) (h2 : g a = some (to_ [.int (x.1 : Int) ta, .str x.2.1 tc, .int (x.2.2 : Int) tb] n)) : TripV g v x
theorem TripV.up {g g' : Vw} {v : Value} {x : Trip} (h : TripV g v x) (hg : Le g g') : TripV g' v x := by
  obtain ⟨a, n, ta, tc, tb, rfl, e⟩ := h
  exact ⟨a, n, ta, tc, tb, rfl, hg _ _ e⟩
noncomputable abbrev ToldV (g : Vw) : Value → List Trip → Prop := LstV g (TripV g)
theorem ToldV.up {g g' : Vw} {v : Value} {x : List Trip} (h : ToldV g v x) (hg : Le g g') : ToldV g' v x := LstV.mono h hg fun _ _ x => x.up hg
noncomputable def nextT (core : Str) (x : Nat × Nat) : Nat × Nat := if tl core ≠ [] then (x.1 - 1, x.2 - 1) else (x.1 + x.2 - 2, 0)
theorem nextT_lt {core : Str} {x : Nat × Nat} (h : x.1 + x.2 ≠ 0) : (nextT core x).1 + (nextT core x).2 < x.1 + x.2 := by
  unfold nextT
  split <;> dsimp only <;> lia
noncomputable def toldL (core : Str) (x : Nat × Nat) : List Trip := if h : x.1 + x.2 = 0 then [(x.1, core, x.2)] else (x.1, core, x.2) :: toldL core (nextT core x)
termination_by x.1 + x.2
decreasing_by exact nextT_lt h
theorem toldL_end {core : Str} {x : Nat × Nat} (h : x.1 + x.2 = 0) : toldL core x = [(x.1, core, x.2)] := by unfold toldL; rw [dif_pos h]
theorem toldL_step {core : Str} {x : Nat × Nat} (h : x.1 + x.2 ≠ 0) : toldL core x = (x.1, core, x.2) :: toldL core (nextT core x) := by rw [toldL, dif_neg h]

section
variable {prog : Program} {w : World} {A : Around} {E : Value → Shared → Prop} {s : Shared} {g : Vw} {S : Heap} {mg mb : Str → Option Value}
set_option maxHeartbeats 1000000 in
theorem told_call {a : Addr} {pm cd doc : Value} {na nb : Nat} {core : Str} {ta tc tb : Tok} {d : Nat} {Q : Value → Shared → Prop} (hg : Sub g s.heap) (hTg : Le S.get? g) (ST : Stat S mg mb) (F : FnAt S a 26 pm cd doc .none) (nmax : mg (Str.ofString "max") = none) (r : Room A (d + 1)) (ha : na ≤ 100) (hb : nb ≤ 100) (hc : core.length ≤ 100)
    (h : ∀ v g' s', After g s g' s' → ToldV g' v (toldL core (na, nb)) → Q v s') : wpAny (model prog w) A (call (.ref a) [.int (na : Int) ta, .str core tc, .int (nb : Int) tb]) Q E s := by
  refine call_c (m0 := upd (upd (upd (fun _ => none) (Str.ofString "ahead") (.int na ta)) (Str.ofString "core") (.str core tc)) (Str.ofString "behind") (.int nb tb)) (cm0 := fun _ => none) (cs0 := fun _ => []) hg hTg ST rfl F r
    (binds := [(Str.ofString "ahead", .int na ta), (Str.ofString "core", .str core tc), (Str.ofString "behind", .int nb tb)]) (by rfl) (by rfl) (by decide +kernel) (fun _ => rfl) (fun _ => rfl) (fun _ => rfl) (by rfl) (by rfl) (by rfl) ?_
  intro B L s₁ O A1 r I
  refine r_assign (by rfl) (r_list (r_items (by rfl) (r_tuple ?_)))
  refine r_items (by rfl) (r_local I (by rfl) (by rfl) (by rfl) (by decide) (r_items (by rfl) (r_local I (by rfl) (by rfl) (by rfl) (by decide) (r_items (by rfl) (r_local I (by rfl) (by rfl) (by rfl) (by decide) (r_items0 ?_))))))
  refine t_fz I (Nat.le_of_ble_eq_true rfl) (by rfl) ?_
  intro T0 g0 s2 I l0 e0
  refine r_items0 (t_mu I (Nat.le_of_ble_eq_true rfl) (by rfl) ?_)
  intro D s3 I hD
  refine r_storeLocal I (by rfl) (by rfl) ?_
  intro s4 I
  refine r_while (fun n s => E7 fun g m vs k xs a b => C7 (IF B g [(D, lo vs k)] L m [] (fun _ => none) s) (m (Str.ofString "row") = some (.ref D)) (m (Str.ofString "core") = some (.str core tc)) (All₂ (TripV g) vs (xs ++ [(a, core, b)])) (xs ++ toldL core (a, b) = toldL core (na, nb)) (n = a + b) (vs.length + n ≤ 1000)) (na + nb)
    ⟨_, _, _, _, [], na, nb, I, by rfl, by rfl, .cons ⟨T0, 0, ta, tc, tb, rfl, e0⟩ .nil, rfl, rfl, by simp only [List.length_cons, List.length_nil]; lia⟩ ?_
  clear I e0
  rintro n s K Ke hK hKe ⟨g, m, vs, k, xs, a, b, I, hm, hmc, hvs, hch, rfl, hbd⟩
  obtain ⟨vl, hvl, T, kt, t1, t2, t3, rfl, hT⟩ := hvs.get (i := xs.length) (b := (a, core, b)) (by simp)
  have hlast : vs.getLast? = some (.ref T) := by
    rw [List.getLast?_eq_getElem?, hvs.length, List.length_append, List.length_singleton]
    exact hvl
  refine r_test (r_bin ?_) (by rfl)
  refine Subscript_ (Subscript_ (r_local I (by rfl) (by rfl) hm (by decide) (r_negInt I ?_)))
  intro t4 s5 I
  refine t_listNeg1 (I.head (.head _)) hlast (r_int I ?_)
  intro t5 s6 I
  refine t_tup (k := 0) (I.sub _ _ hT) rfl (by decide) ?_
  refine Subscript_ (Subscript_ (r_local I (by rfl) (by rfl) hm (by decide) (r_negInt I ?_)))
  intro t6 s7 I
  refine t_listNeg1 (I.head (.head _)) hlast (r_int I ?_)
  intro t7 s8 I
  refine t_tup (k := 2) (I.sub _ _ hT) rfl (by decide) ?_
  refine o_add I ?_
  intro t8 s9 I
  refine tr_int (ite_of (fun hb1 => ?_) fun hb1 => ?_)
  · have hne : a + b ≠ 0 := by simp at hb1; lia
    have hlt := nextT_lt (core := core) (x := (a, b)) hne
    refine r_assignT (by rfl) (by rfl) (Subscript_ (r_local I (by rfl) (by rfl) hm (by decide) (r_negInt I ?_)))
    intro t9 s10 I
    refine t_listNeg1 (I.head (.head _)) hlast ?_
    refine a_tup3 I r.handled (by rfl) (by rfl) (by rfl) (by rfl) (I.sub _ _ hT) ?_
    intro s11 I
    refine r_ifp (r_test (r_local I (by rfl) (by rfl) hmc (by decide) (tr_str I (by lia) ?_)) (by rfl))
    intro s12 I
    refine ite_of (fun hb2 => ?_) fun hb2 => ?_
    · have hcore : tl core ≠ [] := of_decide_eq_true hb2
      refine r_append (by rfl) (by rfl) (by rfl) (by rfl) ?_
      refine r_local I (by rfl) (by rfl) hm (by decide) ⟨_, _, _, rfl, I.head (.head _), ?_⟩
      refine r_tuple (r_items (by rfl) ?_)
      refine r_callB I ST O.T (by rfl) (by rfl) (by rfl) (by rfl) nmax (by rfl) (by decide) (by decide) (by rfl) (by rfl) (by rfl) ?_
      refine r_items (by rfl) (r_bin (r_local I (by rfl) (by rfl) (by rfl) (by decide) (r_int I ?_)))
      intro t10 s13 I
      refine o_sub I ?_
      intro t11 s14 I
      refine r_items (by rfl) (r_int I ?_)
      intro t12 s15 I
      refine r_items0 (b_max I r.handled ?_)
      intro t13 s16 I
      refine r_items (by rfl) (r_local I (by rfl) (by rfl) hmc (by decide) (r_items (by rfl) ?_))
      refine r_callB I ST O.T (by rfl) (by rfl) (by rfl) (by rfl) nmax (by rfl) (by decide) (by decide) (by rfl) (by rfl) (by rfl) ?_
      refine r_items (by rfl) (r_bin (r_local I (by rfl) (by rfl) (by rfl) (by decide) (r_int I ?_)))
      intro t14 s17 I
      refine o_sub I ?_
      intro t15 s18 I
      refine r_items (by rfl) (r_int I ?_)
      intro t16 s19 I
      refine r_items0 (b_max I r.handled ?_)
      intro t17 s20 I
      refine r_items0 (t_fz I (Nat.le_of_ble_eq_true rfl) (by rfl) ?_)
      intro T1 g1 s21 I l1 e1
      refine t_append I (by lia) ?_
      intro s22 n' I
      rw [show max ((a : Int) - 1) 0 = ((a - 1 : Nat) : Int) by lia, show max ((b : Int) - 1) 0 = ((b - 1 : Nat) : Int) by lia] at e1
      refine r_nil (r_nil (hK _ _ ⟨_, ?_, g1, _, _, _, xs ++ [(a, core, b)], a - 1, b - 1, I, hm, hmc, (hvs.mono fun _ _ x => x.up l1).append (.cons ⟨T1, _, _, _, _, rfl, e1⟩ .nil), ?_, rfl, ?_⟩))
      · have := hlt; unfold nextT at this; rw [if_pos hcore] at this; exact this
      · have e := toldL_step (core := core) (x := (a, b)) hne; unfold nextT at e; rw [if_pos hcore] at e; rw [← hch, e]; simp
      · rw [List.length_append]; simp only [List.length_cons, List.length_nil]; lia
    · have hcore : ¬ tl core ≠ [] := of_decide_eq_false hb2
      refine r_append (by rfl) (by rfl) (by rfl) (by rfl) ?_
      refine r_local I (by rfl) (by rfl) hm (by decide) ⟨_, _, _, rfl, I.head (.head _), ?_⟩
      refine r_tuple (r_items (by rfl) ?_)
      refine r_callB I ST O.T (by rfl) (by rfl) (by rfl) (by rfl) nmax (by rfl) (by decide) (by decide) (by rfl) (by rfl) (by rfl) ?_
      refine r_items (by rfl) (r_bin (r_bin (r_local I (by rfl) (by rfl) (by rfl) (by decide) (r_local I (by rfl) (by rfl) (by rfl) (by decide) (o_add I ?_)))))
      intro t10 s13 I
      refine r_int I ?_
      intro t11 s14 I
      refine o_sub I ?_
      intro t12 s15 I
      refine r_items (by rfl) (r_int I ?_)
      intro t13 s16 I
      refine r_items0 (b_max I r.handled ?_)
      intro t14 s17 I
      refine r_items (by rfl) (r_local I (by rfl) (by rfl) hmc (by decide) (r_items (by rfl) (r_int I ?_)))
      intro t15 s18 I
      refine r_items0 (t_fz I (Nat.le_of_ble_eq_true rfl) (by rfl) ?_)
      intro T1 g1 s19 I l1 e1
      refine t_append I (by lia) ?_
      intro s20 n' I
      rw [show max ((a : Int) + b - 2) 0 = ((a + b - 2 : Nat) : Int) by lia] at e1
      refine r_nil (r_nil (hK _ _ ⟨_, ?_, g1, _, _, _, xs ++ [(a, core, b)], a + b - 2, 0, I, hm, hmc, (hvs.mono fun _ _ x => x.up l1).append (.cons ⟨T1, _, _, _, _, rfl, e1⟩ .nil), ?_, rfl, ?_⟩))
      · have := hlt; unfold nextT at this; rw [if_neg hcore] at this; exact this
      · have e := toldL_step (core := core) (x := (a, b)) hne; unfold nextT at e; rw [if_neg hcore] at e; rw [← hch, e]; simp
      · rw [List.length_append]; simp only [List.length_cons, List.length_nil]; lia
  · have h0 : a + b = 0 := by simp at hb1; lia
    refine hKe _ (r_return (r_local I (by rfl) (by rfl) hm (by decide) ?_))
    have J := I.freeze hD
    refine h _ _ _ (O.fin J) ⟨D, vs, k, rfl, put_self .., ?_⟩
    rw [← hch, toldL_end h0]
    exact hvs.mono fun _ _ x => x.up (le_put (I.muH _ (.head _)).2.1)
end
end Mine
set_option Elab.async false
set_option maxRecDepth 100000
namespace Mine
open PySem PySem.W PyProof.Rows PySem.Calls

/-! ## Sources of items -/
structure Src (prog : Program) (w : World) (A : Around) (target : Expr) (I : Addr) (fp wr : List Addr) (n : Nat) (P : Nat → Value → Heap → Prop) (St : Nat → Heap → Prop) : Prop where
  sub : ∀ b ∈ wr, b ∈ fp
  live : ∀ i h, St i h → ∀ b ∈ wr, h.get? b ≠ none
  frame : ∀ i h h', St i h → (∀ b ∈ fp, ∀ o, h.get? b = some o → h'.get? b = some o) → St i h'
  item : ∀ i (s : Shared) (Q : Value → Shared → Prop), i < n → St i s.heap →
    (∀ v h' tk, P i v h' → St (i + 1) h' → (∀ b o, b ∉ wr → s.heap.get? b = some o → h'.get? b = some o) → Q v { s with heap := h', toks := tk }) →
    wpAny (model prog w) A (pyNext (.ref I)) (fun r s₁ => match r with | none => False | some v => wpAny (model prog w) A (letOwnedTupleGo target (.ref I) v) (fun _ s₂ => Q v s₂) NoE s₁) NoE s
  done : ∀ (s : Shared) (Q : Shared → Prop), St n s.heap → (∀ h' tk, (∀ b o, b ∉ wr → s.heap.get? b = some o → h'.get? b = some o) → Q { s with heap := h', toks := tk }) →
    wpAny (model prog w) A (pyNext (.ref I)) (fun r s₁ => match r with | none => Q s₁ | some _ => False) NoE s
  self : ∀ i (s : Shared) (Q : Value → Shared → Prop), St i s.heap → Q (.ref I) s → wpAny (model prog w) A (pyIter (.ref I)) Q NoE s

section
variable {prog : Program} {w : World} {A : Around}
theorem go_plain {target : Expr} {I : Addr} {v : Value} {s : Shared} {o : Obj} {c : String} {vs : Array Value} {Q : Unit → Shared → Prop} (ho : s.heap.get? I = some o) (hc : o.cls = .type c) (hd : o.data = .fields vs)
    (hn : (["enumerate", "zip", "dict_itemiterator", "dict_reverseitemiterator", "odict_iterator", "itertools.zip_longest", "itertools.pairwise"].contains c) = false) (h : Q () s) :
    wpAny (model prog w) A (letOwnedTupleGo target (.ref I) v) Q NoE s := by
  unfold letOwnedTupleGo
  cases target <;> first
    | exact wpAny_pure h
    | (cases v <;> first
        | exact wpAny_pure h
        | (refine wpAny_bind (wpAny_load ho ?_)
           rw [hc, hd]
           simp only [hn, Bool.false_and, Bool.false_eq_true, if_false]
           exact wpAny_pure h))
theorem Src.list (hh : A.handled = none) (target : Expr) (I ax : Addr) (hne : ax ≠ I) (vs : List Value) :
    Src prog w A target I [I, ax] [I] vs.length (fun i v _ => vs[i]? = some v) (fun i h => h.IsListIter I ax i ∧ h.IsList ax vs.toArray) := by
  have W := Walks.list (prog := prog) (w := w) hh I ax hne vs.toArray
  refine ⟨W.sub, fun i h st b hb => ?_, W.frame, fun i s Q hi st h => ?_, fun s Q st h => ?_, fun i s Q st h => W.self i s Q NoE st h⟩
  · rw [List.mem_singleton.mp hb]; obtain ⟨_, e, _⟩ := st.1; exact alive e
  · refine W.item i s _ NoE (by simpa using hi) st fun v h' tk hP st' hk => ?_
    obtain ⟨o, ho, hc, hd⟩ := id st'.1
    exact go_plain ho hc hd (by decide) (h v h' tk (by simpa using hP) st' hk)
  · exact W.done s _ NoE (by simpa using st) h
theorem Src.tuple (hh : A.handled = none) (target : Expr) (I ax : Addr) (hne : ax ≠ I) (vs : List Value) :
    Src prog w A target I [I, ax] [I] vs.length (fun i v _ => vs[i]? = some v) (fun i h => h.IsTupleIter I ax i ∧ h.IsTuple ax vs.toArray) := by
  have W := Walks.tuple (prog := prog) (w := w) hh I ax hne vs.toArray
  refine ⟨W.sub, fun i h st b hb => ?_, W.frame, fun i s Q hi st h => ?_, fun s Q st h => ?_, fun i s Q st h => W.self i s Q NoE st h⟩
  · rw [List.mem_singleton.mp hb]; obtain ⟨_, e, _⟩ := st.1; exact alive e
  · refine W.item i s _ NoE (by simpa using hi) st fun v h' tk hP st' hk => ?_
    obtain ⟨o, ho, hc, hd⟩ := id st'.1
    exact go_plain ho hc hd (by decide) (h v h' tk (by simpa using hP) st' hk)
  · exact W.done s _ NoE (by simpa using st) h
theorem Src.range (hh : A.handled = none) (target : Expr) (I : Addr) (a c : Int) (n : Nat) :
    Src prog w A target I [I] [I] n (fun i v _ => ∃ t, v = .int (a + i * c) t) (fun i h => IsRangeIter h I (a + (i : Nat) * c) ((n : Int) - (i : Nat)) c) := by
  have W := Walks.range (prog := prog) (w := w) hh I a c n
  refine ⟨W.sub, fun i h st b hb => ?_, W.frame, fun i s Q hi st h => ?_, fun s Q st h => ?_, fun i s Q st h => W.self i s Q NoE st h⟩
  · rw [List.mem_singleton.mp hb]; exact alive st
  · refine W.item i s _ NoE (by simpa using hi) st fun v h' tk hP st' hk => ?_
    exact go_plain st' rfl rfl (by decide) (h v h' tk hP st' hk)
  · exact W.done s _ NoE st h
theorem Src.ofT {I : Addr} {fp wr : List Addr} {n : Nat} {Pt : Nat → Array Value → Prop} {St : Nat → Heap → Prop} {Mid : Nat → Addr → Heap → Prop} (W : WalksT prog w A I fp wr n Pt St Mid) (hl : ∀ i h, St i h → ∀ b ∈ wr, h.get? b ≠ none) (elts : List Expr) (k : Nat) (pos : Pos) :
    Src prog w A (.Tuple elts k pos) I fp wr n (fun i v h => ∃ T vals, v = .ref T ∧ h.IsTuple T vals ∧ Pt i vals) St := by
  refine ⟨W.sub, hl, W.frame, fun i s Q hi st h => ?_, fun s Q st h => W.done s _ NoE st h, fun i s Q st h => W.self i s Q NoE st h⟩
  refine W.item i s _ NoE hi st fun T vals h' tk hP _ hT hM hk => ?_
  refine W.go elts k pos i T _ _ NoE hM fun h'' st'' hk'' => ?_
  exact h _ h'' tk ⟨T, vals, rfl, hT.at fun o e => hk'' T o (W.apart i T h' hM) e, hP⟩ st'' fun b o hb e => hk'' b o hb (hk b o hb e)
end

/-! ## Ledgers -/
theorem lk_of_mem {β : Type} : ∀ {l : List (Nat × β)} {a : Nat} {o : β}, (l.map (·.1)).Nodup → (a, o) ∈ l → l.lookup a = some o
  | (k, v) :: r, a, o, hn, hm => by
    rw [List.map_cons, List.nodup_cons] at hn
    rw [List.lookup_cons]
    rcases List.mem_cons.mp hm with e | hm
    · cases e; simp
    · have hne : (a == k) = false := by
        simp only [beq_eq_false_iff_ne]
        intro e
        exact hn.1 (e ▸ List.mem_map.mpr ⟨(a, o), hm, rfl⟩)
      rw [hne]
      exact lk_of_mem hn.2 hm
theorem mem_of_lk {β : Type} : ∀ {l : List (Nat × β)} {a : Nat} {o : β}, l.lookup a = some o → (a, o) ∈ l
  | (k, v) :: r, a, o, h => by
    rw [List.lookup_cons] at h
    by_cases e : a = k
    · subst e; simp at h; subst h; exact .head _
    · have hne : (a == k) = false := by simpa using e
      rw [hne] at h
      exact .tail _ (mem_of_lk h)

section
variable {B : Base} {g g' : Vw} {mu own : List (Addr × Obj)} {L : Addr} {m : Str → Option Value} {cs : List (Str × Addr)} {cm : Str → Option Value} {s s' : Shared}
theorem IF.perm {mu' : List (Addr × Obj)} (I : IF B g mu L m cs cm s) (h : mu.Perm mu') : IF B g mu' L m cs cm s :=
  I.weaken (fun _ hp => h.mem_iff.mpr hp) ((h.map _).nodup_iff.mp I.nd)
/-- the objects of a ledger stay as they are for a while -/
noncomputable def pin (B : Base) (g : Vw) (own : List (Addr × Obj)) : Base := { B with g := g, k := fun b => (own.lookup b).or (B.k b), off := fun b => B.off b ∨ ∃ o, (b, o) ∈ own }
theorem pin_none {b : Addr} (h : (pin B g own).k b = none) : B.k b = none ∧ ∀ o, (b, o) ∉ own := by
  simp only [pin, Option.or_eq_none_iff] at h
  refine ⟨h.2, fun o ho => ?_⟩
  have : own.lookup b ≠ none := by
    clear h
    induction own with
    | nil => cases ho
    | cons p r ih =>
      obtain ⟨k, v⟩ := p
      rw [List.lookup_cons]
      by_cases e : b = k
      · subst e; simp
      · have hne : (b == k) = false := by simpa using e
        rw [hne]
        rcases List.mem_cons.mp ho with q | q
        · cases q; exact absurd rfl e
        · exact ih q
  exact this h.1
theorem pin_of {b : Addr} (hk : B.k b = none) (ho : ∀ o, (b, o) ∉ own) : (pin B g own).k b = none := by
  simp only [pin, Option.or_eq_none_iff]
  refine ⟨?_, hk⟩
  cases e : own.lookup b with
  | none => rfl
  | some o => exact absurd (mem_of_lk e) (ho o)
theorem IF.pin (I : IF B g (own ++ mu) L m cs cm s) : IF (pin B g own) g mu L m cs cm s := by
  have nd := I.nd
  rw [List.map_append, List.nodup_append] at nd
  refine ⟨I.same, I.stat, Le.refl g, fun b hb => ?_, fun b o e => ?_, I.sub, I.ns, I.Lg, pin_of I.Lk fun o ho => (I.muH _ (List.mem_append_left _ ho)).2.2.2.1 rfl, I.cell,
    fun n c hc => ⟨(I.cg n c hc).1, pin_of (I.cg n c hc).2.1 fun o ho => (I.muH _ (List.mem_append_left _ ho)).2.2.2.2 _ hc rfl, (I.cg n c hc).2.2⟩, I.cap,
    fun p hp => ?_, nd.2.1⟩
  · rcases hb with hb | ⟨o, ho⟩
    · exact I.off b hb
    · have := I.muH _ (List.mem_append_left _ ho)
      exact ⟨this.2.1, alive this.1⟩
  · simp only [Mine.pin] at e
    cases q : own.lookup b with
    | none => rw [q] at e; exact I.keep b o (by simpa using e)
    | some o' =>
      rw [q] at e
      have : o' = o := by simpa using e
      subst this
      exact (I.muH _ (List.mem_append_left _ (mem_of_lk q))).1
  · have := I.muH p (List.mem_append_right _ hp)
    refine ⟨this.1, this.2.1, pin_of this.2.2.1 fun o ho => nd.2.2 p.1 (List.mem_map.mpr ⟨_, ho, rfl⟩) p.1 (List.mem_map.mpr ⟨p, hp, rfl⟩) rfl, this.2.2.2⟩
theorem IF.unpin {g₀ : Vw} (I : IF (Mine.pin B g₀ own) g mu L m cs cm s) (hg : Le B.g g₀) (hn : (own.map (·.1)).Nodup) (hk : ∀ p ∈ own, B.k p.1 = none) : IF B g (own ++ mu) L m cs cm s := by
  refine ⟨I.same, I.stat, hg.trans I.ge, fun b hb => I.off b (.inl hb), fun b o e => I.keep b o ?_, I.sub, I.ns, I.Lg, (pin_none I.Lk).1, I.cell, fun n c hc => ⟨(I.cg n c hc).1, (pin_none (I.cg n c hc).2.1).1, (I.cg n c hc).2.2⟩, I.cap,
    fun p hp => ?_, ?_⟩
  · have : own.lookup b = none := by
      cases q : own.lookup b with
      | none => rfl
      | some o' => rw [hk _ (mem_of_lk q)] at e; cases e
    simp only [Mine.pin, this]; simpa using e
  · rcases List.mem_append.mp hp with hp | hp
    · refine ⟨I.keep p.1 p.2 (by simp [Mine.pin, lk_of_mem hn hp]), (I.off p.1 (.inr ⟨p.2, hp⟩)).1, hk p hp, fun e => (pin_none I.Lk).2 p.2 (by rw [← e]; exact hp), fun q hq e => (pin_none (I.cg q.1 q.2 hq).2.1).2 p.2 (by rw [e]; exact hp)⟩
    · have := I.muH p hp
      exact ⟨this.1, this.2.1, (pin_none this.2.2.1).1, this.2.2.2⟩
  · rw [List.map_append, List.nodup_append]
    refine ⟨hn, I.nd, fun a ha b hb e => ?_⟩
    obtain ⟨p, hp, rfl⟩ := List.mem_map.mp ha
    obtain ⟨q, hq, rfl⟩ := List.mem_map.mp hb
    exact (pin_none (I.muH q hq).2.2.1).2 p.2 (by rw [← e]; exact hp)
/-- the objects of a ledger are turned, at one go -/
theorem IF.turns {own' : List (Addr × Obj)} (I : IF B g (own ++ mu) L m cs cm s) {h' : Heap} {t : Nat} (ha : own'.map (·.1) = own.map (·.1)) (ho : ∀ p ∈ own', h'.get? p.1 = some p.2)
    (hk : ∀ b o, b ∉ own.map (·.1) → s.heap.get? b = some o → h'.get? b = some o) : IF B g (own' ++ mu) L m cs cm { s with heap := h', toks := t } := by
  have nd := I.nd
  rw [List.map_append, List.nodup_append] at nd
  have out : ∀ b, (∀ p ∈ own, p.1 ≠ b) → b ∉ own.map (·.1) := fun b hb h => by
    obtain ⟨p, hp, e⟩ := List.mem_map.mp h
    exact hb p hp e
  have kL : ∀ p ∈ own, p.1 ≠ L := fun p hp => (I.muH p (List.mem_append_left _ hp)).2.2.2.1
  refine ⟨?_, I.stat, I.ge, fun b hb => ⟨(I.off b hb).1, ?_⟩, fun b o e => hk b o (out b fun p hp q => ?_) (I.keep b o e), fun b o e => hk b o (out b fun p hp q => ?_) (I.sub b o e), ?_, I.Lg, I.Lk, fun n c hc => ?_, I.cg, I.cap, fun p hp => ?_, ?_⟩
  · obtain ⟨x, y, e⟩ := I.same; exact ⟨h', t, by rw [e]⟩
  · by_cases q : b ∈ own.map (·.1)
    · rw [← ha] at q
      obtain ⟨p, hp, e⟩ := List.mem_map.mp q
      rw [← e]; exact alive (ho p hp)
    · have := (I.off b hb).2
      cases e : s.heap.get? b with
      | none => exact absurd e this
      | some o => exact alive (hk b o q e)
  · have := (I.muH p (List.mem_append_left _ hp)).2.2.1
    rw [q, e] at this; cases this
  · have := (I.muH p (List.mem_append_left _ hp)).2.1
    rw [q, e] at this; cases this
  · exact I.ns.at' fun o e => hk L o (out L fun p hp q => kL p hp q) e
  · obtain ⟨o, e, hd⟩ := I.cell n c hc
    exact ⟨o, hk c o (out c fun p hp q => (I.muH p (List.mem_append_left _ hp)).2.2.2.2 (n, c) hc q.symm) e, hd⟩
  · rcases List.mem_append.mp hp with hp | hp
    · have : p.1 ∈ own.map (·.1) := by rw [← ha]; exact List.mem_map.mpr ⟨p, hp, rfl⟩
      obtain ⟨q, hq, e⟩ := List.mem_map.mp this
      have := I.muH q (List.mem_append_left _ hq)
      exact ⟨ho p hp, by rw [← e]; exact this.2⟩
    · have := I.muH p (List.mem_append_right _ hp)
      refine ⟨hk _ _ (out _ fun q hq e => ?_) this.1, this.2⟩
      exact nd.2.2 q.1 (List.mem_map.mpr ⟨q, hq, rfl⟩) p.1 (List.mem_map.mpr ⟨p, hp, rfl⟩) e
  · have := I.nd
    rw [List.map_append] at this ⊢
    rw [ha]; exact this
theorem IF.drop (I : IF B g (own ++ mu) L m cs cm s) {h' : Heap} {t : Nat} (hof : ∀ p ∈ own, ¬ B.off p.1)
    (hk : ∀ b o, b ∉ own.map (·.1) → s.heap.get? b = some o → h'.get? b = some o) : IF B g mu L m cs cm { s with heap := h', toks := t } := by
  have nd := I.nd
  rw [List.map_append, List.nodup_append] at nd
  have out : ∀ b, (∀ p ∈ own, p.1 ≠ b) → b ∉ own.map (·.1) := fun b hb h => by
    obtain ⟨p, hp, e⟩ := List.mem_map.mp h
    exact hb p hp e
  have kL : ∀ p ∈ own, p.1 ≠ L := fun p hp => (I.muH p (List.mem_append_left _ hp)).2.2.2.1
  refine ⟨?_, I.stat, I.ge, fun b hb => ⟨(I.off b hb).1, ?_⟩, fun b o e => hk b o (out b fun p hp q => ?_) (I.keep b o e), fun b o e => hk b o (out b fun p hp q => ?_) (I.sub b o e), ?_, I.Lg, I.Lk, fun n c hc => ?_, I.cg, I.cap, fun p hp => ?_, nd.2.1⟩
  · obtain ⟨x, y, e⟩ := I.same; exact ⟨h', t, by rw [e]⟩
  · have q : b ∉ own.map (·.1) := out b fun p hp e => hof p hp (e ▸ hb)
    have := (I.off b hb).2
    cases e : s.heap.get? b with
    | none => exact absurd e this
    | some o => exact alive (hk b o q e)
  · have := (I.muH p (List.mem_append_left _ hp)).2.2.1
    rw [q, e] at this; cases this
  · have := (I.muH p (List.mem_append_left _ hp)).2.1
    rw [q, e] at this; cases this
  · exact I.ns.at' fun o e => hk L o (out L fun p hp q => kL p hp q) e
  · obtain ⟨o, e, hd⟩ := I.cell n c hc
    exact ⟨o, hk c o (out c fun p hp q => (I.muH p (List.mem_append_left _ hp)).2.2.2.2 (n, c) hc q.symm) e, hd⟩
  · have := I.muH p (List.mem_append_right _ hp)
    refine ⟨hk _ _ (out _ fun q hq e => ?_) this.1, this.2⟩
    exact nd.2.2 q.1 (List.mem_map.mpr ⟨q, hq, rfl⟩) p.1 (List.mem_map.mpr ⟨p, hp, rfl⟩) e
end

structure Pin (B B' : Base) (g : Vw) (L : Addr) (cs : List (Str × Addr)) : Prop where
  T : B'.T = B.T
  g : B'.g = g
  un : ∀ {g' mu' m' cm' s'}, IF B' g' mu' L m' cs cm' s' → IF B g' mu' L m' cs cm' s'
  off : ∀ b, B.off b → B'.off b
  k : ∀ b o, B.k b = some o → B'.k b = some o

/-- a source of items, at its start -/
noncomputable def SrcAt (prog : Program) (w : World) (A : Around) (target : Expr) (B : Base) (L : Addr) (cs : List (Str × Addr)) (it : Value) (n : Nat) (P : Nat → Value → Heap → Prop) (i : Nat) (g : Vw) (mu : List (Addr × Obj)) (m cm : Str → Option Value) (s : Shared) : Prop :=
  E5 fun I fp wr St own => C7 (it = .ref I) (Src prog w A target I fp wr n P St) (St i s.heap) (own.map (·.1) = wr) (IF B g (own ++ mu) L m cs cm s) (∀ b ∈ fp, b ∈ wr ∨ ∃ o, g b = some o) (∀ p ∈ own, ¬ B.off p.1)

section
variable {prog : Program} {w : World} {A : Around} {E : Value → Shared → Prop} {s : Shared} {env : Env}
variable {B : Base} {g : Vw} {mu : List (Addr × Obj)} {L : Addr} {m : Str → Option Value} {cs : List (Str × Addr)} {cm : Str → Option Value} {S : Heap} {mg mb : Str → Option Value}

theorem it_list {l : Addr} {vs : List Value} {k : Nat} {Q : Value → Shared → Prop} (I : IF B g mu L m cs cm s) (hh : A.handled = none) (hl : g l = some (lo vs k))
    (h : ∀ it s', (∀ target, SrcAt prog w A target B L cs it vs.length (fun i v _ => vs[i]? = some v) 0 g mu m cm s') → Q it s') : wpAny (model prog w) A (pyIter (.ref l)) Q E s := by
  have hl' := I.sub _ _ hl
  refine wpAny_pyIter_list (isList_lo hl') ?_
  have hlt := Heap.lt_size hl'
  have J := I.newMu (t := s.toks) (o := { cls := .type "list_iterator", data := .fields #[.ref l, .int 0 0] }) rfl
  refine h _ _ fun target => ⟨s.heap.objs.size, _, _, _, [(s.heap.objs.size, _)], rfl, Src.list hh target _ l (Nat.ne_of_lt hlt) vs, ⟨⟨_, Heap.get?_push_size _ rfl, rfl, rfl⟩, (isList_lo hl').push _⟩, rfl, J, fun b hb => ?_, fun p hp => by rw [List.mem_singleton.mp hp]; exact I.newOff⟩
  rcases List.mem_cons.mp hb with rfl | hb
  · exact .inl (.head _)
  · rw [List.mem_singleton.mp hb]; exact .inr ⟨_, hl⟩
theorem it_tuple {l : Addr} {vs : List Value} {k : Nat} {Q : Value → Shared → Prop} (I : IF B g mu L m cs cm s) (hh : A.handled = none) (hl : g l = some (to_ vs k))
    (h : ∀ it s', (∀ target, SrcAt prog w A target B L cs it vs.length (fun i v _ => vs[i]? = some v) 0 g mu m cm s') → Q it s') : wpAny (model prog w) A (pyIter (.ref l)) Q E s := by
  have hl' := I.sub _ _ hl
  have ht : s.heap.IsTuple l vs.toArray := ⟨_, hl', rfl, k, rfl⟩
  refine wpAny_pyIter_tuple ht ?_
  have hlt := Heap.lt_size hl'
  have J := I.newMu (t := s.toks) (o := { cls := .type "tuple_iterator", data := .fields #[.ref l, .int 0 0] }) rfl
  refine h _ _ fun target => ⟨s.heap.objs.size, _, _, _, [(s.heap.objs.size, _)], rfl, Src.tuple hh target _ l (Nat.ne_of_lt hlt) vs, ⟨⟨_, Heap.get?_push_size _ rfl, rfl, rfl⟩, ht.push _⟩, rfl, J, fun b hb => ?_, fun p hp => by rw [List.mem_singleton.mp hp]; exact I.newOff⟩
  rcases List.mem_cons.mp hb with rfl | hb
  · exact .inl (.head _)
  · rw [List.mem_singleton.mp hb]; exact .inr ⟨_, hl⟩

theorem src_own {wr : List Addr} {St : Nat → Heap → Prop} {target : Expr} {I : Addr} {fp : List Addr} {n i : Nat} {P : Nat → Value → Heap → Prop} {h' : Heap} (R : Src prog w A target I fp wr n P St) (st : St i h') :
    ∃ own : List (Addr × Obj), own.map (·.1) = wr ∧ ∀ p ∈ own, h'.get? p.1 = some p.2 := by
  refine ⟨wr.map fun a => (a, (h'.get? a).getD default), by rw [List.map_map]; exact List.map_id' wr, fun p hp => ?_⟩
  obtain ⟨a, ha, rfl⟩ := List.mem_map.mp hp
  have := R.live i h' st a ha
  cases e : h'.get? a with
  | none => exact absurd e this
  | some o => simp [e]
/-- one item is taken: the source is pinned while it is used -/
theorem src_item {target : Expr} {it : Value} {n i : Nat} {P : Nat → Value → Heap → Prop} {Q : Value → Shared → Prop} (R : SrcAt prog w A target B L cs it n P i g mu m cm s) (hi : i < n)
    (h : ∀ v s' B', P i v s'.heap → Pin B B' g L cs → IF B' g mu L m cs cm s' → (∀ {g' mu' m' cm' s''}, IF B' g' mu' L m' cs cm' s'' → SrcAt prog w A target B L cs it n P (i + 1) g' mu' m' cm' s'') → Q v s') :
    wpAny (model prog w) A (pyNext it) (fun r s₁ => match r with | none => False | some v => wpAny (model prog w) A (letOwnedTupleGo target it v) (fun _ s₂ => Q v s₂) NoE s₁) NoE s := by
  obtain ⟨I, fp, wr, St, own, rfl, S, st, hw, IF₀, hfp, hof⟩ := R
  refine S.item i s Q hi st fun v h' tk hP st' hk => ?_
  obtain ⟨own', hw', ho'⟩ := src_own S st'
  have J := IF₀.turns (own' := own') (t := tk) (by rw [hw, hw']) ho' (by rw [hw]; exact hk)
  have nd := J.nd
  rw [List.map_append, List.nodup_append] at nd
  have un : ∀ {g' mu' m' cm' s'}, IF (pin B g own') g' mu' L m' cs cm' s' → IF B g' (own' ++ mu') L m' cs cm' s' := fun K => K.unpin J.ge nd.1 fun p hp => (J.muH p (List.mem_append_left _ hp)).2.2.1
  refine h v _ (pin B g own') hP ⟨rfl, rfl, fun K => ?_, fun b hb => .inl hb, fun b o e => ?_⟩ J.pin fun {g' mu' m' cm' s''} K => ?_
  · have := un K
    refine this.weaken (fun p hp => List.mem_append_right _ hp) ?_
    have := this.nd
    rw [List.map_append, List.nodup_append] at this
    exact this.2.1
  · have : own'.lookup b = none := by
      cases q : own'.lookup b with
      | none => rfl
      | some o' => rw [(J.muH _ (List.mem_append_left _ (mem_of_lk q))).2.2.1] at e; cases e
    simp only [pin, this]; simpa using e
  · refine ⟨I, fp, wr, St, own', rfl, S, S.frame _ _ _ st' fun b hb o e => ?_, hw', un K, fun b hb => ?_, fun p hp => ?_⟩
    · rcases hfp b hb with hb' | ⟨o', ho⟩
      · refine K.keep b o ?_
        rw [← hw'] at hb'
        obtain ⟨p, hp, rfl⟩ := List.mem_map.mp hb'
        have q := ho' p hp
        rw [e] at q
        rw [Option.some.inj q]
        simp [pin, lk_of_mem nd.1 hp]
      · have e' := J.sub _ _ ho
        have : o' = o := by rw [e] at e'; exact (Option.some.inj e').symm
        subst this
        exact K.sub _ _ (K.ge _ _ ho)
    · rcases hfp b hb with hb' | ⟨o', ho⟩
      · exact .inl hb'
      · exact .inr ⟨o', K.ge _ _ ho⟩
    · have : p.1 ∈ own.map (·.1) := by rw [hw, ← hw']; exact List.mem_map.mpr ⟨p, hp, rfl⟩
      obtain ⟨q, hq, e⟩ := List.mem_map.mp this
      rw [← e]; exact hof q hq
theorem src_done {target : Expr} {it : Value} {n : Nat} {P : Nat → Value → Heap → Prop} {Q : Shared → Prop} (R : SrcAt prog w A target B L cs it n P n g mu m cm s)
    (h : ∀ s', IF B g mu L m cs cm s' → Q s') : wpAny (model prog w) A (pyNext it) (fun r s₁ => match r with | none => Q s₁ | some _ => False) NoE s := by
  obtain ⟨I, fp, wr, St, own, rfl, S, st, hw, IF₀, hfp, hof⟩ := R
  exact S.done s Q st fun h' tk hk => h _ (IF₀.drop hof (by rw [hw]; exact hk))
end
end Mine
set_option Elab.async false
set_option maxRecDepth 100000
namespace Mine
open PySem PySem.W PyProof.Rows PySem.Calls

section
variable {prog : Program} {w : World} {A : Around} {E : Value → Shared → Prop} {s : Shared} {env : Env}
variable {B : Base} {g : Vw} {mu : List (Addr × Obj)} {L : Addr} {m : Str → Option Value} {cs : List (Str × Addr)} {cm : Str → Option Value} {S : Heap} {mg mb : Str → Option Value}

/-! ## for -/
theorem r_for {target iter : Expr} {body orelse : List Stmt} {pos : Pos} {rest : List Stmt} {Q : Flow → Shared → Prop} (B : Base) (cs : List (Str × Addr)) (n : Nat) (P : Nat → Value → Heap → Prop)
    (J : Nat → Vw → List (Addr × Obj) → (Str → Option Value) → (Str → Option Value) → Prop)
    (h : wpAny (model prog w) A (eval iter env) (fun v s₁ => wpAny (model prog w) A (pyIter v) (fun it s₂ => E4 fun g mu m cm => SrcAt prog w A target B env.locals cs it n P 0 g mu m cm s₂ ∧ J 0 g mu m cm) NoE s₁) NoE s)
    (turn : ∀ B' g mu m cm s i v (K : Flow → Shared → Prop), (∀ f s₃, (match f with
        | .next | .cont => E4 fun g' mu' m' cm' => IF B' g' mu' env.locals m' cs cm' s₃ ∧ J (i + 1) g' mu' m' cm'
        | .brk => wpAny (model prog w) A (execs rest env) Q NoE s₃
        | .ret v => Q (.ret v) s₃) → K f s₃) → Pin B B' g env.locals cs → i < n → P i v s.heap → J i g mu m cm → IF B' g mu env.locals m cs cm s →
      wpAny (model prog w) A (assign target env v) (fun _ s₂ => wpAny (model prog w) A (execs body env) K NoE s₂) NoE s)
    (hend : ∀ g mu m cm s, IF B g mu env.locals m cs cm s → J n g mu m cm →
      wpAny (model prog w) A (execs orelse env) (fun f s' => match f with | .next => wpAny (model prog w) A (execs rest env) Q NoE s' | f => Q f s') NoE s)
    (hs : ∀ x, foldedSetIterable iter env x = pure x := by intro _; rfl) :
    wpAny (model prog w) A (execs (.For target iter body orelse pos :: rest) env) Q NoE s := by
  refine wpAny_execs_cons (wpAny_For (wpAny_mono h (fun v s₁ h₁ => wpAny_mono h₁ (fun it s₂ h₂ => ?_) fun _ _ q => q) fun _ _ q => q) hs)
  obtain ⟨g, mu, m, cm, R, hJ⟩ := h₂
  refine codeAny_forLoop_any (R := fun r s' => match r with | .ok f => (match f with | .next => wpAny (model prog w) A (execs rest env) Q NoE s' | f => Q f s') | .error e => cameBackBy (model prog w) A env NoE e s')
    (fun k s' => E5 fun i g mu m cm => C4 (SrcAt prog w A target B env.locals cs it n P i g mu m cm s') (J i g mu m cm) (i ≤ n) (k = n + 1 - i)) ?_ (n + 1) ⟨0, g, mu, m, cm, R, hJ, Nat.zero_le _, rfl⟩
  rintro k s ⟨i, g, mu, m, cm, R, hJ, hi, rfl⟩
  by_cases hlt : i < n
  · have key := src_item (Q := fun v s₁' => wpAny (model prog w) A (assign target env v) (fun _ s₂ => wpAny (model prog w) A (execs body env) (fun f s₃ => match f with
        | .next | .cont => ∃ k, k < n + 1 - i ∧ E5 fun i g mu m cm => C4 (SrcAt prog w A target B env.locals cs it n P i g mu m cm s₃) (J i g mu m cm) (i ≤ n) (k = n + 1 - i)
        | .brk => wpAny (model prog w) A (execs rest env) Q NoE s₃
        | .ret v => Q (.ret v) s₃) NoE s₂) NoE s₁') R hlt fun v s' B' hP hp I up => wpAny_mono (turn B' g mu m cm s' i v _ (fun _ _ q => q) hp hlt hP hJ I) (fun _ s₂ h₂ => wpAny_mono h₂ (fun f s₃ h₃ => ?_) fun _ _ q => q.elim) fun _ _ q => q.elim
    · refine wpAny_mono key (fun r s₁ h₁ => ?_) fun _ _ q => q.elim
      cases r with
      | none => exact h₁.elim
      | some v => exact wpAny_mono h₁ (fun _ _ q => wpAny_mono q (fun _ _ q => wpAny_mono q (fun f _ q => by cases f <;> exact q) fun _ _ q => q.elim) fun _ _ q => q.elim) fun _ _ q => q.elim
    · cases f with
      | next => obtain ⟨g', mu', m', cm', I', hJ'⟩ := h₃; exact ⟨n + 1 - (i + 1), by lia, i + 1, g', mu', m', cm', up I', hJ', hlt, rfl⟩
      | cont => obtain ⟨g', mu', m', cm', I', hJ'⟩ := h₃; exact ⟨n + 1 - (i + 1), by lia, i + 1, g', mu', m', cm', up I', hJ', hlt, rfl⟩
      | brk => exact h₃
      | ret v => exact h₃
  · obtain rfl : i = n := by lia
    refine wpAny_mono (src_done R fun s' I => hend g mu m cm s' I hJ) (fun r s₁ h₁ => ?_) fun _ _ q => q.elim
    cases r with
    | none => exact wpAny_mono h₁ (fun f s' q => by cases f <;> exact q) fun _ _ q => q.elim
    | some v => exact h₁.elim
end
end Mine
set_option Elab.async false
set_option maxRecDepth 100000
namespace Mine
open PySem PySem.W PyProof.Rows PySem.Calls

/-! ## Comprehensions: the turn of a clause -/
noncomputable def lastTurn (target iter : Expr) (ifs : List Expr) (more : Sem Fin) (it : Value) (env : Env) (emit : Sem Unit) : Sem Fin := do
  standAt iter.pos
  match ← pyNext it with
  | none => pure (.done .next)
  | some v =>
    letOwnedTupleGo target it v
    assign target env v
    let mut ok := true
    for c in ifs do
      if ok then ok ← isTrue c env (eval c env)
    if ok then emit
    more
noncomputable abbrev testsOf (ifs : List Expr) (env : Env) : Sem Bool := forIn ifs true fun c r => if r = true then do let ok ← isTrue c env (eval c env); pure (ForInStep.yield ok) else pure (ForInStep.yield r)

section
variable {prog : Program} {w : World} {A : Around} {E : Value → Shared → Prop} {s : Shared} {env : Env}
theorem compLoop_emit {e target iter : Expr} {ifs : List Expr} {d : Nat} {it acc : Value} {emit : Sem Unit} {R : Result → Shared → Prop} (hu : A.under (.compLoop e d it acc env) = A) (hd : (model prog w).den (.compLoop e d it acc env) = (compTurn e d it acc env).onRaise (fun x => do noteFrame x env; theTreesLotGoes x))
    (ht : compTurn e d it acc env = lastTurn target iter ifs (again (.compLoop e d it acc env)) it env emit) (I : Nat → Shared → Prop)
    (turn : ∀ n s, I n s → wpAny (model prog w) A (pyNext it) (fun r s₁ => match r with
      | none => R (.ok .next) s₁
      | some v => wpAny (model prog w) A (letOwnedTupleGo target it v) (fun _ s₁' => wpAny (model prog w) A (assign target env v) (fun _ s₂ => wpAny (model prog w) A (testsOf ifs env) (fun ok s₃ =>
          if ok = true then wpAny (model prog w) A emit (fun _ s₅ => ∃ m, m < n ∧ I m s₅) NoE s₃ else ∃ m, m < n ∧ I m s₃) NoE s₂) NoE s₁') NoE s₁) NoE s)
    (n : Nat) (h : I n s) : codeAny (model prog w) A (.compLoop e d it acc env) R s := by
  refine codeAny_loop rfl I (fun n s hI => ?_) n h
  rw [hu, hd]
  refine wpAny_noted ?_
  rw [ht]
  unfold lastTurn
  refine wpAny_bind (wpAny_standAt (wpAny_bind (wpAny_mono (turn n s hI) (fun r s₁ h₁ => ?_) fun _ _ h' => h'.elim)))
  cases r with
  | none => exact wpAny_pure h₁
  | some v =>
    refine wpAny_bind (wpAny_mono h₁ (fun _ s₁' h₁' => ?_) fun _ _ h' => h'.elim)
    refine wpAny_bind (wpAny_mono h₁' (fun _ s₂ h₂ => wpAny_bind (wpAny_mono h₂ (fun ok s₃ h₃ => ?_) fun _ _ h' => h'.elim)) fun _ _ h' => h'.elim)
    cases ok with
    | false => exact wpAny_pure ⟨rfl, h₃⟩
    | true => exact wpAny_bind (wpAny_mono h₃ (fun x s₄ h₄ => wpAny_pure ⟨rfl, h₄⟩) fun _ _ h' => h'.elim)

theorem compStart_any {e target iter : Expr} {ifs : List Expr} {d : Nat} {it acc : Value} {R : Result → Shared → Prop} (hu : A.under (.compStart e d it acc env) = A) (hd : (model prog w).den (.compStart e d it acc env) = (compStart e d it acc env).onRaise (fun x => do noteFrame x env; standAt theWindowsPlace))
    (hc : (clausesOf e)[d]? = some ⟨target, iter, ifs, 0⟩)
    (h0 : codeAny (model prog w) A (.compLoop e d it acc env) R s)
    (h : wpAny (model prog w) A (pyIter it) (fun it' s' => codeAny (model prog w) A (.compLoop e d it' acc env) R s') NoE s) :
    codeAny (model prog w) A (.compStart e d it acc env) R s := by
  refine codeAny_of_tree ?_
  rw [hu, hd]
  refine wpAny_notedAt ?_
  unfold compStart
  rw [hc]
  show wpAny _ _ (ask >>= _) _ _ s
  refine wpAny_bind (wpAny_askSetting (wpAny_ite ?_))
  split
  · exact wpAny_pure (And.intro rfl h0)
  · refine wpAny_bind (wpAny_rule ?_)
    show wpAny _ _ (standAt iter.pos >>= _) _ _ s
    exact wpAny_bind (wpAny_standAt (wpAny_bind (wpAny_mono h (fun it' s' h' => wpAny_pure (And.intro rfl h')) fun _ _ x => x.elim)))

theorem tests0 {Q : Bool → Shared → Prop} (h : Q true s) : wpAny (model prog w) A (testsOf [] env) Q E s := wpAny_pure h
theorem tests1 {c : Expr} {Q : Bool → Shared → Prop} (h : wpAny (model prog w) A (isTrue c env (eval c env)) Q E s) : wpAny (model prog w) A (testsOf [c] env) Q E s := wpAny_tests_one h
end

/-! ## Comprehensions: the frame -/
structure Inn (B B' : Base) (g : Vw) (cs : List (Str × Addr)) (cm : Str → Option Value) (mu : List (Addr × Obj)) : Prop where
  T : B'.T = B.T
  g : B'.g = g
  k : ∀ b o, B.k b = some o → B'.k b = some o
  cell : ∀ n c, (n, c) ∈ cs → ∀ s' : Shared, (∀ b o, B'.k b = some o → s'.heap.get? b = some o) → s'.heap.IsCell c (cm n)
  mu : ∀ p ∈ mu, B'.k p.1 = some p.2
  off : ∀ b, B.off b → B'.off b

noncomputable def CS (B : Base) (g : Vw) (nu mu : List (Addr × Obj)) (L : Addr) (m : Str → Option Value) (cs : List (Str × Addr)) (cm : Str → Option Value) (C D : Addr) (oD : Obj) (mC : Str → Option Value) (s : Shared) : Prop :=
  ∃ oC, IF B g ((C, oC) :: (D, oD) :: (nu ++ mu)) L m cs cm s ∧ s.heap.Ns C mC

section
variable {B : Base} {g g' : Vw} {mu nu own : List (Addr × Obj)} {L C D : Addr} {oD : Obj} {m mC : Str → Option Value} {cs : List (Str × Addr)} {cm : Str → Option Value} {s s' : Shared}

theorem CS.open_ (X : CS B g nu mu L m cs cm C D oD mC s) : ∃ B', Inn B B' g cs cm (nu ++ mu) ∧ IF B' g [] C mC [] (fun _ => none) s ∧
    (∀ {g' nu' mC' s'}, IF B' g' nu' C mC' [] (fun _ => none) s' → CS B g' (nu' ++ nu) mu L m cs cm C D oD mC' s') := by
  obtain ⟨oC, I, hC⟩ := X
  obtain ⟨c0, c1, c2, c3, c4⟩ := I.muH (C, oC) (.head _)
  have kC : ∀ b o, b ≠ C → s.heap.get? b = some o → (if b = C then none else s.heap.get? b) = some o := fun b o hb e => by rw [if_neg hb]; exact e
  have nd := I.nd
  rw [List.map_cons, List.nodup_cons] at nd
  have muC : ∀ p ∈ (D, oD) :: (nu ++ mu), p.1 ≠ C := fun p hp e => nd.1 (List.mem_map.mpr ⟨p, hp, e⟩)
  refine ⟨⟨B.T, s, g, fun b => if b = C then none else s.heap.get? b, fun b => s.heap.get? b ≠ none ∧ g b = none⟩,
    ⟨rfl, rfl, fun b o e => kC b o (fun q => by rw [q, c2] at e; cases e) (I.keep b o e), fun n c hc s' hk => ?_, fun p hp => kC _ _ (muC p (.tail _ hp)) (I.muH p (.tail _ (.tail _ hp))).1, fun b hb => ⟨(I.off b hb).2, (I.off b hb).1⟩⟩,
    ⟨⟨_, _, rfl⟩, I.stat, Le.refl g, fun b hb => ⟨hb.2, hb.1⟩, fun b o e => ?_, I.sub, hC, c1, if_pos rfl, fun _ _ h => (nomatch h), fun _ _ h => (nomatch h), .nil, fun _ h => (nomatch h), .nil⟩, fun {g' nu' mC' s'} K => ?_⟩
  · obtain ⟨o, ho, hd⟩ := I.cell n c hc
    exact ⟨o, hk c o (kC c o (fun q => c4 (n, c) hc q) ho), hd⟩
  · dsimp only at e
    by_cases q : b = C
    · rw [if_pos q] at e; cases e
    · rw [if_neg q] at e; exact e
  · have up : ∀ b o, b ≠ C → s.heap.get? b = some o → s'.heap.get? b = some o := fun b o hb e => K.keep b o (kC b o hb e)
    have gn : ∀ b, s.heap.get? b ≠ none → g b = none → g' b = none := fun b hb e => (K.off b ⟨hb, e⟩).1
    obtain ⟨oC', _, _, hoC', _⟩ := id K.ns
    have liveL : s.heap.get? L ≠ none := by obtain ⟨_, _, _, e, _⟩ := I.ns; exact alive e
    have nuk : ∀ p ∈ nu', s.heap.get? p.1 = none ∧ p.1 ≠ C := fun p hp => by
      have := (K.muH p hp).2.2.1
      dsimp only at this
      have hne := (K.muH p hp).2.2.2.1
      rw [if_neg hne] at this
      exact ⟨this, hne⟩
    have neC : C ≠ L := c3
    refine ⟨oC', ⟨?_, K.stat, I.ge.trans K.ge, fun b hb => ⟨gn b (I.off b hb).2 (I.off b hb).1, ?_⟩, fun b o e => up b o (fun q => by rw [q, c2] at e; cases e) (I.keep b o e), K.sub, ?_, gn L liveL I.Lg, I.Lk, fun n c hc => ?_, fun n c hc => ⟨?_, (I.cg n c hc).2⟩, I.cap, fun p hp => ?_, ?_⟩, K.ns⟩
    · obtain ⟨x1, t1, e1⟩ := I.same
      obtain ⟨x2, t2, e2⟩ := K.same
      exact ⟨x2, t2, by rw [e2, e1]⟩
    · by_cases q : b = C
      · rw [q]; obtain ⟨_, _, _, e, _⟩ := K.ns; exact alive e
      · have := (I.off b hb).2
        cases e : s.heap.get? b with
        | none => exact absurd e this
        | some o => exact alive (up b o q e)
    · exact I.ns.at' fun o e => up L o (Ne.symm neC) e
    · obtain ⟨o, ho, hd⟩ := I.cell n c hc
      exact ⟨o, up c o (fun q => c4 (n, c) hc q) ho, hd⟩
    · exact gn c (by obtain ⟨_, e, _⟩ := I.cell n c hc; exact alive e) (I.cg n c hc).1
    · have old : ∀ p ∈ (D, oD) :: (nu ++ mu), s'.heap.get? p.1 = some p.2 ∧ g' p.1 = none ∧ B.k p.1 = none ∧ p.1 ≠ L ∧ ∀ q ∈ cs, q.2 ≠ p.1 := fun p hp => by
        have q := I.muH p (.tail _ hp)
        exact ⟨up _ _ (muC p hp) q.1, gn _ (alive q.1) q.2.1, q.2.2⟩
      have new : ∀ p ∈ nu', s'.heap.get? p.1 = some p.2 ∧ g' p.1 = none ∧ B.k p.1 = none ∧ p.1 ≠ L ∧ ∀ q ∈ cs, q.2 ≠ p.1 := fun p hp => by
        have q := K.muH p hp
        have dead := (nuk p hp).1
        refine ⟨q.1, q.2.1, ?_, fun e => liveL (by rw [← e]; exact dead), fun r hr e => ?_⟩
        · cases e : B.k p.1 with
          | none => rfl
          | some o => have := I.keep _ _ e; rw [dead] at this; cases this
        · obtain ⟨_, e', _⟩ := I.cell r.1 r.2 hr
          rw [e, dead] at e'; cases e'
      rcases List.mem_cons.mp hp with rfl | hp
      · exact ⟨hoC', K.Lg, c2, c3, c4⟩
      · rcases List.mem_cons.mp hp with rfl | hp
        · exact old _ (.head _)
        · rcases List.mem_append.mp hp with hp | hp
          · rcases List.mem_append.mp hp with hp | hp
            · exact new p hp
            · exact old p (.tail _ (List.mem_append_left _ hp))
          · exact old p (.tail _ (List.mem_append_right _ hp))
    · have p1 : ((C, oC') :: (D, oD) :: (nu' ++ nu ++ mu)).Perm (nu' ++ ((C, oC') :: (D, oD) :: (nu ++ mu))) := by
        rw [List.append_assoc]
        exact (((List.perm_middle (a := (D, oD)) (l₁ := nu') (l₂ := nu ++ mu)).symm.cons (C, oC'))).trans (List.perm_middle (a := (C, oC')) (l₁ := nu')).symm
      rw [(p1.map (·.1)).nodup_iff, List.map_append, List.nodup_append]
      refine ⟨K.nd, I.nd, fun a ha b hb e => ?_⟩
      obtain ⟨p, hp, rfl⟩ := List.mem_map.mp ha
      rw [← e] at hb
      rcases List.mem_cons.mp hb with hb | hb
      · exact (nuk p hp).2 hb
      · obtain ⟨q, hq, e'⟩ := List.mem_map.mp hb
        have := (I.muH q (.tail _ hq)).1
        rw [e', (nuk p hp).1] at this
        cases this
theorem IF.newNs (I : IF B g mu L m cs cm s) {h' : Heap} {t : Nat} {o : Obj} (hf : o.isFreed = false) (hn : h'.Ns s.heap.objs.size mC) (hs : Heap.SameBut s.heap.objs.size (s.heap.push o) h') :
    ∃ oC, IF B g ((s.heap.objs.size, oC) :: mu) L m cs cm { s with heap := h', toks := t } := by
  obtain ⟨oC, _, _, ho, _⟩ := id hn
  exact ⟨oC, (I.newMu (t := t) (o := o) hf).turn ho hs⟩
end

noncomputable def CSrc (prog : Program) (w : World) (A : Around) (target : Expr) (B : Base) (L : Addr) (cs : List (Str × Addr)) (it : Value) (n : Nat) (P : Nat → Value → Heap → Prop) (i : Nat) (g : Vw) (nu mu : List (Addr × Obj)) (m cm : Str → Option Value) (C D : Addr) (oD : Obj) (mC : Str → Option Value) (s : Shared) : Prop :=
  ∃ oC, SrcAt prog w A target B L cs it n P i g ((C, oC) :: (D, oD) :: (nu ++ mu)) m cm s ∧ s.heap.Ns C mC

section
variable {prog : Program} {w : World} {A : Around} {E : Value → Shared → Prop} {s : Shared} {env : Env}
variable {B : Base} {g g' : Vw} {mu nu own : List (Addr × Obj)} {L C D : Addr} {oD : Obj} {m mC : Str → Option Value} {cs : List (Str × Addr)} {cm : Str → Option Value}

theorem cs_loop {e target iter : Expr} {ifs : List Expr} {d : Nat} {it acc : Value} {emit : Sem Unit} {R : Result → Shared → Prop} {n : Nat} {P : Nat → Value → Heap → Prop}
    (hu : A.under (.compLoop e d it acc env) = A) (hd : (model prog w).den (.compLoop e d it acc env) = (compTurn e d it acc env).onRaise (fun x => do noteFrame x env; theTreesLotGoes x))
    (ht : compTurn e d it acc env = lastTurn target iter ifs (again (.compLoop e d it acc env)) it env emit)
    (J : Nat → Vw → List (Addr × Obj) → Obj → (Str → Option Value) → Prop)
    (X : CSrc prog w A target B L cs it n P 0 g nu mu m cm C D oD mC s) (h0 : J 0 g nu oD mC)
    (turn : ∀ B' g nu oD mC s i v, Pin B B' g L cs → i < n → P i v s.heap → J i g nu oD mC → CS B' g nu mu L m cs cm C D oD mC s →
      wpAny (model prog w) A (assign target env v) (fun _ s₂ => wpAny (model prog w) A (testsOf ifs env) (fun ok s₃ =>
        if ok = true then wpAny (model prog w) A emit (fun _ s₄ => E4 fun g' nu' oD' mC' => (CS B' g' nu' mu L m cs cm C D oD' mC' s₄) ∧ (J (i + 1) g' nu' oD' mC')) NoE s₃
        else E4 fun g' nu' oD' mC' => (CS B' g' nu' mu L m cs cm C D oD' mC' s₃) ∧ (J (i + 1) g' nu' oD' mC')) NoE s₂) NoE s)
    (hend : ∀ g nu oD mC s, CS B g nu mu L m cs cm C D oD mC s → J n g nu oD mC → R (.ok .next) s) :
    codeAny (model prog w) A (.compLoop e d it acc env) R s := by
  refine compLoop_emit (R := R) hu hd ht (fun k s' => E5 fun i g nu oD mC => C4 (CSrc prog w A target B L cs it n P i g nu mu m cm C D oD mC s') (J i g nu oD mC) (i ≤ n) (k = n + 1 - i)) ?_ (n + 1) ⟨0, g, nu, oD, mC, X, h0, Nat.zero_le _, rfl⟩
  clear X h0
  rintro k s ⟨i, g, nu, oD, mC, ⟨oC, X, hC⟩, hJ, hi, rfl⟩
  by_cases hlt : i < n
  · have key := src_item (Q := fun v s₁' => wpAny (model prog w) A (assign target env v) (fun _ s₂ => wpAny (model prog w) A (testsOf ifs env) (fun ok s₃ =>
        if ok = true then wpAny (model prog w) A emit (fun _ s₅ => ∃ k, k < n + 1 - i ∧ E5 fun i g nu oD mC => C4 (CSrc prog w A target B L cs it n P i g nu mu m cm C D oD mC s₅) (J i g nu oD mC) (i ≤ n) (k = n + 1 - i)) NoE s₃
        else ∃ k, k < n + 1 - i ∧ E5 fun i g nu oD mC => C4 (CSrc prog w A target B L cs it n P i g nu mu m cm C D oD mC s₃) (J i g nu oD mC) (i ≤ n) (k = n + 1 - i)) NoE s₂) NoE s₁') X hlt fun v s' B' hP hp I up => ?_
    · refine wpAny_mono key (fun r s₁ h₁ => ?_) fun _ _ q => q.elim
      cases r with
      | none => exact h₁.elim
      | some v => exact h₁
    · have hC' : s'.heap.Ns C mC := by
        have e1 := (I.muH (C, oC) (.head _)).1
        obtain ⟨I', fp, wr, St, own, rfl, S, st, hw, IF₀, hfp, hof⟩ := X
        have e0 := (IF₀.muH (C, oC) (List.mem_append_right _ (.head _))).1
        exact hC.at' fun o e => by rw [e0] at e; cases e; exact e1
      have fin : ∀ s₄, (E4 fun g' nu' oD' mC' => (CS B' g' nu' mu L m cs cm C D oD' mC' s₄) ∧ (J (i + 1) g' nu' oD' mC')) → ∃ k, k < n + 1 - i ∧ E5 fun i g nu oD mC => C4 (CSrc prog w A target B L cs it n P i g nu mu m cm C D oD mC s₄) (J i g nu oD mC) (i ≤ n) (k = n + 1 - i) := by
        rintro s₄ ⟨g', nu', oD', mC', ⟨oC', K, hK⟩, hJ'⟩
        exact ⟨n + 1 - (i + 1), by lia, i + 1, g', nu', oD', mC', ⟨oC', up K, hK⟩, hJ', hlt, rfl⟩
      refine wpAny_mono (turn B' g nu oD mC s' i v hp hlt hP hJ ⟨oC, I, hC'⟩) (fun _ s₂ h₂ => wpAny_mono h₂ (fun ok s₃ h₃ => ?_) fun _ _ q => q.elim) fun _ _ q => q.elim
      cases ok with
      | false => exact fin _ h₃
      | true => exact wpAny_mono h₃ (fun _ s₄ h₄ => fin _ h₄) fun _ _ q => q.elim
  · obtain rfl : i = n := by lia
    obtain ⟨I', fp, wr, St, own, e0, S, st, hw, IF₀, hfp, hof⟩ := id X
    have e0 := (IF₀.muH (C, oC) (List.mem_append_right _ (.head _))).1
    refine wpAny_mono (src_done X fun s' I => hend g nu oD mC s' ⟨oC, I, hC.at' fun o e => ?_⟩ hJ) (fun r s₁ h₁ => ?_) fun _ _ q => q.elim
    · rw [e0] at e; cases e; exact (I.muH (C, oC) (.head _)).1
    · cases r with
      | none => exact h₁
      | some v => exact h₁.elim

/-- the frame of a comprehension is made -/
theorem comp_frame {e target iter : Expr} {ifs : List Expr} {scope : Scope} {cl : List (Str × Addr)} {newAcc : Sem Value} {it : Value} {n : Nat} {P : Nat → Value → Heap → Prop} {RR : Value → Addr → Result → Shared → Prop} (oD : Obj) (hfD : oD.isFreed = false)
    (hacc : ∀ (s : Shared) (Q : Value → Shared → Prop), Q (.ref s.heap.objs.size) { s with heap := s.heap.push oD } → wpAny (model prog w) A newAcc Q NoE s)
    (hcell : ∀ y ∈ scope.names, y.2 ≠ .cell) (hkind : scope.kind = .function)
    (hu : ∀ it acc C, A.under (.compStart e 0 it acc (compEnvC scope cl C env)) = A) (hd : ∀ it acc C, (model prog w).den (.compStart e 0 it acc (compEnvC scope cl C env)) = (compStart e 0 it acc (compEnvC scope cl C env)).onRaise (fun x => do noteFrame x (compEnvC scope cl C env); standAt theWindowsPlace))
    (hc : (clausesOf e)[0]? = some ⟨target, iter, ifs, 0⟩)
    (X : SrcAt prog w A target B L cs it n P 0 g mu m cm s)
    (h : ∀ C D s₄, ¬ B.off C → ¬ B.off D → CSrc prog w A target B L cs it n P 0 g [] mu m cm C D oD (fun _ => none) s₄ → codeAny (model prog w) A (.compLoop e 0 it (.ref D) (compEnvC scope cl C env)) (RR (.ref D) C) s₄) :
    wpAny (model prog w) A newAcc (fun acc s₃ => wpAny (model prog w) A (newFunctionEnv scope env.globals cl [] env.qual none .none (some env)) (fun cenv s₄ =>
      codeAny (model prog w) A (.compStart e 0 it acc { cenv with scope := relabel scope env }) (RR acc cenv.locals) s₄) NoE s₃) NoE s := by
  obtain ⟨I, fp, wr, St, own, rfl, S, st, hw, IF₀, hfp, hof⟩ := X
  refine hacc s _ ?_
  have IFD := IF₀.newMu (t := s.toks) hfD
  have kD : ∀ b o, s.heap.get? b = some o → (s.heap.push oD).get? b = some o := fun b o e => Heap.get?_push_of_some _ e
  refine wpAny_newFunctionEnv hcell (by intro y hy; simp at hy) (fun h₁ hns₁ hsb₁ => ?_) hkind
  dsimp only at hns₁ hsb₁ ⊢
  obtain ⟨oC, IFC⟩ := IFD.newNs (t := s.toks + ([] : List (Str × Value)).length) (by rfl) hns₁ hsb₁
  have hcn := IFD.newOff
  have hdn := IF₀.newOff
  have kC : ∀ b o, s.heap.get? b = some o → h₁.get? b = some o := fun b o e => hsb₁.extBut b o (fun q => by
    have := Heap.lt_size e
    rw [q, Heap.size_push] at this
    exact absurd this (Nat.not_lt.mpr (Nat.le_succ _))) (Heap.get?_push_of_some _ (kD b o e))
  generalize (s.heap.push oD).objs.size = C at *
  generalize s.heap.objs.size = D at *
  have p1 : ((C, oC) :: (D, oD) :: (own ++ mu)).Perm (own ++ ((C, oC) :: (D, oD) :: ([] ++ mu))) :=
    (((List.perm_middle (a := (D, oD)) (l₁ := own) (l₂ := mu)).symm.cons (C, oC))).trans (List.perm_middle (a := (C, oC)) (l₁ := own)).symm
  have XX : CSrc prog w A target B L cs (.ref I) n P 0 g [] mu m cm C D oD (fun _ => none) { s with heap := h₁, toks := s.toks + ([] : List (Str × Value)).length } :=
    ⟨oC, ⟨I, fp, wr, St, own, rfl, S, S.frame _ _ _ st fun b _ o e => kC b o e, hw, IFC.perm p1, hfp, hof⟩, by simpa using hns₁⟩
  have hgo := h C D _ hcn hdn XX
  refine compStart_any (hu _ _ _) (hd _ _ _) hc hgo ?_
  exact S.self 0 _ _ (S.frame _ _ _ st fun b _ o e => kC b o e) hgo
end
end Mine
set_option Elab.async false
set_option maxRecDepth 100000
namespace Mine
open PySem PySem.W PyProof.Rows PySem.Calls

section
variable {B : Base} {g g' : Vw} {mu nu own : List (Addr × Obj)} {L C D : Addr} {oD : Obj} {m mC : Str → Option Value} {cs : List (Str × Addr)} {cm : Str → Option Value} {s s' : Shared}
theorem CS.turnD (X : CS B g nu mu L m cs cm C D oD mC s) {h' : Heap} {t : Nat} {oD' : Obj} (ho : h'.get? D = some oD') (hs : Heap.SameBut D s.heap h') : CS B g nu mu L m cs cm C D oD' mC { s with heap := h', toks := t } := by
  obtain ⟨oC, I, hC⟩ := X
  have nd := I.nd
  rw [List.map_cons, List.nodup_cons] at nd
  have hne : C ≠ D := fun e => nd.1 (by rw [List.map_cons]; exact e ▸ .head _)
  exact ⟨oC, ((I.perm (.swap ..)).turn (t := t) ho hs).perm (.swap ..), hC.sameBut hs hne⟩
theorem CS.headD (X : CS B g nu mu L m cs cm C D oD mC s) : s.heap.get? D = some oD := by
  obtain ⟨oC, I, hC⟩ := X
  exact (I.muH _ (.tail _ (.head _))).1
theorem CS.mono {B' : Base} (X : CS B' g nu mu L m cs cm C D oD mC s) (P : Pin B B' g' L cs) : CS B g nu mu L m cs cm C D oD mC s := by
  obtain ⟨oC, I, hC⟩ := X
  exact ⟨oC, P.un I, hC⟩
theorem Inn.pin {B' B'' : Base} {g₀ : Vw} (X : Inn B' B'' g cs cm mu) (P : Pin B B' g₀ L cs) : Inn B B'' g cs cm mu := ⟨X.T.trans P.T, X.g, fun b o e => X.k b o (P.k b o e), X.cell, X.mu, fun b hb => X.off b (P.off b hb)⟩
end

section
variable {prog : Program} {w : World} {A : Around} {E : Value → Shared → Prop} {s : Shared} {env : Env}
variable {B : Base} {g g' : Vw} {mu nu own : List (Addr × Obj)} {L C D : Addr} {oD : Obj} {m mC : Str → Option Value} {cs : List (Str × Addr)} {cm : Str → Option Value}

/-- what is asked of a list comprehension with one clause, its source at hand -/
noncomputable def CompOK (prog : Program) (w : World) (A : Around) (env : Env) (target : Expr) (ifs : List Expr) (elt : Expr) (scope : Scope) (cl : List (Str × Addr)) (B : Base) (L : Addr) (cs : List (Str × Addr)) (m : Str → Option Value) (mm : Addr → Str → Option Value) (cm : Str → Option Value) (mu : List (Addr × Obj)) (K : Addr → Shared → Prop) (it : Value) (s : Shared) : Prop :=
  E4 fun (n : Nat) (P : Nat → Value → Heap → Prop) (g : Vw) (J : Nat → Vw → List (Addr × Obj) → List Value → Prop) => C5 (n ≤ 100000) (SrcAt prog w A target B L cs it n P 0 g mu m cm s) (J 0 g [] []) (∀ B' C g nu ys mC s i v, Inn B B' g cs cm (nu ++ mu) → i < n → P i v s.heap → J i g nu ys → IF B' g [] C mC [] (fun _ => none) s → wpAny (model prog w) A (assign target (compEnvC scope cl C env) v) (fun _ s₂ => wpAny (model prog w) A (testsOf ifs (compEnvC scope cl C env)) (fun ok s₃ => if ok = true then wpAny (model prog w) A (eval elt (compEnvC scope cl C env)) (fun y s₄ => E3 fun g' nu' mC' => (IF B' g' nu' C mC' [] (fun _ => none) s₄) ∧ (J (i + 1) g' (nu' ++ nu) (ys ++ [y]))) NoE s₃ else E3 fun g' nu' mC' => (IF B' g' nu' C mC' [] (fun _ => none) s₃) ∧ (J (i + 1) g' (nu' ++ nu) ys)) NoE s₂) NoE s) (∀ D g nu ys k s, IF B g ((D, lo ys k) :: (nu ++ mu)) L (mm D) cs cm s → ¬ B.off D → J n g nu ys → K D s)

theorem comp_list_core {elt target iter : Expr} {ifs : List Expr} {scope : Scope} {pos : Pos} {cl : List (Str × Addr)} {it : Value} {n : Nat} {P : Nat → Value → Heap → Prop} {RR : Value → Addr → Result → Shared → Prop}
    (J : Nat → Vw → List (Addr × Obj) → List Value → Prop) (hn : n ≤ 100000)
    (hcell : ∀ y ∈ scope.names, y.2 ≠ .cell) (hkind : scope.kind = .function)
    (X : SrcAt prog w A target B L cs it n P 0 g mu m cm s) (h0 : J 0 g [] [])
    (turn : ∀ B' C g nu ys mC s i v, Inn B B' g cs cm (nu ++ mu) → i < n → P i v s.heap → J i g nu ys → IF B' g [] C mC [] (fun _ => none) s →
      wpAny (model prog w) A (assign target (compEnvC scope cl C env) v) (fun _ s₂ => wpAny (model prog w) A (testsOf ifs (compEnvC scope cl C env)) (fun ok s₃ =>
        if ok = true then wpAny (model prog w) A (eval elt (compEnvC scope cl C env)) (fun y s₄ => E3 fun g' nu' mC' => (IF B' g' nu' C mC' [] (fun _ => none) s₄) ∧ (J (i + 1) g' (nu' ++ nu) (ys ++ [y]))) NoE s₃
        else E3 fun g' nu' mC' => (IF B' g' nu' C mC' [] (fun _ => none) s₃) ∧ (J (i + 1) g' (nu' ++ nu) ys)) NoE s₂) NoE s)
    (hend : ∀ C D g nu ys k mC s, ¬ B.off C → ¬ B.off D → CS B g nu mu L m cs cm C D (lo ys k) mC s → J n g nu ys → RR (.ref D) C (.ok .next) s) :
    wpAny (model prog w) A (newList []) (fun acc s₃ => wpAny (model prog w) A (newFunctionEnv scope env.globals cl [] env.qual none .none (some env)) (fun cenv s₄ =>
      codeAny (model prog w) A (.compStart (.ListComp elt [⟨target, iter, ifs, 0⟩] scope pos) 0 it acc { cenv with scope := relabel scope env }) (RR acc cenv.locals) s₄) NoE s₃) NoE s := by
  refine comp_frame (lo [] 0) rfl (fun s Q h => wpAny_newObj_type h) hcell hkind (fun _ _ _ => rfl) (fun _ _ _ => rfl) rfl X fun C D s₄ hC hD XX => ?_
  refine cs_loop (emit := do let _ ← call (.builtin "list.append") [.ref D, ← eval elt (compEnvC scope cl C env)]) rfl rfl rfl
    (fun i g nu oD _ => ∃ ys k, oD = lo ys k ∧ J i g nu ys ∧ ys.length ≤ i) XX ⟨[], 0, rfl, h0, Nat.le_refl _⟩ ?_ ?_
  · rintro B' g nu oD mC s i v hp hi hP ⟨ys, k, rfl, hJ, hl⟩ CSt
    obtain ⟨B'', inn, I, close⟩ := CSt.open_
    refine wpAny_mono (turn B'' C g nu ys mC s i v (inn.pin hp) hi hP hJ I) (fun _ s₂ h₂ => wpAny_mono h₂ (fun ok s₃ h₃ => ?_) fun _ _ q => q.elim) fun _ _ q => q.elim
    cases ok with
    | false =>
      obtain ⟨g', nu', mC', I', hJ'⟩ := h₃
      exact ⟨g', nu' ++ nu, _, mC', close I', ys, k, rfl, hJ', Nat.le_succ_of_le hl⟩
    | true =>
      refine wpAny_bind (wpAny_mono h₃ (fun y s₄ h₄ => wpAny_bind ?_) fun _ _ q => q.elim)
      obtain ⟨g', nu', mC', I', hJ'⟩ := h₄
      have K := close I'
      refine wpAny_list_append_plain (items := ys.toArray) ⟨k, K.headD⟩ (fun h' hpl hs => wpAny_pure ?_) (by rw [List.size_toArray, sizeLine_eq]; lia)
      obtain ⟨k', hpl⟩ := hpl
      refine ⟨g', nu' ++ nu, lo (ys ++ [y]) k', mC', K.turnD (t := s₄.toks) ?_ hs, ys ++ [y], k', rfl, hJ', by rw [List.length_append, List.length_singleton]; lia⟩
      rw [hpl, List.push_toArray]
  · rintro g nu oD mC s CSt ⟨ys, k, rfl, hJ, hl⟩
    exact hend C D g nu ys k mC s hC hD CSt hJ

theorem sc_cell {scope : Scope} (h : (scope.names.all fun y => y.2 != .cell && (y.2 != .local || scope.names.lookup y.1 == some .local)) = true) : (∀ y ∈ scope.names, y.2 ≠ .cell) ∧ ∀ y ∈ scope.names, y.2 = .local → scope.names.lookup y.1 = some .local := by
  rw [List.all_eq_true] at h
  refine ⟨fun y hy e => ?_, fun y hy e => ?_⟩
  · have := h y hy
    rw [e] at this
    simp at this
  · have := h y hy
    rw [e] at this
    simpa using this

theorem r_comp {elt target iter : Expr} {ifs : List Expr} {scope : Scope} {pos : Pos} {cl : List (Str × Addr)} {Q : Value → Shared → Prop}
    (hclos : closureFor scope env = pure cl) (hkind : scope.kind = .function) (hsc : (scope.names.all fun y => y.2 != .cell && (y.2 != .local || scope.names.lookup y.1 == some .local)) = true)
    (h : wpAny (model prog w) A (eval iter env) (fun v s₁ => wpAny (model prog w) A (pyIter v) (fun it s₂ => E6 fun B L cs m cm mu => CompOK prog w A env target ifs elt scope cl B L cs m (fun _ => m) cm mu (fun D s => Q (.ref D) s) it s₂) NoE s₁) NoE s)
    (hs : ∀ x, foldedSetIterable iter env x = pure x := by intro _; rfl) :
    wpAny (model prog w) A (eval (.ListComp elt [⟨target, iter, ifs, 0⟩] scope pos) env) Q NoE s := by
  obtain ⟨hcell, hnames⟩ := sc_cell hsc
  rw [eval_ListComp]
  refine wpAny_comprehension_free (use := none) rfl hs hclos hkind hnames (wpAny_mono h (fun v s₁ h₁ => wpAny_mono h₁ (fun it s₂ h₂ => ?_) fun _ _ e => e) fun _ _ e => e)
  obtain ⟨B, L, cs, m, cm, mu, n, P, g, J, hn, X, h0, turn, hend⟩ := h₂
  refine comp_list_core (RR := fun acc C r s' => compPost (model prog w) A NoE none Q acc C r s') J hn hcell hkind X h0 turn ?_
  rintro C D g nu ys k mC s hC hD ⟨oC, I, hns⟩ hJ
  refine ⟨mC, hns, fun h' hs' => hend D g nu ys k _ (IF.drop (t := s.toks) (own := [(C, oC)]) I (fun p hp => by rw [List.mem_singleton.mp hp]; exact hC) fun b o hb e => hs'.extBut b o (fun q => hb (by rw [q]; exact .head _)) e) hD hJ⟩

theorem r_assignComp {elt target iter : Expr} {ifs : List Expr} {scope : Scope} {pos : Pos} {cl : List (Str × Addr)} {y : Str} {py spos : Pos} {rest : List Stmt} {Q : Flow → Shared → Prop}
    (hsw : swapsWith (.ListComp elt [⟨target, iter, ifs, 0⟩] scope pos) (some (.Name y py)) spos.line env = pure true)
    (hy : env.kindOf y = some .local) (hek : env.scope.kind = .function)
    (hclos : closureFor scope env = pure cl) (hkind : scope.kind = .function) (hsc : (scope.names.all fun y => y.2 != .cell && (y.2 != .local || scope.names.lookup y.1 == some .local)) = true)
    (h : wpAny (model prog w) A (eval iter env) (fun v s₁ => wpAny (model prog w) A (pyIter v) (fun it s₂ => E5 fun B cs m cm mu => CompOK prog w A env target ifs elt scope cl B env.locals cs m (fun D => upd m y (.ref D)) cm mu (fun _ s => wpAny (model prog w) A (execs rest env) Q NoE s) it s₂) NoE s₁) NoE s)
    (hs : ∀ x, foldedSetIterable iter env x = pure x := by intro _; rfl) :
    wpAny (model prog w) A (execs (.Assign [.Name y py] (.ListComp elt [⟨target, iter, ifs, 0⟩] scope pos) spos :: rest) env) Q NoE s := by
  obtain ⟨hcell, hnames⟩ := sc_cell hsc
  refine wpAny_execs_cons ?_
  rw [exec_Assign_Name_used _ _ _ _ hsw]
  refine wpAny_bind (wpAny_standAt (wpAny_bind ?_))
  show wpAny _ A (do let _ ← comprehension (.ListComp elt [⟨target, iter, ifs, 0⟩] scope pos) scope env _ (newList []) false (eval iter env) (some (assign (.Name y py) env))) _ _ s
  refine wpAny_bind (wpAny_mono (wpAny_comprehension_free (use := some (assign (.Name y py) env)) (Q := fun _ s' => wpAny (model prog w) A (execs rest env) Q NoE s') rfl hs hclos hkind hnames
    (wpAny_mono h (fun xv s₁ h₁ => wpAny_mono h₁ (fun it s₂ h₂ => ?_) fun _ _ e => e) fun _ _ e => e)) (fun _ s' hq => wpAny_pure (wpAny_pure hq)) fun _ _ e => e)
  obtain ⟨B, cs, m, cm, mu, n, P, g, J, hn, X, h0, turn, hend⟩ := h₂
  refine comp_list_core (RR := fun acc C r s' => compPost (model prog w) A NoE (some (assign (.Name y py) env)) (fun _ s' => wpAny (model prog w) A (execs rest env) Q NoE s') acc C r s') J hn hcell hkind X h0 turn ?_
  rintro C D g nu ys k mC s hC hD ⟨oC, I, hns⟩ hJ
  have e0 := (I.muH (C, oC) (.head _)).1
  show wpAny _ A (assign (.Name y py) env (.ref D)) _ _ _
  refine a_name (r_storeLocal I hek hy fun s'' I'' => ?_)
  have e1 := (I''.muH (C, oC) (.head _)).1
  refine ⟨mC, hns.at' fun o e => (by rw [e0] at e; cases e; exact e1), fun h' hs' => hend D g nu ys k _ (IF.drop (t := s''.toks) (own := [(C, oC)]) I'' (fun p hp => by rw [List.mem_singleton.mp hp]; exact hC) fun b o hb e => hs'.extBut b o (fun q => hb (by rw [q]; exact .head _)) e) hD hJ⟩

/-- the pure case: each item is told, what is made of it stays -/
theorem CompOK.pure {α β : Type} {target elt : Expr} {ifs : List Expr} {scope : Scope} {cl : List (Str × Addr)} {mm : Addr → Str → Option Value} {K : Addr → Shared → Prop} {it : Value} {P : Nat → Value → Heap → Prop} (xs : List α) (p : α → Bool) (f : α → β) (Pv : Vw → Value → β → Prop)
    (hPv : ∀ g g' v b, Le g g' → Pv g v b → Pv g' v b) (hn : xs.length ≤ 100000) (X : SrcAt prog w A target B L cs it xs.length P 0 g mu m cm s)
    (turn : ∀ B' C g' mC s i v x, Inn B B' g' cs cm mu → Le g g' → P i v s.heap → xs[i]? = some x → IF B' g' [] C mC [] (fun _ => none) s →
      wpAny (model prog w) A (assign target (compEnvC scope cl C env) v) (fun _ s₂ => wpAny (model prog w) A (testsOf ifs (compEnvC scope cl C env)) (fun ok s₃ => ok = p x ∧
        if ok = true then wpAny (model prog w) A (eval elt (compEnvC scope cl C env)) (fun y s₄ => E2 fun g' mC' => (IF B' g' [] C mC' [] (fun _ => none) s₄) ∧ (Pv g' y (f x))) NoE s₃
        else E2 fun g' mC' => IF B' g' [] C mC' [] (fun _ => none) s₃) NoE s₂) NoE s)
    (hend : ∀ D g' ys k s, Le g g' → IF B g' ((D, lo ys k) :: mu) L (mm D) cs cm s → ¬ B.off D → All₂ (Pv g') ys ((xs.filter p).map f) → K D s) :
    CompOK prog w A env target ifs elt scope cl B L cs m mm cm mu K it s := by
  refine ⟨xs.length, P, g, fun i g' nu ys => nu = [] ∧ Le g g' ∧ All₂ (Pv g') ys (((xs.take i).filter p).map f), hn, X, ⟨rfl, Le.refl g, .nil⟩, ?_, ?_⟩
  · rintro B' C g' nu ys mC s i v inn hi hP ⟨rfl, hg, hys⟩ I
    have hx : xs[i]? = some xs[i] := List.getElem?_eq_getElem hi
    have step : ((xs.take (i + 1)).filter p).map f = ((xs.take i).filter p).map f ++ (if p xs[i] then [f xs[i]] else []) := by
      rw [List.take_add_one, hx, Option.toList_some, List.filter_append, List.map_append]
      cases hp : p xs[i] <;> simp [hp]
    refine wpAny_mono (turn B' C g' mC s i v _ inn hg hP hx I) (fun _ s₂ h₂ => wpAny_mono h₂ (fun ok s₃ h₃ => ?_) fun _ _ q => q.elim) fun _ _ q => q.elim
    obtain ⟨hok, h₃⟩ := h₃
    cases ok with
    | false =>
      obtain ⟨g'', mC', I'⟩ := h₃
      have le : Le g' g'' := inn.g ▸ I'.ge
      refine ⟨g'', [], mC', I', rfl, hg.trans le, ?_⟩
      rw [step, ← hok]
      simpa using hys.mono fun _ _ q => hPv _ _ _ _ le q
    | true =>
      refine wpAny_mono h₃ (fun y s₄ h₄ => ?_) fun _ _ q => q.elim
      obtain ⟨g'', mC', I', hv⟩ := h₄
      have le : Le g' g'' := inn.g ▸ I'.ge
      refine ⟨g'', [], mC', I', rfl, hg.trans le, ?_⟩
      rw [step, ← hok]
      exact (hys.mono fun _ _ q => hPv _ _ _ _ le q).append (.cons hv .nil)
  · rintro D g' nu ys k s I hD ⟨rfl, hg, hys⟩
    rw [List.take_length] at hys
    exact hend D g' ys k s hg I hD hys
theorem CompOK.map {α β : Type} {target elt : Expr} {scope : Scope} {cl : List (Str × Addr)} {mm : Addr → Str → Option Value} {K : Addr → Shared → Prop} {it : Value} {P : Nat → Value → Heap → Prop} (xs : List α) (f : α → β) (Pv : Vw → Value → β → Prop)
    (hPv : ∀ g g' v b, Le g g' → Pv g v b → Pv g' v b) (hn : xs.length ≤ 100000) (X : SrcAt prog w A target B L cs it xs.length P 0 g mu m cm s)
    (turn : ∀ B' C g' mC s i v x, Inn B B' g' cs cm mu → Le g g' → P i v s.heap → xs[i]? = some x → IF B' g' [] C mC [] (fun _ => none) s →
      wpAny (model prog w) A (assign target (compEnvC scope cl C env) v) (fun _ s₂ =>
        wpAny (model prog w) A (eval elt (compEnvC scope cl C env)) (fun y s₄ => E2 fun g' mC' => (IF B' g' [] C mC' [] (fun _ => none) s₄) ∧ (Pv g' y (f x))) NoE s₂) NoE s)
    (hend : ∀ D g' ys k s, Le g g' → IF B g' ((D, lo ys k) :: mu) L (mm D) cs cm s → ¬ B.off D → All₂ (Pv g') ys (xs.map f) → K D s) :
    CompOK prog w A env target [] elt scope cl B L cs m mm cm mu K it s := by
  refine CompOK.pure xs (fun _ => true) f Pv hPv hn X (fun B' C g' mC s i v x a b c d e => wpAny_mono (turn B' C g' mC s i v x a b c d e) (fun _ s₂ h₂ => tests0 ⟨rfl, ?_⟩) fun _ _ q => q.elim) fun D g' ys k s a b c d => hend D g' ys k s a b c ?_
  · rw [if_pos rfl]; exact h₂
  · rw [List.filter_eq_self.mpr (fun _ _ => rfl)] at d; exact d
end
end Mine
set_option Elab.async false
set_option maxRecDepth 100000
set_option linter.unusedVariables false
namespace Mine
open PySem PySem.W PyProof.Rows PySem.Calls

section
variable {prog : Program} {w : World} {A : Around} {E : Value → Shared → Prop} {s : Shared} {env : Env}
variable {B : Base} {g : Vw} {mu : List (Addr × Obj)} {L : Addr} {m : Str → Option Value} {cs : List (Str × Addr)} {cm : Str → Option Value} {S : Heap} {mg mb : Str → Option Value}

theorem Inn.rd {B' : Base} {g' g'' : Vw} {C : Addr} {mC cm' : Str → Option Value} {cs' : List (Str × Addr)} {nu : List (Addr × Obj)} {x : Str} {c : Addr} {v : Value} (X : Inn B B' g' cs cm mu) (I : IF B' g'' nu C mC cs' cm' s) (hc : (x, c) ∈ cs) (hv : cm x = some v) : s.heap.IsCell c (some v) :=
  hv ▸ X.cell x c hc s I.keep
theorem IF.rd {x : Str} {c : Addr} {v : Value} (I : IF B g mu L m cs cm s) (hc : (x, c) ∈ cs) (hv : cm x = some v) : s.heap.IsCell c (some v) := hv ▸ I.cell x c hc

theorem r_storeC {x : Str} {c : Addr} {v : Value} {Q : Unit → Shared → Prop} (I : IF B g mu L m cs cm s) (hn : (cs.map (·.1)).Nodup) (hk : env.scope.kind = .function) (hl : env.kindOf x = some .cell) (he : env.cells.lookup x = some c) (hc : (x, c) ∈ cs)
    (h : ∀ s', IF B g mu L m cs (upd cm x v) s' → Q () s') : wpAny (model prog w) A (storeName env x v) Q E s := by
  refine r_storeCell I hk hl he hc (fun n' c' hc' => ⟨fun e => ?_, fun e => ?_⟩) h
  · subst e
    have e1 := lookup_of_mem hn hc
    have e2 := lookup_of_mem hn hc'
    rw [e1] at e2; exact (Option.some.inj e2).symm
  · subst e
    have key : ∀ {l : List (Str × Addr)}, l.Pairwise (fun x y => x.2 ≠ y.2) → ∀ {a b : Str × Addr}, a ∈ l → b ∈ l → a.2 = b.2 → a = b := by
      intro l hl
      induction hl with
      | nil => intro a b ha; cases ha
      | cons hx _ ih =>
        intro a b ha hb e
        rcases List.mem_cons.mp ha with ha' | ha'
        · rcases List.mem_cons.mp hb with hb' | hb'
          · rw [ha', hb']
          · rw [ha'] at e; exact absurd e (hx _ hb')
        · rcases List.mem_cons.mp hb with hb' | hb'
          · rw [hb'] at e; exact absurd e.symm (hx _ ha')
          · exact ih ha' hb' e
    exact congrArg Prod.fst (key I.cap hc' hc rfl)

theorem r_callT {x : Str} {p pos : Pos} {e : Expr} {rest : List Expr} {T : String} {Q : Value → Shared → Prop} (I : IF B g mu L m cs cm s) (ST : Stat S mg mb) (hT : B.T = S.get?) (hk : env.scope.kind = .function) (hg : env.globals = mainGlobals) (hb : env.builtins = builtinsNs) (hl : env.kindOf x = some .globalImplicit)
    (hm : mg x = none) (hv : bootBuiltins x = some (.type T)) (hn : x ≠ "__name__") (hd : (x == ("__debug__" : Str)) = false) (he : starEach (e :: rest) env = (false, eval e env) :: starEach rest env) (hkw : backToKw pos (keywordEach [] env) = []) (hpl : (backTo pos (starEach (e :: rest) env)).any (·.1) = false)
    (h : wpAny (model prog w) A (spliced (backTo pos (starEach (e :: rest) env))) (fun vs s₁ => wpAny (model prog w) A (call (.type T) vs) Q E s₁) E s) :
    wpAny (model prog w) A (eval (.Call (.Name x p) (e :: rest) [] pos) env) Q E s := by
  rw [arm_eval_Call_Name', hkw]
  refine wpAny_bind (r_builtin I ST hT hk hg hb hl hm hv hn hd (PySem.callWith_type hpl ?_))
  rw [he] at h ⊢
  exact evalArgs_plain (wpAny_mono h (fun vs s₁ h₁ => by simpa using h₁) fun _ _ q => q)

theorem b_len {l : Addr} {vs : List Value} {n : Nat} {Q : Value → Shared → Prop} (I : IF B g mu L m cs cm s) (hl : s.heap.get? l = some (lo vs n)) (hn : vs.length ≤ 100000) (h : ∀ t s', IF B g mu L m cs cm s' → Q (.int (vs.length : Int) t) s') : wpAny (model prog w) A (call (.builtin "len") [.ref l]) Q E s :=
  call_len_list (isList_lo hl) (by rw [List.size_toArray]; lia) (by rw [List.size_toArray]; exact h _ _ (I.tok _))
noncomputable def RangeV (prog : Program) (w : World) (A : Around) (B : Base) (L : Addr) (cs : List (Str × Addr)) (a n : Nat) (g : Vw) (mu : List (Addr × Obj)) (m cm : Str → Option Value) (v : Value) (s : Shared) : Prop :=
  ∀ (target : Expr) (E Q : Value → Shared → Prop), (∀ it s', SrcAt prog w A target B L cs it n (fun i v _ => ∃ t, v = .int ((a + i : Nat) : Int) t) 0 g mu m cm s' → Q it s') → wpAny (model prog w) A (pyIter v) Q E s
theorem b_range1 {n : Nat} {t : Tok} {Q : Value → Shared → Prop} (I : IF B g mu L m cs cm s) (hh : A.handled = none) (hn : n ≤ 100000) (h : ∀ v s', RangeV prog w A B L cs 0 n g mu m cm v s' → Q v s') :
    wpAny (model prog w) A (call (.type "range") [.int (n : Int) t]) Q E s := by
  refine call_range_1 (h _ _ fun target E Q' hQ => ?_)
  have I1 := I.kept (t := s.toks + 1 + 1) (h' := s.heap.push { cls := .type "range", data := .fields #[.int 0 s.toks, .int n t, .int 1 (s.toks + 1)] }) fun b o e => Heap.get?_push_of_some _ e
  refine wpAny_pyIter_range (IsRange.new ..) (small_one (by lia) (by lia) (by lia) (by lia)) ?_
  have J := I1.newMu (t := s.toks + 1 + 1) (o := { cls := .type "range_iterator", data := .fields #[rawInt 0, rawInt (Builtin.Range.rangeSize 0 n 1), rawInt 1] }) rfl
  have R := Src.range (prog := prog) (w := w) hh target (s.heap.push { cls := .type "range", data := .fields #[.int 0 s.toks, .int n t, .int 1 (s.toks + 1)] }).objs.size 0 1 n
  have e : Builtin.Range.rangeSize 0 n 1 = (n : Int) := by rw [rangeSize_one]; split <;> lia
  refine hQ _ _ ⟨_, _, _, _, [(_, _)], rfl, ⟨R.sub, R.live, R.frame, fun i s Q hi st h => R.item i s Q hi st fun v h' tk hP => h v h' tk (by simpa using hP), R.done, R.self⟩, ?_, rfl, J, fun b hb => .inl hb, fun p hp => by rw [List.mem_singleton.mp hp]; exact I1.newOff⟩
  show IsRangeIter (Heap.push _ _) _ _ _ _
  have q := Heap.get?_push_size (s.heap.push { cls := .type "range", data := .fields #[.int 0 s.toks, .int n t, .int 1 (s.toks + 1)] }) (o := { cls := .type "range_iterator", data := .fields #[rawInt 0, rawInt (Builtin.Range.rangeSize 0 n 1), rawInt 1] }) rfl
  rw [e] at q ⊢
  simpa [IsRangeIter] using q
theorem b_range2 {a n : Nat} {t u : Tok} {Q : Value → Shared → Prop} (I : IF B g mu L m cs cm s) (hh : A.handled = none) (hn : n ≤ 100000) (ha : a ≤ n) (h : ∀ v s', RangeV prog w A B L cs a (n - a) g mu m cm v s' → Q v s') :
    wpAny (model prog w) A (call (.type "range") [.int (a : Int) t, .int (n : Int) u]) Q E s := by
  refine call_range_2 (h _ _ fun target E Q' hQ => ?_)
  have I1 := I.kept (t := s.toks + 1) (h' := s.heap.push { cls := .type "range", data := .fields #[.int a t, .int n u, .int 1 s.toks] }) fun b o e => Heap.get?_push_of_some _ e
  refine wpAny_pyIter_range (IsRange.new ..) (small_one (by lia) (by lia) (by lia) (by lia)) ?_
  have J := I1.newMu (t := s.toks + 1) (o := { cls := .type "range_iterator", data := .fields #[rawInt a, rawInt (Builtin.Range.rangeSize a n 1), rawInt 1] }) rfl
  have R := Src.range (prog := prog) (w := w) hh target (s.heap.push { cls := .type "range", data := .fields #[.int a t, .int n u, .int 1 s.toks] }).objs.size a 1 (n - a)
  have e : Builtin.Range.rangeSize a n 1 = ((n - a : Nat) : Int) := by rw [rangeSize_one]; split <;> lia
  refine hQ _ _ ⟨_, _, _, _, [(_, _)], rfl, ⟨R.sub, R.live, R.frame, fun i s Q hi st h => R.item i s Q hi st fun v h' tk hP => h v h' tk (by simpa using hP), R.done, R.self⟩, ?_, rfl, J, fun b hb => .inl hb, fun p hp => by rw [List.mem_singleton.mp hp]; exact I1.newOff⟩
  show IsRangeIter (Heap.push _ _) _ _ _ _
  have q := Heap.get?_push_size (s.heap.push { cls := .type "range", data := .fields #[.int a t, .int n u, .int 1 s.toks] }) (o := { cls := .type "range_iterator", data := .fields #[rawInt a, rawInt (Builtin.Range.rangeSize a n 1), rawInt 1] }) rfl
  rw [e] at q ⊢
  simpa [IsRangeIter] using q
theorem b_abs {a : Int} {t : Tok} {Q : Value → Shared → Prop} (I : IF B g mu L m cs cm s) (h : ∀ t s', IF B g mu L m cs cm s' → Q (.int (a.natAbs : Int) t) s') : wpAny (model prog w) A (call (.builtin "abs") [.int a t]) Q E s := by
  refine call_abs_int fun u tk => ?_
  have e : (if a < 0 then -a else a) = (a.natAbs : Int) := by split <;> lia
  rw [e]
  exact h _ _ (I.tok _)
theorem intsAre {vs : List Value} {ns : List Int} (h : All₂ IntV vs ns) : IntsAre vs ns := by
  induction h with
  | nil => exact .nil
  | cons h _ ih => obtain ⟨tk, rfl⟩ := h; exact .cons _ _ ih
theorem b_sum {l : Addr} {vs : List Value} {k : Nat} {ns : List Int} {Q : Value → Shared → Prop} (I : IF B g mu L m cs cm s) (hh : A.handled = none) (hl : s.heap.get? l = some (lo vs k)) (hi : All₂ IntV vs ns) (h : ∀ t s', IF B g mu L m cs cm s' → Q (.int ns.sum t) s') : wpAny (model prog w) A (call (.builtin "sum") [.ref l]) Q E s :=
  LSm.sum_ints I.fr (news_all s L) hh (isList_lo hl) (intsAre hi) fun h' tk t' F N => h _ _ (I.back (new := []) F N)

/-! ### slices of lists -/
theorem slice_s1s {e e' : Expr} {p : Pos} {Q : Value → Shared → Prop}
    (h : wpAny (model prog w) A (eval e env) (fun l s₁ => wpAny (model prog w) A (eval e' env) (fun st s₂ => Q (.ref s₂.heap.objs.size) { s₂ with heap := s₂.heap.push { cls := .type "slice", data := .fields #[l, .none, st] } }) E s₁) E s) :
    wpAny (model prog w) A (eval (.Slice (some e) none (some e') p) env) Q E s := by
  refine wpAny_Slice ?_
  rw [evalPart_some]
  refine wpAny_mono h (fun v s₂ h₂ => ?_) fun _ _ q => q
  rw [evalPart_none]
  refine wpAny_pure ?_
  rw [evalPart_some]
  exact wpAny_mono h₂ (fun _ _ q => q) fun _ _ q => q
theorem slice_s1 {e : Expr} {p : Pos} {Q : Value → Shared → Prop}
    (h : wpAny (model prog w) A (eval e env) (fun st s₂ => Q (.ref s₂.heap.objs.size) { s₂ with heap := s₂.heap.push { cls := .type "slice", data := .fields #[.none, .none, st] } }) E s) :
    wpAny (model prog w) A (eval (.Slice none none (some e) p) env) Q E s := by
  refine wpAny_Slice ?_
  rw [evalPart_none]
  refine wpAny_pure ?_
  refine wpAny_pure ?_
  rw [evalPart_some]
  exact wpAny_mono h (fun _ _ q => q) fun _ _ q => q

/-- a slice of a list, whatever its parts -/
theorem t_listSlice {value slice : Expr} {D : Addr} {vs : List Value} {n : Nat} {vl vu vst : Value} {lo' hi' st : Option Int} {Q : Value → Shared → Prop} (I : IF B g mu L m cs cm s) (hl : s.heap.get? D = some (lo vs n)) (hn : vs.length ≤ 100000)
    (pl : IsPart vl lo') (pu : IsPart vu hi') (ps : IsPart vst st) (h0 : st ≠ some 0)
    (h : ∀ D' g' s', IF B g' mu L m cs cm s' → Le g g' → g' D' = some (lo (slicePick vs.toArray lo' hi' st).toList 0) → Q (.ref D') s')
    (hs : subscripted slice false (.ref D) (.ref s.heap.objs.size) = operate [.ref s.heap.objs.size, .ref D] (getItem (.ref D) (.ref s.heap.objs.size)) := by with_unfolding_all rfl) :
    wpAny (model prog w) A (subscriptTail value slice (.ref D) (.ref s.heap.objs.size)) Q E { s with heap := s.heap.push { cls := .type "slice", data := .fields #[vl, vu, vst] } } := by
  have hl' := (isList_lo hl).push { cls := .type "slice", data := .fields #[vl, vu, vst] }
  refine tail_any (hl'.typeIs (s := { s with heap := s.heap.push { cls := .type "slice", data := .fields #[vl, vu, vst] } })) slot_list_getitem.lookup ?_ hs
  have I1 := I.slice vl vu vst (t := s.toks)
  have a := After.push (t := s.toks) I1.sub (lo (slicePick vs.toArray lo' hi' st).toList 0)
  refine wpAny_getItem_list_slice hl' (Heap.IsSliceOf.new ..) pl pu ps h0 ?_ (by rw [List.size_toArray, sizeLine_eq]; lia)
  have := h _ _ _ (I1.after a) a.le (put_self ..)
  simpa using this
theorem t_listSliceS {value slice : Expr} {D : Addr} {vs : List Value} {n : Nat} {vl vu vst : Value} {lo' hi' st : Option Int} {Q : Value → Shared → Prop} (I : IF B g mu L m cs cm s) (hl : s.heap.get? D = some (lo vs n)) (hn : vs.length ≤ 100000)
    (pl : IsPart vl lo') (pu : IsPart vu hi') (ps : IsPart vst st) (h0 : st ≠ some 0)
    (h : ∀ D' g' s', IF B g' mu L m cs cm s' → Le g g' → g' D' = some (lo (slicePick vs.toArray lo' hi' st).toList 0) → Q (.ref D') s')
    (hs : subscripted slice false (.ref D) (.ref s.heap.objs.size) = operate [.ref D, .ref s.heap.objs.size] (getItem (.ref D) (.ref s.heap.objs.size)) := by with_unfolding_all rfl) (ht : ∀ r, letTemporaryGo value (.ref D) r = pure () := by intro _; with_unfolding_all rfl) :
    wpAny (model prog w) A (subscriptTail value slice (.ref D) (.ref s.heap.objs.size)) Q E { s with heap := s.heap.push { cls := .type "slice", data := .fields #[vl, vu, vst] } } := by
  have hl' := (isList_lo hl).push { cls := .type "slice", data := .fields #[vl, vu, vst] }
  refine subscriptTail_builtin (hl'.typeIs (s := { s with heap := s.heap.push { cls := .type "slice", data := .fields #[vl, vu, vst] } })) slot_list_getitem.lookup ?_ hs ht
  have I1 := I.slice vl vu vst (t := s.toks)
  have a := After.push (t := s.toks) I1.sub (lo (slicePick vs.toArray lo' hi' st).toList 0)
  refine wpAny_getItem_list_slice hl' (Heap.IsSliceOf.new ..) pl pu ps h0 ?_ (by rw [List.size_toArray, sizeLine_eq]; lia)
  have := h _ _ _ (I1.after a) a.le (put_self ..)
  simpa using this
theorem pick_mem {vs : List Value} {lo' hi' st : Option Int} {v : Value} (h : v ∈ (slicePick vs.toArray lo' hi' st).toList) : v ∈ vs := by
  unfold slicePick at h
  rw [List.mem_filterMap] at h
  obtain ⟨i, _, e⟩ := h
  exact List.mem_of_getElem? (by simpa using e)
theorem ints_of_mem : ∀ {vs : List Value}, (∀ v ∈ vs, ∃ i, IntV v i) → ∃ ns, All₂ IntV vs ns
  | [], _ => ⟨[], .nil⟩
  | v :: r, h => by
    obtain ⟨i, hi⟩ := h v (.head _)
    obtain ⟨ns, hn⟩ := ints_of_mem fun v hv => h v (.tail _ hv)
    exact ⟨i :: ns, .cons hi hn⟩
theorem All₂.memL {α β : Type} {R : α → β → Prop} {as : List α} {bs : List β} (x : All₂ R as bs) : ∀ a ∈ as, ∃ b ∈ bs, R a b := by
  induction x with
  | nil => exact fun a h => nomatch h
  | cons x _ ih =>
    intro a h
    rcases List.mem_cons.mp h with rfl | h
    · exact ⟨_, .head _, x⟩
    · obtain ⟨b, hb, r⟩ := ih a h
      exact ⟨b, .tail _ hb, r⟩
theorem All₂.memR {α β : Type} {R : α → β → Prop} {as : List α} {bs : List β} (x : All₂ R as bs) : ∀ b ∈ bs, ∃ a ∈ as, R a b := by
  induction x with
  | nil => exact fun a h => nomatch h
  | cons x _ ih =>
    intro a h
    rcases List.mem_cons.mp h with rfl | h
    · exact ⟨_, .head _, x⟩
    · obtain ⟨b, hb, r⟩ := ih a h
      exact ⟨b, .tail _ hb, r⟩
theorem All₂.choose {α β γ : Type} {R : α → β → Prop} {as : List α} {cs : List γ} (x : All₂ (fun a _ => ∃ b, R a b) as cs) : ∃ bs : List β, All₂ R as bs := by
  induction x with
  | nil => exact ⟨[], .nil⟩
  | cons h _ ih =>
    obtain ⟨b, hb⟩ := h
    obtain ⟨bs, ht⟩ := ih
    exact ⟨b :: bs, .cons hb ht⟩
theorem All₂.at {α β : Type} {R : α → β → Prop} {as : List α} {bs : List β} (h : All₂ R as bs) {i : Nat} {a : α} {b : β} (ha : as[i]? = some a) (hb : bs[i]? = some b) : R a b := by
  obtain ⟨a', ha', r⟩ := h.get hb
  rw [ha] at ha'
  cases ha'
  exact r
end
end Mine
set_option Elab.async false
set_option maxRecDepth 100000
set_option linter.unusedVariables false
namespace Mine
open PySem PySem.W PyProof.Rows PySem.Calls

/-! ## _law_drawn -/
noncomputable def cores : List Str := [Str.ofString "x", Str.ofString "y", Str.ofString "x\"z", Str.ofString ""]
noncomputable def OkT (x : Trip) : Prop := x.1 ≤ 4 ∧ x.2.2 ≤ 4 ∧ x.2.1 ∈ cores

noncomputable def coreAt (k : Nat) : Str := cores.getD k (Str.ofString "")
noncomputable def tripOf (n : Nat) : Trip := (n % 5, coreAt (n / 25 % 4), n / 5 % 5)
theorem okT_tripOf (n : Nat) : OkT (tripOf n) := by
  have h4 : n / 25 % 4 < 4 := Nat.mod_lt _ (by decide)
  refine ⟨by have := Nat.mod_lt n (show 5 > 0 by decide); show n % 5 ≤ 4; lia, by have := Nat.mod_lt (n / 5) (show 5 > 0 by decide); show n / 5 % 5 ≤ 4; lia, ?_⟩
  show coreAt (n / 25 % 4) ∈ cores
  generalize n / 25 % 4 = k at h4
  rcases k with _ | _ | _ | _ | k
  · exact .head _
  · exact .tail _ (.head _)
  · exact .tail _ (.tail _ (.head _))
  · exact .tail _ (.tail _ (.tail _ (.head _)))
  · lia

section
variable {prog : Program} {w : World} {A : Around} {E : Value → Shared → Prop} {s : Shared} {g : Vw} {S : Heap} {mg mb : Str → Option Value}
set_option maxHeartbeats 1000000 in
theorem drawn_call {a l : Addr} {pm cd doc : Value} {vs : List Value} {n : Nat} {ns : List Int} {d : Nat} {Q : Value → Shared → Prop} (hg : Sub g s.heap) (hTg : Le S.get? g) (ST : Stat S mg mb) (F : FnAt S a 25 pm cd doc .none)
    (nmin : mg (Str.ofString "min") = none) (nlen : mg (Str.ofString "len") = none) (nrange : mg (Str.ofString "range") = none) (nabs : mg (Str.ofString "abs") = none) (nsum : mg (Str.ofString "sum") = none)
    (r : Room A (d + 1)) (hl : g l = some (lo vs n)) (hi : All₂ IntV vs ns) (hn : vs.length ≤ 1000)
    (h : ∀ v xs g' s', After g s g' s' → ToldV g' v xs → xs.length ≤ 7 → (∀ x ∈ xs, OkT x) → tripOf 1 ∈ xs → Q v s') : wpAny (model prog w) A (call (.ref a) [.ref l]) Q E s := by
  refine call_c (m0 := fun _ => none) (cm0 := upd (fun _ => none) (Str.ofString "script") (.ref l)) (cs0 := fun L => [(Str.ofString "heaps", L + 1 + 1), (Str.ofString "script", L + 1)]) hg hTg ST rfl F r
    (binds := [(Str.ofString "script", .ref l)]) (by rfl) (by rfl) (by decide +kernel) (fun _ => rfl) (fun _ => rfl) (fun _ => rfl) (by rfl) (by rfl) (by rfl) ?_
  intro B L s₁ O A1 r I
  have hlB : ∀ {g'}, Le B.g g' → True := fun _ => trivial
  refine r_assign (by rfl) (gq fun K0 hK0 => ?_)
  refine r_callB I ST O.T (by rfl) (by rfl) (by rfl) (by rfl) nmin (by rfl) (by decide) (by decide) (by rfl) (by rfl) (by rfl) ?_
  refine r_items (by rfl) (r_int I ?_)
  intro t1 s2 I
  refine r_items (by rfl) ?_
  refine r_callB I ST O.T (by rfl) (by rfl) (by rfl) (by rfl) nlen (by rfl) (by decide) (by decide) (by rfl) (by rfl) (by rfl) ?_
  refine r_items (by rfl) (r_cell (by rfl) (by rfl) (by rfl) (I.rd (.tail _ (.head _)) (by rfl)) (by decide) (r_items0 ?_))
  refine b_len I (I.sub _ _ hl) (by lia) ?_
  intro t2 s3 I
  refine r_items0 (b_min I r.handled ?_)
  intro t3 s4 I
  rw [show min (4 : Int) (vs.length : Int) = ((min 4 vs.length : Nat) : Int) by lia]
  refine hK0 _ _ (r_storeC I (by show List.Nodup [Str.ofString "heaps", Str.ofString "script"]; decide +kernel) (by rfl) (by rfl) (by rfl) (.head _) ?_)
  intro s5 I
  refine r_assign (by rfl) (gq fun K1 hK1 => r_bin (r_list (r_items (by rfl) (r_int I ?_))))
  intro t4 s6 I
  refine r_items (by rfl) (r_int I ?_)
  intro t5 s7 I
  refine r_items (by rfl) (r_int I ?_)
  intro t6 s8 I
  refine r_items0 (t_fz I (Nat.le_of_ble_eq_true rfl) (by rfl) ?_)
  intro D1 g1 s9 I l1 e1
  refine r_comp (cl := [(Str.ofString "script", L + 1), (Str.ofString "heaps", L + 1 + 1)]) (by rfl) (by rfl) (by rfl) ?_
  refine r_callT I ST O.T (by rfl) (by rfl) (by rfl) (by rfl) nrange (by rfl) (by decide) (by decide) (by rfl) (by rfl) (by rfl) ?_
  refine r_items (by rfl) (r_cell (by rfl) (by rfl) (by rfl) (I.rd (.head _) (by rfl)) (by decide) (r_items0 ?_))
  refine b_range1 I r.handled (by lia) ?_
  intro v s10 hv
  refine hv _ _ _ fun it s11 X => ⟨B, L, _, _, _, [], CompOK.map (List.range (min 4 vs.length)) (fun _ => ()) (fun _ v _ => ∃ k : Nat, IntV v (k : Int)) (fun _ _ _ _ _ q => q) (by simp; lia) (by simpa using X) ?_ ?_⟩
  · intro B' C g' mC s i v x inn le hP hx I
    obtain ⟨tk, rfl⟩ := hP
    have hx' : i < min 4 vs.length := by
      have := (List.getElem?_eq_some_iff.mp hx).1
      simpa using this
    refine a_name (r_storeLocal I (by rfl) (by rfl) ?_)
    intro s2 I
    have hT := inn.T.trans O.T
    refine r_callB I ST hT (by rfl) (by rfl) (by rfl) (by rfl) nabs (by rfl) (by decide) (by decide) (by rfl) (by rfl) (by rfl) ?_
    refine r_items (by rfl) ?_
    refine r_callB I ST hT (by rfl) (by rfl) (by rfl) (by rfl) nsum (by rfl) (by decide) (by decide) (by rfl) (by rfl) (by rfl) ?_
    refine r_items (by rfl) ?_
    refine Subscript_ (r_cell (by rfl) (by rfl) (by rfl) (inn.rd I (.tail _ (.head _)) (by rfl)) (by decide) (slice_s1s ?_))
    refine r_local I (by rfl) (by rfl) (by rfl) (by decide) ?_
    refine r_cell (by rfl) (by rfl) (by rfl) (inn.rd I (.head _) (by rfl)) (by decide) ?_
    refine t_listSliceS I (I.sub _ _ ((le _ _ (l1 _ _ hl)))) (by lia) (.int _ _) .none (.int _ _) (by intro q; have := Option.some.inj q; lia) ?_
    intro D2 g2 s3 I l2 e2
    obtain ⟨ns2, hn2⟩ : ∃ ns2, All₂ IntV (slicePick vs.toArray (some (i : Int)) none (some ((min 4 vs.length : Nat) : Int))).toList ns2 := ints_of_mem fun v hv => by
      obtain ⟨b, _, r⟩ := hi.memL v (pick_mem hv)
      exact ⟨b, r⟩
    refine r_items0 (b_sum I r.handled (I.sub _ _ e2) hn2 ?_)
    intro t7 s4 I
    refine r_items0 (b_abs I ?_)
    intro t8 s5 I
    exact ⟨_, _, I, _, t8, rfl⟩
  · intro D2 g2 ys k s12 le I hD hys
    have hlen : ys.length = min 4 vs.length := by rw [hys.length]; simp
    refine o_addList I (I.sub _ _ (le _ _ e1)) (I.head (.head _)) (by simp only [List.length_cons, List.length_nil]; lia) ?_
    intro D3 g3 s13 I l3 e3
    refine hK1 _ _ (r_storeLocal I (by rfl) (by rfl) ?_)
    intro s14 I
    obtain ⟨ks, hks⟩ := (hys.mono (R' := fun v _ => ∃ k : Nat, IntV v (k : Int)) fun _ _ q => q).choose
    have hks' : All₂ (fun v (k : Nat) => IntV v (k : Int)) ([.int 1 t4, .int 5 t5, .int 7 t6] ++ ys) ([1, 5, 7] ++ ks) := All₂.append (.cons ⟨_, rfl⟩ (.cons ⟨_, rfl⟩ (.cons ⟨_, rfl⟩ .nil))) hks
    refine r_return (r_comp (cl := []) (by rfl) (by rfl) (by rfl) ?_)
    refine r_local I (by rfl) (by rfl) (by rfl) (by decide) ?_
    refine it_list I r.handled e3 ?_
    intro it s15 X
    refine ⟨B, L, _, _, _, [(D2, lo ys k)], CompOK.map ([1, 5, 7] ++ ks) tripOf TripV (fun _ _ _ _ a b => b.up a) ?_ (hks'.length ▸ X _) ?_ ?_⟩
    · rw [← hks'.length]; simp only [List.length_append, List.length_cons, List.length_nil]; lia
    · intro B' C g' mC s i v x inn le hP hx I
      obtain ⟨tk, rfl⟩ := hks'.at hP hx
      refine a_name (r_storeLocal I (by rfl) (by rfl) ?_)
      intro s2 I
      refine r_tuple (r_items (by rfl) (r_bin (r_local I (by rfl) (by rfl) (by rfl) (by decide) (r_int I ?_))))
      intro t7 s3 I
      refine o_mod (b := 5) I (by decide) (by decide) ?_
      intro t8 s4 I
      refine r_items (by rfl) (gq fun K2 hK2 => Subscript_ (r_tuple (r_items (by rfl) (r_str I ?_))))
      intro t9 s5 I
      refine r_items (by rfl) (r_str I ?_)
      intro t10 s6 I
      refine r_items (by rfl) (r_str I ?_)
      intro t11 s7 I
      refine r_items (by rfl) (r_str I ?_)
      intro t12 s8 I
      refine r_items0 (t_fz I (Nat.le_of_ble_eq_true rfl) (by rfl) ?_)
      intro D4 g4 s9 I l4 e4
      refine r_bin (r_bin (r_local I (by rfl) (by rfl) (by rfl) (by decide) (r_int I ?_)))
      intro t13 s10 I
      refine o_div (b := 25) I (by decide) (by decide) ?_
      intro t14 s11 I
      refine r_int I ?_
      intro t15 s12 I
      refine o_mod (b := 4) I (by decide) (by decide) ?_
      intro t16 s13 I
      have h4 : x / 25 % 4 < 4 := Nat.mod_lt _ (by decide)
      obtain ⟨tc, hc⟩ : ∃ tc, ([.str (Str.ofString "x") t9, .str (Str.ofString "y") t10, .str (Str.ofString "x\"z") t11, .str (Str.ofString "") t12] : List Value)[x / 25 % 4]? = some (.str (coreAt (x / 25 % 4)) tc) := by
        generalize x / 25 % 4 = k at h4
        rcases k with _ | _ | _ | _ | k
        · exact ⟨_, rfl⟩
        · exact ⟨_, rfl⟩
        · exact ⟨_, rfl⟩
        · exact ⟨_, rfl⟩
        · lia
      refine t_tup (I.sub _ _ e4) hc (by lia) ?_
      refine hK2 _ _ (r_items (by rfl) (r_bin (r_bin (r_local I (by rfl) (by rfl) (by rfl) (by decide) (r_int I ?_)))))
      intro t17 s14 I
      refine o_div (b := 5) I (by decide) (by decide) ?_
      intro t18 s15 I
      refine r_int I ?_
      intro t19 s16 I
      refine o_mod (b := 5) I (by decide) (by decide) ?_
      intro t20 s17 I
      refine r_items0 (t_fz I (Nat.le_of_ble_eq_true rfl) (by rfl) ?_)
      intro D5 g5 s18 I l5 e5
      exact ⟨g5, _, I, D5, _, _, _, _, rfl, e5⟩
    · intro D6 g6 zs k6 s16 le6 I hD6 hzs
      have J := I.freeze hD6
      have le : Le g6 (put g6 D6 (lo zs k6)) := le_put (I.muH _ (.head _)).2.1
      refine h _ (([1, 5, 7] ++ ks).map tripOf) _ _ (O.fin J) ⟨D6, zs, k6, rfl, put_self .., hzs.mono fun _ _ q => q.up le⟩ ?_ ?_ (List.mem_map.mpr ⟨1, by simp, rfl⟩)
      · rw [List.length_map, ← hks'.length]; simp only [List.length_append, List.length_cons, List.length_nil]; lia
      · intro x hx
        obtain ⟨n, _, rfl⟩ := List.mem_map.mp hx
        exact okT_tripOf n
end
end Mine
set_option Elab.async false
set_option maxRecDepth 100000
set_option linter.unusedVariables false
namespace Mine
open PySem PySem.W PyProof.Rows PySem.Calls
section
variable {prog : Program} {w : World} {A : Around} {E : Value → Shared → Prop} {s : Shared} {env : Env}

theorem kind_issub_nested : builtinKind "issubclass.nested" = none := by decide +kernel
theorem plain_issub_nested : plainId "issubclass.nested" = true := by decide +kernel
theorem args_issub_nested_3 (a b c : Value) : argsOk "issubclass.nested" ⟨[a, b, c], []⟩ := by unfold argsOk; kernel_rfl
theorem sub_str_str : isSubtype (.type "str") (.type "str") = pure true := by rw [isSubtype_type]; kernel_rfl
theorem sub_tuple_tuple : isSubtype (.type "tuple") (.type "tuple") = pure true := by rw [isSubtype_type]; kernel_rfl
theorem meta_str' : typeOf (.type "str") = pure (.type "type") := by kernel_rfl

theorem issub_nested_str (dep : Int) (tk : Tok) : Meets (Builtin.«issubclass.nested» ⟨[.type "str", .type "str", .int dep tk], []⟩) (fun _ R s => R (.ok (.ret (.bool true))) s) :=
  .of_wp fun prog w A R s h => by
    have hself := sub_str_str
    have hm : (Value.type "type" == Value.type "type") = true := by decide
    have hmm := meta_str'
    repeat (any_goals (first | assumption | (rw [if_pos hm]) | (rw [hself]) | wp_step))
    exact ⟨_, rfl, h⟩

theorem issub_nested_tup (cs : List Value) (hcs : ∃ r, cs = .type "str" :: r) (tp : Addr) (tk : Tok) : Meets (Builtin.«issubclass.nested» ⟨[.type "str", .ref tp, .int 0 tk], []⟩) (fun _ R s => s.heap.get? tp = some (to_ cs 0) ∧ ∀ tk, R (.ok (.ret (.bool true))) { s with toks := tk }) :=
  .of_wp fun prog w A R s h => by
    obtain ⟨hp, g, d, t, os⟩ := s
    obtain ⟨htp, h⟩ := h
    have hT2 : (⟨hp, g, d, t, os⟩ : Shared).TypeIs (.ref tp) "tuple" := ⟨_, htp, rfl⟩
    have f1 := sub_tuple_tuple
    repeat (any_goals (first | assumption | wp_step))
    refine wpAny_arrayLoop ?_
    simp only [Option.getD_some, List.toList_toArray]
    obtain ⟨r, rfl⟩ := hcs
    rw [List.forIn_cons]
    refine wpAny_bind (wpAny_bind (call_function_meets kind_issub_nested plain_issub_nested F.entry_issubclass_nested (args_issub_nested_3 _ _ _) (issub_nested_str _ _) ?_))
    show wpAny _ _ (truthy (.bool true) >>= _) _ _ _
    refine wpAny_bind (m := truthy (.bool true)) (wpAny_pure ?_)
    simp only [if_true]
    repeat (any_goals (first | assumption | wp_step))
    exact ⟨_, rfl, h _⟩
theorem b_issub {cs : List Value} {tp : Addr} {Q : Value → Shared → Prop} (hcs : ∃ r, cs = .type "str" :: r) (htp : s.heap.get? tp = some (to_ cs 0)) (h : ∀ tk, Q (.bool true) { s with toks := tk }) :
    wpAny (model prog w) A (call (.builtin "issubclass") [.type "str", .ref tp]) Q E s :=
  call_issubclass (S := fun _ R s => s.heap.get? tp = some (to_ cs 0) ∧ ∀ tk, R (.ok (.ret (.bool true))) { s with toks := tk }) (fun _ _ _ _ _ hs => issubclass_outer (issub_nested_tup cs hcs tp _ _ _ _ _ _ hs)) ⟨htp, fun tk => h tk⟩
end
end Mine
set_option Elab.async false
set_option maxRecDepth 100000
set_option linter.unusedVariables false
namespace Mine
open PySem PySem.W PyProof.Rows PySem.Calls
section
variable {prog : Program} {w : World} {A : Around} {E : Value → Shared → Prop} {s : Shared} {env : Env} {g : Vw} {S : Heap} {mg mb : Str → Option Value}

/-- as `call_c`, the arguments bound by a step of their own -/
theorem call_cB {a : Addr} {i : Nat} {pm cd doc dV : Value} {vals : List Value} {binds : List (Str × Value)} {m0 cm0 : Str → Option Value} {cs0 : Addr → List (Str × Addr)} {Q : Value → Shared → Prop} {T : Vw} {d : Nat} {g' : Vw} {s' : Shared}
    (hg : Sub g s.heap) (hTg : Le T g) (ST : Stat S mg mb) (hT : T = S.get?) (F : FnAt S a i pm cd doc dV) (r : Room A (d + 1)) (af : After g s g' s')
    (hb : ∀ (Q' : List (Str × Value) → Shared → Prop) (E' : Value → Shared → Prop), Q' binds s' → wpAny (model prog w) A.in1 (bindArgs (fdOf i pm cd doc dV) ⟨vals, []⟩) Q' E' s)
    (hkind : (binds.all fun y => (fScope (stmtAt i)).names.lookup y.1 == some .local || (fScope (stmtAt i)).names.lookup y.1 == some .cell) = true)
    (hnd : ((cellsFrom 0 (fScope (stmtAt i)).names []).map (·.1)).Nodup)
    (hm : ∀ L, bindL (callEnvC (fdOf i pm cd doc dV) L a).kindOf binds (fun _ => none) = m0) (hcm : ∀ L, bindC (callEnvC (fdOf i pm cd doc dV) L a).kindOf binds (fun _ => none) = cm0) (hcs : ∀ L, cellsFrom (L + 1) (fScope (stmtAt i)).names [] = cs0 L)
    (hco : (fScope (stmtAt i)).isCoroutine = false) (hgen : (fScope (stmtAt i)).isGenerator = false) (hk : (fScope (stmtAt i)).kind = .function)
    (h : ∀ B L s₁, Opens T g' s' B → ∀ A', Room A' d → IF B g' [] L m0 (cs0 L) cm0 s₁ →
      wpAny (model prog w) A' (execs (fBody (stmtAt i)) (callEnvC (fdOf i pm cd doc dV) L a)) (fun f s' => Q (match f with | .ret v => v | _ => .none) s') (fun _ _ => False) s₁) :
    wpAny (model prog w) A (call (.ref a) vals) Q E s := by
  refine wpAny_call ?_
  obtain ⟨o, ho, hd⟩ := F.obj
  have up : ∀ b o, S.get? b = some o → s.heap.get? b = some o := fun b o e => hg b o (hTg b o (by rw [hT]; exact e))
  have hcd : s.heap.CodeRec cd (fName (stmtAt i)) := by
    obtain ⟨c, o, vs, t, e1, e2, e3, e4⟩ := F.code
    exact ⟨c, o, vs, t, e1, up _ _ e2, e3, e4⟩
  refine codeAny_call_function (fd := fdOf i pm cd doc dV) (body := fBody (stmtAt i)) r.lim (up _ _ ho) hd hco hgen rfl hcd (hb _ _ ?_)
  show wpAny _ _ (newFunctionEnv _ _ [] _ _ _ _ _ _) _ _ _
  refine wpAny_newFunctionEnv_cells hk (PySem.W.kindsX hkind _) fun env he s₁ x => ?_
  subst he
  refine ⟨ST.lim.keeps fun b o e => x.toInCall.keep b o (af.keep b o (up b o e)), codeAny_func ?_⟩
  have hL : g' s'.heap.objs.size = none := none_of_size af.sub (Nat.le_refl _)
  have hab := x.above
  have hin := x.toInCall
  have mem : ∀ n c, (n, c) ∈ cellsFrom (s'.heap.objs.size + 1) (fScope (stmtAt i)).names [] → (cellsFrom (s'.heap.objs.size + 1) (fScope (stmtAt i)).names []).lookup n = some c := by
    intro n c hm
    refine lookup_of_mem ?_ hm
    rw [cellsFrom_names (fScope (stmtAt i)).names (s'.heap.objs.size + 1) 0 [] [] rfl]
    exact hnd
  have I : IF ⟨T, s', g', s'.heap.get?, fun b => s'.heap.get? b ≠ none ∧ g' b = none⟩ g' [] s'.heap.objs.size (bindL (callEnvC (fdOf i pm cd doc dV) s'.heap.objs.size a).kindOf binds fun _ => none) (cellsFrom (s'.heap.objs.size + 1) (fScope (stmtAt i)).names []) (bindC (callEnvC (fdOf i pm cd doc dV) s'.heap.objs.size a).kindOf binds fun _ => none) s₁ := by
    refine ⟨hin.same, hTg.trans af.le, Le.refl g', fun b hb => ⟨hb.2, alive_keep hin.keep hb.1⟩, hin.keep, fun b o e => hin.keep b o (af.sub b o e), hin.ns, hL, get_none_of_size (Nat.le_refl _), fun n c hc => x.cell n c (mem n c hc), fun n c hc => ?_, x.apart, fun p hp => (nomatch hp), List.nodup_nil⟩
    have := hab n c hc
    have hle : s'.heap.objs.size ≤ c := Nat.le_of_lt this
    exact ⟨none_of_size af.sub hle, get_none_of_size hle, Nat.ne_of_gt this⟩
  rw [hm, hcm, hcs] at I
  exact wpAny_mono (h _ _ s₁ ⟨rfl, fun I => I.end_, fun b hb q => q.1 hb, fun _ _ e => e⟩ _ r.deeper I) (fun f s' q => q) (fun _ _ q => q.elim)
end

structure Globs (S : Heap) (mg mb : Str → Option Value) : Prop where
  st : Stat S mg mb
  no : ∀ x ∈ (["min", "max", "len", "range", "abs", "sum", "type", "issubclass", "isinstance", "str", "bytes", "tuple", "list", "map", "zip", "enumerate", "iter", "any", "sorted", "next", "TypeError", "AttributeError", "BytesWarning", "ValueError", "RuntimeError", "object"] : List String), mg (Str.ofString x) = none
  fspath : ∃ a, DefAt S mg (Str.ofString "fspath") 14 .none a
  getsep : ∃ a, DefAt S mg (Str.ofString "_get_sep") 18 .none a
  dirname : ∃ a, DefAt S mg (Str.ofString "dirname") 20 .none a
  strip : ∃ a, DefAt S mg (Str.ofString "strip_quotes") 23 .none a

section
variable {prog : Program} {w : World} {A : Around} {E : Value → Shared → Prop} {s : Shared} {env : Env}
variable {B : Base} {g : Vw} {mu : List (Addr × Obj)} {L : Addr} {m : Str → Option Value} {cs : List (Str × Addr)} {cm : Str → Option Value} {S : Heap} {mg mb : Str → Option Value}

theorem fspath_call {a : Addr} {pm cd doc : Value} {x : Str} {t : Tok} {d : Nat} {Q : Value → Shared → Prop} (hg : Sub g s.heap) (hTg : Le S.get? g) (G : Globs S mg mb) (F : FnAt S a 14 pm cd doc .none) (r : Room A (d + 1))
    (h : ∀ g' s', After g s g' s' → Q (.str x t) s') : wpAny (model prog w) A (call (.ref a) [.str x t]) Q E s := by
  refine call_c (m0 := upd (fun _ => none) (Str.ofString "path") (.str x t)) (cm0 := fun _ => none) (cs0 := fun _ => []) hg hTg G.st rfl F r (binds := [(Str.ofString "path", .str x t)]) (by rfl) (by rfl) (by decide +kernel) (fun _ => rfl) (fun _ => rfl) (fun _ => rfl) (by rfl) (by rfl) (by rfl) ?_
  intro B L s₁ O A1 r I
  have ST := G.st
  refine r_assign (by rfl) ?_
  refine r_callT I ST O.T (by rfl) (by rfl) (by rfl) (by rfl) (G.no "type" (.tail _ (.tail _ (.tail _ (.tail _ (.tail _ (.tail _ (.head _)))))))) (by rfl) (by decide) (by decide) (by rfl) (by rfl) (by rfl) ?_
  refine r_items (by rfl) (r_local I (by rfl) (by rfl) (by rfl) (by decide) (r_items0 ?_))
  refine call_type_of (Tx := "str") rfl (by decide) ?_
  refine r_storeLocal I (by rfl) (by rfl) ?_
  intro s2 I
  refine r_ifp (r_test ?_ (by rfl))
  refine r_callB I ST O.T (by rfl) (by rfl) (by rfl) (by rfl) (G.no "issubclass" (.tail _ (.tail _ (.tail _ (.tail _ (.tail _ (.tail _ (.tail _ (.head _))))))))) (by rfl) (by decide) (by decide) (by rfl) (by rfl) (by rfl) ?_
  refine r_items (by rfl) (r_local I (by rfl) (by rfl) (by rfl) (by decide) (r_items (by rfl) (r_tuple ?_)))
  refine r_items (by rfl) (r_builtin I ST O.T (by rfl) (by rfl) (by rfl) (by rfl) (G.no "str" (.tail _ (.tail _ (.tail _ (.tail _ (.tail _ (.tail _ (.tail _ (.tail _ (.tail _ (.head _))))))))))) (by rfl) (by decide) (by decide) ?_)
  refine r_items (by rfl) (r_builtin I ST O.T (by rfl) (by rfl) (by rfl) (by rfl) (G.no "bytes" (.tail _ (.tail _ (.tail _ (.tail _ (.tail _ (.tail _ (.tail _ (.tail _ (.tail _ (.tail _ (.head _)))))))))))) (by rfl) (by decide) (by decide) ?_)
  refine r_items0 (t_fz I (Nat.le_of_ble_eq_true rfl) (by rfl) ?_)
  intro D g' s3 I l1 e1
  refine r_items0 (b_issub ⟨_, rfl⟩ (I.sub _ _ e1) fun tk => ?_)
  have I := I.tok tk
  refine wpAny_truthy_bool ?_
  rw [if_pos rfl]
  refine r_return (r_local I (by rfl) (by rfl) (by rfl) (by decide) ?_)
  exact h _ _ (O.fin I)

theorem getsep_call {a : Addr} {pm cd doc : Value} {x : Str} {t : Tok} {d : Nat} {Q : Value → Shared → Prop} (hg : Sub g s.heap) (hTg : Le S.get? g) (G : Globs S mg mb) (F : FnAt S a 18 pm cd doc .none) (r : Room A (d + 1))
    (h : ∀ t' g' s', After g s g' s' → Q (.str ⟨#[47]⟩ t') s') : wpAny (model prog w) A (call (.ref a) [.str x t]) Q E s := by
  refine call_c (m0 := upd (fun _ => none) (Str.ofString "path") (.str x t)) (cm0 := fun _ => none) (cs0 := fun _ => []) hg hTg G.st rfl F r (binds := [(Str.ofString "path", .str x t)]) (by rfl) (by rfl) (by decide +kernel) (fun _ => rfl) (fun _ => rfl) (fun _ => rfl) (by rfl) (by rfl) (by rfl) ?_
  intro B L s₁ O A1 r I
  have ST := G.st
  refine r_ifp (r_test ?_ (by rfl))
  refine r_callB I ST O.T (by rfl) (by rfl) (by rfl) (by rfl) (G.no "isinstance" (.tail _ (.tail _ (.tail _ (.tail _ (.tail _ (.tail _ (.tail _ (.tail _ (.head _)))))))))) (by rfl) (by decide) (by decide) (by rfl) (by rfl) (by rfl) ?_
  refine r_items (by rfl) (r_local I (by rfl) (by rfl) (by rfl) (by decide) (r_items (by rfl) ?_))
  refine r_builtin I ST O.T (by rfl) (by rfl) (by rfl) (by rfl) (G.no "bytes" (.tail _ (.tail _ (.tail _ (.tail _ (.tail _ (.tail _ (.tail _ (.tail _ (.tail _ (.tail _ (.head _)))))))))))) (by rfl) (by decide) (by decide) ?_
  refine r_items0 (call_isinstance (isinstance_false_str (by decide +kernel) PySem.F.isi_meta_bytes PySem.F.sub_str_bytes) ?_)
  have I := I.tok (s₁.toks + 1)
  refine wpAny_truthy_bool ?_
  rw [if_neg (by decide)]
  refine r_return (r_str I ?_)
  intro t' s' I
  exact h t' _ _ (O.fin I)
end
end Mine
set_option Elab.async false
set_option maxRecDepth 100000
set_option linter.unusedVariables false
namespace Mine
open PySem PySem.W PyProof.Rows PySem.Calls
/-! ## texts with slashes -/
theorem rfind_tl {x : Str} {pre post : List Nat} (h : tl x = pre ++ 47 :: post) (hp : 47 ∉ post) : Txt.rfind x ⟨#[47]⟩ = (pre.length : Int) := by
  have at_iff : ∀ i, StrLaws.At x ⟨#[47]⟩ x.length i ↔ (tl x)[i]? = some 47 := fun i => StrLaws.subAt_one x 47 i
  have h0 : (tl x)[pre.length]? = some 47 := by rw [h]; simp
  unfold Txt.rfind
  rcases StrLaws.last_spec x ⟨#[47]⟩ with ⟨_, hn⟩ | ⟨i, e, hi, hk⟩
  · exact absurd ((at_iff _).mpr h0) (hn _)
  · rw [e]
    dsimp only
    have h1 : ¬ i < pre.length := fun hlt => hk _ hlt ((at_iff _).mpr h0)
    have h2 : ¬ pre.length < i := fun hlt => by
      have := (at_iff _).mp hi
      rw [h, List.getElem?_append_right (by lia)] at this
      have e2 : i - pre.length = (i - pre.length - 1) + 1 := by lia
      rw [e2, List.getElem?_cons_succ] at this
      exact hp (List.mem_of_getElem? this)
    lia
theorem rstrip_tl {x : Str} {l : List Nat} (h : tl x = l ++ [47]) (hl : l.getLast? ≠ some 47) : tl (Txt.rstripChars x ⟨#[47]⟩) = l := by
  unfold Txt.rstripChars
  rw [W.stripBy_eq]
  unfold W.stripped
  simp only [Bool.false_eq_true, if_false, if_true, List.drop_zero]
  show (Builtin.Str.strSub x 0 _).cps.toList = l
  rw [StrLaws.strSub_toList]
  have e : x.cps.toList = l ++ [47] := h
  have hlen : x.length = l.length + 1 := by rw [← len_tl, h]; simp
  have hc : ∀ c, (⟨#[47]⟩ : Str).cps.contains c = (c == 47) := by
    intro c
    show (#[47] : Array Nat).contains c = _
    rw [Bool.eq_iff_iff]; simp
  have hw : (List.takeWhile (⟨#[47]⟩ : Str).cps.contains (l ++ [47]).reverse).length = 1 := by
    rw [List.reverse_append]
    show (List.takeWhile _ (47 :: l.reverse)).length = 1
    rw [List.takeWhile_cons, hc]
    simp only [beq_self_eq_true, if_true, List.length_cons]
    rcases List.eq_nil_or_concat l with rfl | ⟨r, a, rfl⟩
    · rfl
    · have ha : a ≠ 47 := fun q => hl (by simp [q])
      have hf : (⟨#[47]⟩ : Str).cps.contains a = false := by rw [hc]; simpa using ha
      have hr : (r.concat a).reverse = a :: r.reverse := by simp
      have hf' : (#[47] : Array Nat).contains a = false := hf
      rw [hr, List.takeWhile_cons, hf']
      rfl
  rw [e, hw, hlen]
  simp
noncomputable def joinL : List (List Nat) → List Nat
  | [] => []
  | [a] => a
  | a :: b :: r => a ++ 47 :: joinL (b :: r)
theorem join_tl : ∀ (l : List Str), tl (Str.join ⟨#[47]⟩ l) = joinL (l.map tl)
  | [] => rfl
  | [a] => rfl
  | a :: b :: r => by
    have e : Str.join ⟨#[47]⟩ (a :: b :: r) = a ++ ⟨#[47]⟩ ++ Str.join ⟨#[47]⟩ (b :: r) := rfl
    rw [e, tl_append, tl_append, join_tl (b :: r)]
    show tl a ++ [47] ++ _ = tl a ++ 47 :: _
    simp
theorem joinL_inj : ∀ {a b : List (List Nat)}, a ≠ [] → b ≠ [] → (∀ p ∈ a, 47 ∉ p) → (∀ p ∈ b, 47 ∉ p) → joinL a = joinL b → a = b := by
  have split1 : ∀ {p q r t : List Nat}, 47 ∉ p → 47 ∉ q → p ++ 47 :: r = q ++ 47 :: t → p = q ∧ r = t := by
    intro p
    induction p with
    | nil =>
      intro q r t hp hq e
      cases q with
      | nil => simp at e; exact ⟨rfl, e⟩
      | cons c q => simp at e; exact absurd (by rw [← e.1]; exact .head _) hq
    | cons c p ih =>
      intro q r t hp hq e
      cases q with
      | nil => simp at e; exact absurd (by rw [e.1]; exact .head _) hp
      | cons c' q =>
        simp at e
        obtain ⟨h1, h2⟩ := ih (fun h => hp (.tail _ h)) (fun h => hq (.tail _ h)) e.2
        exact ⟨by rw [e.1, h1], h2⟩
  intro a
  induction a with
  | nil => intro b h; exact absurd rfl h
  | cons x a ih =>
    intro b _ hb ha hb' e
    cases b with
    | nil => exact absurd rfl hb
    | cons y b =>
      have hx := ha x (.head _)
      have hy := hb' y (.head _)
      cases a with
      | nil =>
        cases b with
        | nil => simp only [joinL] at e; rw [e]
        | cons z b =>
          simp only [joinL] at e
          exact absurd (by rw [e]; simp) hx
      | cons x' a =>
        cases b with
        | nil =>
          simp only [joinL] at e
          exact absurd (by rw [← e]; simp) hy
        | cons y' b =>
          simp only [joinL] at e
          obtain ⟨h1, h2⟩ := split1 hx hy e
          rw [h1, ih (by simp) (by simp) (fun p hp => ha p (.tail _ hp)) (fun p hp => hb' p (.tail _ hp)) h2]
theorem split_ne (x y : Str) : Txt.split x y ≠ [] := by
  unfold Txt.split
  split
  · simp
  · split
    · simp
    · rw [StrLaws.partsBetween_eq]
      obtain ⟨p, r, e⟩ := StrLaws.partsFrom_ne x y.length 0 (Builtin.Str.occurrences x y 0 x.length (x.length + 1))
      rw [e]; simp
theorem split_tl {x : Str} {l : List (List Nat)} (h : tl x = joinL l) (hl : l ≠ []) (hf : ∀ p ∈ l, 47 ∉ p) : (Txt.split x ⟨#[47]⟩).map tl = l := by
  refine joinL_inj (by simpa using split_ne x ⟨#[47]⟩) hl (fun p hp => ?_) hf ?_
  · obtain ⟨q, hq, rfl⟩ := List.mem_map.mp hp
    exact StrLaws.split_free x 47 q hq
  · rw [← join_tl, StrLaws.join_split, h]
end Mine
set_option Elab.async false
set_option maxRecDepth 100000
set_option linter.unusedVariables false
namespace Mine
open PySem PySem.W PyProof.Rows PySem.Calls
section
variable {prog : Program} {w : World} {A : Around} {E : Value → Shared → Prop} {s : Shared} {env : Env}
variable {B : Base} {g : Vw} {mu : List (Addr × Obj)} {L : Addr} {m : Str → Option Value} {cs : List (Str × Addr)} {cm : Str → Option Value} {S : Heap} {mg mb : Str → Option Value}

theorem b_lenStr {x : Str} {t : Tok} {Q : Value → Shared → Prop} (I : IF B g mu L m cs cm s) (hx : x.length ≤ 100000) (h : ∀ t s', IF B g mu L m cs cm s' → Q (.int (x.length : Int) t) s') : wpAny (model prog w) A (call (.builtin "len") [.str x t]) Q E s :=
  SBL.len (by lia) (h _ _ (I.tok _))
theorem take_mid {α : Type} : ∀ (pre post : List α) (c : α), (pre ++ c :: post).take (pre.length + 1) = pre ++ [c]
  | [], post, c => rfl
  | a :: r, post, c => by
    show a :: (r ++ c :: post).take (r.length + 1) = a :: (r ++ [c])
    rw [take_mid r post c]
theorem slash : Str.ofString "/" = (⟨#[47]⟩ : Str) := by decide +kernel

theorem dirname_call {a : Addr} {pm cd doc : Value} {x : Str} {t : Tok} {pre post : List Nat} {d : Nat} {Q : Value → Shared → Prop} (hg : Sub g s.heap) (hTg : Le S.get? g) (G : Globs S mg mb) (F : FnAt S a 20 pm cd doc .none) (r : Room A (d + 2)) (hx : x.length ≤ 1000)
    (hx1 : tl x = pre ++ 47 :: post) (hp : 47 ∉ post) (hpre : pre.getLast? ≠ some 47)
    (h : ∀ y t' g' s', After g s g' s' → tl y = (if pre = [] then [47] else pre) → Q (.str y t') s') : wpAny (model prog w) A (call (.ref a) [.str x t]) Q E s := by
  refine call_c (m0 := upd (fun _ => none) (Str.ofString "p") (.str x t)) (cm0 := fun _ => none) (cs0 := fun _ => []) hg hTg G.st rfl F r (binds := [(Str.ofString "p", .str x t)]) (by rfl) (by rfl) (by decide +kernel) (fun _ => rfl) (fun _ => rfl) (fun _ => rfl) (by rfl) (by rfl) (by rfl) ?_
  intro B L s₁ O A1 r I
  have ST := G.st
  obtain ⟨a14, hv14, pm14, cd14, doc14, F14⟩ := G.fspath
  obtain ⟨a18, hv18, pm18, cd18, doc18, F18⟩ := G.getsep
  refine r_assign (by rfl) ?_
  refine r_call I ST O.T (by rfl) (by rfl) (by rfl) hv14 (by decide) F14 (by rfl) (by rfl) ?_
  refine r_items (by rfl) (r_local I (by rfl) (by rfl) (by rfl) (by decide) (r_items0 ⟨I.st O.T, ?_⟩))
  refine fspath_call I.sub (O.T ▸ I.stat) G F14 r ?_
  intro g1 s2 af
  have I := I.after af
  refine r_storeLocal I (by rfl) (by rfl) ?_
  intro s3 I
  refine r_assign (by rfl) ?_
  refine r_call I ST O.T (by rfl) (by rfl) (by rfl) hv18 (by decide) F18 (by rfl) (by rfl) ?_
  refine r_items (by rfl) (r_local I (by rfl) (by rfl) (by rfl) (by decide) (r_items0 ⟨I.st O.T, ?_⟩))
  refine getsep_call I.sub (O.T ▸ I.stat) G F18 r ?_
  intro t1 g2 s4 af
  have I := I.after af
  refine r_storeLocal I (by rfl) (by rfl) ?_
  intro s5 I
  refine r_assign (by rfl) (r_bin ?_)
  refine Call_method1 (by rfl) (by rfl) (by rfl) ?_
  refine r_local I (by rfl) (by rfl) (by rfl) (by decide) ?_
  refine SB.rfind ?_
  refine r_local I (by rfl) (by rfl) (by rfl) (by decide) ?_
  refine ⟨_, _, rfl, ?_⟩
  have I := I.tok (s5.toks + 1)
  rw [rfind_tl hx1 hp]
  refine r_int I ?_
  intro t2 s6 I
  refine o_add I ?_
  intro t3 s7 I
  refine r_storeLocal I (by rfl) (by rfl) ?_
  intro s8 I
  refine r_assign (by rfl) (Subscript_ ?_)
  refine r_local I (by rfl) (by rfl) (by rfl) (by decide) (slice_ns ?_)
  refine r_local I (by rfl) (by rfl) (by rfl) (by decide) ?_
  refine t_strTo (i := pre.length + 1) I (by lia) ?_
  intro y t4 s9 I hy
  have hy' : tl y = pre ++ [47] := by rw [hy, hx1]; exact take_mid pre post 47
  have hyl : y.length ≤ 1001 := by rw [← len_tl, hy, List.length_take, len_tl]; lia
  refine r_storeLocal I (by rfl) (by rfl) ?_
  intro s10 I
  refine r_ifp (wpAny_isTrue_BoolOp (wpAny_allTrue_And_cons ?_))
  refine r_test (r_local I (by rfl) (by rfl) (by rfl) (by decide) (tr_str I (by lia) ?_)) (by rfl)
  intro s11 I
  rw [if_pos (by rw [hy']; simp)]
  refine wpAny_allTrue_And_cons (r_cmpT (by rfl) ?_)
  refine r_local I (by rfl) (by rfl) (by rfl) (by decide) (r_bin ?_)
  refine r_local I (by rfl) (by rfl) (by rfl) (by decide) ?_
  refine r_callB I ST O.T (by rfl) (by rfl) (by rfl) (by rfl) (G.no "len" (.tail _ (.tail _ (.head _)))) (by rfl) (by decide) (by decide) (by rfl) (by rfl) (by rfl) ?_
  refine r_items (by rfl) (r_local I (by rfl) (by rfl) (by rfl) (by decide) (r_items0 ?_))
  refine b_lenStr I (by lia) ?_
  intro t5 s12 I
  refine o_mulStr I (by lia) ?_
  intro z t6 s13 I hz
  refine c_neStr (wpAny_truthy_bool (ite_of (fun hb => ?_) fun hb => ?_))
  · refine wpAny_allTrue_And_nil ?_
    rw [if_pos rfl]
    have hne : pre ≠ [] := fun e => (of_decide_eq_true hb) (str_ext (by rw [hz, hy', e, ← len_tl, hy', e]; rfl))
    refine r_assign (by rfl) ?_
    refine Call_method1 (by rfl) (by rfl) (by rfl) ?_
    refine r_local I (by rfl) (by rfl) (by rfl) (by decide) ?_
    refine SB.rstripChars ?_ (by rw [sizeLine_eq]; lia)
    refine r_local I (by rfl) (by rfl) (by rfl) (by decide) ?_
    refine ⟨_, _, rfl, fun t7 k => ?_⟩
    have I := I.tok k
    refine r_storeLocal I (by rfl) (by rfl) ?_
    intro s14 I
    refine r_nil ?_
    refine r_return (r_local I (by rfl) (by rfl) (by rfl) (by decide) ?_)
    refine h _ _ _ _ (O.fin I) ?_
    rw [rstrip_tl hy' hpre, if_neg hne]
  · rw [if_neg (by decide)]
    have he : y = z := Decidable.not_not.mp (of_decide_eq_false hb)
    have hpe : pre = [] := by
      rcases List.eq_nil_or_concat pre with rfl | ⟨q, c, rfl⟩
      · rfl
      · have h1 : tl y = List.replicate y.length 47 := by rw [← hz, ← he]
        have : c ∈ tl y := by rw [hy']; simp
        rw [h1] at this
        have := (List.mem_replicate.mp this).2
        subst this
        exact absurd (by rw [List.concat_eq_append]; simp) hpre
    refine r_nil ?_
    refine r_return (r_local I (by rfl) (by rfl) (by rfl) (by decide) ?_)
    refine h _ _ _ _ (O.fin I) ?_
    rw [hy', hpe]; rfl
end

/-! ## _law_climbed -/
noncomputable def pathL (names : List (List Nat)) : List Nat := names.flatMap fun p => 47 :: p
noncomputable def OkN (names : List (List Nat)) : Prop := ∀ p ∈ names, p ≠ [] ∧ 47 ∉ p
noncomputable def climbN (names : List (List Nat)) : Nat → List (List Nat)
  | 0 => []
  | k + 1 => pathL (names.take (k + 1)) :: climbN names k
theorem pathL_snoc (ns : List (List Nat)) (n : List Nat) : pathL (ns ++ [n]) = pathL ns ++ 47 :: n := by simp [pathL]
theorem pathL_ne {ns : List (List Nat)} (h : ns ≠ []) : pathL ns ≠ [] := by
  cases ns with
  | nil => exact absurd rfl h
  | cons a r => simp [pathL]
theorem pathL_last {ns : List (List Nat)} (h : OkN ns) : (pathL ns).getLast? ≠ some 47 := by
  rcases List.eq_nil_or_concat ns with rfl | ⟨q, c, rfl⟩
  · simp [pathL]
  · have hc := h c (by simp)
    rw [List.concat_eq_append, pathL_snoc]
    intro e
    rcases List.eq_nil_or_concat c with rfl | ⟨r, b, rfl⟩
    · exact hc.1 rfl
    · have e' : (pathL q ++ 47 :: (r ++ [b])).getLast? = some b := by
        have e2 : pathL q ++ 47 :: (r ++ [b]) = (pathL q ++ 47 :: r) ++ [b] := by simp
        rw [e2, List.getLast?_concat]
      rw [List.concat_eq_append, e'] at e
      have := Option.some.inj e
      subst this
      exact hc.2 (by rw [List.concat_eq_append]; simp)
theorem pathL_take (ns : List (List Nat)) (k : Nat) : (pathL (ns.take k)).length ≤ (pathL ns).length := by
  have e : pathL ns = pathL (ns.take k) ++ pathL (ns.drop k) := by
    unfold pathL
    rw [← List.flatMap_append, List.take_append_drop]
  rw [e, List.length_append]
  lia

section
variable {prog : Program} {w : World} {A : Around} {E : Value → Shared → Prop} {s : Shared} {g : Vw} {S : Heap} {mg mb : Str → Option Value}
theorem climbed_call {a : Addr} {pm cd doc : Value} {x : Str} {t : Tok} {names : List (List Nat)} {d : Nat} {Q : Value → Shared → Prop} (hg : Sub g s.heap) (hTg : Le S.get? g) (G : Globs S mg mb) (F : FnAt S a 30 pm cd doc .none) (r : Room A (d + 3)) (hx : x.length ≤ 1000)
    (hx1 : tl x = pathL names) (hn : names ≠ []) (hok : OkN names) (hnl : names.length ≤ 1000)
    (h : ∀ v xs g' s', After g s g' s' → StrsV g' v xs → xs.map tl = climbN names names.length → Q v s') : wpAny (model prog w) A (call (.ref a) [.str x t]) Q E s := by
  refine call_c (m0 := upd (fun _ => none) (Str.ofString "path") (.str x t)) (cm0 := fun _ => none) (cs0 := fun _ => []) hg hTg G.st rfl F r (binds := [(Str.ofString "path", .str x t)]) (by rfl) (by rfl) (by decide +kernel) (fun _ => rfl) (fun _ => rfl) (fun _ => rfl) (by rfl) (by rfl) (by rfl) ?_
  intro B L s₁ O A1 r I
  have ST := G.st
  obtain ⟨a20, hv20, pm20, cd20, doc20, F20⟩ := G.dirname
  refine r_assign (by rfl) ?_
  refine r_list ?_
  refine r_items (by rfl) (r_local I (by rfl) (by rfl) (by rfl) (by decide) (r_items0 ?_))
  refine t_mu I (Nat.le_of_ble_eq_true rfl) (by rfl) ?_
  intro D s₂ I hD
  refine r_storeLocal I (by rfl) (by rfl) ?_
  intro s₃ I
  have hlen : names.length - 1 + 1 = names.length := by
    have : 0 < names.length := List.length_pos_iff.mpr hn
    lia
  refine r_while (fun k s => E6 fun g m vs q xs y => C7 (IF B g [(D, lo vs q)] L m [] (fun _ => none) s) (m (Str.ofString "row") = some (.ref D)) (All₂ StrV vs (xs ++ [y])) (tl y = pathL (names.take (k + 1))) (xs.map tl ++ climbN names (k + 1) = climbN names names.length) (k + 1 ≤ names.length) (vs.length + k ≤ 2000)) (names.length - 1)
    ⟨_, _, _, _, [], x, I, by rfl, .cons ⟨_, rfl⟩ .nil, ?_, ?_, by lia, by simp only [List.length_cons, List.length_nil]; lia⟩ ?_
  · rw [hlen, List.take_length]; exact hx1
  · rw [hlen]; rfl
  rintro k s K Ke hK hKe ⟨g1, m, vs, q, xs, y, I, hm, hvs, hy, hch, hk, hb⟩
  obtain ⟨vl, hvl, tk, rfl⟩ := hvs.get (i := xs.length) (b := y) (by simp)
  have hlast : vs.getLast? = some (.str y tk) := by
    rw [List.getLast?_eq_getElem?, hvs.length, List.length_append, List.length_singleton]
    exact hvl
  have hyl : y.length ≤ 1000 := by
    rw [← len_tl, hy]
    have := pathL_take names (k + 1)
    rw [← hx1, len_tl] at this
    lia
  obtain ⟨nm, hnm⟩ : ∃ nm, names[k]? = some nm := ⟨names[k], List.getElem?_eq_getElem (by lia)⟩
  have htake : names.take (k + 1) = names.take k ++ [nm] := by rw [List.take_add_one, hnm]; rfl
  have hnmk := hok nm (List.mem_of_getElem? hnm)
  have hyp : tl y = pathL (names.take k) ++ 47 :: nm := by rw [hy, htake, pathL_snoc]
  have hpl : (pathL (names.take k)).getLast? ≠ some 47 := pathL_last fun p hp => hok p (List.mem_of_mem_take hp)
  have hemp : pathL (names.take k) = [] ↔ k = 0 := by
    constructor
    · intro e
      by_cases hk0 : k = 0
      · exact hk0
      · refine absurd e (pathL_ne ?_)
        intro e2
        have := congrArg List.length e2
        rw [List.length_take] at this
        simp only [List.length_nil] at this
        lia
    · rintro rfl; rfl
  refine r_cmpT (by rfl) ?_
  refine r_call I ST O.T (by rfl) (by rfl) (by rfl) hv20 (by decide) F20 (by rfl) (by rfl) ?_
  refine r_items (by rfl) ?_
  refine Subscript_ (r_local I (by rfl) (by rfl) hm (by decide) (r_negInt I ?_))
  intro t1 s1 I
  refine t_listNeg1 (I.head (.head _)) hlast ?_
  refine r_items0 ⟨I.st O.T, ?_⟩
  refine dirname_call I.sub (O.T ▸ I.stat) G F20 r hyl hyp hnmk.2 hpl ?_
  intro z tz g2 s2 af hz
  have I := I.after af
  refine r_str I ?_
  intro t2 s3 I
  refine c_neStr (wpAny_truthy_bool (ite_of (fun hb1 => ?_) fun hb1 => ?_))
  · have hk0 : k ≠ 0 := fun e => (of_decide_eq_true hb1) (str_ext (by rw [hz, if_pos (hemp.mpr e), slash]))
    rw [if_neg (fun e => hk0 (hemp.mp e))] at hz
    refine r_append (by rfl) (by rfl) (by rfl) (by rfl) ?_
    refine r_local I (by rfl) (by rfl) hm (by decide) ?_
    refine ⟨_, _, _, rfl, I.head (.head _), ?_⟩
    refine r_call I ST O.T (by rfl) (by rfl) (by rfl) hv20 (by decide) F20 (by rfl) (by rfl) ?_
    refine r_items (by rfl) ?_
    refine Subscript_ (r_local I (by rfl) (by rfl) hm (by decide) (r_negInt I ?_))
    intro t1 s1 I
    refine t_listNeg1 (I.head (.head _)) hlast ?_
    refine r_items0 ⟨I.st O.T, ?_⟩
    refine dirname_call I.sub (O.T ▸ I.stat) G F20 r hyl hyp hnmk.2 hpl ?_
    intro z' tz' g3 s2 af hz'
    have I := I.after af
    rw [if_neg (fun e => hk0 (hemp.mp e))] at hz'
    refine t_append I (by lia) ?_
    intro s4 n' I
    have hk1 : k - 1 + 1 = k := by lia
    refine r_nil (hK _ _ ⟨k - 1, by lia, _, _, _, _, xs ++ [y], z', I, hm, hvs.append (.cons ⟨_, rfl⟩ .nil), ?_, ?_, by lia, ?_⟩)
    · rw [hk1]; exact hz'
    · rw [hk1, ← hch]
      show (xs ++ [y]).map tl ++ climbN names k = xs.map tl ++ (pathL (names.take (k + 1)) :: climbN names k)
      rw [← hy]; simp
    · rw [List.length_append]; simp only [List.length_cons, List.length_nil]; lia
  · have hk0 : k = 0 := by
      by_cases e : k = 0
      · exact e
      · rw [if_neg (fun e' => e (hemp.mp e'))] at hz
        have hzz : z = Str.ofString "/" := Decidable.not_not.mp (of_decide_eq_false hb1)
        have h1 : pathL (names.take k) = [47] := by rw [← hz, hzz, slash]
        exact absurd (by rw [h1]; rfl) hpl
    subst hk0
    refine hKe _ (r_return (r_local I (by rfl) (by rfl) hm (by decide) ?_))
    have J := I.freeze hD
    refine h _ (xs ++ [y]) _ _ (O.fin J) ⟨D, vs, q, rfl, put_self .., hvs⟩ ?_
    rw [← hch]
    show (xs ++ [y]).map tl = xs.map tl ++ [pathL (names.take 1)]
    rw [← hy]; simp
end
end Mine
set_option Elab.async false
set_option maxRecDepth 100000
set_option linter.unusedVariables false
namespace Mine
open PySem PySem.W PyProof.Rows PySem.Calls
section
variable {prog : Program} {w : World} {A : Around} {E : Value → Shared → Prop} {s : Shared} {env : Env}
variable {B : Base} {g : Vw} {mu : List (Addr × Obj)} {L : Addr} {m : Str → Option Value} {cs : List (Str × Addr)} {cm : Str → Option Value} {S : Heap} {mg mb : Str → Option Value}

theorem r_try {body orelse : List Stmt} {h₀ : ExceptHandler} {hs : List ExceptHandler} {pos : Pos} {rest : List Stmt} {Q : Flow → Shared → Prop}
    (h : wpAny (model prog w) A (execs body env) (fun f s₁ => match f with | .next => wpAny (model prog w) A (execs orelse env) (fun f s' => match f with | .next => wpAny (model prog w) A (execs rest env) Q NoE s' | f => Q f s') NoE s₁ | f => Q f s₁) NoE s) :
    wpAny (model prog w) A (execs (.Try body (h₀ :: hs) orelse [] pos :: rest) env) Q NoE s := by
  refine wpAny_execs_cons (wpAny_Try_except (wpAny_mono h (fun f s₁ q => ?_) fun _ _ q => q.elim))
  cases f <;> exact q
theorem r_aug {x : Str} {np pos : Pos} {op : Operator} {value : Expr} {rest : List Stmt} {v : Value} {Q : Flow → Shared → Prop} (I : IF B g mu env.locals m cs cm s) (hk : env.scope.kind = .function) (hl : env.kindOf x = some .local) (hv : m x = some v)
    (h : wpAny (model prog w) A (eval value env) (fun y s₁ => wpAny (model prog w) A (inplaceOp op v y) (fun z s₂ => wpAny (model prog w) A (storeName env x z) (fun _ s₃ => wpAny (model prog w) A (execs rest env) Q E s₃) E s₂) E s₁) E s) :
    wpAny (model prog w) A (execs (.AugAssign (.Name x np) op value pos :: rest) env) Q E s := by
  refine wpAny_execs_cons ?_
  rw [arm_exec_AugAssign]
  refine wpAny_bind (wpAny_standAt (wpAny_bind (wpAny_loadName_local hk hl I.ns hv ?_)))
  refine wpAny_bind (wpAny_holding (wpAny_mono h (fun y s₁ h₁ => wpAny_bind (wpAny_standAt (wpAny_bind ?_))) fun _ _ q => q))
  exact wpAny_operate' (wpAny_mono h₁ (fun z s₂ h₂ => wpAny_bind (wpAny_standAt (wpAny_bind (wpAny_bindName (wpAny_mono h₂ (fun _ s₃ h₃ => wpAny_pure h₃) fun _ _ q => q))))) fun _ _ q => q)
theorem o_iaddStr {x y : Str} {t u : Tok} {Q : Value → Shared → Prop} (I : IF B g mu L m cs cm s) (hsz : x.length + y.length ≤ 100000) (h : ∀ t s', IF B g mu L m cs cm s' → Q (.str (x ++ y) t) s') :
    wpAny (model prog w) A (inplaceOp .Add (.str x t) (.str y u)) Q E s := SB.iadd (fun t' tk => h _ _ (I.tok _)) (by rw [sizeLine_eq]; lia)

noncomputable def joinP (p n : List Nat) : List Nat := if p.getLast? == some 47 then p ++ n else p ++ 47 :: n
theorem join_call {a : Addr} {pm cd doc : Value} {x y : Str} {t u : Tok} {d : Nat} {Q : Value → Shared → Prop} (hg : Sub g s.heap) (hTg : Le S.get? g) (G : Globs S mg mb) (F : FnAt S a 19 pm cd doc .none) (r : Room A (d + 2)) (hx : x.length ≤ 1000) (hy : y.length ≤ 1000)
    (hx0 : tl x ≠ []) (hy0 : (tl y).head? ≠ some 47)
    (h : ∀ z t' g' s', After g s g' s' → tl z = joinP (tl x) (tl y) → Q (.str z t') s') : wpAny (model prog w) A (call (.ref a) [.str x t, .str y u]) Q E s := by
  have af := After.push (t := s.toks) hg (to_ [.str y u] 0)
  refine call_cB (m0 := upd (upd (fun _ => none) (Str.ofString "a") (.str x t)) (Str.ofString "p") (.ref s.heap.objs.size)) (cm0 := fun _ => none) (cs0 := fun _ => []) hg hTg G.st rfl F r af (binds := [(Str.ofString "a", .str x t), (Str.ofString "p", .ref s.heap.objs.size)]) ?_ (by rfl) (by decide +kernel) (fun _ => rfl) (fun _ => rfl) (fun _ => rfl) (by rfl) (by rfl) (by rfl) ?_
  · intro Q' E' h
    show wpAny _ _ (newTuple [.str y u] >>= fun v => pure [(Str.ofString "a", .str x t), (Str.ofString "p", v)]) Q' E' s
    exact wpAny_bind (wpAny_newObj_type (wpAny_pure h) (Nat.le_of_ble_eq_true rfl))
  intro B L s₁ O A1 r I
  have eT := put_self g s.heap.objs.size (to_ [.str y u] 0)
  generalize s.heap.objs.size = T at *
  have ST := G.st
  obtain ⟨a14, hv14, pm14, cd14, doc14, F14⟩ := G.fspath
  obtain ⟨a18, hv18, pm18, cd18, doc18, F18⟩ := G.getsep
  refine r_assign (by rfl) ?_
  refine r_call I ST O.T (by rfl) (by rfl) (by rfl) hv14 (by decide) F14 (by rfl) (by rfl) ?_
  refine r_items (by rfl) (r_local I (by rfl) (by rfl) (by rfl) (by decide) (r_items0 ⟨I.st O.T, ?_⟩))
  refine fspath_call I.sub (O.T ▸ I.stat) G F14 r ?_
  intro g1 s2 af1
  have I := I.after af1
  refine r_storeLocal I (by rfl) (by rfl) ?_
  intro s3 I
  refine r_assign (by rfl) ?_
  refine r_call I ST O.T (by rfl) (by rfl) (by rfl) hv18 (by decide) F18 (by rfl) (by rfl) ?_
  refine r_items (by rfl) (r_local I (by rfl) (by rfl) (by rfl) (by decide) (r_items0 ⟨I.st O.T, ?_⟩))
  refine getsep_call I.sub (O.T ▸ I.stat) G F18 r ?_
  intro t1 g2 s4 af2
  have I := I.after af2
  refine r_storeLocal I (by rfl) (by rfl) ?_
  intro s5 I
  refine r_assign (by rfl) (r_local I (by rfl) (by rfl) (by rfl) (by decide) ?_)
  refine r_storeLocal I (by rfl) (by rfl) ?_
  intro s6 I
  refine r_try (gq fun K0 hK0 => ?_)
  refine r_for B [] 1 (fun i v _ => [Value.str y u][i]? = some v) (fun i g mu m cm => C3 (mu = []) (m (Str.ofString "sep") = some (.str ⟨#[47]⟩ t1)) (E2 fun z tz => (m (Str.ofString "path") = some (.str z tz)) ∧ (tl z = if i = 0 then tl x else joinP (tl x) (tl y)))) ?_ ?_ ?_
  · refine r_local I (by rfl) (by rfl) (by rfl) (by decide) ?_
    refine it_tuple I r.handled (af2.le _ _ (af1.le _ _ eT)) ?_
    intro it s7 X
    exact ⟨_, _, _, _, X _, rfl, by rfl, x, t, by rfl, by rfl⟩
  · rintro B' g3 mu m cm s7 i v K hK pin hi hP ⟨rfl, hm1, z, tz, hm2, hz⟩ I
    have hi0 : i = 0 := by lia
    subst hi0
    rw [if_pos rfl] at hz
    cases hP
    have hT : B'.T = S.get? := pin.T.trans O.T
    refine a_name (r_storeLocal I (by rfl) (by rfl) ?_)
    intro s8 I
    refine r_assign (by rfl) ?_
    refine r_call I ST hT (by rfl) (by rfl) (by rfl) hv14 (by decide) F14 (by rfl) (by rfl) ?_
    refine r_items (by rfl) (r_local I (by rfl) (by rfl) (by rfl) (by decide) (r_items0 ⟨I.st hT, ?_⟩))
    refine fspath_call I.sub (hT ▸ I.stat) G F14 r ?_
    intro g4 s9 af3
    have I := I.after af3
    refine r_storeLocal I (by rfl) (by rfl) ?_
    intro s10 I
    refine r_ifp (wpAny_isTrue_BoolOp (wpAny_allTrue_Or_cons ?_))
    refine r_test (r_starts (by rfl) (by rfl) (by rfl) ?_) (by rfl)
    refine r_local I (by rfl) (by rfl) (by rfl) (by decide) ⟨_, _, rfl, ?_⟩
    refine r_local I (by rfl) (by rfl) hm1 (by decide) ⟨_, _, rfl, wpAny_truthy_bool ?_⟩
    have hf : ((tl y).head? == some 47) = false := by simpa using hy0
    rw [hf, if_neg (by decide)]
    refine wpAny_allTrue_Or_cons (isTrue_not ?_)
    refine r_test (r_local I (by rfl) (by rfl) hm2 (by decide) (tr_str I (by rw [← len_tl, hz, len_tl]; lia) ?_)) (by rfl)
    intro s11 I
    rw [hz]
    have ht : decide (tl x ≠ []) = true := decide_eq_true hx0
    rw [ht]
    show if false = true then _ else _
    rw [if_neg (by decide)]
    refine wpAny_allTrue_Or_nil ?_
    rw [if_neg (by decide)]
    refine r_ifp (r_test (r_ends (by rfl) (by rfl) (by rfl) ?_) (by rfl))
    refine r_local I (by rfl) (by rfl) hm2 (by decide) ⟨_, _, rfl, ?_⟩
    refine r_local I (by rfl) (by rfl) hm1 (by decide) ⟨_, _, rfl, wpAny_truthy_bool ?_⟩
    have hzl : z.length ≤ 1000 := by rw [← len_tl, hz, len_tl]; lia
    refine ite_of (fun hb => ?_) fun hb => ?_
    · refine r_aug I (by rfl) (by rfl) hm2 ?_
      refine r_local I (by rfl) (by rfl) (by rfl) (by decide) ?_
      refine o_iaddStr I (by lia) ?_
      intro t2 s12 I
      refine r_storeLocal I (by rfl) (by rfl) ?_
      intro s13 I
      refine r_nil (r_nil (r_nil (hK _ _ ⟨_, _, _, _, I, rfl, hm1, _, _, by rfl, ?_⟩)))
      rw [if_neg (by decide), tl_append, hz]
      unfold joinP
      rw [← hz, if_pos hb]
    · refine r_aug I (by rfl) (by rfl) hm2 ?_
      refine r_bin (r_local I (by rfl) (by rfl) hm1 (by decide) (r_local I (by rfl) (by rfl) (by rfl) (by decide) ?_))
      refine o_addStr I (by show 1 + y.length ≤ _; lia) ?_
      intro t2 s12 I
      have hyl : ((⟨#[47]⟩ : Str) ++ y).length = 1 + y.length := by rw [← len_tl, tl_append, List.length_append, len_tl, len_tl]; rfl
      refine o_iaddStr I (by lia) ?_
      intro t3 s13 I
      refine r_storeLocal I (by rfl) (by rfl) ?_
      intro s14 I
      refine r_nil (r_nil (r_nil (hK _ _ ⟨_, _, _, _, I, rfl, hm1, _, _, by rfl, ?_⟩)))
      rw [if_neg (by decide), tl_append, tl_append, hz]
      unfold joinP
      rw [← hz, if_neg (by rw [hb]; decide)]
      rfl
  · rintro g3 mu m cm s7 I ⟨rfl, hm1, z, tz, hm2, hz⟩
    refine r_nil (r_nil (hK0 _ _ (r_nil ?_)))
    refine r_return (r_local I (by rfl) (by rfl) hm2 (by decide) ?_)
    exact h _ _ _ _ (af.trans (O.fin I)) hz
end
end Mine
set_option Elab.async false
set_option maxRecDepth 100000
set_option linter.unusedVariables false
namespace Mine
open PySem PySem.W PyProof.Rows PySem.Calls
section
variable {prog : Program} {w : World} {A : Around} {E : Value → Shared → Prop} {s : Shared} {env : Env}
variable {B : Base} {g : Vw} {mu : List (Addr × Obj)} {L : Addr} {m : Str → Option Value} {cs : List (Str × Addr)} {cm : Str → Option Value} {S : Heap} {mg mb : Str → Option Value}

noncomputable abbrev itObj (l : Addr) (i : Int) : Obj := { cls := .type "list_iterator", data := .fields #[.ref l, .int i 0] }
theorem b_iter {l : Addr} {vs : List Value} {k : Nat} {Q : Value → Shared → Prop} (I : IF B g mu L m cs cm s) (hl : g l = some (lo vs k)) (h : ∀ D s', IF B g ((D, itObj l 0) :: mu) L m cs cm s' → ¬ B.off D → Q (.ref D) s') :
    wpAny (model prog w) A (call (.builtin "iter") [.ref l]) Q E s := by
  refine call_function_entry (by decide +kernel) (by decide +kernel) kdk_entry_iter (kdk_args_iter _) ?_
  unfold Builtin.«iter»
  refine wpAny_bind (m := someArgs "iter" 1 2 _) (wpAny_of_eq (a := [Value.ref l]) (by first | rfl | kernel_rfl!) ?_)
  show wpAny _ _ (pyIter (.ref l) >>= _) _ _ _
  refine wpAny_bind (wpAny_pyIter_list (isList_lo (I.sub _ _ hl)) ?_)
  exact wpAny_pure ⟨_, rfl, h _ _ (I.newMu (t := s.toks) rfl) I.newOff⟩
theorem it_self {D l : Addr} {vs : List Value} {k : Nat} {Q : Value → Shared → Prop} (I : IF B g ((D, itObj l 0) :: mu) L m cs cm s) (hh : A.handled = none) (hl : g l = some (lo vs k)) (hD : ¬ B.off D)
    (h : ∀ it, (∀ target, SrcAt prog w A target B L cs it vs.length (fun i v _ => vs[i]? = some v) 0 g mu m cm s) → Q it s) : wpAny (model prog w) A (pyIter (.ref D)) Q NoE s := by
  have hD' := (I.muH _ (.head _)).1
  have hne : l ≠ D := fun e => by have := (I.muH _ (.head _)).2.1; rw [← e, hl] at this; cases this
  have hit : s.heap.IsListIter D l 0 := ⟨_, hD', rfl, rfl⟩
  refine wpAny_pyIter_listiter hit (h _ fun target => ⟨D, _, _, _, [(D, _)], rfl, Src.list hh target D l hne vs, ⟨hit, isList_lo (I.sub _ _ hl)⟩, rfl, I, fun b hb => ?_, fun p hp => by rw [List.mem_singleton.mp hp]; exact hD⟩)
  rcases List.mem_cons.mp hb with rfl | hb
  · exact .inl (.head _)
  · rw [List.mem_singleton.mp hb]; exact .inr ⟨_, hl⟩
theorem r_callLoc {x : Str} {p pos : Pos} {e : Expr} {rest : List Expr} {a : Addr} {i : Nat} {pm cd doc dV : Value} {Q : Value → Shared → Prop} (I : IF B g mu env.locals m cs cm s) (hT : B.T = S.get?) (hk : env.scope.kind = .function) (hl : env.kindOf x = some .local)
    (hv : m x = some (.ref a)) (hd : (x == ("__debug__" : Str)) = false) (F : FnAt S a i pm cd doc dV) (he : starEach (e :: rest) env = (false, eval e env) :: starEach rest env) (hkw : backToKw pos (keywordEach [] env) = [])
    (h : wpAny (model prog w) A (spliced (backTo pos (starEach (e :: rest) env))) (fun vs s₁ => Kp S s₁ ∧ wpAny (model prog w) A (call (.ref a) vs) Q E s₁) E s) :
    wpAny (model prog w) A (eval (.Call (.Name x p) (e :: rest) [] pos) env) Q E s := by
  rw [arm_eval_Call_Name', hkw]
  obtain ⟨o, ho, hdd⟩ := F.obj
  refine wpAny_bind (r_local I hk hl hv hd (callWith_function (o := o) (fd := fdOf i pm cd doc dV) ?_))
  rw [he] at h ⊢
  exact evalArgs_plain (wpAny_mono h (fun vs s₁ h₁ => ⟨⟨h₁.1 _ _ ho, hdd⟩, by simpa using h₁.2⟩) fun _ _ q => q)

theorem joinP_path {ns : List (List Nat)} {n : List Nat} (h : OkN ns) : joinP (if ns = [] then [47] else pathL ns) n = pathL (ns ++ [n]) := by
  rw [pathL_snoc]
  unfold joinP
  by_cases e : ns = []
  · subst e
    rw [if_pos rfl]
    rfl
  · rw [if_neg e, if_neg]
    intro q
    exact pathL_last h (by simpa using q)

theorem reduce_call {a aj l : Addr} {pm cd doc pmj cdj docj : Value} {dT dI : Addr} {od : Obj} {nd : Nat} {vs : List Value} {k : Nat} {xs : List Str} {t : Tok} {d : Nat} {Q : Value → Shared → Prop} (hg : Sub g s.heap) (hTg : Le S.get? g) (G : Globs S mg mb)
    (F : FnAt S a 4 pm cd doc (.ref dT)) (hdT : S.get? dT = some od) (hod : od.data = .seq #[.ref dI] nd) (hmiss : mg (Str.ofString "_initial_missing") = some (.ref dI)) (Fj : FnAt S aj 19 pmj cdj docj .none) (r : Room A (d + 3))
    (hl : g l = some (lo vs k)) (hxs : All₂ StrV vs xs) (hok : OkN (xs.map tl)) (hne : xs ≠ []) (hlen : (pathL (xs.map tl)).length ≤ 900)
    (h : ∀ z t' g' s', After g s g' s' → tl z = pathL (xs.map tl) → Q (.str z t') s') : wpAny (model prog w) A (call (.ref a) [.ref aj, .ref l, .str ⟨#[47]⟩ t]) Q E s := by
  have up : ∀ b o, S.get? b = some o → s.heap.get? b = some o := fun b o e => hg b o (hTg b o e)
  refine call_cB (m0 := upd (upd (upd (fun _ => none) (Str.ofString "function") (.ref aj)) (Str.ofString "sequence") (.ref l)) (Str.ofString "initial") (.str ⟨#[47]⟩ t)) (cm0 := fun _ => none) (cs0 := fun _ => []) hg hTg G.st rfl F r (After.refl hg)
    (binds := [(Str.ofString "function", .ref aj), (Str.ofString "sequence", .ref l), (Str.ofString "initial", .str ⟨#[47]⟩ t)]) (fun Q' E' h => BindsTo.of_defaults rfl (up _ _ hdT) hod rfl rfl _ _ _ _ h) (by rfl) (by decide +kernel) (fun _ => rfl) (fun _ => rfl) (fun _ => rfl) (by rfl) (by rfl) (by rfl) ?_
  intro B L s₁ O A1 r I
  have ST := G.st
  have hlen' : vs.length = xs.length := hxs.length
  refine r_assign (by rfl) ?_
  refine r_callB I ST O.T (by rfl) (by rfl) (by rfl) (by rfl) (G.no "iter" (.tail _ (.tail _ (.tail _ (.tail _ (.tail _ (.tail _ (.tail _ (.tail _ (.tail _ (.tail _ (.tail _ (.tail _ (.tail _ (.tail _ (.tail _ (.tail _ (.head _)))))))))))))))))) (by rfl) (by decide) (by decide) (by rfl) (by rfl) (by rfl) ?_
  refine r_items (by rfl) (r_local I (by rfl) (by rfl) (by rfl) (by decide) (r_items0 ?_))
  refine b_iter I hl ?_
  intro D s2 I hD
  refine r_storeLocal I (by rfl) (by rfl) ?_
  intro s3 I
  refine r_ifp (r_cmpT (by rfl) ?_)
  refine r_local I (by rfl) (by rfl) (by rfl) (by decide) ?_
  refine r_global I ST O.T (by rfl) (by rfl) (by rfl) hmiss (by decide) ?_
  refine wpAny_is_other (by rfl) (by intro e; cases e) (wpAny_truthy_bool ?_)
  rw [if_neg (by decide)]
  refine r_assign (by rfl) (r_local I (by rfl) (by rfl) (by rfl) (by decide) ?_)
  refine r_storeLocal I (by rfl) (by rfl) ?_
  intro s4 I
  refine r_nil ?_
  refine r_for B [] xs.length (fun i v _ => vs[i]? = some v) (fun i g mu m cm => C3 (mu = []) (m (Str.ofString "function") = some (.ref aj)) (E2 fun z tz => (m (Str.ofString "value") = some (.str z tz)) ∧ (tl z = if xs.take i = [] then [47] else pathL ((xs.take i).map tl)))) ?_ ?_ ?_
  · refine r_local I (by rfl) (by rfl) (by rfl) (by decide) ?_
    refine it_self I r.handled hl hD ?_
    intro it X
    exact ⟨_, _, _, _, hlen' ▸ X _, rfl, by rfl, _, t, by rfl, by simp⟩
  · rintro B' g3 mu m cm s7 i v K hK pin hi hP ⟨rfl, hm1, z, tz, hm2, hz⟩ I
    have hT : B'.T = S.get? := pin.T.trans O.T
    obtain ⟨x, hx, tx, rfl⟩ := hxs.get' hP
    have hxok := hok (tl x) (List.mem_map.mpr ⟨x, List.mem_of_getElem? hx, rfl⟩)
    have htk : xs.take (i + 1) = xs.take i ++ [x] := by rw [List.take_add_one, hx]; rfl
    have hok' : OkN ((xs.take i).map tl) := fun p hp => by
      obtain ⟨q, hq, rfl⟩ := List.mem_map.mp hp
      exact hok _ (List.mem_map.mpr ⟨q, List.mem_of_mem_take hq, rfl⟩)
    have hcond : (xs.take i = []) ↔ ((xs.take i).map tl = []) := by simp
    have hz' : joinP (tl z) (tl x) = pathL ((xs.take (i + 1)).map tl) := by
      rw [hz, htk, List.map_append]
      have := joinP_path (n := tl x) hok'
      by_cases e : xs.take i = []
      · rw [if_pos e]; rw [if_pos (hcond.mp e)] at this; exact this
      · rw [if_neg e]; rw [if_neg (fun q => e (hcond.mpr q))] at this; exact this
    have hzl : z.length ≤ 1000 := by
      rw [← len_tl, hz]
      split
      · simp
      · have := pathL_take (xs.map tl) i
        rw [← List.map_take] at this
        lia
    have hxl : x.length ≤ 1000 := by
      rw [← len_tl]
      have h1 : (tl x).length ≤ (pathL ((xs.take (i + 1)).map tl)).length := by
        rw [htk, List.map_append]
        show _ ≤ (pathL (_ ++ [tl x])).length
        rw [pathL_snoc, List.length_append, List.length_cons]; lia
      have h2 := pathL_take (xs.map tl) (i + 1)
      rw [← List.map_take] at h2
      lia
    refine a_name (r_storeLocal I (by rfl) (by rfl) ?_)
    intro s8 I
    refine r_assign (by rfl) ?_
    refine r_callLoc I hT (by rfl) (by rfl) hm1 (by decide) Fj (by rfl) (by rfl) ?_
    refine r_items (by rfl) (r_local I (by rfl) (by rfl) hm2 (by decide) (r_items (by rfl) (r_local I (by rfl) (by rfl) (by rfl) (by decide) (r_items0 ⟨I.st hT, ?_⟩))))
    refine join_call I.sub (hT ▸ I.stat) G Fj r hzl hxl ?_ ?_ ?_
    · rw [hz]
      by_cases e : xs.take i = []
      · rw [if_pos e]; simp
      · rw [if_neg e]; exact pathL_ne (fun q => e (hcond.mpr q))
    · intro e
      have : (47 : Nat) ∈ tl x := List.mem_of_mem_head? e
      exact hxok.2 this
    intro z' tz' g4 s9 af hz''
    have I := I.after af
    refine r_storeLocal I (by rfl) (by rfl) ?_
    intro s10 I
    refine r_nil (hK _ _ ⟨_, _, _, _, I, rfl, hm1, z', tz', by rfl, ?_⟩)
    rw [hz'', hz', if_neg (by rw [htk]; simp)]
  · rintro g3 mu m cm s7 I ⟨rfl, hm1, z, tz, hm2, hz⟩
    refine r_nil ?_
    refine r_return (r_local I (by rfl) (by rfl) hm2 (by decide) ?_)
    refine h _ _ _ _ (O.fin I) ?_
    rw [List.take_length, if_neg hne] at hz
    exact hz
end
end Mine
set_option Elab.async false
set_option maxRecDepth 100000
set_option linter.unusedVariables false
namespace Mine
open PySem PySem.W PyProof.Rows PySem.Calls
theorem Room.in1 {A : Around} {d : Nat} (r : Room A (d + 1)) {k : Nat} {A' : Around} (hh : A'.handled = A.handled) (hd : A'.depth = A.depth) (hu : A'.units = A.units + k) (hk : k ≤ 30) : Room A' d :=
  ⟨hh.trans r.handled, by rw [hd]; have := r.depth; lia, by rw [hu]; have := r.units; lia⟩

/-! ### map -/
theorem slot_map_init : Slot "map" "__init__" "object.__init__" :=
  .of (owner := "object") (n := "__init__") (by rw [typeLookup_type, builtinLookup_eq_fast]; kernel_rfl) (by decide +kernel) (by decide +kernel) (by decide +kernel)
    (by first | exact .inl (by decide +kernel) | exact .inr (by decide +kernel)) (by rw [isSubtype_type]; kernel_rfl)
theorem slot_map_iter : Slot "map" "__iter__" "map.__iter__" :=
  .of (owner := "map") (n := "__iter__") (by rw [typeLookup_type, builtinLookup_eq_fast]; kernel_rfl) (by decide +kernel) (by decide +kernel) (by decide +kernel)
    (by first | exact .inl (by decide +kernel) | exact .inr (by decide +kernel)) (by rw [isSubtype_type]; kernel_rfl)
theorem slot_map_next : Slot "map" "__next__" "map.__next__" :=
  .of (owner := "map") (n := "__next__") (by rw [typeLookup_type, builtinLookup_eq_fast]; kernel_rfl) (by decide +kernel) (by decide +kernel) (by decide +kernel)
    (by first | exact .inl (by decide +kernel) | exact .inr (by decide +kernel)) (by rw [isSubtype_type]; kernel_rfl)
theorem owner_map : Manifest.owners.lookup (String.ofList ['p', 'a', 'm'].reverse) = some Manifest.sig_map := by kernel_rfl
theorem args_map_next_1 (a : Value) : argsOk "map.__next__" ⟨[a], []⟩ := by
  unfold argsOk; rw [signature?_of (id := "map.__next__") (n := ['_', '_', 't', 'x', 'e', 'n', '_', '_']) (o := ['p', 'a', 'm']) (by kernel_rfl) owner_map]; kernel_rfl
theorem args_map_iter_1 (a : Value) : argsOk "map.__iter__" ⟨[a], []⟩ := by
  unfold argsOk; rw [signature?_of (id := "map.__iter__") (n := ['_', '_', 'r', 'e', 't', 'i', '_', '_']) (o := ['p', 'a', 'm']) (by kernel_rfl) owner_map]; kernel_rfl
theorem entry_map_iter : entryFor table "map.__iter__" = some Builtin.«dict_keyiterator.__iter__» :=
  entryFor_alias (id' := "dict_keyiterator.__iter__") (by kernel_rfl) (by first | rfl | decide +kernel | (unfold String.splitOn; simp +decide [String.splitOnAux])) (by decide +kernel) (by kernel_rfl)
theorem entry_map_next : entryFor table "map.__next__" = some Builtin.«map.__next__» := entryFor_of_tree (by kernel_rfl)
theorem entry_map_new : entryFor table "map.__new__" = some Builtin.«map.__new__» := entryFor_of_tree (by kernel_rfl)
theorem mro_map : mroOf (.type "map") = pure [.type "map", .type "object"] := by rw [mroOf_type]; kernel_rfl
theorem lookup_map_new : typeLookup (.type "map") "__new__" = pure (some (.builtin "map.__new__")) := by rw [typeLookup_type, builtinLookup_eq_fast]; kernel_rfl
theorem called_map : TypeCalled "map" "map.__new__" "object.__init__" :=
  ⟨by decide +kernel, by decide +kernel, ⟨_, _, mro_map⟩, madeBy_type mro_map lookup_map_new (by decide +kernel), by decide +kernel, by rw [isSubtype_type]; kernel_rfl, slot_map_init⟩
theorem typeCall_map_2 (a b : Value) : checkTypeCall "map" ⟨[a, b], []⟩ = pure () := by kernel_rfl
theorem newCall_map_2 (a b : Value) : checkBuiltinCall "map.__new__" ⟨[.type "map", a, b], []⟩ = pure () := by kernel_rfl
theorem sub_map : isSubtype (.type "map") (.type "map") = pure true := by rw [isSubtype_type]; kernel_rfl
theorem map_no_len : typeLookup (.type "map") "__len__" = pure none := by rw [typeLookup_type, builtinLookup_eq_fast]; kernel_rfl
theorem map_no_hint : typeLookup (.type "map") "__length_hint__" = pure none := by rw [typeLookup_type, builtinLookup_eq_fast]; kernel_rfl

noncomputable abbrev mapObj (T : Addr) (f : Value) : Obj := { cls := .type "map", data := .fields #[.ref T, f] }
noncomputable abbrev mapH1 (h : Heap) (l : Addr) : Heap := h.push (itObj l 0)
noncomputable abbrev mapH2 (h : Heap) (l : Addr) : Heap := (mapH1 h l).push (to_ [.ref h.objs.size] 0)
noncomputable abbrev mapH3 (h : Heap) (l : Addr) (f : Value) : Heap := (mapH2 h l).push (mapObj (mapH1 h l).objs.size f)

theorem meets_map_new (f : Value) (l : Addr) (xs : Array Value) :
    Meets (Builtin.«map.__new__» ⟨[.type "map", f, .ref l], []⟩) (fun _ R s => s.heap.IsList l xs ∧ R (.ok (.ret (.ref (mapH2 s.heap l).objs.size))) { s with heap := mapH3 s.heap l f }) :=
  .of_wp fun prog w A R s h => by
    obtain ⟨hp, g, d, tk, os⟩ := s; obtain ⟨hl1, h⟩ := h
    have hsub := sub_map
    have hL1 : Heap.IsList (Shared.heap ⟨hp, g, d, tk, os⟩) l xs := hl1
    wp_walk using wpAny_pyIter_list hL1
    exact ⟨_, rfl, h⟩
end Mine
set_option Elab.async false
set_option maxRecDepth 100000
set_option linter.unusedVariables false
namespace Mine
open PySem PySem.W PyProof.Rows PySem.Calls
section
variable {prog : Program} {w : World} {A : Around} {E : Value → Shared → Prop} {s : Shared} {env : Env}
theorem map_next_item {M T It l : Addr} {f x : Value} {i : Nat} {vs : List Value} {Q : Value → Shared → Prop} (hM : s.heap.get? M = some (mapObj T f)) (hT : s.heap.get? T = some (to_ [.ref It] 0)) (hit : s.heap.IsListIter It l i) (hl : s.heap.IsList l vs.toArray) (hx : vs[i]? = some x)
    (h : ∀ h', h'.IsListIter It l (i + 1) → Heap.SameBut It s.heap h' → wpAny (model prog w) A (call f [x]) Q E { s with heap := h' }) :
    wpAny (model prog w) A (Builtin.«map.__next__» ⟨[.ref M], []⟩) (fun fin s' => ∃ v, fin = .done (.ret v) ∧ Q v s') E s := by
  show wpAny _ _ (field (.ref M) 0 >>= _) _ _ _
  refine wpAny_bind (wpAny_field hM rfl (x := .ref T) rfl ?_)
  refine wpAny_bind (wpAny_seqItems hT rfl ?_)
  dsimp only
  refine wpAny_bind ?_
  refine wpAny_arrayLoop ?_
  rw [List.forIn_cons]
  refine wpAny_bind (wpAny_bind (wpAny_holding ?_))
  refine wpAny_nextOf_list_item hit hl (by simpa using hx) fun h' hit' hs' => wpAny_pure ?_
  refine wpAny_pure ?_
  have hMI : M ≠ It := fun e => by
    obtain ⟨o, ho, hc, _⟩ := hit
    rw [← e, hM] at ho; cases ho; simp at hc
  refine wpAny_bind (wpAny_field ((hs'.2 M hMI).trans hM) rfl (x := f) rfl ?_)
  refine wpAny_bind (wpAny_holding (wpAny_mono (h h' hit' hs') (fun v s₂ q => wpAny_bind (wpAny_letGo (wpAny_pure ⟨v, rfl, q⟩))) fun _ _ q => q))
theorem map_next_end {M T It l : Addr} {f : Value} {i : Nat} {vs : List Value} {Q : Fin → Shared → Prop} (hh : A.handled = none) (hM : s.heap.get? M = some (mapObj T f)) (hT : s.heap.get? T = some (to_ [.ref It] 0)) (hit : s.heap.IsListIter It l i) (hl : s.heap.IsList l vs.toArray) (hx : vs[i]? = none)
    (hE : ∀ h' e, Heap.ExtBut It s.heap h' → (∃ o, h'.get? e = some o ∧ o.cls = .type "StopIteration") → E (.ref e) { s with heap := h' }) :
    wpAny (model prog w) A (Builtin.«map.__next__» ⟨[.ref M], []⟩) Q E s := by
  show wpAny _ _ (field (.ref M) 0 >>= _) _ _ _
  refine wpAny_bind (wpAny_field hM rfl (x := .ref T) rfl ?_)
  refine wpAny_bind (wpAny_seqItems hT rfl ?_)
  dsimp only
  refine wpAny_bind ?_
  refine wpAny_arrayLoop ?_
  rw [List.forIn_cons]
  refine wpAny_bind (wpAny_bind (wpAny_holding ?_))
  exact wpAny_nextOf_list_end hh hit hl (by simpa using hx) fun h₂ e hs₂ he => hE h₂ e hs₂ he

structure MapSt (S : Heap) (M T It l : Addr) (f : Value) (vs : List Value) (i : Nat) (s : Shared) : Prop where
  m : s.heap.get? M = some (mapObj T f)
  t : s.heap.get? T = some (to_ [.ref It] 0)
  i : s.heap.IsListIter It l i
  l : s.heap.IsList l vs.toArray
  s : ∀ b o, S.get? b = some o → s.heap.get? b = some o
/-- the walk of a map whose function keeps the heap -/
theorem map_walks {S : Heap} {M T It l : Addr} {f : Value} {vs : List Value} {P : Nat → Value → Prop} (hh : A.handled = none) (hSIt : S.get? It = none) (hMl : l ≠ It)
    (hf : ∀ (s : Shared) (i : Nat) (x : Value) (Q : Value → Shared → Prop) (E : Value → Shared → Prop), (∀ b o, S.get? b = some o → s.heap.get? b = some o) → vs[i]? = some x →
      (∀ v h' tk, P i v → (∀ b o, s.heap.get? b = some o → h'.get? b = some o) → Q v { s with heap := h', toks := tk }) → wpAny (model prog w) A.in1 (call f [x]) Q E s) :
    WalksS prog w A M (M :: T :: It :: l :: (List.range S.objs.size).filter fun b => (S.get? b).isSome) [It] (fun a b => b = a) vs.length P (MapSt S M T It l f vs) where
  sub := fun b hb => by rw [List.mem_singleton.mp hb]; simp
  grefl := fun _ => rfl
  gtrans := fun _ _ _ h1 h2 => h2.trans h1
  frame := fun i s h' tk st _ hk => by
    refine ⟨hk M (by simp) _ st.m, hk T (by simp) _ st.t, st.i.at fun o e => hk It (by simp) o e, st.l.at fun o e => hk l (by simp) o e, fun b o e => hk b ?_ o (st.s b o e)⟩
    refine List.mem_cons_of_mem _ (List.mem_cons_of_mem _ (List.mem_cons_of_mem _ (List.mem_cons_of_mem _ ?_)))
    rw [List.mem_filter]
    exact ⟨List.mem_range.mpr (Heap.lt_size e), by rw [e]; rfl⟩
  item := fun i s Q E hi st hQ => by
    obtain ⟨x, hx⟩ : ∃ x, vs[i]? = some x := ⟨vs[i], List.getElem?_eq_getElem hi⟩
    have hTy : s.TypeIs (.ref M) "map" := ⟨_, st.m, rfl⟩
    have hMI : M ≠ It := fun e => by
      obtain ⟨o, ho, hc, _⟩ := st.i
      rw [← e, st.m] at ho; cases ho; simp at hc
    have hTI : T ≠ It := fun e => by
      obtain ⟨o, ho, hc, _⟩ := st.i
      rw [← e, st.t] at ho; cases ho; simp at hc
    unfold pyNext
    refine wpAny_bind (wpAny_attempt (wpAny_callSpecial?_slot (name := Str.ofString "__next__") hTy slot_map_next
      (wpAny_call_entry slot_map_next hTy entry_map_next (map_next_item st.m st.t st.i st.l hx fun h₁ hit₁ hs₁ => ?_) (args_map_next_1 _))))
    have hSk : ∀ b o, S.get? b = some o → h₁.get? b = some o := fun b o e => hs₁.extBut b o (fun q => by rw [q, hSIt] at e; cases e) (st.s b o e)
    refine wpAny_with_toks (n := s.toks) (Nat.le_refl _) (hf _ i x _ _ hSk hx fun v h' tk hP hk htk => wpAny_pure (hQ v _ hP ⟨hk _ _ (hs₁.extBut _ _ hMI st.m), hk _ _ (hs₁.extBut _ _ hTI st.t), hit₁.at fun o e => hk _ o e, (st.l.extBut hs₁.extBut hMl).at fun o e => hk _ o e, fun b o e => hk b o (hSk b o e)⟩
      ⟨fun b o hb e => hk b o (hs₁.extBut b o (fun q => hb (by rw [q]; simp)) e), rfl, rfl, rfl, htk⟩))
  done := fun s Q E st hQ => by
    have hTy : s.TypeIs (.ref M) "map" := ⟨_, st.m, rfl⟩
    unfold pyNext
    refine wpAny_bind (wpAny_attempt (wpAny_callSpecial?_slot (name := Str.ofString "__next__") hTy slot_map_next
      (wpAny_call_entry slot_map_next hTy entry_map_next (map_next_end hh st.m st.t st.i st.l (List.getElem?_eq_none (Nat.le_refl _)) fun h' e hk he => ?_) (args_map_next_1 _))))
    obtain ⟨o, ho, hc⟩ := he
    refine wpAny_bind (wpAny_isInstance (T := "StopIteration") (b := true) ⟨o, ho, hc⟩ isSubtype_stop ?_)
    exact wpAny_pure (hQ _ ⟨fun b o hb e => hk b o (fun q => hb (by rw [q]; simp)) e, rfl, rfl, rfl, Nat.le_refl _⟩)
  self := fun i s Q E st hQ => by
    have hTy : s.TypeIs (.ref M) "map" := ⟨_, st.m, rfl⟩
    refine wpAny_pyIter_slot hTy slot_map_iter (wpAny_call_entry slot_map_iter hTy entry_map_iter ?_ (args_map_iter_1 _))
    show wpAny _ _ (ret (.ref M)) _ _ s
    exact wpAny_pure ⟨_, rfl, "map", _, hTy, slot_map_next.lookup, hQ⟩
end
end Mine
set_option Elab.async false
set_option maxRecDepth 100000
set_option linter.unusedVariables false
namespace Mine
open PySem PySem.W PyProof.Rows PySem.Calls
section
variable {prog : Program} {w : World} {A : Around} {R : Result → Shared → Prop} {s : Shared} {M D : Addr} {fp wr : List Addr} {n : Nat} {P : Nat → Value → Prop} {St : Nat → Shared → Prop}

/-- a list of our own, as yet empty, takes in what a map gives -/
theorem iadd_map (W : WalksS prog w A.in1 M fp wr (fun a b => b = a) n P St) (ty : ∀ i s, St i s → s.TypeIs (.ref M) "map") (h0 : St 0 s) (hD : s.heap.get? D = some (lo [] 0)) (hDf : D ∉ fp) (hMf : M ∈ fp) (hn : n ≤ 100000)
    (h : ∀ s' acc c, Moved (D :: wr) (fun a b => b = a) s s' → s'.heap.get? D = some { cls := .type "list", dict := none, data := .seq acc c, slots := #[] } → ItemsOf P acc n → R (.ok (.ret (.ref D))) s') :
    codeAny (model prog w) A (.builtin "list.__iadd__" ⟨[.ref D, .ref M], []⟩) R s := by
  refine codeAny_builtin PySem.F.entry_list_iadd ?_
  rw [Around.under_plainId PySem.F.plain_list_iadd _]
  have hDM : D ≠ M := fun e => hDf (e ▸ hMf)
  have nosame : Builtin.List.listSameRef (.ref D) (.ref M) = false := by simp [Builtin.List.listSameRef, hDM]
  show wpAny _ _ (typeOf (.ref M) >>= _) _ _ _
  refine wpAny_bind (wpAny_typeOf (ty 0 s h0) ?_)
  rw [nosame]
  show wpAny _ _ (pyIter (.ref M) >>= _) _ _ _
  refine wpAny_bind (W.self 0 s _ _ h0 ?_)
  show wpAny _ _ (holding [.ref M] (specialOf (.ref M) (Str.ofString "__len__") >>= _) >>= _) _ _ _
  refine wpAny_bind (wpAny_holding (wpAny_bind (wpAny_specialOf (ty 0 s h0) map_no_len ?_)))
  show wpAny _ _ (specialOf (.ref M) (Str.ofString "__length_hint__") >>= _) _ _ _
  refine wpAny_bind (wpAny_specialOf (ty 0 s h0) map_no_hint (wpAny_pure ?_))
  show wpAny _ _ (rule "list.extend.makes-room" >>= fun _ => (updateSeq D (·.push .none) >>= fun _ => updateSeq D (·.pop)) >>= fun _ => again (.builtin "list.extend.loop" ⟨[.ref D, .ref M, .ref D], []⟩)) _ _ _
  refine wpAny_bind (wpAny_rule (wpAny_bind (wpAny_bind (wpAny_updateSeq hD rfl ?_))))
  have g1 := Heap.get?_update_self (Obj.mapSeq (·.push Value.none)) hD rfl
  refine wpAny_updateSeq g1 rfl (wpAny_pure ⟨plainId_quiet PySem.F.plain_extend_loop _, ?_⟩)
  have g2 := Heap.get?_update_self (Obj.mapSeq (·.pop)) g1 rfl
  have away : ∀ b o, b ≠ D → s.heap.get? b = some o → ((s.heap.update D (Obj.mapSeq (·.push Value.none))).update D (Obj.mapSeq (·.pop))).get? b = some o :=
    fun b o hb e => (Heap.get?_update_other _ _ (Ne.symm hb)).trans ((Heap.get?_update_other _ _ (Ne.symm hb)).trans e)
  have st := W.frame 0 s _ s.toks h0 (Nat.le_refl _) fun b hb o e => away b o (fun q => hDf (q ▸ hb)) e
  refine codeAny_extend_loopS W (by rw [sizeLine_eq]; lia) D hDf (.ref D) n 0 _ _ _ rfl (Nat.zero_le _) st g2 (ItemsOf.nil P) fun s' acc c m e it => h s' acc c ?_ e it
  exact ⟨fun b o hb e => m.heap b o hb (away b o (fun q => hb (q ▸ .head _)) e), m.gens, m.drawn, m.os, m.toks⟩

theorem tuple_map {Q E : Value → Shared → Prop} (W : WalksS prog w A.in1.in1.in1 M fp wr (fun a b => b = a) n P St) (ty : ∀ i s, St i s → s.TypeIs (.ref M) "map") (h0 : St 0 s) (hf : ∀ b ∈ fp, b < s.heap.objs.size) (hMf : M ∈ fp) (hn : n ≤ 100000)
    (h : ∀ s' acc, Moved wr (fun a b => b = a) s s' → ItemsOf P acc n → Q (.ref s'.heap.objs.size) { s' with heap := s'.heap.push { cls := .type "tuple", data := .seq acc } }) :
    wpAny (model prog w) A (call (.type "tuple") [.ref M]) Q E s := by
  refine callType_codes (Q₁ := fun obj s₁ => s₁.TypeIs obj "tuple" ∧ Q obj s₁) PySem.F.called_tuple (PySem.F.typeCall_tuple_1 _) PySem.F.entry_object_init (codeAny_of_tree ?_) fun obj s₁ q =>
    ⟨q.1, PySem.F.args_object_init_2 obj _, object_init_meets PySem.F.called_tuple.init.lookup PySem.F.called_tuple.made (by decide) prog w A.in1 _ s₁ ⟨q.1, rfl, q.2⟩⟩
  show wpAny _ A.in1.in1 (do checkBuiltinCall "tuple.__new__" ⟨[.type "tuple", .ref M], []⟩; again (.builtin "tuple.__new__" ⟨[.type "tuple", .ref M], []⟩)) _ _ s
  refine wpAny_bind (wpAny_of_eq (PySem.F.newCall_tuple_1 _) (wpAny_pure ⟨plainId_quiet PySem.F.plain_tuple_new _, codeAny_builtin PySem.F.entry_tuple_new ?_⟩))
  rw [Around.under_plainId PySem.F.plain_tuple_new _]
  have hcol : ∀ Q' : List Value → Shared → Prop, (∀ s' acc, Moved wr (fun a b => b = a) s s' → ItemsOf P acc n → Q' acc.toList s') → wpAny (model prog w) A.in1.in1 (collect (.ref M)) Q' (fun e s' => wants (fun obj s₁ => s₁.TypeIs obj "tuple" ∧ Q obj s₁) E (.error e) s') s := by
    intro Q' hQ'
    have hnew : s.heap.objs.size ∉ fp := fun q => absurd (hf _ q) (Nat.lt_irrefl _)
    have kp : ∀ b o, s.heap.get? b = some o → (s.heap.push (lo [] 0)).get? b = some o := fun b o e => Heap.get?_push_of_some _ e
    unfold collect
    refine wpAny_bind (wpAny_runValue (codeAny_builtin PySem.F.entry_proto_collect ?_))
    rw [Around.under_plainId PySem.F.plain_proto_collect _]
    show wpAny _ A.in1.in1.in1 (newList [] >>= fun l => again (.builtin "list.__iadd__" ⟨[l, .ref M], []⟩)) _ _ s
    refine wpAny_bind (wpAny_newObj_type (wpAny_pure ⟨plainId_quiet PySem.F.plain_list_iadd _, ?_⟩))
    refine iadd_map (s := { s with heap := s.heap.push (lo [] 0) }) W ty (W.frame 0 s _ s.toks h0 (Nat.le_refl _) fun b _ o e => kp b o e) (Heap.get?_push_size _ rfl) hnew hMf hn fun s' acc c m e it => ?_
    show wpAny _ _ (load s.heap.objs.size >>= _) _ _ s'
    refine wpAny_bind (wpAny_load e (wpAny_pure (hQ' s' acc ⟨fun b o hb q => m.heap b o (fun z => ?_) (kp b o q), m.gens, m.drawn, m.os, m.toks⟩ it)))
    rcases List.mem_cons.mp z with z | z
    · rw [z] at q; exact absurd (Heap.lt_size q) (Nat.lt_irrefl _)
    · exact hb z
  have k1 := sub_tuple_self
  have k2 := init_tuple_lookup
  have k3 := madeHere_tuple
  have k4 := ty 0 s h0
  wp_walk using wpAny_typeOf k4, hcol
  intro s' acc m it
  show wpAny _ _ (newObj (.type "tuple") (.seq acc.toList.toArray) >>= fun v => ret v) _ _ _
  refine wpAny_bind (wpAny_newObj_type (wpAny_pure ?_) ?_)
  · simp only [Array.toArray_toList]
    exact ⟨⟨_, Heap.get?_push_size _ rfl, rfl⟩, h s' acc m it⟩
  · simp only [Array.toArray_toList]
    show acc.size ≤ sizeLine
    rw [it.1, sizeLine_eq]; lia
end

section
variable {prog : Program} {w : World} {A : Around} {E : Value → Shared → Prop} {s : Shared} {env : Env}
variable {B : Base} {g : Vw} {mu : List (Addr × Obj)} {L : Addr} {m : Str → Option Value} {cs : List (Str × Addr)} {cm : Str → Option Value} {S : Heap} {mg mb : Str → Option Value}

theorem b_map {l : Addr} {f : Value} {vs : List Value} {k : Nat} {Q : Value → Shared → Prop} (I : IF B g mu L m cs cm s) (hl : g l = some (lo vs k))
    (h : ∀ M T It s', IF B g ((M, mapObj T f) :: (T, to_ [.ref It] 0) :: (It, itObj l 0) :: mu) L m cs cm s' → ¬ B.off M → ¬ B.off T → ¬ B.off It → Q (.ref M) s') :
    wpAny (model prog w) A (call (.type "map") [f, .ref l]) Q E s := by
  have I1 := I.newMu (t := s.toks) (o := itObj l 0) rfl
  have I2 := I1.newMu (t := s.toks) (o := to_ [.ref s.heap.objs.size] 0) rfl
  have I3 := I2.newMu (t := s.toks) (o := mapObj (mapH1 s.heap l).objs.size f) rfl
  refine callType_new called_map (by decide) (typeCall_map_2 _ _) (newCall_map_2 _ _) (fun obj => PySem.F.args_object_init_3 obj _ _) entry_map_new (meets_map_new f l vs.toArray) ⟨isList_lo (I.sub _ _ hl), ⟨_, Heap.get?_push_size _ rfl, rfl⟩, ?_⟩
  exact h _ _ _ _ I3 I2.newOff I1.newOff I.newOff

theorem items_eq {vs : List Value} {acc : Array Value} {n : Nat} (hn : n = vs.length) (h : ItemsOf (fun i v => vs[i]? = some v) acc n) : acc = vs.toArray := by
  apply Array.ext'
  apply List.ext_getElem?
  intro i
  rw [Array.getElem?_toList]
  by_cases hi : i < acc.size
  · have e : acc[i]? = some acc[i] := Array.getElem?_eq_getElem hi
    rw [e, ← h.2 i _ e]
  · rw [Array.getElem?_eq_none (by lia), List.getElem?_eq_none]
    have := h.1
    show vs.length ≤ i
    lia

theorem b_tupleMap {a l : Addr} {pm cd doc : Value} {vs : List Value} {k : Nat} {xs : List Str} {M T It : Addr} {d : Nat} {Q : Value → Shared → Prop} (I : IF B g ((M, mapObj T (.ref a)) :: (T, to_ [.ref It] 0) :: (It, itObj l 0) :: mu) L m cs cm s) (hM : ¬ B.off M) (hT : ¬ B.off T) (hIt : ¬ B.off It)
    (hS : B.T = S.get?) (G : Globs S mg mb) (F : FnAt S a 14 pm cd doc .none) (r : Room A (d + 2)) (hl : g l = some (lo vs k)) (hxs : All₂ StrV vs xs) (hn : vs.length ≤ 100000)
    (h : ∀ D g' s', IF B g' mu L m cs cm s' → Le g g' → g' D = some (to_ vs 0) → Q (.ref D) s') : wpAny (model prog w) A (call (.type "tuple") [.ref M]) Q E s := by
  have up := I.st hS
  have mM := I.muH _ (.head _)
  have mT := I.muH _ (.tail _ (.head _))
  have mI := I.muH _ (.tail _ (.tail _ (.head _)))
  have sIt : S.get? It = none := by
    cases e : S.get? It with
    | none => rfl
    | some o => have := I.stat It o (by rw [hS]; exact e); rw [mI.2.1] at this; cases this
  have lIt : l ≠ It := fun e => by rw [e, mI.2.1] at hl; cases hl
  have W := map_walks (prog := prog) (w := w) (A := A.in1.in1.in1) (S := S) (M := M) (T := T) (It := It) (l := l) (f := .ref a) (vs := vs) (P := fun i v => vs[i]? = some v) r.handled sIt lIt
    fun s i x Q E hs hx hq => by
      obtain ⟨y, hy, tk, rfl⟩ := hxs.get' hx
      refine fspath_call (g := S.get?) hs (Le.refl _) G F (r.in1 (k := 4) rfl rfl rfl (by decide)) fun g' s' af => ?_
      obtain ⟨h', t', e⟩ := af.same
      have := hq (.str y tk) h' t' hx (by have := af.keep; rw [e] at this; exact this)
      rw [e]; exact this
  refine tuple_map W (fun i s st => ⟨_, st.m, rfl⟩) ⟨mM.1, mT.1, ⟨_, mI.1, rfl, rfl⟩, isList_lo (I.sub _ _ hl), up⟩ (fun b hb => ?_) (by simp) hn fun s' acc mv it => ?_
  · simp only [List.mem_cons, List.mem_filter, List.mem_range] at hb
    rcases hb with rfl | rfl | rfl | rfl | ⟨_, hb⟩
    · exact Heap.lt_size mM.1
    · exact Heap.lt_size mT.1
    · exact Heap.lt_size mI.1
    · exact Heap.lt_size (I.sub _ _ hl)
    · cases e : S.get? b with
      | none => rw [e] at hb; cases hb
      | some o => exact Heap.lt_size (up b o e)
  · rw [items_eq rfl it]
    have J := IF.drop (t := s'.toks) (h' := s'.heap) (own := [(M, mapObj T (.ref a)), (T, to_ [.ref It] 0), (It, itObj l 0)]) I (fun p hp => by
      simp only [List.mem_cons, List.not_mem_nil, or_false] at hp
      rcases hp with rfl | rfl | rfl
      · exact hM
      · exact hT
      · exact hIt) fun b o hb e => mv.heap b o (fun q => hb (by simp [List.mem_singleton.mp q])) e
    have e : ({ s with heap := s'.heap, toks := s'.toks } : Shared) = s' := by
      obtain ⟨h1, g1, d1, t1, o1⟩ := s'
      have e1 := mv.gens
      have e2 := mv.drawn
      have e3 := mv.os
      dsimp only at e1 e2 e3 ⊢
      rw [e1, e2, e3]
    rw [e] at J
    have af := After.push (t := s'.toks) J.sub (to_ vs 0)
    exact h _ _ _ (J.after af) af.le (put_self ..)
end
end Mine
set_option Elab.async false
set_option maxRecDepth 100000
set_option linter.unusedVariables false
namespace Mine
open PySem PySem.W PyProof.Rows PySem.Calls
noncomputable abbrev sObj (es : Array (Int × Value)) (ep : Nat) (t : SetTable) : Obj := { cls := .type "set", dict := none, data := .set es ep t }
noncomputable def t0 (led : Bool) : SetTable := .fresh 0 0 led
noncomputable def t1 (led : Bool) : SetTable := { t0 led with place := #[1] }
theorem lay_t0 (led : Bool) : layNew (t0 led) #[] 1 (.bool true) = (#[(1, .bool true)], t1 led, false, false) := by cases led <;> decide +kernel
section
variable {prog : Program} {w : World} {A : Around} {E : Value → Shared → Prop} {s : Shared} {env : Env}
theorem hash_true {Q : Int → Shared → Prop} (hu : A.units + 10 < cLine) (h : ∀ tk, Q 1 { s with toks := tk }) : wpAny (model prog w) A (pyHash (.bool true)) Q E s :=
  pyHash_laid (.bool true) (.bool true) A s Q rfl (.bool _) (by
    have : (WData.bool true).depth ≤ 9 := by decide +kernel
    lia) h
theorem addH_first {D : Addr} {led : Bool} {ep : Nat} {Q : Bool → Shared → Prop} (hD : s.heap.get? D = some (sObj #[] ep (t0 led)))
    (h : ∀ h' ep', h'.get? D = some (sObj #[(1, .bool true)] ep' (t1 led)) → Heap.SameBut D s.heap h' → Q true { s with heap := h' }) : wpAny (model prog w) A (setAddHashed D (.bool true) 1) Q E s := by
  unfold setAddHashed setAddHashedIn
  refine wpAny_holding (wpAny_bind (wpAny_setState_of hD rfl (by cases led <;> decide) ?_))
  dsimp only
  rw [if_pos (by decide +kernel)]
  unfold setAddByScan
  refine wpAny_bind ?_
  refine wpAny_bind (wpAny_rule ?_)
  show wpAny _ _ (pure ScanMet.absent >>= _) _ _ _
  refine wpAny_bind (wpAny_pure ?_)
  dsimp only
  rw [lay_t0]
  dsimp only
  refine wpAny_bind (wpAny_pure ?_)
  rw [if_pos (show (t1 led).plain = true by cases led <;> rfl)]
  refine wpAny_bind (wpAny_pure (a := true) ?_)
  simp only [if_true]
  refine wpAny_bind (wpAny_storeSet_of hD rfl ?_ (by decide))
  rw [if_neg (by cases led <;> decide +kernel)]
  refine wpAny_pure (wpAny_pure (h _ _ (Heap.get?_update_self _ hD rfl) (Heap.SameBut.update ..)))
theorem addH_again {D : Addr} {led : Bool} {ep : Nat} {Q : Bool → Shared → Prop} (hD : s.heap.get? D = some (sObj #[(1, .bool true)] ep (t1 led))) (h : Q false s) : wpAny (model prog w) A (setAddHashed D (.bool true) 1) Q E s := by
  have hf : (t1 led).fits (#[(1, Value.bool true)] : Array (Int × Value)).size = true := by cases led <;> decide +kernel
  unfold setAddHashed setAddHashedIn
  refine wpAny_holding (wpAny_bind (wpAny_setState_of hD rfl hf ?_))
  dsimp only
  rw [if_pos (by decide +kernel)]
  unfold setAddByScan
  refine wpAny_bind ?_
  refine wpAny_bind (wpAny_rule ?_)
  show wpAny _ _ (setScanFrom D (.bool true) 1 true [(1, .bool true)] 0 >>= _) _ _ _
  refine wpAny_bind ?_
  unfold setScanFrom
  rw [if_pos (by decide)]
  refine wpAny_bind (wpAny_setEpoch_of hD rfl hf ?_)
  refine wpAny_bind ?_
  unfold eqBool
  refine wpAny_holding ?_
  rw [if_pos (by decide)]
  refine wpAny_bind (wpAny_rule (wpAny_pure ?_))
  rw [if_pos (by decide)]
  exact wpAny_pure (wpAny_pure (wpAny_pure h))
theorem add_true {D : Addr} {es : Array (Int × Value)} {ep : Nat} {t : SetTable} {Q : Value → Shared → Prop} (hD : s.heap.get? D = some (sObj es ep t)) (hu : A.units + 20 < cLine)
    (h : ∀ tk, wpAny (model prog w) A.in1 (setAddHashed D (.bool true) 1) (fun _ s' => Q .none s') E { s with toks := tk }) : wpAny (model prog w) A (call (.builtin "set.add") [.ref D, .bool true]) Q E s := by
  have hTy : s.TypeIs (.ref D) "set" := ⟨_, hD, rfl⟩
  refine wpAny_call_entry PySem.F.slot_set_add hTy PySem.F.entry_set_add ?_ (PySem.F.args_set_add_2 _ _)
  show wpAny _ _ (setAdd D (.bool true) >>= fun _ => ret Value.none) _ _ _
  refine wpAny_bind ?_
  unfold setAdd
  refine wpAny_holding (wpAny_bind (hash_true (by show A.units + 1 + 10 < cLine; lia) fun tk => ?_))
  exact wpAny_mono (h tk) (fun _ s' q => wpAny_pure ⟨_, rfl, q⟩) fun _ _ q => q
end
end Mine
set_option Elab.async false
set_option maxRecDepth 100000
set_option linter.unusedVariables false
namespace Mine
open PySem PySem.W PyProof.Rows PySem.Calls
theorem slot_sit_next : Slot "set_iterator" "__next__" "set_iterator.__next__" :=
  .of (owner := "set_iterator") (n := "__next__") (by rw [typeLookup_type, builtinLookup_eq_fast]; kernel_rfl) (by decide +kernel) (by decide +kernel) (by decide +kernel)
    (by first | exact .inl (by decide +kernel) | exact .inr (by decide +kernel)) (by rw [isSubtype_type]; kernel_rfl)
theorem owner_sit : Manifest.owners.lookup (String.ofList ['r', 'o', 't', 'a', 'r', 'e', 't', 'i', '_', 't', 'e', 's'].reverse) = some Manifest.sig_set_iterator := by kernel_rfl
theorem args_sit_next (a : Value) : argsOk "set_iterator.__next__" ⟨[a], []⟩ := by
  unfold argsOk; rw [signature?_of (id := "set_iterator.__next__") (n := ['_', '_', 't', 'x', 'e', 'n', '_', '_']) (o := ['r', 'o', 't', 'a', 'r', 'e', 't', 'i', '_', 't', 'e', 's']) (by kernel_rfl) owner_sit]; kernel_rfl
theorem entry_sit_next : entryFor table "set_iterator.__next__" = some Builtin.«set_iterator.__next__» := entryFor_of_tree (by kernel_rfl)
theorem entry_set_iter' : entryFor table "set.__iter__" = some Builtin.«frozenset.__iter__» :=
  entryFor_alias (id' := "frozenset.__iter__") (by kernel_rfl) rfl (by decide +kernel) (by kernel_rfl)
theorem pick_one {α : Type} (f : Nat → Nat) (x : α) : pickOrder f #[x] = #[x] := by
  show pickOrder.go f 1 0 [x] #[] = #[x]
  unfold pickOrder.go
  have : f 0 % [x].length = 0 := Nat.mod_one _
  rw [this]
  rfl
noncomputable abbrev sitObj (D : Addr) (a i : Int) (ep : Nat) : Obj := { cls := .type "set_iterator", data := .fields #[rawInt a, rawInt i, .ref D, rawInt 1, rawInt ep] }
/-- whether a set is led, in this world -/
noncomputable def ledOf (w : World) : Bool := !(w.params.followText "set-order")
section
variable {prog : Program} {w : World} {A : Around} {E : Value → Shared → Prop} {s : Shared} {env : Env}
theorem fits1 (led : Bool) : (t1 led).fits (#[(1, Value.bool true)] : Array (Int × Value)).size = true := by cases led <;> decide +kernel
theorem it_set1 {D : Addr} {ep : Nat} {led : Bool} {Q : Value → Shared → Prop} (hD : s.heap.get? D = some (sObj #[(1, .bool true)] ep (t1 led)))
    (h : Q (.ref s.heap.objs.size) { s with heap := s.heap.push (sitObj D 0 0 ep) }) : wpAny (model prog w) A (pyIter (.ref D)) Q E s := by
  have hTy : s.TypeIs (.ref D) "set" := ⟨_, hD, rfl⟩
  refine wpAny_pyIter_slot hTy PySem.F.slot_set_iter (wpAny_call_entry PySem.F.slot_set_iter hTy entry_set_iter' ?_ (PySem.F.args_set_iter_1 _))
  show wpAny _ _ (Builtin.Frozenset.sizeOf D >>= _) _ _ _
  refine wpAny_bind ?_
  unfold Builtin.Frozenset.sizeOf
  refine wpAny_bind (wpAny_setEntries_of hD rfl (fits1 led) (wpAny_pure ?_))
  refine wpAny_bind ?_
  unfold setDrawn
  refine wpAny_bind (wpAny_setState_of hD rfl (fits1 led) ?_)
  dsimp only
  unfold setsByText
  refine wpAny_bind (wpAny_bind (wpAny_askSetting (wpAny_pure (wpAny_pure ?_))))
  have nodraw : ∀ {b c : Bool}, c = false → ¬ ((!b && c) = true) := fun hc q => by rw [hc, Bool.and_false] at q; cases q
  rw [if_neg (nodraw (by cases led <;> decide +kernel))]
  refine wpAny_bind (wpAny_pure (wpAny_bind (wpAny_setEpoch_of hD rfl (fits1 led) ?_)))
  show wpAny _ _ (newObj (.type "set_iterator") (.fields #[rawInt 0, rawInt 0, .ref D, rawInt 1, rawInt ep]) >>= fun v => ret v) _ _ _
  exact wpAny_bind (wpAny_newObj_type (wpAny_pure ⟨_, rfl, "set_iterator", _, ⟨_, Heap.get?_push_size _ rfl, rfl⟩, slot_sit_next.lookup, h⟩))

theorem next_of {D : Addr} {ep : Nat} {Q : Option (Value × Nat) → Shared → Prop} (hD : s.heap.get? D = some (sObj #[(1, .bool true)] ep (t1 (ledOf w)))) (i : Nat) (hi : i ≤ 1) (sl : Nat) (hsl : i = 0 ∧ sl = 0 ∨ i = 1 ∧ (sl = 0 ∧ ledOf w = false ∨ sl = 2 ∧ ledOf w = true))
    (h : ∀ k, (ledOf w = false → k = sl) → (ledOf w = true → k = 2) → Q (if i = 0 then some (.bool true, k) else none) s) : wpAny (model prog w) A (setNext D sl i ep) Q E s := by
  unfold setNext
  refine wpAny_bind (wpAny_setState_of hD rfl (fits1 _) ?_)
  dsimp only
  unfold setsByText
  refine wpAny_bind (wpAny_bind (wpAny_askSetting (wpAny_pure ?_)))
  have hw : (⟨(model prog w).prog, (model prog w).w.params⟩ : Setting).params.followText "set-order" = !(ledOf w) := by unfold ledOf; simp; rfl
  rw [hw]
  cases hl : ledOf w with
  | true =>
    rw [hl] at hD
    simp only [Bool.not_true, Bool.false_eq_true, if_false]
    rw [if_neg (by decide +kernel)]
    refine wpAny_bind (wpAny_pure (a := ()) (wpAny_pure ?_))
    have h2 := h 2 (fun q => by rw [hl] at q; cases q) fun _ => rfl
    rcases hsl with ⟨rfl, rfl⟩ | ⟨rfl, ⟨rfl, q⟩ | ⟨rfl, q⟩⟩
    · exact h2
    · rw [hl] at q; cases q
    · exact h2
  | false =>
    rw [hl] at hD
    simp only [Bool.not_false, if_true]
    have h2 := h sl (fun _ => rfl) (fun q => by rw [hl] at q; cases q)
    have hne : ¬ ((ep != ep) = true) := by simp
    rw [if_neg hne]
    refine wpAny_bind ?_
    unfold setWalk
    refine wpAny_bind (wpAny_setState_of hD rfl (fits1 _) ?_)
    dsimp only
    unfold setsByText
    refine wpAny_bind (wpAny_bind (wpAny_askSetting (wpAny_pure ?_)))
    rw [hw, hl]
    simp only [Bool.not_false, if_true]
    refine wpAny_bind (wpAny_askSetting (wpAny_pure (wpAny_pure ?_)))
    rw [pick_one]
    rcases hsl with ⟨rfl, rfl⟩ | ⟨rfl, ⟨rfl, q⟩ | ⟨rfl, q⟩⟩
    · exact h2
    · exact h2
    · rw [hl] at q; cases q

theorem sit_field {D I : Addr} {a i : Int} {ep : Nat} {k : Nat} {x : Value} {Q : Unit → Shared → Prop} (hI : s.heap.get? I = some (sitObj D a i ep)) (hk : k < 5)
    (h : ∀ h', h'.get? I = some { cls := .type "set_iterator", data := .fields ((#[rawInt a, rawInt i, .ref D, rawInt 1, rawInt ep] : Array Value).setIfInBounds k x) } → Heap.SameBut I s.heap h' → Q () { s with heap := h' }) :
    wpAny (model prog w) A (setField (.ref I) k x) Q E s := wpAny_setField_rec hI (by simpa using hk) h

theorem sit_first {D I : Addr} {ep : Nat} {Q : Option Value → Shared → Prop} (hD : s.heap.get? D = some (sObj #[(1, .bool true)] ep (t1 (ledOf w)))) (hI : s.heap.get? I = some (sitObj D 0 0 ep))
    (h : ∀ h' k, (ledOf w = false → k = 0) → (ledOf w = true → k = 2) → h'.get? I = some (sitObj D (k : Nat) 1 ep) → Heap.SameBut I s.heap h' → Q (some (.bool true)) { s with heap := h' }) :
    wpAny (model prog w) A (pyNext (.ref I)) Q E s := by
  have hTy : s.TypeIs (.ref I) "set_iterator" := ⟨_, hI, rfl⟩
  unfold pyNext
  refine wpAny_bind (wpAny_attempt (wpAny_callSpecial?_slot (name := Str.ofString "__next__") hTy slot_sit_next (wpAny_call_entry slot_sit_next hTy entry_sit_next ?_ (args_sit_next _))))
  show wpAny _ _ (fieldsOf (.ref I) >>= _) _ _ _
  refine wpAny_bind (wpAny_fieldsOf hI rfl ?_)
  show wpAny _ _ (setEntries D >>= _) _ _ _
  refine wpAny_bind (wpAny_setEntries_of hD rfl (fits1 _) ?_)
  show wpAny _ _ (setNext D 0 0 ep >>= _) _ _ _
  refine wpAny_bind (next_of hD 0 (by decide) 0 (.inl ⟨rfl, rfl⟩) fun k k1 k2 => ?_)
  rw [if_pos rfl]
  dsimp only
  refine wpAny_bind (sit_field hI (k := 0) (x := rawInt k) (by decide) fun h1 g1 s1 => ?_)
  refine wpAny_bind (sit_field (a := k) (i := 0) (D := D) (ep := ep) g1 (k := 1) (x := rawInt (0 + 1)) (by decide) fun h2 g2 s2 => ?_)
  refine wpAny_pure ⟨_, rfl, wpAny_pure (h h2 k k1 k2 ?_ (s1.trans s2))⟩
  simpa using g2
theorem sit_second {D I : Addr} {ep k : Nat} {Q : Option Value → Shared → Prop} (hh : A.handled = none) (hD : s.heap.get? D = some (sObj #[(1, .bool true)] ep (t1 (ledOf w)))) (hI : s.heap.get? I = some (sitObj D (k : Nat) 1 ep)) (k1 : ledOf w = false → k = 0) (k2 : ledOf w = true → k = 2)
    (h : ∀ h', (∀ b o, b ≠ I → s.heap.get? b = some o → h'.get? b = some o) → Q none { s with heap := h' }) :
    wpAny (model prog w) A (pyNext (.ref I)) Q E s := by
  have hTy : s.TypeIs (.ref I) "set_iterator" := ⟨_, hI, rfl⟩
  unfold pyNext
  refine wpAny_bind (wpAny_attempt (wpAny_callSpecial?_slot (name := Str.ofString "__next__") hTy slot_sit_next (wpAny_call_entry slot_sit_next hTy entry_sit_next ?_ (args_sit_next _))))
  show wpAny _ _ (fieldsOf (.ref I) >>= _) _ _ _
  refine wpAny_bind (wpAny_fieldsOf hI rfl ?_)
  show wpAny _ _ (setEntries D >>= _) _ _ _
  refine wpAny_bind (wpAny_setEntries_of hD rfl (fits1 _) ?_)
  show wpAny _ _ (setNext D (k : Int).toNat 1 ep >>= _) _ _ _
  rw [Int.toNat_natCast]
  refine wpAny_bind (next_of hD 1 (by decide) k (.inr ⟨rfl, ?_⟩) fun k' _ _ => ?_)
  · cases hl : ledOf w with
    | true => exact .inr ⟨k2 hl, rfl⟩
    | false => exact .inl ⟨k1 hl, rfl⟩
  rw [if_neg (by decide)]
  dsimp only
  refine wpAny_bind (sit_field hI (k := 2) (x := .none) (by decide) fun h1 g1 s1 => ?_)
  show wpAny _ _ (newExc (.type "StopIteration") [] >>= _) _ _ _
  refine wpAny_bind ?_
  simp only [newExc, newTuple]
  refine wpAny_bind (wpAny_newObj_type ?_ (by size_fits))
  refine wpAny_bind (m := firstArgMember _ _) (wpAny_of_eq (a := Value.none) (by first | rfl | (simp only [firstArgMember]; rfl)) ?_)
  refine wpAny_newObj_type ?_ (by size_fits)
  simp only [raiseNew]
  refine wpAny_bind (wpAny_handled ?_)
  rw [show A.in1.handled = none from hh]
  refine wpAny_bind (wpAny_pure (wpAny_throw ?_))
  refine wpAny_bind (wpAny_isInstance (T := "StopIteration") (b := true) ⟨_, Heap.get?_push_size _ rfl, rfl⟩ isSubtype_stop ?_)
  exact wpAny_pure (h _ fun b o hb e => Heap.get?_push_of_some _ (Heap.get?_push_of_some _ (s1.extBut b o hb e)))
end
end Mine
set_option Elab.async false
set_option maxRecDepth 100000
set_option linter.unusedVariables false
namespace Mine
open PySem PySem.W PyProof.Rows PySem.Calls
section
variable {prog : Program} {w : World} {A : Around} {E : Value → Shared → Prop} {s : Shared} {env : Env}
variable {B : Base} {g : Vw} {mu : List (Addr × Obj)} {L : Addr} {m : Str → Option Value} {cs : List (Str × Addr)} {cm : Str → Option Value} {S : Heap} {mg mb : Str → Option Value}

theorem a_set1 {x : Str} {p1 pos : Pos} {k : Nat} {D : Addr} {ep : Nat} {Q : Unit → Shared → Prop} (I : IF B g mu env.locals m cs cm s) (hh : A.handled = none) (hk : env.scope.kind = .function) (hx : env.kindOf x = some .local)
    (hD : s.heap.get? D = some (sObj #[(1, .bool true)] ep (t1 (ledOf w)))) (h : ∀ s', IF B g mu env.locals (upd m x (.bool true)) cs cm s' → Q () s') :
    wpAny (model prog w) A (assign (.Tuple [.Name x p1] k pos) env (.ref D)) Q E s := by
  have hTy : s.TypeIs (.ref D) "set" := ⟨_, hD, rfl⟩
  rw [assign_Tuple]
  refine wpAny_bind (wpAny_standAt ?_)
  show wpAny _ _ (holding [.ref D] (unpackItems (.ref D) 1 none) >>= fun l => assignInOrder [assign (.Name x p1) env] l) _ _ _
  refine wpAny_bind (wpAny_holding ?_)
  unfold unpackItems
  refine wpAny_bind ?_
  unfold notIterableAtAll
  refine wpAny_bind (wpAny_specialOf hTy PySem.F.slot_set_iter.lookup ?_)
  simp only [Option.isSome_some, if_true]
  refine wpAny_pure ?_
  simp only [Bool.false_eq_true, if_false]
  refine wpAny_bind (wpAny_holding (it_set1 hD ?_))
  have hlt := Heap.lt_size hD
  have hne : D ≠ s.heap.objs.size := Nat.ne_of_lt hlt
  have d1 : (s.heap.push (sitObj D 0 0 ep)).get? D = some (sObj #[(1, .bool true)] ep (t1 (ledOf w))) := Heap.get?_push_of_some _ hD
  refine wpAny_bind (wpAny_holding ?_)
  unfold draw
  refine wpAny_bind (sit_first d1 (Heap.get?_push_size _ rfl) fun h1 k k1 k2 g1 s1 => ?_)
  dsimp only
  unfold draw
  refine wpAny_bind (wpAny_holding (wpAny_pure (wpAny_pure ?_)))
  rw [if_neg (by decide)]
  refine wpAny_bind (wpAny_holding (sit_second hh (s1.extBut _ _ hne d1) g1 k1 k2 fun h2 hk2 => ?_))
  simp only [Option.isSome_none, Bool.false_eq_true, if_false]
  refine wpAny_pure ?_
  have I := I.kept (h' := h2) (t := s.toks) fun b o e => by
    have hb : b ≠ s.heap.objs.size := Nat.ne_of_lt (Heap.lt_size e)
    exact hk2 b o hb (s1.extBut b o hb (Heap.get?_push_of_some _ e))
  refine assignInOrder_cons (a_name (r_storeLocal I hk hx fun s' I => ?_))
  exact assignInOrder_nil (h _ I)

theorem new_set {Q : Value → Shared → Prop} (h : Q (.ref s.heap.objs.size) { s with heap := s.heap.push (sObj #[] 0 (t0 (ledOf w))) }) : wpAny (model prog w) A (newSet (.type "set")) Q E s := by
  unfold newSet setsByText
  refine wpAny_bind (wpAny_bind (wpAny_askSetting (wpAny_pure ?_)))
  exact wpAny_newObj_type h

/-- a set comprehension that gives True alone -/
theorem r_setcomp {elt target iter : Expr} {scope : Scope} {pos : Pos} {cl : List (Str × Addr)} {Q : Value → Shared → Prop}
    (hclos : closureFor scope env = pure cl) (hkind : scope.kind = .function) (hsc : (scope.names.all fun y => y.2 != .cell && (y.2 != .local || scope.names.lookup y.1 == some .local)) = true) (hu : A.units + 20 < cLine)
    (h : wpAny (model prog w) A (eval iter env) (fun v s₁ => wpAny (model prog w) A (pyIter v) (fun it s₂ => E9 fun B L cs m cm mu n P g => C4 (1 ≤ n) (SrcAt prog w A target B L cs it n P 0 g mu m cm s₂) (∀ B' C g' mC s i v, Inn B B' g' cs cm mu → Le g g' → i < n → P i v s.heap → IF B' g' [] C mC [] (fun _ => none) s → wpAny (model prog w) A (assign target (compEnvC scope cl C env) v) (fun _ s₂ => wpAny (model prog w) A (eval elt (compEnvC scope cl C env)) (fun y s₄ => y = .bool true ∧ ∃ g' mC', IF B' g' [] C mC' [] (fun _ => none) s₄) NoE s₂) NoE s) (∀ D g' ep s, Le g g' → IF B g' ((D, sObj #[(1, .bool true)] ep (t1 (ledOf w))) :: mu) L m cs cm s → ¬ B.off D → Q (.ref D) s)) NoE s₁) NoE s)
    (hs : ∀ x, foldedSetIterable iter env x = pure x := by intro _; rfl) :
    wpAny (model prog w) A (eval (.SetComp elt [⟨target, iter, [], 0⟩] scope pos) env) Q NoE s := by
  obtain ⟨hcell, hnames⟩ := sc_cell hsc
  show wpAny _ A (comprehension (.SetComp elt [⟨target, iter, [], 0⟩] scope pos) scope env _ (newSet (.type "set")) false (eval iter env)) _ _ _
  refine wpAny_comprehension_free (use := none) rfl hs hclos hkind hnames (wpAny_mono h (fun v s₁ h₁ => wpAny_mono h₁ (fun it s₂ h₂ => ?_) fun _ _ e => e) fun _ _ e => e)
  obtain ⟨B, L, cs, m, cm, mu, n, P, g, hn, X, turn, hend⟩ := h₂
  refine comp_frame (RR := fun acc C r s' => compPost (model prog w) A NoE none Q acc C r s') (sObj #[] 0 (t0 (ledOf w))) rfl (fun s Q h => new_set h) hcell hkind (fun _ _ _ => rfl) (fun _ _ _ => rfl) rfl X fun C D s₄ hC hD XX => ?_
  refine cs_loop (emit := do let v ← eval elt (compEnvC scope cl C env); standAt elt.pos; let _ ← call (.builtin "set.add") [.ref D, v]) rfl rfl rfl
    (fun i g' nu oD _ => nu = [] ∧ Le g g' ∧ if i = 0 then oD = sObj #[] 0 (t0 (ledOf w)) else ∃ ep, oD = sObj #[(1, .bool true)] ep (t1 (ledOf w))) XX ⟨rfl, Le.refl g, rfl⟩ ?_ ?_
  · rintro B' g' nu oD mC s i v hp hi hP ⟨rfl, le, ho⟩ CSt
    obtain ⟨B'', inn, I, close⟩ := CSt.open_
    refine wpAny_mono (turn B'' C g' mC s i v (inn.pin hp) le hi hP I) (fun _ s₂ h₂ => tests0 ?_) fun _ _ q => q.elim
    rw [if_pos rfl]
    refine wpAny_bind (wpAny_mono h₂ (fun y s₄ h₄ => wpAny_bind (wpAny_standAt (wpAny_bind ?_))) fun _ _ q => q.elim)
    obtain ⟨rfl, g'', mC', I'⟩ := h₄
    have K := close I'
    have le' : Le g' g'' := inn.g ▸ I'.ge
    by_cases hi0 : i = 0
    · rw [if_pos hi0] at ho
      subst ho
      refine add_true K.headD hu fun tk => addH_first K.headD fun h' ep' ho' hs' => wpAny_pure ⟨g'', _, _, mC', K.turnD (t := tk) ho' hs', rfl, le.trans le', ?_⟩
      rw [if_neg (by lia)]
      exact ⟨ep', rfl⟩
    · rw [if_neg hi0] at ho
      obtain ⟨ep, rfl⟩ := ho
      refine add_true K.headD hu fun tk => addH_again K.headD (wpAny_pure ⟨g'', _, _, mC', K.turnD (t := tk) (h' := s₄.heap) K.headD (.refl _ _), rfl, le.trans le', ?_⟩)
      rw [if_neg (by lia)]
      exact ⟨ep, rfl⟩
  · rintro g' nu oD mC s ⟨oC, I, hns⟩ ⟨rfl, le, ho⟩
    rw [if_neg (by lia)] at ho
    obtain ⟨ep, rfl⟩ := ho
    exact ⟨mC, hns, fun h' hs' => hend D g' ep _ le (IF.drop (t := s.toks) (own := [(C, oC)]) I (fun p hp => by rw [List.mem_singleton.mp hp]; exact hC) fun b o hb e => hs'.extBut b o (fun q => hb (by rw [q]; exact .head _)) e) hD⟩
end
end Mine
set_option Elab.async false
set_option maxRecDepth 100000
set_option linter.unusedVariables false
namespace Mine
open PySem PySem.W PyProof.Rows PySem.Calls
open AutoSeq1 (wpAny_loadPart')
noncomputable def lexLt : List Str → List Str → Bool
  | [], [] => false
  | [], _ :: _ => true
  | _ :: _, [] => false
  | x :: xs, y :: ys => if x = y then lexLt xs ys else decide (tl x < tl y)
section
variable {prog : Program} {w : World} {A : Around} {E : Value → Shared → Prop} {s : Shared}
theorem rc_ltStr {x y : Str} {t u : Tok} {Q : Value → Shared → Prop} (h : Q (.bool (decide (tl x < tl y))) s) : wpAny (model prog w) A (richCompare .Lt (.str x t) (.str y u)) Q E s :=
  richCompare_gives (op := .Lt) (typeIs_str s x t) (typeIs_str s y u) PySem.F.slot_str_lt PySem.F.entry_str_lt (PySem.F.args_str_lt_2 _ _) (gives_str_lt x y t u) (fun e => nomatch e) h
theorem rc_gtStr {x y : Str} {t u : Tok} {Q : Value → Shared → Prop} (h : Q (.bool (decide (tl y < tl x))) s) : wpAny (model prog w) A (richCompare .Gt (.str x t) (.str y u)) Q E s :=
  richCompare_gives (op := .Gt) (typeIs_str s x t) (typeIs_str s y u) PySem.F.slot_str_gt PySem.F.entry_str_gt (PySem.F.args_str_gt_2 _ _) (gives_str_gt x y t u) (fun e => nomatch e) h
end
theorem lt_loop (l b : Addr) (vs ws : List Value) (n n2 : Nat) (xs ys : List Str) (hv : All₂ StrV vs xs) (hw : All₂ StrV ws ys) (k : Nat) :
    ∀ i : Nat, xs.length - i = k → i ≤ xs.length → i ≤ ys.length → Meets (Builtin.«list.__eq__.loop» ⟨[.ref l, .ref b, rawInt i, rawInt 0], []⟩)
      (fun _ R s => s.heap.get? l = some (lo vs n) ∧ s.heap.get? b = some (lo ws n2) ∧ R (.ok (.ret (.bool (lexLt (xs.drop i) (ys.drop i))))) s) := by
  have lv := hv.length
  have lw := hw.length
  induction k with
  | zero =>
    intro i hk h1 h2 prog w A R s h
    obtain ⟨hp, g, d, tk, os⟩ := s; obtain ⟨hl, hb, h⟩ := h
    wp_walk using wpAny_loadPart' hl, wpAny_loadPart' hb
    have hi1 : vs.toArray[((i : Nat) : Int).toNat]? = none := by simp; lia
    rw [hi1]
    wp_walk using wpAny_loadPart' hl, wpAny_loadPart' hb
    have e1 : xs.drop i = [] := by simp; lia
    rw [e1] at h
    show R (.ok (.ret (.bool (decide (vs.toArray.size < ws.toArray.size))))) _
    have e2 : decide (vs.toArray.size < ws.toArray.size) = lexLt [] (ys.drop i) := by
      rw [List.size_toArray, List.size_toArray]
      cases e : ys.drop i with
      | nil => have : ys.length ≤ i := by simpa using e
               show _ = false
               rw [decide_eq_false]; lia
      | cons a r => have : i < ys.length := by
                      have := congrArg List.length e
                      simp at this; lia
                    show _ = true
                    rw [decide_eq_true]; lia
    rw [e2]; exact h
  | succ k ih =>
    intro i hk h1 h2 prog w A R s h
    obtain ⟨hp, g, d, tk, os⟩ := s; obtain ⟨hl, hb, h⟩ := h
    have hlt : i < xs.length := by lia
    have hx : xs[i]? = some xs[i] := List.getElem?_eq_getElem hlt
    obtain ⟨vx, hvx, tx, rfl⟩ := hv.get hx
    have hi1 : vs.toArray[((i : Nat) : Int).toNat]? = some (.str xs[i] tx) := by simpa using hvx
    have dx : xs.drop i = xs[i] :: xs.drop (i + 1) := List.drop_eq_getElem_cons hlt
    have hc : ((i : Int) + 1) = ((i + 1 : Nat) : Int) := by push_cast; rfl
    wp_walk using wpAny_loadPart' hl, wpAny_loadPart' hb
    by_cases hlt2 : i < ys.length
    · have hy : ys[i]? = some ys[i] := List.getElem?_eq_getElem hlt2
      obtain ⟨vy, hvy, ty, rfl⟩ := hw.get hy
      have hi2 : ws.toArray[((i : Nat) : Int).toNat]? = some (.str ys[i] ty) := by simpa using hvy
      have dy : ys.drop i = ys[i] :: ys.drop (i + 1) := List.drop_eq_getElem_cons hlt2
      rw [dx, dy] at h
      rw [hi1, hi2]
      refine wpAny_bind (wpAny_eqBool_str ?_)
      by_cases he : xs[i] = ys[i]
      · rw [decide_eq_true he]
        have e3 : lexLt (xs[i] :: xs.drop (i + 1)) (ys[i] :: ys.drop (i + 1)) = lexLt (xs.drop (i + 1)) (ys.drop (i + 1)) := if_pos he
        rw [e3] at h
        wp_walk
        rw [hc]
        exact ⟨plainId_quiet MeetsSeq3.plain_eq_loop _, codeAny_builtin MeetsSeq3.entry_eq_loop (by
          rw [Around.under_plainId MeetsSeq3.plain_eq_loop _]
          exact ih (i + 1) (by lia) (by lia) (by lia) prog w A R _ ⟨hl, hb, h⟩)⟩
      · rw [decide_eq_false he]
        have e3 : lexLt (xs[i] :: xs.drop (i + 1)) (ys[i] :: ys.drop (i + 1)) = decide (tl xs[i] < tl ys[i]) := if_neg he
        rw [e3] at h
        wp_walk using wpAny_loadPart' hl, wpAny_loadPart' hb
        rw [hi1, hi2]
        refine wpAny_bind (rc_ltStr (wpAny_pure h))
    · have hi2 : ws.toArray[((i : Nat) : Int).toNat]? = none := by simp; lia
      have dy : ys.drop i = [] := by simp; lia
      rw [dx, dy] at h
      rw [hi1, hi2]
      wp_walk using wpAny_loadPart' hl, wpAny_loadPart' hb
      show R (.ok (.ret (.bool (decide (vs.toArray.size < ws.toArray.size))))) _
      have e2 : decide (vs.toArray.size < ws.toArray.size) = false := by
        rw [List.size_toArray, List.size_toArray, decide_eq_false]; lia
      rw [e2]; exact h
theorem list_lt (l b : Addr) (vs ws : List Value) (n n2 : Nat) (xs ys : List Str) (hv : All₂ StrV vs xs) (hw : All₂ StrV ws ys) : Meets (Builtin.«list.__lt__» ⟨[.ref l, .ref b], []⟩)
    (fun _ R s => s.heap.get? l = some (lo vs n) ∧ s.heap.get? b = some (lo ws n2) ∧ R (.ok (.ret (.bool (lexLt xs ys)))) s) := by
  intro prog w A R s h
  obtain ⟨hp, g, d, tk, os⟩ := s; obtain ⟨hl, hb, h⟩ := h
  have f3 := AutoSeq1.sub_list_list
  wp_walk using wpAny_loadPart' hl, wpAny_loadPart' hb
  exact ⟨plainId_quiet MeetsSeq3.plain_eq_loop _, codeAny_builtin MeetsSeq3.entry_eq_loop (by
    rw [Around.under_plainId MeetsSeq3.plain_eq_loop _]
    exact lt_loop l b vs ws n n2 xs ys hv hw _ 0 rfl (Nat.zero_le _) (Nat.zero_le _) prog w A R _ ⟨hl, hb, h⟩)⟩
theorem gt_loop (l b : Addr) (vs ws : List Value) (n n2 : Nat) (xs ys : List Str) (hv : All₂ StrV vs xs) (hw : All₂ StrV ws ys) (k : Nat) :
    ∀ i : Nat, xs.length - i = k → i ≤ xs.length → i ≤ ys.length → Meets (Builtin.«list.__eq__.loop» ⟨[.ref l, .ref b, rawInt i, rawInt 4], []⟩)
      (fun _ R s => s.heap.get? l = some (lo vs n) ∧ s.heap.get? b = some (lo ws n2) ∧ R (.ok (.ret (.bool (lexLt (ys.drop i) (xs.drop i))))) s) := by
  have lv := hv.length
  have lw := hw.length
  induction k with
  | zero =>
    intro i hk h1 h2 prog w A R s h
    obtain ⟨hp, g, d, tk, os⟩ := s; obtain ⟨hl, hb, h⟩ := h
    wp_walk using wpAny_loadPart' hl, wpAny_loadPart' hb
    have hi1 : vs.toArray[((i : Nat) : Int).toNat]? = none := by simp; lia
    rw [hi1]
    wp_walk using wpAny_loadPart' hl, wpAny_loadPart' hb
    have e1 : xs.drop i = [] := by simp; lia
    rw [e1] at h
    show R (.ok (.ret (.bool (decide (vs.toArray.size > ws.toArray.size))))) _
    have e2 : decide (vs.toArray.size > ws.toArray.size) = lexLt (ys.drop i) [] := by
      rw [List.size_toArray, List.size_toArray]
      have : lexLt (ys.drop i) [] = false := by cases ys.drop i <;> rfl
      rw [this, decide_eq_false]; lia
    rw [e2]; exact h
  | succ k ih =>
    intro i hk h1 h2 prog w A R s h
    obtain ⟨hp, g, d, tk, os⟩ := s; obtain ⟨hl, hb, h⟩ := h
    have hlt : i < xs.length := by lia
    have hx : xs[i]? = some xs[i] := List.getElem?_eq_getElem hlt
    obtain ⟨vx, hvx, tx, rfl⟩ := hv.get hx
    have hi1 : vs.toArray[((i : Nat) : Int).toNat]? = some (.str xs[i] tx) := by simpa using hvx
    have dx : xs.drop i = xs[i] :: xs.drop (i + 1) := List.drop_eq_getElem_cons hlt
    have hc : ((i : Int) + 1) = ((i + 1 : Nat) : Int) := by push_cast; rfl
    wp_walk using wpAny_loadPart' hl, wpAny_loadPart' hb
    by_cases hlt2 : i < ys.length
    · have hy : ys[i]? = some ys[i] := List.getElem?_eq_getElem hlt2
      obtain ⟨vy, hvy, ty, rfl⟩ := hw.get hy
      have hi2 : ws.toArray[((i : Nat) : Int).toNat]? = some (.str ys[i] ty) := by simpa using hvy
      have dy : ys.drop i = ys[i] :: ys.drop (i + 1) := List.drop_eq_getElem_cons hlt2
      rw [dx, dy] at h
      rw [hi1, hi2]
      refine wpAny_bind (wpAny_eqBool_str ?_)
      by_cases he : xs[i] = ys[i]
      · rw [decide_eq_true he]
        have e3 : lexLt (ys[i] :: ys.drop (i + 1)) (xs[i] :: xs.drop (i + 1)) = lexLt (ys.drop (i + 1)) (xs.drop (i + 1)) := if_pos he.symm
        rw [e3] at h
        wp_walk
        rw [hc]
        exact ⟨plainId_quiet MeetsSeq3.plain_eq_loop _, codeAny_builtin MeetsSeq3.entry_eq_loop (by
          rw [Around.under_plainId MeetsSeq3.plain_eq_loop _]
          exact ih (i + 1) (by lia) (by lia) (by lia) prog w A R _ ⟨hl, hb, h⟩)⟩
      · rw [decide_eq_false he]
        have e3 : lexLt (ys[i] :: ys.drop (i + 1)) (xs[i] :: xs.drop (i + 1)) = decide (tl ys[i] < tl xs[i]) := if_neg (Ne.symm he)
        rw [e3] at h
        wp_walk using wpAny_loadPart' hl, wpAny_loadPart' hb
        rw [hi1, hi2]
        refine wpAny_bind (rc_gtStr (wpAny_pure h))
    · have hi2 : ws.toArray[((i : Nat) : Int).toNat]? = none := by simp; lia
      have dy : ys.drop i = [] := by simp; lia
      rw [dx, dy] at h
      rw [hi1, hi2]
      wp_walk using wpAny_loadPart' hl, wpAny_loadPart' hb
      show R (.ok (.ret (.bool (decide (vs.toArray.size > ws.toArray.size))))) _
      have e2 : decide (vs.toArray.size > ws.toArray.size) = true := by
        rw [List.size_toArray, List.size_toArray, decide_eq_true]; lia
      rw [e2]; exact h
theorem list_gt (l b : Addr) (vs ws : List Value) (n n2 : Nat) (xs ys : List Str) (hv : All₂ StrV vs xs) (hw : All₂ StrV ws ys) : Meets (Builtin.«list.__gt__» ⟨[.ref l, .ref b], []⟩)
    (fun _ R s => s.heap.get? l = some (lo vs n) ∧ s.heap.get? b = some (lo ws n2) ∧ R (.ok (.ret (.bool (lexLt ys xs)))) s) := by
  intro prog w A R s h
  obtain ⟨hp, g, d, tk, os⟩ := s; obtain ⟨hl, hb, h⟩ := h
  have f3 := AutoSeq1.sub_list_list
  wp_walk using wpAny_loadPart' hl, wpAny_loadPart' hb
  exact ⟨plainId_quiet MeetsSeq3.plain_eq_loop _, codeAny_builtin MeetsSeq3.entry_eq_loop (by
    rw [Around.under_plainId MeetsSeq3.plain_eq_loop _]
    exact gt_loop l b vs ws n n2 xs ys hv hw _ 0 rfl (Nat.zero_le _) (Nat.zero_le _) prog w A R _ ⟨hl, hb, h⟩)⟩
section
variable {prog : Program} {w : World} {A : Around} {E : Value → Shared → Prop} {s : Shared}
theorem rc_ltList {l b : Addr} {vs ws : List Value} {n n2 : Nat} {xs ys : List Str} {Q : Value → Shared → Prop} (hu : A.units < cLine) (hl : s.heap.get? l = some (lo vs n)) (hb : s.heap.get? b = some (lo ws n2)) (hv : All₂ StrV vs xs) (hw : All₂ StrV ws ys) (h : Q (.bool (lexLt xs ys)) s) :
    wpAny (model prog w) A (richCompare .Lt (.ref l) (.ref b)) Q E s :=
  richCompare_meets_room (op := .Lt) (T := "list") ⟨_, hl, rfl⟩ ⟨_, hb, rfl⟩ PySem.F.slot_list_lt PySem.F.entry_list_lt (PySem.F.args_list_lt_2 _ _) (list_lt l b vs ws n n2 xs ys hv hw) ⟨hl, hb, ⟨fun e => (nomatch e), h⟩⟩ hu
theorem rc_gtList {l b : Addr} {vs ws : List Value} {n n2 : Nat} {xs ys : List Str} {Q : Value → Shared → Prop} (hu : A.units < cLine) (hl : s.heap.get? l = some (lo vs n)) (hb : s.heap.get? b = some (lo ws n2)) (hv : All₂ StrV vs xs) (hw : All₂ StrV ws ys) (h : Q (.bool (lexLt ys xs)) s) :
    wpAny (model prog w) A (richCompare .Gt (.ref l) (.ref b)) Q E s :=
  richCompare_meets_room (op := .Gt) (T := "list") ⟨_, hl, rfl⟩ ⟨_, hb, rfl⟩ PySem.F.slot_list_gt PySem.F.entry_list_gt (PySem.F.args_list_gt_2 _ _) (list_gt l b vs ws n n2 xs ys hv hw) ⟨hl, hb, ⟨fun e => (nomatch e), h⟩⟩ hu
end
end Mine
set_option Elab.async false
set_option maxRecDepth 100000
set_option linter.unusedVariables false
namespace Mine
open PySem PySem.W PyProof.Rows PySem.Calls
noncomputable def IterAt (o : Obj) (l : Addr) (i : Nat) : Prop := o.cls = .type "list_iterator" ∧ o.data = .fields #[.ref l, .int i 0]
section
variable {prog : Program} {w : World} {A : Around} {E : Value → Shared → Prop} {s : Shared} {env : Env}
variable {B : Base} {g : Vw} {mu : List (Addr × Obj)} {L : Addr} {m : Str → Option Value} {cs : List (Str × Addr)} {cm : Str → Option Value} {S : Heap} {mg mb : Str → Option Value}

theorem next_item {D l : Addr} {o : Obj} {i : Nat} {vs : List Value} {k : Nat} {x : Value} {Q : Option Value → Shared → Prop} (I : IF B g ((D, o) :: mu) L m cs cm s) (ho : IterAt o l i) (hl : g l = some (lo vs k)) (hx : vs[i]? = some x)
    (h : ∀ s' o', IF B g ((D, o') :: mu) L m cs cm s' → IterAt o' l (i + 1) → Q (some x) s') : wpAny (model prog w) A (pyNext (.ref D)) Q E s := by
  refine wpAny_pyNext_list_item ⟨o, (I.muH _ (.head _)).1, ho.1, ho.2⟩ (isList_lo (I.sub _ _ hl)) (x := x) (by simpa using hx) fun h' hit hs => ?_
  obtain ⟨o', ho', hc, hd⟩ := hit
  exact h _ o' (I.turn (t := s.toks) ho' hs) ⟨hc, hd⟩
theorem next_done {D l : Addr} {o : Obj} {i : Nat} {vs : List Value} {k : Nat} {Q : Option Value → Shared → Prop} (I : IF B g ((D, o) :: mu) L m cs cm s) (hh : A.handled = none) (hD : ¬ B.off D) (ho : IterAt o l i) (hl : g l = some (lo vs k)) (hx : vs[i]? = none)
    (h : ∀ s', IF B g mu L m cs cm s' → Q none s') : wpAny (model prog w) A (pyNext (.ref D)) Q E s := by
  refine wpAny_pyNext_list_end hh ⟨o, (I.muH _ (.head _)).1, ho.1, ho.2⟩ (isList_lo (I.sub _ _ hl)) (by simpa using hx) fun h' hs => ?_
  exact h _ (IF.drop (t := s.toks) (own := [(D, o)]) I (fun p hp => by rw [List.mem_singleton.mp hp]; exact hD) fun b x hb e => hs b x (fun q => hb (by rw [q]; exact .head _)) e)
theorem up_seq {D : Addr} {vs : List Value} {n : Nat} {f : Array Value → Array Value} {Q : Unit → Shared → Prop} (I : IF B g ((D, lo vs n) :: mu) L m cs cm s) (hn : vs.length ≤ 100000) (hf : (f vs.toArray).size ≤ 100000)
    (h : ∀ s' n', IF B g ((D, lo (f vs.toArray).toList n') :: mu) L m cs cm s' → Q () s') : wpAny (model prog w) A (updateSeq D f) Q E s := by
  have h0 := (I.muH _ (.head _)).1
  refine wpAny_updateSeq h0 rfl ?_ (by rw [List.size_toArray, sizeLine_eq]; lia) (by rw [sizeLine_eq]; lia)
  have h1 := Heap.get?_update_self (Obj.mapSeq f) h0 rfl
  obtain ⟨n', e⟩ : ∃ n', Obj.mapSeq f (lo vs n) = lo (f vs.toArray).toList n' := ⟨_, by simp only [lo, Array.toArray_toList]; rfl⟩
  exact h _ n' (I.turn (t := s.toks) (h1.trans (congrArg some e)) (Heap.SameBut.update ..))

theorem min_loop2 {D S l1 l2 it : Addr} {vs ws : List Value} {k n1 n2 : Nat} {xs ys : List Str} {R : Result → Shared → Prop} {o : Obj} {c : Nat} (I : IF B g ((S, lo [] c) :: (it, o) :: mu) L m cs cm s) (hh : A.handled = none) (hu : A.units + 10 < cLine) (ho : IterAt o D 0) (hit : ¬ B.off it) (hS : ¬ B.off S)
    (hD : g D = some (lo [.ref l1, .ref l2] k)) (h1 : g l1 = some (lo vs n1)) (h2 : g l2 = some (lo ws n2)) (hv : All₂ StrV vs xs) (hw : All₂ StrV ws ys)
    (h : ∀ s', IF B g mu L m cs cm s' → R (.ok (.ret (if lexLt ys xs = true then .ref l2 else .ref l1))) s') : codeAny (model prog w) A (.builtin "min.loop" ⟨[.ref it, .none, .ref S], []⟩) R s := by
  have hname : (toString "min" ++ toString ".loop" : String) = "min.loop" := by decide
  refine codeAny_builtin PySem.F.entry_min_loop ?_
  rw [Around.under_plainId PySem.F.plain_min_loop _]
  show wpAny _ A.in1 (seqItems? (.ref S) >>= _) _ _ s
  refine wpAny_bind (wpAny_seqItems (I.muH _ (.head _)).1 rfl ?_)
  show wpAny _ A.in1 (tryCatch (pyNext (.ref it)) _ >>= _) _ _ s
  refine wpAny_bind (wpAny_tryCatch (next_item (I.perm (.swap ..)) ho hD (x := .ref l1) rfl fun s1 o1 I ho => ?_))
  have I := I.perm (.swap ..)
  show wpAny _ A.in1 (updateSeq S (fun _ => #[.ref l1, .ref l1]) >>= _) _ _ _
  refine wpAny_bind (up_seq I (by decide) (by show 2 ≤ _; decide) fun s2 c2 I => ?_)
  rw [hname]
  refine wpAny_pure ⟨plainId_quiet PySem.F.plain_min_loop _, ?_⟩
  -- the second one
  refine codeAny_builtin PySem.F.entry_min_loop ?_
  rw [Around.under_plainId PySem.F.plain_min_loop _]
  show wpAny _ A.in1 (seqItems? (.ref S) >>= _) _ _ _
  refine wpAny_bind (wpAny_seqItems (I.muH _ (.head _)).1 rfl ?_)
  show wpAny _ A.in1 (tryCatch (pyNext (.ref it)) _ >>= _) _ _ _
  refine wpAny_bind (wpAny_tryCatch (next_item (I.perm (.swap ..)) ho hD (x := .ref l2) rfl fun s3 o3 I ho => ?_))
  have I := I.perm (.swap ..)
  show wpAny _ A.in1 (tryCatch (holding [.ref l2, .ref l2] (richCompare .Lt (.ref l2) (.ref l1) >>= _)) _ >>= _) _ _ _
  refine wpAny_bind (wpAny_tryCatch (wpAny_holding (wpAny_bind (rc_ltList (by show A.units + 1 < cLine; lia) (I.sub _ _ h2) (I.sub _ _ h1) hw hv ?_))))
  refine wpAny_bind (wpAny_holding (wpAny_truthy_bool ?_))
  refine wpAny_bind (wpAny_letGo (wpAny_pure ?_))
  have last : ∀ (s4 : Shared) (o4 : Obj) (c4 : Nat) (b : Addr), IterAt o4 D 2 → IF B g ((S, lo [.ref b, .ref b] c4) :: (it, o4) :: mu) L m cs cm s4 → (∀ s', IF B g mu L m cs cm s' → R (.ok (.ret (.ref b))) s') →
      codeAny (model prog w) A (.builtin "min.loop" ⟨[.ref it, .none, .ref S], []⟩) R s4 := by
    intro s4 o4 c4 b ho I hR
    refine codeAny_builtin PySem.F.entry_min_loop ?_
    rw [Around.under_plainId PySem.F.plain_min_loop _]
    show wpAny _ A.in1 (seqItems? (.ref S) >>= _) _ _ _
    refine wpAny_bind (wpAny_seqItems (I.muH _ (.head _)).1 rfl ?_)
    show wpAny _ A.in1 (tryCatch (pyNext (.ref it)) _ >>= _) _ _ _
    refine wpAny_bind (wpAny_tryCatch (next_done (I.perm (.swap ..)) hh hit ho hD rfl fun s5 I => ?_))
    show wpAny _ A.in1 (updateSeq S (fun _ => #[]) >>= _) _ _ _
    refine wpAny_bind (up_seq I (by show 2 ≤ _; decide) (by decide) fun s6 c6 I => ?_)
    refine wpAny_bind (wpAny_letGo (wpAny_pure ?_))
    have := hR _ (IF.drop (t := s6.toks) (h' := s6.heap) (own := [(S, _)]) I (fun p hp => by rw [List.mem_singleton.mp hp]; exact hS) fun b o _ e => e)
    exact this
  cases hb : lexLt ys xs with
  | true =>
    rw [hb, if_pos rfl] at h
    simp only [if_true]
    refine wpAny_bind (up_seq I (by show 2 ≤ _; decide) (by show 2 ≤ _; decide) fun s4 c4 I => ?_)
    refine wpAny_bind (wpAny_letGo ?_)
    rw [hname]
    exact wpAny_pure ⟨plainId_quiet PySem.F.plain_min_loop _, last _ _ _ l2 ho I h⟩
  | false =>
    rw [hb, if_neg (by decide)] at h
    simp only [Bool.false_eq_true, if_false]
    refine wpAny_bind (wpAny_letGo ?_)
    rw [hname]
    exact wpAny_pure ⟨plainId_quiet PySem.F.plain_min_loop _, last _ _ _ l1 ho I h⟩
theorem b_min2 {D l1 l2 : Addr} {vs ws : List Value} {k n1 n2 : Nat} {xs ys : List Str} {Q : Value → Shared → Prop} (I : IF B g mu L m cs cm s) (hh : A.handled = none) (hu : A.units + 20 < cLine)
    (hD : g D = some (lo [.ref l1, .ref l2] k)) (h1 : g l1 = some (lo vs n1)) (h2 : g l2 = some (lo ws n2)) (hv : All₂ StrV vs xs) (hw : All₂ StrV ws ys)
    (h : ∀ s', IF B g mu L m cs cm s' → Q (if lexLt ys xs = true then .ref l2 else .ref l1) s') : wpAny (model prog w) A (call (.builtin "min") [.ref D]) Q E s := by
  have hname : (toString "min" ++ toString ".loop" : String) = "min.loop" := by decide
  refine call_function_tree PySem.F.kind_min PySem.F.plain_min PySem.F.entry_min (PySem.F.args_min1 _) ?_
  show wpAny _ A.in1 (Builtin.Builtins.bindParams "min" ["key", "default"] 0 ⟨[], []⟩ >>= _) _ _ s
  refine wpAny_bind (wpAny_of_eq (show Builtin.Builtins.bindParams "min" ["key", "default"] 0 ⟨[], []⟩ = pure [none, none] from rfl) ?_)
  refine wpAny_bind (wpAny_pure ?_)
  refine wpAny_bind (wpAny_pyIter_list (isList_lo (I.sub _ _ hD)) ?_)
  have I1 := I.newMu (t := s.toks) (o := itObj D 0) rfl
  have n1 := I.newOff
  have I2 := I1.newMu (t := s.toks) (o := lo [] 0) rfl
  have n2 := I1.newOff
  refine wpAny_bind (wpAny_newObj_type ?_)
  rw [hname]
  exact wpAny_pure ⟨plainId_quiet PySem.F.plain_min_loop _, min_loop2 (S := (s.heap.push (itObj D 0)).objs.size) I2 hh (by lia) ⟨rfl, rfl⟩ n1 n2 hD h1 h2 hv hw h⟩
theorem max_loop2 {D S l1 l2 it : Addr} {vs ws : List Value} {k n1 n2 : Nat} {xs ys : List Str} {R : Result → Shared → Prop} {o : Obj} {c : Nat} (I : IF B g ((S, lo [] c) :: (it, o) :: mu) L m cs cm s) (hh : A.handled = none) (hu : A.units + 10 < cLine) (ho : IterAt o D 0) (hit : ¬ B.off it) (hS : ¬ B.off S)
    (hD : g D = some (lo [.ref l1, .ref l2] k)) (h1 : g l1 = some (lo vs n1)) (h2 : g l2 = some (lo ws n2)) (hv : All₂ StrV vs xs) (hw : All₂ StrV ws ys)
    (h : ∀ s', IF B g mu L m cs cm s' → R (.ok (.ret (if lexLt xs ys = true then .ref l2 else .ref l1))) s') : codeAny (model prog w) A (.builtin "max.loop" ⟨[.ref it, .none, .ref S], []⟩) R s := by
  have hname : (toString "max" ++ toString ".loop" : String) = "max.loop" := by decide
  refine codeAny_builtin PySem.F.entry_max_loop ?_
  rw [Around.under_plainId PySem.F.plain_max_loop _]
  show wpAny _ A.in1 (seqItems? (.ref S) >>= _) _ _ s
  refine wpAny_bind (wpAny_seqItems (I.muH _ (.head _)).1 rfl ?_)
  show wpAny _ A.in1 (tryCatch (pyNext (.ref it)) _ >>= _) _ _ s
  refine wpAny_bind (wpAny_tryCatch (next_item (I.perm (.swap ..)) ho hD (x := .ref l1) rfl fun s1 o1 I ho => ?_))
  have I := I.perm (.swap ..)
  show wpAny _ A.in1 (updateSeq S (fun _ => #[.ref l1, .ref l1]) >>= _) _ _ _
  refine wpAny_bind (up_seq I (by decide) (by show 2 ≤ _; decide) fun s2 c2 I => ?_)
  rw [hname]
  refine wpAny_pure ⟨plainId_quiet PySem.F.plain_max_loop _, ?_⟩
  -- the second one
  refine codeAny_builtin PySem.F.entry_max_loop ?_
  rw [Around.under_plainId PySem.F.plain_max_loop _]
  show wpAny _ A.in1 (seqItems? (.ref S) >>= _) _ _ _
  refine wpAny_bind (wpAny_seqItems (I.muH _ (.head _)).1 rfl ?_)
  show wpAny _ A.in1 (tryCatch (pyNext (.ref it)) _ >>= _) _ _ _
  refine wpAny_bind (wpAny_tryCatch (next_item (I.perm (.swap ..)) ho hD (x := .ref l2) rfl fun s3 o3 I ho => ?_))
  have I := I.perm (.swap ..)
  show wpAny _ A.in1 (tryCatch (holding [.ref l2, .ref l2] (richCompare .Gt (.ref l2) (.ref l1) >>= _)) _ >>= _) _ _ _
  refine wpAny_bind (wpAny_tryCatch (wpAny_holding (wpAny_bind (rc_gtList (by show A.units + 1 < cLine; lia) (I.sub _ _ h2) (I.sub _ _ h1) hw hv ?_))))
  refine wpAny_bind (wpAny_holding (wpAny_truthy_bool ?_))
  refine wpAny_bind (wpAny_letGo (wpAny_pure ?_))
  have last : ∀ (s4 : Shared) (o4 : Obj) (c4 : Nat) (b : Addr), IterAt o4 D 2 → IF B g ((S, lo [.ref b, .ref b] c4) :: (it, o4) :: mu) L m cs cm s4 → (∀ s', IF B g mu L m cs cm s' → R (.ok (.ret (.ref b))) s') →
      codeAny (model prog w) A (.builtin "max.loop" ⟨[.ref it, .none, .ref S], []⟩) R s4 := by
    intro s4 o4 c4 b ho I hR
    refine codeAny_builtin PySem.F.entry_max_loop ?_
    rw [Around.under_plainId PySem.F.plain_max_loop _]
    show wpAny _ A.in1 (seqItems? (.ref S) >>= _) _ _ _
    refine wpAny_bind (wpAny_seqItems (I.muH _ (.head _)).1 rfl ?_)
    show wpAny _ A.in1 (tryCatch (pyNext (.ref it)) _ >>= _) _ _ _
    refine wpAny_bind (wpAny_tryCatch (next_done (I.perm (.swap ..)) hh hit ho hD rfl fun s5 I => ?_))
    show wpAny _ A.in1 (updateSeq S (fun _ => #[]) >>= _) _ _ _
    refine wpAny_bind (up_seq I (by show 2 ≤ _; decide) (by decide) fun s6 c6 I => ?_)
    refine wpAny_bind (wpAny_letGo (wpAny_pure ?_))
    have := hR _ (IF.drop (t := s6.toks) (h' := s6.heap) (own := [(S, _)]) I (fun p hp => by rw [List.mem_singleton.mp hp]; exact hS) fun b o _ e => e)
    exact this
  cases hb : lexLt xs ys with
  | true =>
    rw [hb, if_pos rfl] at h
    simp only [if_true]
    refine wpAny_bind (up_seq I (by show 2 ≤ _; decide) (by show 2 ≤ _; decide) fun s4 c4 I => ?_)
    refine wpAny_bind (wpAny_letGo ?_)
    rw [hname]
    exact wpAny_pure ⟨plainId_quiet PySem.F.plain_max_loop _, last _ _ _ l2 ho I h⟩
  | false =>
    rw [hb, if_neg (by decide)] at h
    simp only [Bool.false_eq_true, if_false]
    refine wpAny_bind (wpAny_letGo ?_)
    rw [hname]
    exact wpAny_pure ⟨plainId_quiet PySem.F.plain_max_loop _, last _ _ _ l1 ho I h⟩
theorem b_max2 {D l1 l2 : Addr} {vs ws : List Value} {k n1 n2 : Nat} {xs ys : List Str} {Q : Value → Shared → Prop} (I : IF B g mu L m cs cm s) (hh : A.handled = none) (hu : A.units + 20 < cLine)
    (hD : g D = some (lo [.ref l1, .ref l2] k)) (h1 : g l1 = some (lo vs n1)) (h2 : g l2 = some (lo ws n2)) (hv : All₂ StrV vs xs) (hw : All₂ StrV ws ys)
    (h : ∀ s', IF B g mu L m cs cm s' → Q (if lexLt xs ys = true then .ref l2 else .ref l1) s') : wpAny (model prog w) A (call (.builtin "max") [.ref D]) Q E s := by
  have hname : (toString "max" ++ toString ".loop" : String) = "max.loop" := by decide
  refine call_function_tree PySem.F.kind_max PySem.F.plain_max PySem.F.entry_max (PySem.F.args_max1 _) ?_
  show wpAny _ A.in1 (Builtin.Builtins.bindParams "max" ["key", "default"] 0 ⟨[], []⟩ >>= _) _ _ s
  refine wpAny_bind (wpAny_of_eq (show Builtin.Builtins.bindParams "max" ["key", "default"] 0 ⟨[], []⟩ = pure [none, none] from rfl) ?_)
  refine wpAny_bind (wpAny_pure ?_)
  refine wpAny_bind (wpAny_pyIter_list (isList_lo (I.sub _ _ hD)) ?_)
  have I1 := I.newMu (t := s.toks) (o := itObj D 0) rfl
  have n1 := I.newOff
  have I2 := I1.newMu (t := s.toks) (o := lo [] 0) rfl
  have n2 := I1.newOff
  refine wpAny_bind (wpAny_newObj_type ?_)
  rw [hname]
  exact wpAny_pure ⟨plainId_quiet PySem.F.plain_max_loop _, max_loop2 (S := (s.heap.push (itObj D 0)).objs.size) I2 hh (by lia) ⟨rfl, rfl⟩ n1 n2 hD h1 h2 hv hw h⟩
end
end Mine
set_option Elab.async false
set_option maxRecDepth 100000
set_option linter.unusedVariables false
namespace Mine
open PySem PySem.W PyProof.Rows PySem.Calls
theorem strs_of : ∀ l : List (Str × Tok), All₂ StrV (strValues l) (l.map (·.1))
  | [] => .nil
  | (x, t) :: r => .cons ⟨t, rfl⟩ (strs_of r)
theorem parts_len (x : Str) (cuts : List Nat) (n : Nat) : (Builtin.Str.partsBetween x cuts n).length ≤ cuts.length + 1 := by
  unfold Builtin.Str.partsBetween
  simp
section
variable {prog : Program} {w : World} {A : Around} {E : Value → Shared → Prop} {s : Shared} {env : Env}
variable {B : Base} {g : Vw} {mu : List (Addr × Obj)} {L : Addr} {m : Str → Option Value} {cs : List (Str × Addr)} {cm : Str → Option Value} {S : Heap} {mg mb : Str → Option Value}

theorem r_split {o e : Expr} {apos pos : Pos} {Q : Value → Shared → Prop} (hbase : attributeBase o "split" env (eval o env) = eval o env) (hs : starEach [e] env = [(false, eval e env)]) (hline : (apos.endLine == pos.line) = true)
    (h : wpAny (model prog w) A (eval o env) (fun ov s₁ => ∃ x t, ov = .str x t ∧ x.length ≤ 10000 ∧ wpAny (model prog w) A (eval e env) (fun v s₂ => E8 fun u B g mu L m cs cm => C3 (v = .str ⟨#[47]⟩ u) (IF B g mu L m cs cm s₂) (∀ D g' s' vs, IF B g' mu L m cs cm s' → Le g g' → g' D = some (lo vs 0) → All₂ StrV vs (Txt.split x ⟨#[47]⟩) → Q (.ref D) s')) E s₁) E s) :
    wpAny (model prog w) A (eval (.Call (.Attribute o "split" apos) [e] [] pos) env) Q E s := by
  refine Call_method1 hbase hs hline (wpAny_mono h (fun ov s₁ h₁ => ?_) fun _ _ q => q)
  obtain ⟨x, t, rfl, hx, h₁⟩ := h₁
  have hx' : x.length ≤ sizeLine := by rw [sizeLine_eq]; lia
  refine ⟨"str", _, PySem.F.plainAttrs_str, PySem.F.slot_str_split, PySem.F.type_str_split, typeIs_str _ _ _, (fun _ e => nomatch e), method1_meets PySem.F.slot_str_split PySem.F.entry_str_split (wpAny_mono h₁ (fun v s₂ h₂ => ?_) fun _ _ q => q)⟩
  obtain ⟨u, B, g, mu, L, m, cs, cm, rfl, I, fin⟩ := h₂
  refine ⟨typeIs_str _ _ _, PySem.F.args_str_split_2 _ _, ?_⟩
  have done : ∀ (l : List (Str × Tok)) (tk : Nat), l.map (·.1) = Txt.split x ⟨#[47]⟩ → Q (.ref s₂.heap.objs.size) { s₂ with heap := s₂.heap.push (lo (strValues l) 0), toks := tk } := fun l tk hl => by
    have af := After.push (t := tk) I.sub (lo (strValues l) 0)
    exact fin _ _ _ _ (I.after af) af.le (put_self ..) (hl ▸ strs_of l)
  have hsplit : Txt.split x ⟨#[47]⟩ = if (decide (x.length < (⟨#[47]⟩ : Str).length) || decide (Builtin.Str.strKind x < Builtin.Str.strKind ⟨#[47]⟩)) = true then [x] else
    if (Builtin.Str.occurrences x ⟨#[47]⟩ 0 x.length (x.length + 1)).isEmpty = true then [x] else Builtin.Str.partsBetween x (Builtin.Str.occurrences x ⟨#[47]⟩ 0 x.length (x.length + 1)) (⟨#[47]⟩ : Str).length := rfl
  by_cases c1 : (decide (x.length < (⟨#[47]⟩ : Str).length) || decide (Builtin.Str.strKind x < Builtin.Str.strKind ⟨#[47]⟩)) = true
  · rw [if_pos c1] at hsplit
    exact ⟨_, meets_str_split_cannot_occur x _ t u c1, done [(x, t)] _ (by rw [hsplit]; rfl)⟩
  · rw [if_neg c1] at hsplit
    have c1' := Bool.eq_false_iff.mpr c1
    by_cases c2 : (Builtin.Str.occurrences x ⟨#[47]⟩ 0 x.length (x.length + 1)).isEmpty = true
    · rw [if_pos c2] at hsplit
      exact ⟨_, meets_str_split_not_found x _ t u c1' (by rfl) c2, done [(x, t)] _ (by rw [hsplit]; rfl)⟩
    · rw [if_neg c2] at hsplit
      have hn : (Builtin.Str.partsBetween x (Builtin.Str.occurrences x ⟨#[47]⟩ 0 x.length (x.length + 1)) (⟨#[47]⟩ : Str).length).length ≤ sizeLine := by
        refine Nat.le_trans (parts_len _ _ _) ?_
        have := StrLaws.occ_length_le x ⟨#[47]⟩ 0 x.length (x.length + 1)
        rw [sizeLine_eq]; lia
      refine ⟨_, meets_str_split_sep x _ t u c1' (by rfl) (Bool.eq_false_iff.mpr c2) hx' hn, ?_⟩
      have hd := done (numbered s₂.toks (Builtin.Str.partsBetween x (Builtin.Str.occurrences x ⟨#[47]⟩ 0 x.length (x.length + 1)) (⟨#[47]⟩ : Str).length)) (s₂.toks + (Builtin.Str.partsBetween x (Builtin.Str.occurrences x ⟨#[47]⟩ 0 x.length (x.length + 1)) (⟨#[47]⟩ : Str).length).length) ((numbered_texts _ _).trans hsplit.symm)
      rw [← strsFrom_eq] at hd
      exact hd
end
end Mine
set_option Elab.async false
set_option maxRecDepth 100000
set_option linter.unusedVariables false
namespace Mine
open PySem PySem.W PyProof.Rows PySem.Calls
theorem vals_of {vs : List Value} {xs : List Str} (x : All₂ StrV vs xs) : ∃ l : List (Str × Tok), vs = strValues l ∧ l.map (·.1) = xs := by
  induction x with
  | nil => exact ⟨[], rfl, rfl⟩
  | cons h _ ih =>
    obtain ⟨tk, rfl⟩ := h
    obtain ⟨l, e1, e2⟩ := ih
    exact ⟨(_, tk) :: l, by rw [e1]; rfl, by rw [← e2]; rfl⟩
section
variable {prog : Program} {w : World} {A : Around} {E : Value → Shared → Prop} {s : Shared} {env : Env}
variable {B : Base} {g : Vw} {mu : List (Addr × Obj)} {L : Addr} {m : Str → Option Value} {cs : List (Str × Addr)} {cm : Str → Option Value} {S : Heap} {mg mb : Str → Option Value}

/-- "/".join of a list of texts -/
theorem r_joinM {o e : Expr} {apos pos : Pos} {Q : Value → Shared → Prop} (hbase : attributeBase o "join" env (eval o env) = eval o env) (hs : starEach [e] env = [(false, eval e env)]) (hline : (apos.endLine == pos.line) = true)
    (h : wpAny (model prog w) A (eval o env) (fun ov s₁ => ∃ t, ov = .str ⟨#[47]⟩ t ∧ wpAny (model prog w) A (eval e env) (fun v s₂ => E4 fun D vs n xs => C6 (v = .ref D) (s₂.heap.get? D = some (lo vs n)) (All₂ StrV vs xs) (xs.length ≤ 1000) (∀ y ∈ xs, y.length ≤ 1000) (∀ y t' k, tl y = joinL (xs.map tl) → Q (.str y t') { s₂ with toks := k })) E s₁) E s) :
    wpAny (model prog w) A (eval (.Call (.Attribute o "join" apos) [e] [] pos) env) Q E s := by
  refine Call_method1 hbase hs hline (wpAny_mono h (fun ov s₁ h₁ => ?_) fun _ _ q => q)
  obtain ⟨t, rfl, h₁⟩ := h₁
  refine SB.join (wpAny_mono h₁ (fun v s₂ h₂ => ?_) fun _ _ q => q)
  obtain ⟨D, vs, n, xs, rfl, hD, hx, hl, hy, hQ⟩ := h₂
  obtain ⟨l, rfl, rfl⟩ := vals_of hx
  refine ⟨D, l, rfl, isList_lo hD, _, rfl, ?_, fun t' k => hQ _ t' k ?_⟩
  · unfold JoinOk
    rw [StrLaws.joinFits (B := 1000) hy]
    · rfl
    · have : (⟨#[47]⟩ : Str).length = 1 := rfl
      rw [this]; lia
  · show tl (Builtin.Str.glued ⟨#[47]⟩ (l.map (·.1))) = _
    rw [StrLaws.glued_eq_join, join_tl]

/-- new objects, whatever made them -/
theorem IF.gain {own : List (Addr × Obj)} (I : IF B g mu L m cs cm s) {h' : Heap} {t : Nat} (hn : (own.map (·.1)).Nodup) (ho : ∀ p ∈ own, s.heap.objs.size ≤ p.1 ∧ h'.get? p.1 = some p.2) (hk : ∀ b o, s.heap.get? b = some o → h'.get? b = some o) :
    IF B g (own ++ mu) L m cs cm { s with heap := h', toks := t } := by
  have J := I.kept (t := t) hk
  have fresh : ∀ p ∈ own, s.heap.get? p.1 = none := fun p hp => get_none_of_size (ho p hp).1
  refine { J with muH := fun p hp => ?_, nd := ?_ }
  · rcases List.mem_append.mp hp with hp | hp
    · refine ⟨(ho p hp).2, none_of_size I.sub (ho p hp).1, ?_, fun e => ?_, fun q hq e => ?_⟩
      · cases e : B.k p.1 with
        | none => rfl
        | some o => have := I.keep _ _ e; rw [fresh p hp] at this; cases this
      · obtain ⟨_, _, _, e', _⟩ := I.ns
        rw [← e, fresh p hp] at e'; cases e'
      · obtain ⟨_, e', _⟩ := I.cell q.1 q.2 hq
        rw [e, fresh p hp] at e'; cases e'
    · exact J.muH p hp
  · rw [List.map_append, List.nodup_append]
    refine ⟨hn, I.nd, fun a ha b hb e => ?_⟩
    obtain ⟨p, hp, rfl⟩ := List.mem_map.mp ha
    obtain ⟨q, hq, rfl⟩ := List.mem_map.mp hb
    have := (I.muH q hq).1
    rw [← e, fresh p hp] at this; cases this
theorem IF.fresh (I : IF B g mu L m cs cm s) {a : Addr} (h : s.heap.objs.size ≤ a) : ¬ B.off a := fun q => (I.off _ q).2 (get_none_of_size h)

noncomputable def EnumV (prog : Program) (w : World) (A : Around) (B : Base) (L : Addr) (cs : List (Str × Addr)) (vs : List Value) (g : Vw) (mu : List (Addr × Obj)) (m cm : Str → Option Value) (v : Value) (s : Shared) : Prop :=
  ∀ (E Q : Value → Shared → Prop), (∀ it s', (∀ elts k pos, SrcAt prog w A (.Tuple elts k pos) B L cs it vs.length (fun i v h => E3 fun T x t => C3 (v = .ref T) (h.IsTuple T #[.int (i : Int) t, x]) (vs[i]? = some x)) 0 g mu m cm s') → Q it s') → wpAny (model prog w) A (pyIter v) Q E s
theorem Src.mono {target : Expr} {I : Addr} {fp wr : List Addr} {n : Nat} {P P' : Nat → Value → Heap → Prop} {St : Nat → Heap → Prop} (R : Src prog w A target I fp wr n P St) (h : ∀ i v h', P i v h' → P' i v h') : Src prog w A target I fp wr n P' St :=
  ⟨R.sub, R.live, R.frame, fun i s Q hi st q => R.item i s Q hi st fun v h' tk hP => q v h' tk (h _ _ _ hP), R.done, R.self⟩
theorem b_enum {l : Addr} {vs : List Value} {k : Nat} {Q : Value → Shared → Prop} (I : IF B g mu L m cs cm s) (hh : A.handled = none) (hl : g l = some (lo vs k)) (h : ∀ v s', EnumV prog w A B L cs vs g mu m cm v s' → Q v s') :
    wpAny (model prog w) A (call (.type "enumerate") [.ref l]) Q E s := by
  refine call_enumerate_1 (items := vs.toArray) (n := k) (I.sub _ _ hl) fun h' he hit hsz hk => h _ _ fun E' Q' hQ => ?_
  refine wpAny_pyIter_enum he (hQ _ _ fun elts kk pos => ?_)
  obtain ⟨oi, hoi, hci, hdi⟩ := id hit
  have n1 : s.heap.objs.size + 1 ≠ s.heap.objs.size := Nat.succ_ne_self _
  have hlt : l < s.heap.objs.size := Heap.lt_size (I.sub _ _ hl)
  have n2 : l ≠ s.heap.objs.size + 1 := Nat.ne_of_lt (Nat.lt_succ_of_lt hlt)
  have n3 : l ≠ s.heap.objs.size := Nat.ne_of_lt hlt
  have J := IF.gain (t := s.toks) (own := [(s.heap.objs.size + 1, _), (s.heap.objs.size, oi)]) I (by simp [n1]) (fun p hp => by
    simp only [List.mem_cons, List.not_mem_nil, or_false] at hp
    rcases hp with rfl | rfl
    · exact ⟨Nat.le_succ _, he⟩
    · exact ⟨Nat.le_refl _, hoi⟩) hk
  have W := WalksT.enumerate (prog := prog) (w := w) (A := A) hh (s.heap.objs.size + 1) s.heap.objs.size l n1 n2 n3 vs.toArray
  have live : ∀ (i : Nat) (h : Heap), ((∃ old, IsEnum h (s.heap.objs.size + 1) s.heap.objs.size i old) ∧ h.IsListIter s.heap.objs.size l i ∧ h.IsList l vs.toArray) → ∀ b ∈ [s.heap.objs.size + 1, s.heap.objs.size], h.get? b ≠ none := fun i h st b hb => by
    simp only [List.mem_cons, List.not_mem_nil, or_false] at hb
    rcases hb with rfl | rfl
    · obtain ⟨old, q⟩ := st.1; exact alive q
    · obtain ⟨_, q, _⟩ := st.2.1; exact alive q
  have R := Src.ofT W live elts kk pos
  rw [List.size_toArray] at R
  have R' := R.mono (P' := fun i v h => E3 fun T x t => C3 (v = Value.ref T) (h.IsTuple T #[.int (i : Int) t, x]) (vs[i]? = some x)) fun i v h hP => by
    obtain ⟨T, vals, rfl, hT, t, x, hx, rfl⟩ := hP
    exact ⟨T, x, t, rfl, hT, by simpa using hx⟩
  refine ⟨_, _, _, _, _, rfl, R', ⟨⟨_, he⟩, hit, (isList_lo (I.sub _ _ hl)).at fun o e => hk _ o e⟩, rfl, J, fun b hb => ?_, fun p hp => ?_⟩
  · simp only [List.mem_cons, List.not_mem_nil, or_false] at hb
    rcases hb with rfl | rfl | rfl
    · exact .inl (.head _)
    · exact .inl (.tail _ (.head _))
    · exact .inr ⟨_, hl⟩
  · simp only [List.mem_cons, List.not_mem_nil, or_false] at hp
    rcases hp with rfl | rfl
    · exact I.fresh (Nat.le_succ _)
    · exact I.fresh (Nat.le_refl _)
theorem a_tup2T {x y : Str} {p1 p2 pos : Pos} {k : Nat} {t : Addr} {v1 v2 : Value} {Q : Unit → Shared → Prop} (I : IF B g mu env.locals m cs cm s) (hh : A.handled = none) (hk : env.scope.kind = .function) (hx : env.kindOf x = some .local) (hy : env.kindOf y = some .local)
    (ht : s.heap.IsTuple t #[v1, v2]) (h : ∀ s', IF B g mu env.locals (upd (upd m x v1) y v2) cs cm s' → Q () s') :
    wpAny (model prog w) A (assign (.Tuple [.Name x p1, .Name y p2] k pos) env (.ref t)) Q E s := by
  refine assign_Tuple_tuple hh ht (by rfl) (by rfl) fun h' he => ?_
  have I := I.ext (t := s.toks) he
  show wpAny (model prog w) A (assignInOrder [assign (.Name x p1) env, assign (.Name y p2) env] [v1, v2]) Q E _
  refine assignInOrder_cons (a_name (r_storeLocal I hk hx fun s' I => ?_))
  refine assignInOrder_cons (a_name (r_storeLocal I hk hy fun s' I => ?_))
  exact assignInOrder_nil (h _ I)
theorem tr_tup {l : Addr} {vs : List Value} {n : Nat} {Q : Bool → Shared → Prop} (I : IF B g mu L m cs cm s) (hl : s.heap.get? l = some (to_ vs n)) (hx : vs.length ≤ 100000) (h : ∀ s', IF B g mu L m cs cm s' → Q (decide (vs ≠ [])) s') : wpAny (model prog w) A (truthy (.ref l)) Q E s := by
  refine truthy_tuple (isTup_to hl) (by rw [List.size_toArray]; lia) ?_
  have e : (!vs.toArray.isEmpty) = decide (vs ≠ []) := by cases vs <;> simp
  first
    | (rw [e]; exact h _ (I.tok _))
    | skip
end
end Mine
set_option Elab.async false
set_option maxRecDepth 100000
set_option linter.unusedVariables false
namespace Mine
open PySem PySem.W PyProof.Rows PySem.Calls
/-! ## common beginnings -/
noncomputable def cpre {α : Type} [DecidableEq α] : List α → List α → List α
  | x :: xs, y :: ys => if x = y then x :: cpre xs ys else []
  | _, _ => []
section
variable {α β : Type} [DecidableEq α] [DecidableEq β]
theorem cpre_comm : ∀ a b : List α, cpre a b = cpre b a
  | [], [] => rfl
  | [], _ :: _ => rfl
  | _ :: _, [] => rfl
  | x :: xs, y :: ys => by
    by_cases h : x = y
    · subst h; simp only [cpre, if_true]; rw [cpre_comm xs ys]
    · simp only [cpre, if_neg h, if_neg (Ne.symm h)]
theorem cpre_self : ∀ a : List α, cpre a a = a
  | [] => rfl
  | x :: xs => by simp only [cpre, if_true]; rw [cpre_self xs]
theorem cpre_map (f : α → β) (hf : ∀ x y, f x = f y → x = y) : ∀ a b : List α, (cpre a b).map f = cpre (a.map f) (b.map f)
  | [], [] => rfl
  | [], _ :: _ => rfl
  | _ :: _, [] => rfl
  | x :: xs, y :: ys => by
    by_cases h : x = y
    · subst h; simp only [cpre, if_true, List.map_cons]; rw [cpre_map f hf xs ys]
    · simp only [cpre, if_neg h, List.map_cons, if_neg (fun q => h (hf _ _ q)), List.map_nil]
theorem cpre_at : ∀ (a b : List α) (i : Nat) (x y : α), a.take i = b.take i → a[i]? = some x → b[i]? = some y → x ≠ y → cpre a b = a.take i
  | [], _, i, x, y, _, h, _, _ => by simp at h
  | _ :: _, [], i, x, y, _, _, h, _ => by simp at h
  | a :: as, b :: bs, 0, x, y, _, h1, h2, hn => by
    simp at h1 h2
    subst h1; subst h2
    simp only [cpre, if_neg hn, List.take_zero]
  | a :: as, b :: bs, i + 1, x, y, ht, h1, h2, hn => by
    simp only [List.take_succ_cons, List.cons.injEq] at ht
    simp only [List.getElem?_cons_succ] at h1 h2
    simp only [cpre, if_pos ht.1, List.take_succ_cons]
    rw [cpre_at as bs i x y ht.2 h1 h2 hn]
theorem cpre_all : ∀ (a b : List α), a = b.take a.length → cpre a b = a
  | [], _, _ => by cases ‹List α› <;> rfl
  | a :: as, [], h => by simp at h
  | a :: as, b :: bs, h => by
    simp only [List.length_cons, List.take_succ_cons, List.cons.injEq] at h
    simp only [cpre, if_pos h.1]
    rw [cpre_all as bs h.2]
end
theorem lex_irrefl : ∀ a : List Str, lexLt a a = false
  | [] => rfl
  | x :: xs => by show (if x = x then lexLt xs xs else _) = false; rw [if_pos rfl]; exact lex_irrefl xs
theorem tl_asymm {a b : List Nat} (h : a < b) : ¬ b < a := fun q => List.lt_irrefl a (List.lt_trans h q)
theorem lex_asymm : ∀ a b : List Str, lexLt a b = true → lexLt b a = false
  | [], [], h => by cases h
  | [], _ :: _, _ => rfl
  | _ :: _, [], h => by cases h
  | x :: xs, y :: ys, h => by
    by_cases e : x = y
    · subst e
      have h' : lexLt xs ys = true := by simpa [lexLt] using h
      show (if x = x then lexLt ys xs else _) = false
      rw [if_pos rfl]; exact lex_asymm xs ys h'
    · have h' : tl x < tl y := by simpa [lexLt, e] using h
      show (if y = x then lexLt ys xs else decide (tl y < tl x)) = false
      rw [if_neg (Ne.symm e)]
      exact decide_eq_false (tl_asymm h')
theorem lex_total : ∀ a b : List Str, lexLt a b = false → lexLt b a = false → a = b
  | [], [], _, _ => rfl
  | [], _ :: _, h, _ => by cases h
  | _ :: _, [], _, h => by cases h
  | x :: xs, y :: ys, h1, h2 => by
    by_cases e : x = y
    · subst e
      rw [lex_total xs ys (by simpa [lexLt] using h1) (by simpa [lexLt] using h2)]
    · have h1' : ¬ tl x < tl y := by simpa [lexLt, e] using h1
      have h2' : ¬ tl y < tl x := by simpa [lexLt, Ne.symm e] using h2
      exact absurd (str_ext (List.le_antisymm (List.not_lt.mp h2') (List.not_lt.mp h1'))) e
theorem lex_in : ∀ (a b : List Str) (i : Nat), lexLt b a = false → a.take i = b.take i → i < a.length → i < b.length
  | [], _, i, _, _, h => by simp at h
  | _ :: _, [], i, h, _, _ => by cases h
  | x :: xs, y :: ys, 0, _, _, _ => Nat.succ_pos _
  | x :: xs, y :: ys, i + 1, h, ht, hi => by
    simp only [List.take_succ_cons, List.cons.injEq] at ht
    have h' : lexLt ys xs = false := by
      have := h
      simp only [lexLt, if_pos ht.1.symm] at this
      exact this
    exact Nat.succ_lt_succ (lex_in xs ys i h' ht.2 (Nat.lt_of_succ_lt_succ hi))
section
variable {prog : Program} {w : World} {A : Around} {E : Value → Shared → Prop} {s : Shared} {env : Env}
theorem r_forJ {target iter : Expr} {body : List Stmt} {pos : Pos} {rest : List Stmt} {Q : Flow → Shared → Prop} (B : Base) (cs : List (Str × Addr)) (n : Nat) (P : Nat → Value → Heap → Prop)
    (J : Nat → Vw → List (Addr × Obj) → (Str → Option Value) → (Str → Option Value) → Prop) (Jb : Vw → List (Addr × Obj) → (Str → Option Value) → (Str → Option Value) → Prop)
    (h : wpAny (model prog w) A (eval iter env) (fun v s₁ => wpAny (model prog w) A (pyIter v) (fun it s₂ => E4 fun g mu m cm => SrcAt prog w A target B env.locals cs it n P 0 g mu m cm s₂ ∧ J 0 g mu m cm) NoE s₁) NoE s)
    (turn : ∀ B' g mu m cm s i v (K : Flow → Shared → Prop), (∀ f s₃, (match f with
        | .next | .cont => E4 fun g' mu' m' cm' => IF B' g' mu' env.locals m' cs cm' s₃ ∧ J (i + 1) g' mu' m' cm'
        | .brk => E4 fun g' mu' m' cm' => IF B' g' mu' env.locals m' cs cm' s₃ ∧ Jb g' mu' m' cm'
        | .ret v => Q (.ret v) s₃) → K f s₃) → Pin B B' g env.locals cs → i < n → P i v s.heap → J i g mu m cm → IF B' g mu env.locals m cs cm s →
      wpAny (model prog w) A (assign target env v) (fun _ s₂ => wpAny (model prog w) A (execs body env) K NoE s₂) NoE s)
    (hend : ∀ g mu m cm, J n g mu m cm → Jb g mu m cm)
    (after : ∀ g mu m cm s, IF B g mu env.locals m cs cm s → Jb g mu m cm → wpAny (model prog w) A (execs rest env) Q NoE s)
    (hs : ∀ x, foldedSetIterable iter env x = pure x := by intro _; rfl) :
    wpAny (model prog w) A (execs (.For target iter body [] pos :: rest) env) Q NoE s := by
  refine r_for B cs n P J h (fun B' g mu m cm s i v K hK pin hi hP hJ I => wpAny_mono (turn B' g mu m cm s i v _ (fun _ _ q => q) pin hi hP hJ I) (fun _ s₂ h₂ => wpAny_mono h₂ (fun f s₃ h₃ => hK f s₃ ?_) fun _ _ q => q) fun _ _ q => q) (fun g mu m cm s I hJ => r_nil (after g mu m cm s I (hend _ _ _ _ hJ))) hs
  cases f with
  | next => exact h₃
  | cont => exact h₃
  | ret v => exact h₃
  | brk => obtain ⟨g', mu', m', cm', I', hJ'⟩ := h₃; exact after _ _ _ _ _ (pin.un I') hJ'
end
end Mine
set_option Elab.async false
set_option maxRecDepth 100000
set_option linter.unusedVariables false
namespace Mine
open PySem PySem.W PyProof.Rows PySem.Calls
noncomputable def dot : Str := Str.ofString "."
theorem tl_dot : tl dot = [46] := by decide +kernel
noncomputable def pf (c : Str) : Bool := decide (tl c ≠ []) && decide (c ≠ dot)
theorem pathL_join : ∀ {ns : List (List Nat)}, ns ≠ [] → pathL ns = joinL ([] :: ns)
  | [a], _ => by simp [pathL, joinL]
  | a :: b :: r, _ => by
    have := pathL_join (ns := b :: r) (by simp)
    simp only [pathL, List.flatMap_cons, joinL, List.nil_append] at this ⊢
    rw [this]
    simp
noncomputable def NoDot (ns : List (List Nat)) : Prop := ∀ p ∈ ns, p ≠ [46]
theorem split_names {x : Str} {ns : List (List Nat)} (h : tl x = pathL ns) (hn : ns ≠ []) (hok : OkN ns) (hd : NoDot ns) : ((Txt.split x ⟨#[47]⟩).filter pf).map tl = ns := by
  have e := split_tl (x := x) (l := [] :: ns) (h.trans (pathL_join hn)) (by simp) (fun p hp => by
    rcases List.mem_cons.mp hp with rfl | hp
    · simp
    · exact (hok p hp).2)
  have key : ∀ (l : List Str), (l.filter pf).map tl = (l.map tl).filter fun c => decide (c ≠ []) && decide (c ≠ [46]) := by
    intro l
    induction l with
    | nil => rfl
    | cons a r ih =>
      have hp : pf a = (decide (tl a ≠ []) && decide (tl a ≠ [46])) := by
        unfold pf
        congr 1
        have : (a ≠ dot) ↔ (tl a ≠ [46]) := by
          constructor
          · intro q e; exact q (str_ext (by rw [e, tl_dot]))
          · intro q e; exact q (by rw [e, tl_dot])
        exact decide_eq_decide.mpr this
      rw [List.map_cons, List.filter_cons, List.filter_cons, hp]
      cases hc : (decide (tl a ≠ []) && decide (tl a ≠ [46])) <;> simp only [hc, Bool.false_eq_true, if_false, if_true, List.map_cons, ih]
  rw [key, e, List.filter_cons]
  have h0 : (decide (([] : List Nat) ≠ []) && decide (([] : List Nat) ≠ [46])) = false := by decide
  rw [h0]
  simp only [Bool.false_eq_true, if_false]
  rw [List.filter_eq_self]
  intro p hp
  have h1 := (hok p hp).1
  have h2 := hd p hp
  simp [h1, h2]

theorem pathL_len : ∀ ns : List (List Nat), ns.length ≤ (pathL ns).length
  | [] => Nat.le_refl _
  | a :: r => by
    have := pathL_len r
    simp only [pathL, List.flatMap_cons, List.length_append, List.length_cons] at this ⊢
    lia
theorem name_len {ns : List (List Nat)} : ∀ {p : List Nat}, p ∈ ns → p.length ≤ (pathL ns).length := by
  induction ns with
  | nil => intro p h; cases h
  | cons a r ih =>
    intro p h
    simp only [pathL, List.flatMap_cons, List.length_append, List.length_cons] at ih ⊢
    rcases List.mem_cons.mp h with q | q
    · rw [q]; lia
    · have := ih q; lia
theorem cpre_take {α : Type} [DecidableEq α] : ∀ a b : List α, ∃ k, cpre a b = a.take k
  | [], [] => ⟨0, rfl⟩
  | [], _ :: _ => ⟨0, rfl⟩
  | _ :: _, [] => ⟨0, rfl⟩
  | x :: xs, y :: ys => by
    by_cases h : x = y
    · obtain ⟨k, e⟩ := cpre_take xs ys
      exact ⟨k + 1, by simp only [cpre, if_pos h, List.take_succ_cons, e]⟩
    · exact ⟨0, by simp only [cpre, if_neg h, List.take_zero]⟩
noncomputable def Small (xs : List Str) : Prop := xs.length ≤ 1000 ∧ ∀ y ∈ xs, y.length ≤ 1000
theorem small_of {xs : List Str} {ns : List (List Nat)} (h : xs.map tl = ns) (hl : (pathL ns).length ≤ 900) : Small xs := by
  refine ⟨?_, fun y hy => ?_⟩
  · have := congrArg List.length h
    rw [List.length_map] at this
    have := pathL_len ns
    lia
  · have hm : tl y ∈ ns := by rw [← h]; exact List.mem_map.mpr ⟨y, hy, rfl⟩
    have := name_len hm
    rw [← len_tl]; lia
theorem split_len {x : Str} {ns : List (List Nat)} (h : tl x = pathL ns) (hn : ns ≠ []) (hok : OkN ns) (hl : x.length ≤ 900) : (Txt.split x ⟨#[47]⟩).length ≤ 1000 := by
  have e := split_tl (x := x) (l := [] :: ns) (h.trans (pathL_join hn)) (by simp) (fun p hp => by
    rcases List.mem_cons.mp hp with rfl | hp
    · simp
    · exact (hok p hp).2)
  have := congrArg List.length e
  rw [List.length_map, List.length_cons] at this
  have := pathL_len ns
  rw [← h, len_tl] at this
  lia

section
variable {prog : Program} {w : World} {A : Around} {E : Value → Shared → Prop} {s : Shared} {g : Vw} {S : Heap} {mg mb : Str → Option Value}
theorem two_of {α : Type} {l : List α} {a b : α} (h : l.length = 2) (h1 : l[0]? = some a) (h2 : l[1]? = some b) : l = [a, b] := by
  cases l with
  | nil => cases h1
  | cons x r => cases r with
    | nil => cases h2
    | cons y r =>
      cases h1
      cases h2
      cases r with
      | nil => rfl
      | cons z r => simp at h
set_option maxHeartbeats 2000000 in
theorem common_call {a l : Addr} {pm cd doc : Value} {x1 x2 : Str} {u1 u2 : Tok} {k : Nat} {n1 n2 : List (List Nat)} {d : Nat} {Q : Value → Shared → Prop} (hg : Sub g s.heap) (hTg : Le S.get? g) (G : Globs S mg mb) (F : FnAt S a 21 pm cd doc .none) (r : Room A (d + 4))
    (hl : g l = some (lo [.str x1 u1, .str x2 u2] k)) (hx1 : tl x1 = pathL n1) (hx2 : tl x2 = pathL n2) (h1 : n1 ≠ []) (h2 : n2 ≠ []) (ok1 : OkN n1) (ok2 : OkN n2) (d1 : NoDot n1) (d2 : NoDot n2) (len1 : x1.length ≤ 900) (len2 : x2.length ≤ 900)
    (h : ∀ y t' g' s', After g s g' s' → tl y = 47 :: joinL (cpre n1 n2) → Q (.str y t') s') : wpAny (model prog w) A (call (.ref a) [.ref l]) Q E s := by
  refine call_c (m0 := upd (fun _ => none) (Str.ofString "paths") (.ref l)) (cm0 := fun _ => none) (cs0 := fun L => [(Str.ofString "curdir", L + 1 + 1), (Str.ofString "sep", L + 1)]) hg hTg G.st rfl F r
    (binds := [(Str.ofString "paths", .ref l)]) (by rfl) (by rfl) (by decide +kernel) (fun _ => rfl) (fun _ => rfl) (fun _ => rfl) (by rfl) (by rfl) (by rfl) ?_
  intro B L s₁ O A1 r I
  have ST := G.st
  have hu : A1.units + 40 < cLine := by have := r.units; unfold cLine; lia
  have hcs : (([(Str.ofString "curdir", L + 1 + 1), (Str.ofString "sep", L + 1)] : List (Str × Addr)).map (·.1)).Nodup := by show List.Nodup [Str.ofString "curdir", Str.ofString "sep"]; decide +kernel
  obtain ⟨a14, hv14, pm14, cd14, doc14, F14⟩ := G.fspath
  have hvs : All₂ StrV [.str x1 u1, .str x2 u2] [x1, x2] := .cons ⟨_, rfl⟩ (.cons ⟨_, rfl⟩ .nil)
  -- paths = tuple(map(fspath, paths))
  refine r_assign (by rfl) ?_
  refine r_callT I ST O.T (by rfl) (by rfl) (by rfl) (by rfl) (G.no "tuple" (.tail _ (.tail _ (.tail _ (.tail _ (.tail _ (.tail _ (.tail _ (.tail _ (.tail _ (.tail _ (.tail _ (.head _))))))))))))) (by rfl) (by decide) (by decide) (by rfl) (by rfl) (by rfl) ?_
  refine r_items (by rfl) ?_
  refine r_callT I ST O.T (by rfl) (by rfl) (by rfl) (by rfl) (G.no "map" (.tail _ (.tail _ (.tail _ (.tail _ (.tail _ (.tail _ (.tail _ (.tail _ (.tail _ (.tail _ (.tail _ (.tail _ (.tail _ (.head _))))))))))))))) (by rfl) (by decide) (by decide) (by rfl) (by rfl) (by rfl) ?_
  refine r_items (by rfl) (r_global I ST O.T (by rfl) (by rfl) (by rfl) hv14 (by decide) (r_items (by rfl) (r_local I (by rfl) (by rfl) (by rfl) (by decide) (r_items0 ?_))))
  refine b_map I hl ?_
  intro M T It s2 I oM oT oI
  refine r_items0 (b_tupleMap I oM oT oI O.T G F14 r hl hvs (by show 2 ≤ _; decide) ?_)
  intro P g1 s3 I l1 e1
  refine r_storeLocal I (by rfl) (by rfl) ?_
  intro s4 I
  -- if not paths
  refine r_ifp (isTrue_not (r_test (r_local I (by rfl) (by rfl) (by rfl) (by decide) (tr_tup I (I.sub _ _ e1) (by show 2 ≤ _; decide) ?_)) (by rfl)))
  intro s5 I
  show if false = true then _ else _
  rw [if_neg (by decide)]
  refine r_nil ?_
  -- isinstance(paths[0], bytes)
  refine r_ifp (r_test ?_ (by rfl))
  refine r_callB I ST O.T (by rfl) (by rfl) (by rfl) (by rfl) (G.no "isinstance" (.tail _ (.tail _ (.tail _ (.tail _ (.tail _ (.tail _ (.tail _ (.tail _ (.head _)))))))))) (by rfl) (by decide) (by decide) (by rfl) (by rfl) (by rfl) ?_
  refine r_items (by rfl) (Subscript_ (r_local I (by rfl) (by rfl) (by rfl) (by decide) (r_int I ?_)))
  intro t1 s6 I
  refine t_tup (k := 0) (I.sub _ _ e1) rfl (by decide) ?_
  refine r_items (by rfl) ?_
  refine r_builtin I ST O.T (by rfl) (by rfl) (by rfl) (by rfl) (G.no "bytes" (.tail _ (.tail _ (.tail _ (.tail _ (.tail _ (.tail _ (.tail _ (.tail _ (.tail _ (.tail _ (.head _)))))))))))) (by rfl) (by decide) (by decide) ?_
  refine r_items0 (call_isinstance (isinstance_false_str (by decide +kernel) PySem.F.isi_meta_bytes PySem.F.sub_str_bytes) ?_)
  have I := I.tok (s6.toks + 1)
  refine wpAny_truthy_bool ?_
  rw [if_neg (by decide)]
  refine r_assign (by rfl) (r_str I ?_)
  intro t2 s7 I
  refine r_storeC I hcs (by rfl) (by rfl) (by rfl) (.tail _ (.head _)) ?_
  intro s8 I
  refine r_assign (by rfl) (r_str I ?_)
  intro t3 s9 I
  refine r_storeC I hcs (by rfl) (by rfl) (by rfl) (.head _) ?_
  intro s10 I
  refine r_nil ?_
  -- try
  refine r_try (gq fun K0 hK0 => ?_)
  refine r_assignComp (cl := [(Str.ofString "sep", L + 1)]) (by rfl) (by rfl) (by rfl) (by rfl) (by rfl) (by rfl) ?_
  refine r_local I (by rfl) (by rfl) (by rfl) (by decide) ?_
  refine it_tuple I r.handled e1 ?_
  intro it s11 X
  refine ⟨B, _, _, _, [], CompOK.map [x1, x2] (fun x => Txt.split x ⟨#[47]⟩) StrsV (fun _ _ _ _ a b => b.up a) (by show 2 ≤ _; decide) (X _) ?_ ?_⟩
  · intro B' C g' mC s i v x inn le hP hx I
    obtain ⟨tx, rfl⟩ := hvs.at hP hx
    have hxl : x.length ≤ 900 := by
      have := List.mem_of_getElem? hx
      simp only [List.mem_cons, List.not_mem_nil, or_false] at this
      rcases this with rfl | rfl
      · exact len1
      · exact len2
    refine a_name (r_storeLocal I (by rfl) (by rfl) ?_)
    intro s2 I
    refine r_split (by rfl) (by rfl) (by rfl) ?_
    refine r_local I (by rfl) (by rfl) (by rfl) (by decide) ⟨x, tx, rfl, by lia, ?_⟩
    refine r_cell (by rfl) (by rfl) (by rfl) (inn.rd I (.tail _ (.head _)) (by rfl)) (by decide) ?_
    refine ⟨_, _, _, _, _, _, _, _, by rw [slash], I, fun D g'' s' vs I' le' e' hv => ⟨g'', _, I', D, vs, 0, rfl, e', hv⟩⟩
  intro D1 g2 ys1 k1 s12 l2 I oD1 hys1
  have I := I.freeze oD1
  have eD1 := put_self g2 D1 (lo ys1 k1)
  generalize hg3 : put g2 D1 (lo ys1 k1) = g3 at I eD1
  have l3 : Le g2 g3 := hg3 ▸ le_put (by have := (‹IF B g2 _ _ _ _ _ _›).muH _ (.head _); exact this.2.1)
  have e1' : g3 P = some (to_ [.str x1 u1, .str x2 u2] 0) := l3 _ _ (l2 _ _ e1)
  have hys1' := hys1.mono (R' := StrsV g3) fun _ _ q => q.up l3
  -- isabs, = {p.startswith(sep) for p in paths}
  refine r_try (r_assignT (by rfl) (by rfl) ?_)
  refine r_setcomp (cl := [(Str.ofString "sep", L + 1)]) (by rfl) (by rfl) (by rfl) (by lia) ?_
  refine r_local I (by rfl) (by rfl) (by rfl) (by decide) ?_
  refine it_tuple I r.handled e1' ?_
  intro it s13 X
  refine ⟨B, L, _, _, _, [], _, _, _, by show 1 ≤ 2; decide, X _, ?_, ?_⟩
  · intro B' C g' mC s i v inn le hi hP I
    obtain ⟨x, hx, tx, rfl⟩ := hvs.get' hP
    have hxh : (tl x).head? = some 47 := by
      have := List.mem_of_getElem? hx
      simp only [List.mem_cons, List.not_mem_nil, or_false] at this
      rcases this with rfl | rfl
      · rw [hx1]; cases n1 with
        | nil => exact absurd rfl h1
        | cons q r => simp [pathL]
      · rw [hx2]; cases n2 with
        | nil => exact absurd rfl h2
        | cons q r => simp [pathL]
    refine a_name (r_storeLocal I (by rfl) (by rfl) ?_)
    intro s2 I
    refine r_starts (by rfl) (by rfl) (by rfl) ?_
    refine r_local I (by rfl) (by rfl) (by rfl) (by decide) ⟨x, tx, rfl, ?_⟩
    refine r_cell (by rfl) (by rfl) (by rfl) (inn.rd I (.tail _ (.head _)) (by rfl)) (by decide) ?_
    exact ⟨47, _, by rw [slash], by rw [hxh]; rfl, _, _, I⟩
  intro D2 g4 ep s14 l4 I oD2
  refine a_set1 I r.handled (by rfl) (by rfl) (I.muH _ (.head _)).1 ?_
  intro s15 I
  have I := I.weaken (mu' := []) (fun _ h => nomatch h) .nil
  refine r_nil (r_nil ?_)
  -- the names
  refine r_assignComp (cl := [(Str.ofString "curdir", L + 1 + 1)]) (by rfl) (by rfl) (by rfl) (by rfl) (by rfl) (by rfl) ?_
  refine r_local I (by rfl) (by rfl) (by rfl) (by decide) ?_
  refine it_list I r.handled (l4 _ _ eD1) ?_
  intro it s16 X
  have hys2 := hys1'.mono (R' := StrsV g4) fun _ _ q => q.up l4
  refine ⟨B, _, _, _, [], CompOK.map ([x1, x2].map fun x => Txt.split x ⟨#[47]⟩) (fun xs => xs.filter pf) StrsV (fun _ _ _ _ a b => b.up a) (by show 2 ≤ _; decide) (hys2.length ▸ X _) ?_ ?_⟩
  · intro B' C g' mC s i v x inn le hP hx I
    obtain ⟨a1, ws, kk, rfl, ea, hws⟩ := hys2.at hP hx
    refine a_name (r_storeLocal I (by rfl) (by rfl) ?_)
    intro s2 I
    refine r_comp (cl := [(Str.ofString "curdir", L + 1 + 1)]) (by rfl) (by rfl) (by rfl) ?_
    refine r_local I (by rfl) (by rfl) (by rfl) (by decide) ?_
    refine it_list I r.handled (le _ _ ea) ?_
    intro it s3 X
    have hxl : x.length ≤ 1000 := by
      have := List.mem_of_getElem? hx
      simp only [List.map_cons, List.map_nil, List.mem_cons, List.not_mem_nil, or_false] at this
      rcases this with rfl | rfl
      · exact split_len hx1 h1 ok1 len1
      · exact split_len hx2 h2 ok2 len2
    refine ⟨B', C, _, _, _, [], CompOK.pure x pf id (fun _ v c => StrV v c) (fun _ _ _ _ _ b => b) (by lia) (hws.length ▸ X _) ?_ ?_⟩
    · intro B2 C2 g2 mC2 s4 j v2 c inn2 le2 hP2 hx2' I
      obtain ⟨tc, rfl⟩ := hws.at hP2 hx2'
      refine a_name (r_storeLocal I (by rfl) (by rfl) ?_)
      intro s5 I
      have hcell := inn.cell (Str.ofString "curdir") (L + 1 + 1) (.head _)
      have cl : c.length ≤ 100000 := by
        have hm := List.mem_of_getElem? hx
        have hc := List.mem_of_getElem? hx2'
        simp only [List.map_cons, List.map_nil, List.mem_cons, List.not_mem_nil, or_false] at hm
        have bound : ∀ {z : Str} {ns : List (List Nat)}, tl z = pathL ns → ns ≠ [] → OkN ns → z.length ≤ 900 → ∀ c ∈ Txt.split z ⟨#[47]⟩, c.length ≤ 100000 := by
          intro z ns hz hn hok hl c hc
          have e := split_tl (x := z) (l := [] :: ns) (hz.trans (pathL_join hn)) (by simp) (fun p hp => by
            rcases List.mem_cons.mp hp with rfl | hp
            · simp
            · exact (hok p hp).2)
          have hm : tl c ∈ [] :: ns := by rw [← e]; exact List.mem_map.mpr ⟨c, hc, rfl⟩
          rw [← len_tl]
          rcases List.mem_cons.mp hm with q | q
          · rw [q]; exact Nat.zero_le _
          · have : (tl c).length ≤ (pathL ns).length := by
              clear hm e hc hz hn hok
              induction ns with
              | nil => cases q
              | cons a r ih =>
                simp only [pathL, List.flatMap_cons, List.length_append, List.length_cons] at ih ⊢
                rcases List.mem_cons.mp q with q | q
                · rw [q]; lia
                · have := ih q; lia
            have hz' : (pathL ns).length = z.length := by rw [← hz, len_tl]
            lia
        rcases hm with rfl | rfl
        · exact bound hx1 h1 ok1 len1 c hc
        · exact bound hx2 h2 ok2 len2 c hc
      refine tests1 (wpAny_isTrue_BoolOp (wpAny_allTrue_And_cons (r_test (r_local I (by rfl) (by rfl) (by rfl) (by decide) (tr_str I cl ?_)) (by rfl))))
      intro s6 I
      refine ite_of (fun hb => ?_) fun hb => ?_
      · refine wpAny_allTrue_And_cons (r_cmpT (by rfl) ?_)
        refine r_local I (by rfl) (by rfl) (by rfl) (by decide) ?_
        refine r_cell (by rfl) (by rfl) (by rfl) (hcell s6 fun b o e => I.keep b o (inn2.k b o e)) (by decide) ?_
        refine c_neStr (wpAny_truthy_bool (ite_of (fun hb2 => ?_) fun hb2 => ?_))
        · refine wpAny_allTrue_And_nil ⟨?_, ?_⟩
          · unfold pf; rw [hb]; exact hb2.symm
          · rw [if_pos rfl]
            exact r_local I (by rfl) (by rfl) (by rfl) (by decide) ⟨_, _, I, tc, rfl⟩
        · refine ⟨?_, ?_⟩
          · unfold pf; rw [hb]; exact hb2.symm
          · rw [if_neg (by decide)]; exact ⟨_, _, I⟩
      · refine ⟨?_, ?_⟩
        · unfold pf; rw [hb]; rfl
        · rw [if_neg (by decide)]; exact ⟨_, _, I⟩
    · intro D g2 ys kk s4 le2 I oD hys
      have lf : Le g2 (put g2 D (lo ys kk)) := le_put (I.muH _ (.head _)).2.1
      have I := I.freeze oD
      exact ⟨_, _, I, D, ys, kk, rfl, put_self .., by rw [List.map_id] at hys; exact hys⟩
  intro D3 g5 ys3 k3 s17 l5 I oD3 hys3
  have lf5 : Le g5 (put g5 D3 (lo ys3 k3)) := le_put (I.muH _ (.head _)).2.1
  have J3 := I.freeze oD3
  clear I
  have eD3 := put_self g5 D3 (lo ys3 k3)
  have hys3' := hys3.mono (R' := StrsV (put g5 D3 (lo ys3 k3))) fun _ _ q => q.up lf5
  generalize put g5 D3 (lo ys3 k3) = g6 at J3 eD3 hys3'
  clear hys3 hys2 hys1' hys1 lf5
  have I := J3
  obtain ⟨v1, hv1', hA⟩ : ∃ v1, ys3[0]? = some v1 ∧ StrsV g6 v1 ((Txt.split x1 ⟨#[47]⟩).filter pf) := by
    obtain ⟨v, e, q⟩ := hys3'.get (i := 0) (b := (Txt.split x1 ⟨#[47]⟩).filter pf) rfl
    exact ⟨v, e, q⟩
  obtain ⟨v2, hv2', hB⟩ : ∃ v2, ys3[1]? = some v2 ∧ StrsV g6 v2 ((Txt.split x2 ⟨#[47]⟩).filter pf) := by
    obtain ⟨v, e, q⟩ := hys3'.get (i := 1) (b := (Txt.split x2 ⟨#[47]⟩).filter pf) rfl
    exact ⟨v, e, q⟩
  have hl3 : ys3 = [v1, v2] := two_of hys3'.length hv1' hv2'
  subst hl3
  have hA1 := split_names hx1 h1 ok1 d1
  have hB1 := split_names hx2 h2 ok2 d2
  generalize (Txt.split x1 ⟨#[47]⟩).filter pf = as at hA hA1
  generalize (Txt.split x2 ⟨#[47]⟩).filter pf = bs at hB hB1
  obtain ⟨al, av, ak, rfl, eA, hA⟩ := hA
  obtain ⟨bl, bv, bk, rfl, eB, hB⟩ := hB
  -- s1 = min, s2 = max
  refine r_assign (by rfl) ?_
  refine r_callB I ST O.T (by rfl) (by rfl) (by rfl) (by rfl) (G.no "min" (.head _)) (by rfl) (by decide) (by decide) (by rfl) (by rfl) (by rfl) ?_
  refine r_items (by rfl) (r_local I (by rfl) (by rfl) (by rfl) (by decide) (r_items0 ?_))
  refine b_min2 I r.handled (by lia) eD3 eA eB hA hB ?_
  intro s18 I
  refine r_storeLocal I (by rfl) (by rfl) ?_
  intro s19 I
  refine r_assign (by rfl) ?_
  refine r_callB I ST O.T (by rfl) (by rfl) (by rfl) (by rfl) (G.no "max" (.tail _ (.head _))) (by rfl) (by decide) (by decide) (by rfl) (by rfl) (by rfl) ?_
  refine r_items (by rfl) (r_local I (by rfl) (by rfl) (by rfl) (by decide) (r_items0 ?_))
  refine b_max2 I r.handled (by lia) eD3 eA eB hA hB ?_
  intro s20 I
  refine r_storeLocal I (by rfl) (by rfl) ?_
  intro s21 I
  obtain ⟨c1, w1, k1', y1, c2, w2, k2', y2, ec1, ec2, E1, E2, W1, W2, hlt, hcp, sm1, sm2⟩ : ∃ c1 w1 k1' y1 c2 w2 k2' y2, (if lexLt bs as = true then Value.ref bl else Value.ref al) = .ref c1 ∧ (if lexLt as bs = true then Value.ref bl else Value.ref al) = .ref c2 ∧
      g6 c1 = some (lo w1 k1') ∧ g6 c2 = some (lo w2 k2') ∧ All₂ StrV w1 y1 ∧ All₂ StrV w2 y2 ∧ lexLt y2 y1 = false ∧ cpre y1 y2 = cpre as bs ∧ Small y1 ∧ Small y2 := by
    have sa : Small as := small_of hA1 (by rw [← hx1, len_tl]; exact len1)
    have sb : Small bs := small_of hB1 (by rw [← hx2, len_tl]; exact len2)
    by_cases q1 : lexLt bs as = true
    · have q2 := lex_asymm _ _ q1
      rw [if_pos q1, if_neg (by rw [q2]; decide)]
      exact ⟨bl, bv, bk, bs, al, av, ak, as, rfl, rfl, eB, eA, hB, hA, q2, cpre_comm _ _, sb, sa⟩
    · by_cases q2 : lexLt as bs = true
      · rw [if_neg q1, if_pos q2]
        exact ⟨al, av, ak, as, bl, bv, bk, bs, rfl, rfl, eA, eB, hA, hB, Bool.eq_false_iff.mpr q1, rfl, sa, sb⟩
      · have e := lex_total _ _ (Bool.eq_false_iff.mpr q2) (Bool.eq_false_iff.mpr q1)
        rw [if_neg q1, if_neg q2]
        exact ⟨al, av, ak, as, al, av, ak, as, rfl, rfl, eA, eA, hA, hA, lex_irrefl _, by rw [e], sa, sa⟩
  rw [ec1, ec2] at I
  -- common
  refine r_assign (by rfl) (r_local I (by rfl) (by rfl) (by rfl) (by decide) ?_)
  refine r_storeLocal I (by rfl) (by rfl) ?_
  intro s22 I
  have lw1 := W1.length
  refine r_forJ B [(Str.ofString "curdir", L + 1 + 1), (Str.ofString "sep", L + 1)] w1.length (fun i v h => E3 fun T x t => C3 (v = .ref T) (h.IsTuple T #[.int (i : Int) t, x]) (w1[i]? = some x))
    (fun i g' mu m cm => C8 (mu = []) (Le g6 g') (m (Str.ofString "s1") = some (.ref c1)) (m (Str.ofString "s2") = some (.ref c2)) (m (Str.ofString "common") = some (.ref c1)) (m (Str.ofString "isabs") = some (.bool true)) (cm (Str.ofString "sep") = some (.str ⟨#[47]⟩ t2)) (y1.take i = y2.take i))
    (fun g' mu m cm => C4 (mu = []) (m (Str.ofString "isabs") = some (.bool true)) (cm (Str.ofString "sep") = some (.str ⟨#[47]⟩ t2)) (E3 fun c w k => C3 (m (Str.ofString "common") = some (.ref c)) (g' c = some (lo w k)) (All₂ StrV w (cpre y1 y2)))) ?_ ?_ ?_ ?_
  · refine r_callT I ST O.T (by rfl) (by rfl) (by rfl) (by rfl) (G.no "enumerate" (.tail _ (.tail _ (.tail _ (.tail _ (.tail _ (.tail _ (.tail _ (.tail _ (.tail _ (.tail _ (.tail _ (.tail _ (.tail _ (.tail _ (.tail _ (.head _))))))))))))))))) (by rfl) (by decide) (by decide) (by rfl) (by rfl) (by rfl) ?_
    refine r_items (by rfl) (r_local I (by rfl) (by rfl) (by rfl) (by decide) (r_items0 ?_))
    refine b_enum I r.handled E1 ?_
    intro v s23 hv
    refine hv _ _ fun it s24 X => ⟨_, _, _, _, X _ _ _, rfl, Le.refl _, by rfl, by rfl, by rfl, by rfl, by rw [← slash]; rfl, by simp⟩
  · rintro B' g7 mu m cm s23 i v K hK pin hi ⟨T, x, ti, rfl, hT, hx⟩ ⟨rfl, le, m1, m2, m3, m4, m5, ht⟩ I
    obtain ⟨cc, hcc, tc, rfl⟩ := W1.get' hx
    have hi1 : i < y1.length := by rw [← lw1]; exact hi
    have hi2 : i < y2.length := lex_in y1 y2 i hlt ht hi1
    obtain ⟨dd, hdd⟩ : ∃ dd, y2[i]? = some dd := ⟨y2[i], List.getElem?_eq_getElem hi2⟩
    obtain ⟨vd, hvd, td, rfl⟩ := W2.get hdd
    refine a_tup2T I r.handled (by rfl) (by rfl) (by rfl) hT ?_
    intro s24 I
    refine r_ifp (r_cmpT (by rfl) ?_)
    refine r_local I (by rfl) (by rfl) (by rfl) (by decide) (Subscript_ ?_)
    refine r_local I (by rfl) (by rfl) (by exact m2) (by decide) ?_
    refine r_local I (by rfl) (by rfl) (by rfl) (by decide) ?_
    refine t_list (k := i) (I.sub _ _ (le _ _ E2)) hvd (by have := sm2.1; lia) ?_
    refine c_neStr (wpAny_truthy_bool (ite_of (fun hb => ?_) fun hb => ?_))
    · have hne := of_decide_eq_true hb
      refine r_assign (by rfl) (Subscript_ ?_)
      refine r_local I (by rfl) (by rfl) (by exact m1) (by decide) (slice_ns ?_)
      refine r_local I (by rfl) (by rfl) (by rfl) (by decide) ?_
      refine t_listSlice I (I.sub _ _ (le _ _ E1)) (by have := sm1.1; lia) .none (.int _ _) .none (by intro q; cases q) ?_
      intro D g8 s25 I l8 e8
      refine r_storeLocal I (by rfl) (by rfl) ?_
      intro s26 I
      refine wpAny_execs_cons (wpAny_Break (hK _ _ ⟨_, _, _, _, I, rfl, by exact m4, m5, D, _, 0, by rfl, e8, ?_⟩))
      rw [cpre_at y1 y2 i cc dd ht hcc hdd hne]
      have e : (slicePick w1.toArray none (some (i : Int)) none).toList = w1.take i := by rw [slicePick_upto']
      rw [e]
      exact W1.take i
    · have heq : cc = dd := Decidable.not_not.mp (of_decide_eq_false hb)
      refine r_nil (r_nil (hK _ _ ⟨_, _, _, _, I, rfl, le, by exact m1, by exact m2, by exact m3, by exact m4, m5, ?_⟩))
      rw [List.take_add_one, List.take_add_one, ht, hcc, hdd, heq]
  · rintro g7 mu m cm ⟨rfl, le, m1, m2, m3, m4, m5, ht⟩
    refine ⟨rfl, m4, m5, c1, w1, k1', m3, le _ _ E1, ?_⟩
    rw [cpre_all y1 y2 (by rw [← lw1, ← ht, lw1, List.take_length])]
    exact W1
  · rintro g7 mu m cm s23 I ⟨rfl, m4, m5, c, wc, kc, m3, ec, Wc⟩
    have Ws : Small (cpre y1 y2) := by
      obtain ⟨q, e⟩ := cpre_take y1 y2
      rw [e]
      exact ⟨by rw [List.length_take]; have := sm1.1; lia, fun y hy => sm1.2 y (List.mem_of_mem_take hy)⟩
    refine r_assign (by rfl) (r_ifexp ?_)
    refine r_test (r_local I (by rfl) (by rfl) m4 (by decide) (wpAny_truthy_bool ?_)) (by rfl)
    rw [if_pos rfl]
    refine r_cell (by rfl) (by rfl) (by rfl) (I.rd (.tail _ (.head _)) m5) (by decide) ?_
    refine r_storeLocal I (by rfl) (by rfl) ?_
    intro s24 I
    refine r_return (r_bin (r_local I (by rfl) (by rfl) (by rfl) (by decide) ?_))
    refine r_joinM (by rfl) (by rfl) (by rfl) ?_
    refine r_cell (by rfl) (by rfl) (by rfl) (I.rd (.tail _ (.head _)) m5) (by decide) ⟨_, rfl, ?_⟩
    refine r_local I (by rfl) (by rfl) (by exact m3) (by decide) ⟨_, _, _, _, rfl, I.sub _ _ ec, Wc, Ws.1, Ws.2, fun y ty kk hy => ?_⟩
    have I := I.tok kk
    have hcp' : (cpre y1 y2).map tl = cpre n1 n2 := by rw [hcp, cpre_map tl (fun a b e => str_ext e), hA1, hB1]
    have hyl : y.length ≤ 2000 := by
      rw [← len_tl, hy, hcp']
      have e1 : ∀ l : List (List Nat), (joinL l).length ≤ (pathL l).length := by
        intro l
        cases l with
        | nil => exact Nat.le_refl _
        | cons a r =>
          have := pathL_join (ns := a :: r) (by simp)
          rw [this]
          simp only [joinL, List.nil_append, List.length_cons]
          lia
      obtain ⟨q, e⟩ := cpre_take n1 n2
      rw [e]
      have e2 := pathL_take n1 q
      rw [← hx1, len_tl] at e2
      have := e1 (n1.take q)
      lia
    refine o_addStr I (by show 1 + y.length ≤ _; lia) ?_
    intro t4 s25 I
    refine hK0 _ _ (h _ _ _ _ (O.fin I) ?_)
    rw [tl_append, hy, hcp']
    rfl
end
end Mine
set_option Elab.async false
set_option maxRecDepth 100000
set_option linter.unusedVariables false
namespace Mine
open PySem PySem.W PyProof.Rows PySem.Calls SeqAt
noncomputable def isS (x : Str) : Value → Bool
  | .str z _ => decide (z = x)
  | _ => false
theorem any_isS {x : Str} : ∀ {vs : List Value} {xs : List Str}, All₂ StrV vs xs → vs.any (isS x) = decide (x ∈ xs)
  | _, _, .nil => by simp
  | _, _, @All₂.cons _ _ _ a b as bs h t => by
    obtain ⟨tk, rfl⟩ := h
    rw [List.any_cons, any_isS t]
    show (decide (b = x) || decide (x ∈ bs)) = decide (x ∈ b :: bs)
    by_cases e : b = x
    · subst e; simp
    · have : ¬ x = b := fun q => e q.symm
      simp [e, this]
section
variable {prog : Program} {w : World} {A : Around} {E : Value → Shared → Prop} {s : Shared} {env : Env}
variable {B : Base} {g : Vw} {mu : List (Addr × Obj)} {L : Addr} {m : Str → Option Value} {cs : List (Str × Addr)} {cm : Str → Option Value} {S : Heap} {mg mb : Str → Option Value}
theorem eqAt_str {x : Str} {t : Tok} {vs : List Value} {xs : List Str} (h : All₂ StrV vs xs) : ∀ y, y ∈ vs.toArray → EqAt A s y (.str x t) (isS x y) := fun y hy => by
  obtain ⟨z, _, tk, rfl⟩ := h.memL y (by simpa using hy)
  exact fun prog w E Q hq => wpAny_eqBool_str hq
theorem c_inStrs {l : Addr} {vs : List Value} {n : Nat} {xs : List Str} {x : Str} {t : Tok} {Q : Value → Shared → Prop} (hl : s.heap.get? l = some (lo vs n)) (hv : All₂ StrV vs xs) (h : Q (.bool (decide (x ∈ xs))) s) :
    wpAny (model prog w) A (compareOp .In (.str x t) (.ref l)) Q E s :=
  in_listAt (isS x) (isList_lo hl) (eqAt_str hv) (by rw [List.any_toArray, any_isS hv]; exact h)

/-- a dict of texts in the view -/
noncomputable def MapV (prog : Program) (w : World) (g : Vw) (v : Value) (kvs : List (Str × Value)) : Prop := ∃ a o, v = .ref a ∧ (a == sysModules) = false ∧ g a = some o ∧ o.IsDictOf (strKind prog w) kvs
theorem MapV.up {g g' : Vw} {v : Value} {kvs : List (Str × Value)} (h : MapV prog w g v kvs) (hg : Le g g') : MapV prog w g' v kvs := by
  obtain ⟨a, o, rfl, h0, h1, h2⟩ := h
  exact ⟨a, o, rfl, h0, hg _ _ h1, h2⟩
theorem t_map {value slice : Expr} {a : Addr} {o : Obj} {kvs : List (Str × Value)} {x : Str} {t : Tok} {v : Value} {Q : Value → Shared → Prop} (I : IF B g mu L m cs cm s) (ho : s.heap.get? a = some o) (hd : o.IsDictOf (strKind prog w) kvs) (hv : valueAt kvs x = some v) (h : ∀ s', IF B g mu L m cs cm s' → Q v s')
    (hs : subscripted slice false (.ref a) (.str x t) = operate [.ref a, .str x t] (getItem (.ref a) (.str x t)) := by with_unfolding_all rfl) (ht : ∀ r, letTemporaryGo value (.ref a) r = pure () := by intro _; with_unfolding_all rfl) :
    wpAny (model prog w) A (subscriptTail value slice (.ref a) (.str x t)) Q E s := by
  have hD : s.heap.DictOf (strKind prog w) a kvs := Heap.dictOf_iff.mpr ⟨o, ho, hd⟩
  have hm := hD.mapOf
  refine subscriptTail_builtin hm.typeIs slot_dict_getitem.lookup (wpAny_getItem_of (strKind_is prog w x t) hm hv (h _ (I.tok _))) hs ht
end

/-! ## _law_meeting -/
section
variable {prog : Program} {w : World} {A : Around} {E : Value → Shared → Prop} {s : Shared} {g : Vw} {S : Heap} {mg mb : Str → Option Value}
noncomputable def Holds (kvs : List (Str × Value)) (P : Str → List Nat) (dom : List Str) : Prop := ∀ x ∈ dom, ∃ p t, valueAt kvs x = some (.str p t) ∧ tl p = P x ∧ p.length ≤ 900
noncomputable def meetL (P : Str → List Nat) (xs ys : List Str) : List Nat := match xs.find? fun x => decide (x ∈ ys) with | some x => P x | none => [47]
theorem meeting_call {a la lb : Addr} {pm cd doc bv : Value} {va vb : List Value} {ka kb : Nat} {xs ys : List Str} {kvs : List (Str × Value)} {P : Str → List Nat} {d : Nat} {Q : Value → Shared → Prop} (hg : Sub g s.heap) (hTg : Le S.get? g) (G : Globs S mg mb) (F : FnAt S a 32 pm cd doc .none) (r : Room A (d + 1))
    (h1 : g la = some (lo va ka)) (h2 : g lb = some (lo vb kb)) (hx : All₂ StrV va xs) (hy : All₂ StrV vb ys) (hb : MapV prog w g bv kvs) (hP : Holds kvs P xs) (hn : xs.length ≤ 1000)
    (h : ∀ y t' g' s', After g s g' s' → tl y = meetL P xs ys → Q (.str y t') s') : wpAny (model prog w) A (call (.ref a) [.ref la, .ref lb, bv]) Q E s := by
  obtain ⟨ab, ob, rfl, hsys, eb, hob⟩ := hb
  refine call_c (m0 := upd (upd (fun _ => none) (Str.ofString "one") (.ref la)) (Str.ofString "book") (.ref ab)) (cm0 := upd (fun _ => none) (Str.ofString "two") (.ref lb)) (cs0 := fun L => [(Str.ofString "two", L + 1)]) hg hTg G.st rfl F r
    (binds := [(Str.ofString "one", .ref la), (Str.ofString "two", .ref lb), (Str.ofString "book", .ref ab)]) (by rfl) (by rfl) (by decide +kernel) (fun _ => rfl) (fun _ => rfl) (fun _ => rfl) (by rfl) (by rfl) (by rfl) ?_
  intro B L s₁ O A1 r I
  have ST := G.st
  refine r_assignComp (cl := [(Str.ofString "two", L + 1)]) (by rfl) (by rfl) (by rfl) (by rfl) (by rfl) (by rfl) ?_
  refine r_local I (by rfl) (by rfl) (by rfl) (by decide) ?_
  refine it_list I r.handled h1 ?_
  intro it s2 X
  refine ⟨B, _, _, _, [], CompOK.pure xs (fun x => decide (x ∈ ys)) id (fun _ v c => StrV v c) (fun _ _ _ _ _ b => b) (by lia) (hx.length ▸ X _) ?_ ?_⟩
  · intro B' C g' mC s j v c inn le hP' hx' I
    obtain ⟨tc, rfl⟩ := hx.at hP' hx'
    refine a_name (r_storeLocal I (by rfl) (by rfl) ?_)
    intro s3 I
    refine tests1 (r_cmpT (by rfl) ?_)
    refine r_local I (by rfl) (by rfl) (by rfl) (by decide) ?_
    refine r_cell (by rfl) (by rfl) (by rfl) (inn.rd I (.head _) (by rfl)) (by decide) ?_
    refine c_inStrs (I.sub _ _ (le _ _ h2)) hy (wpAny_truthy_bool ⟨rfl, ite_of (fun hb => ?_) fun hb => ⟨_, _, I⟩⟩)
    exact r_local I (by rfl) (by rfl) (by rfl) (by decide) ⟨_, _, I, tc, rfl⟩
  intro D g2 zs kz s3 l2 I oD hzs
  rw [List.map_id] at hzs
  refine r_ifp (r_test (r_local I (by rfl) (by rfl) (by rfl) (by decide) (tr_list I (I.muH _ (.head _)).1 (by
    have := hzs.length
    have := List.length_filter_le (fun x => decide (x ∈ ys)) xs
    lia) ?_)) (by rfl))
  intro s4 I
  have hfind : (xs.filter fun x => decide (x ∈ ys)).head? = xs.find? fun x => decide (x ∈ ys) := List.head?_filter
  refine ite_of (fun hb => ?_) fun hb => ?_
  · have hne := of_decide_eq_true hb
    obtain ⟨x, hxf⟩ : ∃ x, (xs.filter fun x => decide (x ∈ ys))[0]? = some x := by
      cases e : xs.filter fun x => decide (x ∈ ys) with
      | nil => rw [e] at hzs; cases hzs; exact absurd rfl hne
      | cons q r => exact ⟨q, rfl⟩
    obtain ⟨vx, hvx, tx, rfl⟩ := hzs.get hxf
    have hxm : x ∈ xs := (List.mem_filter.mp (List.mem_of_getElem? hxf)).1
    obtain ⟨p, tp, hv, hp, _⟩ := hP x hxm
    refine r_return (Subscript_ ?_)
    refine r_local I (by rfl) (by rfl) (by rfl) (by decide) (Subscript_ ?_)
    refine r_local I (by rfl) (by rfl) (by rfl) (by decide) (r_int I ?_)
    intro t3 s5 I
    refine t_list (k := 0) (I.muH _ (.head _)).1 hvx (by decide) ?_
    refine t_map I (I.sub _ _ (l2 _ _ eb)) hob hv ?_
    intro s6 I
    refine h _ _ _ _ (O.fin I) ?_
    unfold meetL
    rw [← hfind, List.head?_eq_getElem?, hxf]
    exact hp
  · have he : zs = [] := Decidable.not_not.mp (of_decide_eq_false hb)
    subst he
    have hf0 : xs.filter (fun x => decide (x ∈ ys)) = [] := List.eq_nil_of_length_eq_zero hzs.length.symm
    refine r_nil (r_return (r_str I ?_))
    intro t3 s5 I
    refine h _ _ _ _ (O.fin I) ?_
    unfold meetL
    rw [← hfind, hf0, slash]
    rfl
end
end Mine
set_option Elab.async false
set_option maxRecDepth 100000
set_option linter.unusedVariables false
namespace Mine
open PySem PySem.W PyProof.Rows PySem.Calls SeqAt
theorem strV_fun {v : Value} {x y : Str} (h : StrV v x) (h' : StrV v y) : x = y := by
  obtain ⟨t, rfl⟩ := h
  obtain ⟨u, e⟩ := h'
  injection e
theorem All₂.func {α β : Type} {R : α → β → Prop} (hf : ∀ a b c, R a b → R a c → b = c) {as : List α} {bs : List β} (x : All₂ R as bs) : ∀ {cs : List β}, All₂ R as cs → bs = cs := by
  induction x with
  | nil => intro cs y; cases y; rfl
  | cons h _ ih => intro cs y; cases y with | cons h' t' => rw [hf _ _ _ h h', ih t']
theorem strsV_fun {g : Vw} {v : Value} {xs ys : List Str} (h : StrsV g v xs) (h' : StrsV g v ys) : xs = ys := by
  obtain ⟨a, vs, n, rfl, e, q⟩ := h
  obtain ⟨b, ws, k, e', e2, q'⟩ := h'
  injection e' with e'
  subst e'
  rw [e] at e2
  have := Option.some.inj e2
  have hv : vs = ws := by
    have := congrArg Obj.data this
    simp at this
    exact this.1
  subst hv
  exact All₂.func (R := StrV) (fun _ _ _ h h' => strV_fun h h') q q'
theorem all_eq {α : Type} [DecidableEq α] : ∀ (n : Nat) (xs ys : List α) (hx : xs.length = n) (hy : ys.length = n), ((List.range n).all fun j => decide (xs[j]? = ys[j]?)) = decide (xs = ys) := by
  intro n xs ys hx hy
  rw [Bool.eq_iff_iff, List.all_eq_true, decide_eq_true_iff]
  constructor
  · intro h
    apply List.ext_getElem?
    intro i
    by_cases hi : i < n
    · exact of_decide_eq_true (h i (List.mem_range.mpr hi))
    · rw [List.getElem?_eq_none (by lia), List.getElem?_eq_none (by lia)]
  · intro h i _
    rw [h]; simp
section
variable {prog : Program} {w : World} {A : Around} {E : Value → Shared → Prop} {s : Shared} {env : Env}
variable {B : Base} {g : Vw} {mu : List (Addr × Obj)} {L : Addr} {m : Str → Option Value} {cs : List (Str × Addr)} {cm : Str → Option Value} {S : Heap} {mg mb : Str → Option Value}

/-- lists are compared item by item -/
theorem rcAt_lst {α : Type} [DecidableEq α] {P : Value → α → Prop} {l b : Addr} {vs ws : List Value} {n k : Nat} {xs ys : List α} (hl : s.heap.get? l = some (lo vs n)) (hb : s.heap.get? b = some (lo ws k)) (hx : All₂ P vs xs) (hy : All₂ P ws ys) (hu : A.units < cLine)
    (he : ∀ v w x y, P v x → P w y → EqAt A.in1 s v w (decide (x = y))) : RcAt A s (.ref l) (.ref b) (decide (xs = ys)) := by
  by_cases hlen : vs.length = ws.length
  · have e := all_eq vs.length xs ys hx.length.symm (by rw [hlen]; exact hy.length.symm)
    rw [← e]
    have := RcAt.lists (A := A) (e := fun j => decide (xs[j]? = ys[j]?)) (isList_lo hl) (isList_lo hb) (by simpa using hlen) hu fun j h1 h2 => ?_
    · simpa using this
    · have hj1 : j < vs.length := by simpa using h1
      have hj2 : j < ws.length := by simpa using h2
      have hv : vs[j]? = some vs[j] := List.getElem?_eq_getElem hj1
      have hw : ws[j]? = some ws[j] := List.getElem?_eq_getElem hj2
      obtain ⟨x, hx', px⟩ := hx.get' hv
      obtain ⟨y, hy', py⟩ := hy.get' hw
      rw [hx', hy']
      have := he _ _ x y px py
      have e2 : decide (some x = some y) = decide (x = y) := by simp
      rw [e2]
      simpa using this
  · have hne : ¬ xs = ys := fun e => hlen (by rw [hx.length, hy.length, e])
    rw [decide_eq_false hne]
    exact RcAt.lists_lengths (isList_lo hl) (isList_lo hb) (by simpa using hlen) hu
theorem eqAt_lst {α : Type} [DecidableEq α] {P : Value → α → Prop} {l b : Addr} {vs ws : List Value} {n k : Nat} {xs ys : List α} (hl : s.heap.get? l = some (lo vs n)) (hb : s.heap.get? b = some (lo ws k)) (hx : All₂ P vs xs) (hy : All₂ P ws ys) (hf : ∀ v x y, P v x → P v y → x = y) (hu : A.units < cLine)
    (he : ∀ v w x y, P v x → P w y → EqAt A.in1 s v w (decide (x = y))) : EqAt A s (.ref l) (.ref b) (decide (xs = ys)) := by
  by_cases hlb : l = b
  · subst hlb
    rw [hl] at hb
    have hv : vs = ws := by
      have := congrArg Obj.data (Option.some.inj hb)
      simp at this
      exact this.1
    subst hv
    rw [decide_eq_true (hx.func hf hy)]
    exact EqAt.same _
  · exact EqAt.of_refs hlb (rcAt_lst hl hb hx hy hu he)
theorem eqAt_strs (hg : Sub g s.heap) (hu : A.units < cLine) {v w : Value} {xs ys : List Str} (h1 : StrsV g v xs) (h2 : StrsV g w ys) : EqAt A s v w (decide (xs = ys)) := by
  obtain ⟨a, vs, n, rfl, e1, q1⟩ := h1
  obtain ⟨b, ws, k, rfl, e2, q2⟩ := h2
  refine eqAt_lst (hg _ _ e1) (hg _ _ e2) q1 q2 (fun _ _ _ h h' => strV_fun h h') hu fun v w x y hx hy => ?_
  obtain ⟨t, rfl⟩ := hx
  obtain ⟨u, rfl⟩ := hy
  exact fun prog w E Q hq => wpAny_eqBool_str hq
/-- two lists of texts: == -/
theorem c_eqStrs {v v' : Value} {xs ys : List Str} {Q : Value → Shared → Prop} (hg : Sub g s.heap) (hu : A.units < cLine) (h1 : StrsV g v xs) (h2 : StrsV g v' ys) (h : Q (.bool (decide (xs = ys))) s) : wpAny (model prog w) A (compareOp .Eq v v') Q E s := by
  obtain ⟨a, vs, n, rfl, e1, q1⟩ := h1
  obtain ⟨b, ws, k, rfl, e2, q2⟩ := h2
  refine rcAt_lst (hg _ _ e1) (hg _ _ e2) q1 q2 hu (fun v w x y hx hy => ?_) prog w E Q h
  obtain ⟨t, rfl⟩ := hx
  obtain ⟨u, rfl⟩ := hy
  exact fun prog w E Q hq => wpAny_eqBool_str hq
/-- two lists of lists of texts: == -/
theorem c_eqRows {v v' : Value} {xs ys : List (List Str)} {Q : Value → Shared → Prop} (hg : Sub g s.heap) (hu : A.units + 1 < cLine) (h1 : RowsV g v xs) (h2 : RowsV g v' ys) (h : Q (.bool (decide (xs = ys))) s) : wpAny (model prog w) A (compareOp .Eq v v') Q E s := by
  obtain ⟨a, vs, n, rfl, e1, q1⟩ := h1
  obtain ⟨b, ws, k, rfl, e2, q2⟩ := h2
  exact rcAt_lst (hg _ _ e1) (hg _ _ e2) q1 q2 (by lia) (fun v w x y hx hy => eqAt_strs (A := A.in1) hg (by show A.units + 1 < _; lia) hx hy) prog w E Q h
open Classical in
theorem any_rows {g : Vw} {x : List Str} (e : Value → Bool) {vs : List Value} {xs : List (List Str)} (ha : All₂ (StrsV g) vs xs) (he : ∀ v y, StrsV g v y → e v = decide (y = x)) : vs.any e = decide (x ∈ xs) := by
  induction ha with
  | nil => simp
  | @cons a b as bs h t ih =>
    rw [List.any_cons, ih, he a b h]
    by_cases q : b = x
    · subst q; simp
    · have : ¬ x = b := fun z => q z.symm
      simp [q, this]
open Classical in
/-- a row, not in a list of rows -/
theorem c_notInRows {l : Addr} {vs : List Value} {n : Nat} {xs : List (List Str)} {v : Value} {x : List Str} {Q : Value → Shared → Prop} (hg : Sub g s.heap) (hu : A.units + 1 < cLine) (hl : s.heap.get? l = some (lo vs n)) (hx : All₂ (StrsV g) vs xs) (hv : StrsV g v x) (h : Q (.bool (!decide (x ∈ xs))) s) :
    wpAny (model prog w) A (compareOp .NotIn v (.ref l)) Q E s := by
  have ex : ∀ u, ∃ b : Bool, ∀ y, StrsV g u y → b = decide (y = x) := fun u => by
    by_cases q : ∃ y, StrsV g u y
    · obtain ⟨y, hy⟩ := q
      exact ⟨decide (y = x), fun z hz => by rw [strsV_fun hy hz]⟩
    · exact ⟨false, fun y hy => absurd ⟨y, hy⟩ q⟩
  refine notIn_listAt (fun u => Classical.choose (ex u)) (isList_lo hl) (fun y hy => ?_) ?_
  · obtain ⟨z, _, hz⟩ := hx.memL y (by simpa using hy)
    rw [Classical.choose_spec (ex y) z hz]
    exact eqAt_strs (A := A.in1) hg (by show A.units + 1 < _; lia) hz hv
  · rw [List.any_toArray, any_rows _ hx fun v y hy => Classical.choose_spec (ex v) y hy]
    exact h
noncomputable def BoolV (v : Value) (b : Bool) : Prop := v = .bool b
theorem boolsAre {vs : List Value} {bs : List Bool} (x : All₂ BoolV vs bs) : LSm.BoolsAre vs bs := by
  induction x with
  | nil => exact .nil
  | cons h _ ih => cases h; exact .cons _ ih
theorem b_any {l : Addr} {vs : List Value} {k : Nat} {bs : List Bool} {Q : Value → Shared → Prop} (I : IF B g mu L m cs cm s) (hh : A.handled = none) (hl : s.heap.get? l = some (lo vs k)) (hi : All₂ BoolV vs bs) (h : ∀ s', IF B g mu L m cs cm s' → Q (.bool (bs.any id)) s') : wpAny (model prog w) A (call (.builtin "any") [.ref l]) Q E s :=
  LSm.any_bools I.fr (news_all s L) hh (isList_lo hl) (boolsAre hi) fun h' tk F N => h _ (I.back (new := []) F N)
end
end Mine
set_option Elab.async false
set_option maxRecDepth 100000
set_option linter.unusedVariables false
namespace Mine
open PySem PySem.W PyProof.Rows PySem.Calls SeqAt
/-! ## _law_merged -/
noncomputable def isBelow (row o : List Str) : Bool := match row with | h :: _ => decide (h ∈ o.drop 1) | [] => false
noncomputable def endStep (rows ends : List (List Str)) (row : List Str) : List (List Str) := if rows.filter (isBelow row) = [] ∧ row ∉ ends then ends ++ [row] else ends
noncomputable def endsL (rows : List (List Str)) : List (List Str) := rows.foldl (endStep rows) []
noncomputable def inLater (rest : List (List Str)) (t : Str) : Bool := rest.any fun l => decide (t ∈ l)
noncomputable def toldE : List (List Str) → List Str
  | [] => []
  | r :: rest => r.takeWhile (fun t => !inLater rest t) ++ toldE rest
theorem takeWhile_at {α : Type} (p : α → Bool) : ∀ (l : List α) (i : Nat) (x : α), (∀ y ∈ l.take i, p y = true) → l[i]? = some x → p x = false → l.takeWhile p = l.take i
  | [], i, x, _, h, _ => by simp at h
  | a :: r, 0, x, _, h, hp => by
    simp at h; subst h
    simp [List.takeWhile_cons, hp]
  | a :: r, i + 1, x, h, hx, hp => by
    have h1 : p a = true := h a (by simp)
    have h2 := takeWhile_at p r i x (fun y hy => h y (by simp [hy])) (by simpa using hx) hp
    simp [List.takeWhile_cons, h1, h2]
theorem takeWhile_all {α : Type} (p : α → Bool) (l : List α) (h : ∀ y ∈ l, p y = true) : l.takeWhile p = l := by
  induction l with
  | nil => rfl
  | cons a r ih => rw [List.takeWhile_cons, h a (.head _)]; simp only [if_true]; rw [ih fun y hy => h y (.tail _ hy)]
theorem endStep_sub {rows ends : List (List Str)} {row : List Str} (h : ∀ x ∈ ends, x ∈ rows) (hr : row ∈ rows) : ∀ x ∈ endStep rows ends row, x ∈ rows := by
  unfold endStep
  split
  · intro x hx
    rcases List.mem_append.mp hx with q | q
    · exact h x q
    · rw [List.mem_singleton.mp q]; exact hr
  · exact h
theorem endStep_len {rows ends : List (List Str)} {row : List Str} : (endStep rows ends row).length ≤ ends.length + 1 := by
  unfold endStep
  split <;> simp

section
variable {prog : Program} {w : World} {A : Around} {E : Value → Shared → Prop} {s : Shared} {g : Vw} {S : Heap} {mg mb : Str → Option Value}
set_option maxHeartbeats 2000000 in
theorem merged_call {a : Addr} {pm cd doc rv : Value} {rows : List (List Str)} {d : Nat} {Q : Value → Shared → Prop} (hg : Sub g s.heap) (hTg : Le S.get? g) (G : Globs S mg mb) (F : FnAt S a 31 pm cd doc .none) (r : Room A (d + 1))
    (hr : RowsV g rv rows) (hne : ∀ row ∈ rows, row ≠ []) (hn : rows.length ≤ 100) (hn2 : ∀ row ∈ rows, row.length ≤ 100)
    (h : ∀ v g' s', After g s g' s' → StrsV g' v (toldE (endsL rows)) → Q v s') : wpAny (model prog w) A (call (.ref a) [rv]) Q E s := by
  obtain ⟨lr, vr, kr, rfl, er, hvr⟩ := hr
  refine call_c (m0 := upd (fun _ => none) (Str.ofString "rows") (.ref lr)) (cm0 := fun _ => none) (cs0 := fun L => [(Str.ofString "text", L + 1 + 1), (Str.ofString "row", L + 1)]) hg hTg G.st rfl F r
    (binds := [(Str.ofString "rows", .ref lr)]) (by rfl) (by rfl) (by decide +kernel) (fun _ => rfl) (fun _ => rfl) (fun _ => rfl) (by rfl) (by rfl) (by rfl) ?_
  intro B L s₁ O A1 r I
  have ST := G.st
  have hu : A1.units + 40 < cLine := by have := r.units; unfold cLine; lia
  have hcs : (([(Str.ofString "text", L + 1 + 1), (Str.ofString "row", L + 1)] : List (Str × Addr)).map (·.1)).Nodup := by show List.Nodup [Str.ofString "text", Str.ofString "row"]; decide +kernel
  refine r_assign (by rfl) (r_list (r_items0 (t_mu I (Nat.le_of_ble_eq_true rfl) (by rfl) ?_)))
  intro De s2 I oDe
  refine r_storeLocal I (by rfl) (by rfl) ?_
  intro s3 I
  refine r_forJ B [(Str.ofString "text", L + 1 + 1), (Str.ofString "row", L + 1)] rows.length (fun i v _ => vr[i]? = some v)
    (fun i g' mu m cm => E2 fun es ke => C7 (mu = [(De, lo es ke)]) (Le g g') (m (Str.ofString "rows") = some (.ref lr)) (m (Str.ofString "ends") = some (.ref De)) (All₂ (StrsV g') es ((rows.take i).foldl (endStep rows) [])) (∀ x ∈ (rows.take i).foldl (endStep rows) [], x ∈ rows) (es.length ≤ i))
    (fun g' mu m cm => E2 fun es ke => C6 (mu = [(De, lo es ke)]) (Le g g') (m (Str.ofString "ends") = some (.ref De)) (All₂ (StrsV g') es (endsL rows)) (∀ x ∈ endsL rows, x ∈ rows) (es.length ≤ rows.length)) ?_ ?_ ?_ ?_
  · refine r_local I (by rfl) (by rfl) (by rfl) (by decide) ?_
    refine it_list I r.handled er ?_
    intro it s4 X
    exact ⟨_, _, _, _, hvr.length ▸ X _, [], 0, rfl, Le.refl _, by rfl, by rfl, .nil, fun x hx => (nomatch hx), Nat.le_refl _⟩
  · rintro B' g1 mu m cm s4 i v K hK pin hi hP ⟨es, ke, rfl, le, m1, m2, hes, hsub, hlen⟩ I
    obtain ⟨row, hrow, hv⟩ := hvr.get' hP
    have hrm := List.mem_of_getElem? hrow
    have hT : B'.T = S.get? := pin.T.trans O.T
    have htk : (rows.take (i + 1)).foldl (endStep rows) [] = endStep rows ((rows.take i).foldl (endStep rows) []) row := by
      rw [List.take_add_one, hrow, List.foldl_append]; rfl
    refine a_name (r_storeC I hcs (by rfl) (by rfl) (by rfl) (.tail _ (.head _)) ?_)
    intro s5 I
    obtain ⟨hd, tl', rfl⟩ : ∃ hd tl', row = hd :: tl' := by
      cases row with
      | nil => exact absurd rfl (hne _ hrm)
      | cons a r => exact ⟨a, r, rfl⟩
    obtain ⟨la, wa, ka, rfl, ea, hwa⟩ := hv
    -- below
    refine r_assignComp (cl := [(Str.ofString "row", L + 1)]) (by rfl) (by rfl) (by rfl) (by rfl) (by rfl) (by rfl) ?_
    refine r_local I (by rfl) (by rfl) m1 (by decide) ?_
    refine it_list I r.handled (le _ _ er) ?_
    intro it s6 X
    refine ⟨B', _, _, _, [(De, lo es ke)], CompOK.pure rows (isBelow (hd :: tl')) id (fun g v c => StrsV g v c) (fun _ _ _ _ a b => b.up a) (by lia) (hvr.length ▸ X _) ?_ ?_⟩
    · intro B2 C g2 mC s7 j v2 o inn le2 hP2 ho I
      obtain ⟨lo', wo, ko, rfl, eo, hwo⟩ := (hvr.at hP2 ho).up (le.trans le2)
      have hom := List.mem_of_getElem? ho
      have hol := hn2 o hom
      refine a_name (r_storeLocal I (by rfl) (by rfl) ?_)
      intro s8 I
      refine tests1 (r_cmpT (by rfl) (Subscript_ ?_))
      refine r_cell (by rfl) (by rfl) (by rfl) (inn.rd I (.tail _ (.head _)) (by rfl)) (by decide) ?_
      refine r_int I ?_
      intro t1 s9 I
      obtain ⟨vh, hvh, th, rfl⟩ := hwa.get (i := 0) (b := hd) rfl
      refine t_list (k := 0) (I.sub _ _ (le2 _ _ (le _ _ ea))) hvh (by decide) ?_
      refine Subscript_ (r_local I (by rfl) (by rfl) (by rfl) (by decide) (slice_sn (r_int I ?_)))
      intro t2 s10 I
      refine t_listSlice I (I.sub _ _ eo) (by rw [hwo.length]; lia) (.int _ _) .none .none (by intro q; cases q) ?_
      intro D g3 s11 I l3 e3
      have e4 : (slicePick wo.toArray (some (1 : Int)) none none).toList = wo.drop 1 := by
        have := slicePick_from' wo.toArray 1
        rw [show ((1 : Nat) : Int) = 1 from rfl] at this
        rw [this]
      rw [e4] at e3
      refine c_inStrs (I.sub _ _ e3) (hwo.drop 1) (wpAny_truthy_bool ⟨rfl, ite_of (fun hb => ?_) fun hb => ⟨_, _, I⟩⟩)
      exact r_local I (by rfl) (by rfl) (by rfl) (by decide) ⟨_, _, I, lo', wo, ko, rfl, l3 _ _ eo, hwo⟩
    intro Db g2 bs kb s7 le2 I oDb hbs
    rw [List.map_id] at hbs
    have hbl : bs.length ≤ 100 := by
      rw [hbs.length]
      exact Nat.le_trans (List.length_filter_le _ _) hn
    have hbe : (bs = []) ↔ (rows.filter (isBelow (hd :: tl')) = []) := by
      have := hbs.length
      constructor
      · intro q; rw [q] at this; exact List.eq_nil_of_length_eq_zero this.symm
      · intro q; rw [q] at this; exact List.eq_nil_of_length_eq_zero this
    have hes2 := hes.mono (R' := StrsV g2) fun _ _ q => q.up le2
    have hrow2 : StrsV g2 (.ref la) (hd :: tl') := ⟨la, wa, ka, rfl, le2 _ _ (le _ _ ea), hwa⟩
    refine r_ifp (wpAny_isTrue_BoolOp (wpAny_allTrue_And_cons (isTrue_not ?_)))
    refine r_test (r_local I (by rfl) (by rfl) (by rfl) (by decide) (tr_list I (I.muH _ (.head _)).1 (by lia) ?_)) (by rfl)
    intro s8 I
    by_cases hb0 : bs = []
    · have e0 : decide (bs ≠ []) = false := decide_eq_false fun q => q hb0
      rw [e0]
      show if true = true then _ else _
      rw [if_pos rfl]
      refine wpAny_allTrue_And_cons (r_cmpT (by rfl) ?_)
      refine r_cell (by rfl) (by rfl) (by rfl) (I.rd (.tail _ (.head _)) (by rfl)) (by decide) ?_
      refine r_local I (by rfl) (by rfl) (by exact m2) (by decide) ?_
      refine c_notInRows I.sub (by lia) (I.muH _ (.tail _ (.head _))).1 hes2 hrow2 (wpAny_truthy_bool (ite_of (fun hb => ?_) fun hb => ?_))
      · have hnot : (hd :: tl') ∉ (rows.take i).foldl (endStep rows) [] := by simpa using hb
        refine wpAny_allTrue_And_nil ?_
        rw [if_pos rfl]
        refine r_append (by rfl) (by rfl) (by rfl) (by rfl) ?_
        refine r_local I (by rfl) (by rfl) (by exact m2) (by decide) ⟨_, _, _, rfl, (I.muH _ (.tail _ (.head _))).1, ?_⟩
        refine r_cell (by rfl) (by rfl) (by rfl) (I.rd (.tail _ (.head _)) (by rfl)) (by decide) ?_
        have I := I.weaken (mu' := [(De, lo es ke)]) (fun p hp => .tail _ hp) (by simp)
        refine t_append I (by lia) ?_
        intro s9 n' I
        have hst : endStep rows ((rows.take i).foldl (endStep rows) []) (hd :: tl') = (rows.take i).foldl (endStep rows) [] ++ [hd :: tl'] := if_pos ⟨hbe.mp hb0, hnot⟩
        refine r_nil (r_nil (hK _ _ ⟨g2, _, _, _, I, _, n', rfl, le.trans le2, by exact m1, by exact m2, ?_, ?_, by rw [List.length_append, List.length_singleton]; lia⟩))
        · rw [htk, hst]; exact hes2.append (.cons hrow2 .nil)
        · rw [htk]; exact endStep_sub hsub hrm
      · rw [if_neg (by decide)]
        have hin : (hd :: tl') ∈ (rows.take i).foldl (endStep rows) [] := by simpa using hb
        have hst : endStep rows ((rows.take i).foldl (endStep rows) []) (hd :: tl') = (rows.take i).foldl (endStep rows) [] := if_neg fun q => q.2 hin
        have I := I.weaken (mu' := [(De, lo es ke)]) (fun p hp => .tail _ hp) (by simp)
        refine r_nil (r_nil (hK _ _ ⟨g2, _, _, _, I, _, ke, rfl, le.trans le2, by exact m1, by exact m2, ?_, ?_, by lia⟩))
        · rw [htk, hst]; exact hes2
        · rw [htk]; exact endStep_sub hsub hrm
    · have e0 : decide (bs ≠ []) = true := decide_eq_true hb0
      rw [e0]
      show if false = true then _ else _
      rw [if_neg (by decide), if_neg (by decide)]
      have hst : endStep rows ((rows.take i).foldl (endStep rows) []) (hd :: tl') = (rows.take i).foldl (endStep rows) [] := if_neg fun q => hb0 (hbe.mpr q.1)
      have I := I.weaken (mu' := [(De, lo es ke)]) (fun p hp => .tail _ hp) (by simp)
      refine r_nil (r_nil (hK _ _ ⟨g2, _, _, _, I, _, ke, rfl, le.trans le2, by exact m1, by exact m2, ?_, ?_, by lia⟩))
      · rw [htk, hst]; exact hes2
      · rw [htk]; exact endStep_sub hsub hrm
  · rintro g1 mu m cm ⟨es, ke, rfl, le, m1, m2, hes, hsub, hlen⟩
    rw [List.take_length] at hes hsub
    exact ⟨es, ke, rfl, le, m2, hes, hsub, hlen⟩
  rintro g1 mu m cm s4 I ⟨es, ke, rfl, le, m2, hes, hsub, hlen⟩
  have lfe : Le g1 (put g1 De (lo es ke)) := le_put (I.muH _ (.head _)).2.1
  have J := I.freeze oDe
  clear I
  have eDe := put_self g1 De (lo es ke)
  have hes' := hes.mono (R' := StrsV (put g1 De (lo es ke))) fun _ _ q => q.up lfe
  generalize put g1 De (lo es ke) = g2 at J eDe hes'
  have I := J
  have hen : es.length = (endsL rows).length := hes'.length
  generalize endsL rows = ends at hes' hsub hen h
  refine r_assign (by rfl) (r_list (r_items0 (t_mu I (Nat.le_of_ble_eq_true rfl) (by rfl) ?_)))
  intro Dt s5 I oDt
  refine r_storeLocal I (by rfl) (by rfl) ?_
  intro s6 I
  refine r_for B [(Str.ofString "text", L + 1 + 1), (Str.ofString "row", L + 1)] es.length (fun i v _ => ∃ t, v = .int ((0 + i : Nat) : Int) t)
    (fun k g' mu m cm => E3 fun ts kt xs => C7 (mu = [(Dt, lo ts kt)]) (Le g2 g') (m (Str.ofString "ends") = some (.ref De)) (m (Str.ofString "told") = some (.ref Dt)) (All₂ StrV ts xs) (xs ++ toldE (ends.drop k) = toldE ends) (ts.length ≤ 100 * k)) ?_ ?_ ?_
  · refine r_callT I ST O.T (by rfl) (by rfl) (by rfl) (by rfl) (G.no "range" (.tail _ (.tail _ (.tail _ (.head _))))) (by rfl) (by decide) (by decide) (by rfl) (by rfl) (by rfl) ?_
    refine r_items (by rfl) ?_
    refine r_callB I ST O.T (by rfl) (by rfl) (by rfl) (by rfl) (G.no "len" (.tail _ (.tail _ (.head _)))) (by rfl) (by decide) (by decide) (by rfl) (by rfl) (by rfl) ?_
    refine r_items (by rfl) (r_local I (by rfl) (by rfl) (by exact m2) (by decide) (r_items0 ?_))
    refine b_len I (I.sub _ _ eDe) (by lia) ?_
    intro t1 s7 I
    refine r_items0 (b_range1 I r.handled (by lia) ?_)
    intro v s8 hv
    refine hv _ _ _ fun it s9 X => ⟨_, _, _, _, X, [], 0, [], rfl, Le.refl _, by exact m2, by rfl, .nil, by simp, Nat.zero_le _⟩
  · rintro B' g3 mu m cm s7 i v K hK pin hi ⟨ti, rfl⟩ ⟨ts, kt, xs, rfl, le3, m3, m4, hts, hxs, htl⟩ I
    have hT : B'.T = S.get? := pin.T.trans O.T
    have hi' : i < ends.length := by lia
    obtain ⟨row, hrow⟩ : ∃ row, ends[i]? = some row := ⟨ends[i], List.getElem?_eq_getElem hi'⟩
    obtain ⟨vr2, hvr2, hrv⟩ := hes'.get hrow
    obtain ⟨la, wa, ka, rfl, ea, hwa⟩ := hrv
    have hrl : row.length ≤ 100 := hn2 row (hsub row (List.mem_of_getElem? hrow))
    have hdrop : ends.drop i = row :: ends.drop (i + 1) := by
      have := List.drop_eq_getElem_cons hi'
      rw [this]
      have e : ends[i]? = some ends[i] := List.getElem?_eq_getElem hi'
      rw [hrow] at e
      rw [← Option.some.inj e]
    refine a_name (r_storeLocal I (by rfl) (by rfl) ?_)
    intro s8 I
    refine r_forJ B' [(Str.ofString "text", L + 1 + 1), (Str.ofString "row", L + 1)] row.length (fun j v _ => wa[j]? = some v)
      (fun j g' mu m cm => E2 fun ts kt => C7 (mu = [(Dt, lo ts kt)]) (Le g3 g') (m (Str.ofString "ends") = some (.ref De)) (m (Str.ofString "told") = some (.ref Dt)) (m (Str.ofString "k") = some (.int ((0 + i : Nat) : Int) ti)) (All₂ StrV ts (xs ++ row.take j)) (∀ y ∈ row.take j, (!inLater (ends.drop (i + 1)) y) = true))
      (fun g' mu m cm => E2 fun ts kt => C5 (mu = [(Dt, lo ts kt)]) (Le g3 g') (m (Str.ofString "ends") = some (.ref De)) (m (Str.ofString "told") = some (.ref Dt)) (All₂ StrV ts (xs ++ row.takeWhile fun y => !inLater (ends.drop (i + 1)) y))) ?_ ?_ ?_ ?_
    · refine Subscript_ (r_local I (by rfl) (by rfl) (by exact m3) (by decide) (r_local I (by rfl) (by rfl) (by rfl) (by decide) ?_))
      refine t_list (k := 0 + i) (I.sub _ _ (le3 _ _ eDe)) (by rw [Nat.zero_add]; exact hvr2) (by lia) ?_
      refine it_list I r.handled (le3 _ _ ea) ?_
      intro it s9 X
      exact ⟨_, _, _, _, hwa.length ▸ X _, ts, kt, rfl, Le.refl _, by exact m3, by exact m4, by rfl, by simpa using hts, by simp⟩
    · rintro B2 g4 mu m cm s9 j v K2 hK2 pin2 hj hP ⟨ts2, kt2, rfl, le4, m5, m6, m7, hts2, hall⟩ I
      obtain ⟨y, hy, ty, rfl⟩ := hwa.get' hP
      have hT2 : B2.T = S.get? := pin2.T.trans hT
      refine a_name (r_storeC I hcs (by rfl) (by rfl) (by rfl) (.head _) ?_)
      intro s10 I
      refine r_ifp (r_test ?_ (by rfl))
      refine r_callB I ST hT2 (by rfl) (by rfl) (by rfl) (by rfl) (G.no "any" (.tail _ (.tail _ (.tail _ (.tail _ (.tail _ (.tail _ (.tail _ (.tail _ (.tail _ (.tail _ (.tail _ (.tail _ (.tail _ (.tail _ (.tail _ (.tail _ (.tail _ (.head _))))))))))))))))))) (by rfl) (by decide) (by decide) (by rfl) (by rfl) (by rfl) ?_
      refine r_items (by rfl) ?_
      refine r_comp (cl := [(Str.ofString "text", L + 1 + 1)]) (by rfl) (by rfl) (by rfl) ?_
      refine Subscript_ (r_local I (by rfl) (by rfl) (by exact m5) (by decide) (slice_sn (r_bin (r_local I (by rfl) (by rfl) (by exact m7) (by decide) (r_int I ?_)))))
      intro t1 s11 I
      refine o_add I ?_
      intro t2 s12 I
      refine t_listSlice I (I.sub _ _ (le4 _ _ (le3 _ _ eDe))) (by lia) (.int _ _) .none .none (by intro q; cases q) ?_
      intro D g5 s13 I l5 e5
      have e6 : (slicePick es.toArray (some (((0 + i : Nat) : Int) + 1)) none none).toList = es.drop (i + 1) := by
        have := slicePick_from' es.toArray (i + 1)
        rw [show (((0 + i : Nat) : Int) + 1) = ((i + 1 : Nat) : Int) by lia, this]
      rw [e6] at e5
      have hrest := (hes'.drop (i + 1)).mono (R' := StrsV g5) fun _ _ q => q.up (le3.trans (le4.trans l5))
      refine it_list I r.handled e5 ?_
      intro it s14 X
      refine ⟨B2, L, _, _, _, [(Dt, lo ts2 kt2)], CompOK.map (ends.drop (i + 1)) (fun l => decide (y ∈ l)) (fun _ v b => BoolV v b) (fun _ _ _ _ _ b => b) (by rw [List.length_drop]; lia) (hrest.length ▸ X _) ?_ ?_⟩
      · intro B3 C g6 mC s15 q v2 l inn le6 hP2 hl2 I
        obtain ⟨ll, wl, kl, rfl, el, hwl⟩ := hrest.at hP2 hl2
        refine a_name (r_storeLocal I (by rfl) (by rfl) ?_)
        intro s16 I
        refine r_cmp (by rfl) ?_
        refine r_cell (by rfl) (by rfl) (by rfl) (inn.rd I (.head _) (by rfl)) (by decide) ?_
        refine r_local I (by rfl) (by rfl) (by rfl) (by decide) ?_
        exact c_inStrs (I.sub _ _ (le6 _ _ el)) hwl ⟨_, _, I, rfl⟩
      intro Db g6 bs kb s15 le6 I oDb hbs
      refine r_items0 (b_any I r.handled (I.muH _ (.head _)).1 hbs ?_)
      intro s16 I
      have hany : ((ends.drop (i + 1)).map fun l => decide (y ∈ l)).any id = inLater (ends.drop (i + 1)) y := by unfold inLater; rw [List.any_map]; rfl
      rw [hany]
      have I := I.weaken (mu' := [(Dt, lo ts2 kt2)]) (fun p hp => .tail _ hp) (by simp)
      refine wpAny_truthy_bool (ite_of (fun hb => ?_) fun hb => ?_)
      · refine wpAny_execs_cons (wpAny_Break (hK2 _ _ ⟨_, _, _, _, I, ts2, kt2, rfl, le4.trans (l5.trans le6), by exact m5, by exact m6, ?_⟩))
        rw [takeWhile_at _ row j y hall hy (by rw [hb]; rfl)]
        exact hts2
      · refine r_nil (r_append (by rfl) (by rfl) (by rfl) (by rfl) ?_)
        refine r_local I (by rfl) (by rfl) (by exact m6) (by decide) ⟨_, _, _, rfl, (I.muH _ (.head _)).1, ?_⟩
        refine r_cell (by rfl) (by rfl) (by rfl) (I.rd (.head _) (by rfl)) (by decide) ?_
        have hl2 := hts2.length
        rw [List.length_append, List.length_take] at hl2
        have hl1 := hts.length
        refine t_append I (by lia) ?_
        intro s17 n' I
        refine r_nil (hK2 _ _ ⟨_, _, _, _, I, _, n', rfl, le4.trans (l5.trans le6), by exact m5, by exact m6, by exact m7, ?_, ?_⟩)
        · rw [List.take_add_one, hy, ← List.append_assoc]
          exact hts2.append (.cons ⟨_, rfl⟩ .nil)
        · rw [List.take_add_one, hy]
          intro z hz
          rcases List.mem_append.mp hz with q | q
          · exact hall z q
          · simp at q; subst q; rw [hb]; rfl
    · rintro g4 mu m cm ⟨ts2, kt2, rfl, le4, m5, m6, m7, hts2, hall⟩
      rw [List.take_length] at hts2 hall
      exact ⟨ts2, kt2, rfl, le4, m5, m6, by rw [takeWhile_all _ row hall]; exact hts2⟩
    · rintro g4 mu m cm s9 I ⟨ts2, kt2, rfl, le4, m5, m6, hts2⟩
      have hl2 := hts2.length
      have hl1 := hts.length
      have htwl : (row.takeWhile fun y => !inLater (ends.drop (i + 1)) y).length ≤ row.length := (List.takeWhile_sublist _).length_le
      rw [List.length_append] at hl2
      refine r_nil (hK _ _ ⟨_, _, _, _, I, ts2, kt2, _, rfl, le3.trans le4, m5, m6, hts2, ?_, by lia⟩)
      rw [← hxs, hdrop]
      show _ = xs ++ (row.takeWhile (fun t => !inLater (ends.drop (i + 1)) t) ++ toldE (ends.drop (i + 1)))
      rw [List.append_assoc]
  · rintro g3 mu m cm s7 I ⟨ts, kt, xs, rfl, le3, m3, m4, hts, hxs, htl⟩
    refine r_nil (r_return (r_local I (by rfl) (by rfl) m4 (by decide) ?_))
    have K := I.freeze oDt
    refine h _ _ _ (O.fin K) ⟨Dt, ts, kt, rfl, put_self .., ?_⟩
    have e0 : ends.drop es.length = [] := by rw [hen]; simp
    rw [e0] at hxs
    simp only [toldE, List.append_nil] at hxs
    rw [← hxs]; exact hts
end
end Mine
set_option Elab.async false
set_option maxRecDepth 100000
set_option linter.unusedVariables false
namespace Mine
open PySem PySem.W PyProof.Rows PySem.Calls SeqAt

/-! ## Objects that a call turns -/
structure AfterM (own : List Addr) (g : Vw) (s : Shared) (g' : Vw) (s' : Shared) : Prop where
  same : ∃ h tk, s' = { s with heap := h, toks := tk }
  keep : ∀ b o, b ∉ own → s.heap.get? b = some o → s'.heap.get? b = some o
  live : ∀ b, s.heap.get? b ≠ none → s'.heap.get? b ≠ none
  le : Le g g'
  sub : Sub g' s'.heap
  new : ∀ b, s.heap.get? b ≠ none → g b = none → g' b = none
noncomputable def setL (mu : List (Addr × Obj)) (a : Addr) (o : Obj) : List (Addr × Obj) := mu.map fun p => if p.1 = a then (a, o) else p
theorem setL_fst (mu : List (Addr × Obj)) (a : Addr) (o : Obj) : (setL mu a o).map (·.1) = mu.map (·.1) := by
  unfold setL
  rw [List.map_map]
  apply List.map_congr_left
  intro p _
  show (if p.1 = a then (a, o) else p).1 = p.1
  split
  · rename_i h; exact h.symm
  · rfl
theorem mem_setL {mu : List (Addr × Obj)} {a : Addr} {o : Obj} {p : Addr × Obj} (hp : p ∈ setL mu a o) : (p.1 ≠ a ∧ p ∈ mu) ∨ (p = (a, o) ∧ ∃ o', (a, o') ∈ mu) := by
  unfold setL at hp
  obtain ⟨q, hq, e⟩ := List.mem_map.mp hp
  by_cases h : q.1 = a
  · rw [if_pos h] at e
    exact .inr ⟨e.symm, q.2, by rw [← h]; exact hq⟩
  · rw [if_neg h] at e
    subst e
    exact .inl ⟨h, hq⟩
theorem setL_ne {mu : List (Addr × Obj)} {a : Addr} {o : Obj} {p : Addr × Obj} (h : p.1 ≠ a) (hp : p ∈ mu) : p ∈ setL mu a o :=
  List.mem_map.mpr ⟨p, hp, if_neg h⟩
theorem setL_self {mu : List (Addr × Obj)} {a : Addr} {o o' : Obj} (hp : (a, o') ∈ mu) : (a, o) ∈ setL mu a o :=
  List.mem_map.mpr ⟨(a, o'), hp, if_pos rfl⟩

section
variable {B : Base} {g g' : Vw} {mu mu0 : List (Addr × Obj)} {L : Addr} {m : Str → Option Value} {cs : List (Str × Addr)} {cm : Str → Option Value} {s s' : Shared}
theorem IF.turnIn {a : Addr} {o o' : Obj} (I : IF B g mu L m cs cm s) (ha : (a, o) ∈ mu) {h' : Heap} {t : Nat} (ho : h'.get? a = some o') (hs : Heap.SameBut a s.heap h') : IF B g (setL mu a o') L m cs cm { s with heap := h', toks := t } := by
  obtain ⟨h0, h1, h2, h3, h4⟩ := I.muH _ ha
  have J := (show IF B g [(a, o)] L m cs cm s from I.weaken (fun p hp => by rw [List.mem_singleton.mp hp]; exact ha) (by simp)).turn (t := t) ho hs
  refine { J with muH := fun p hp => ?_, nd := by rw [setL_fst]; exact I.nd }
  rcases mem_setL hp with ⟨hne, hp⟩ | ⟨rfl, _⟩
  · have q := I.muH p hp
    exact ⟨(hs.2 _ hne).trans q.1, q.2⟩
  · exact J.muH _ (.head _)
theorem IF.afterM {mu0' : List (Addr × Obj)} (I : IF B g (mu0 ++ mu) L m cs cm s) (a : AfterM (mu0.map (·.1)) g s g' s') (hm : mu0'.map (·.1) = mu0.map (·.1)) (ho : ∀ p ∈ mu0', s'.heap.get? p.1 = some p.2) : IF B g' (mu0' ++ mu) L m cs cm s' := by
  have nd := I.nd
  rw [List.map_append, List.nodup_append] at nd
  have out : ∀ b, (∀ p ∈ mu0, p.1 ≠ b) → b ∉ mu0.map (·.1) := fun b hb h => by
    obtain ⟨p, hp, e⟩ := List.mem_map.mp h
    exact hb p hp e
  have M := fun p hp => I.muH p (List.mem_append_left mu hp)
  have LL : s.heap.get? L ≠ none := by obtain ⟨_, _, _, e, _⟩ := I.ns; exact alive e
  refine ⟨?_, I.stat.trans a.le, I.ge.trans a.le, fun b hb => ⟨a.new b (I.off b hb).2 (I.off b hb).1, a.live b (I.off b hb).2⟩, fun b o e => a.keep b o (out b fun p hp q => ?_) (I.keep b o e), a.sub, ?_, a.new L LL I.Lg, I.Lk, fun n c hc => ?_,
    fun n c hc => ⟨a.new c (by obtain ⟨_, e, _⟩ := I.cell n c hc; exact alive e) (I.cg n c hc).1, (I.cg n c hc).2⟩, I.cap, fun p hp => ?_, ?_⟩
  · obtain ⟨h1, t1, e1⟩ := I.same
    obtain ⟨h2, t2, e2⟩ := a.same
    exact ⟨h2, t2, by rw [e2, e1]⟩
  · have := (M p hp).2.2.1
    rw [q, e] at this; cases this
  · exact I.ns.at' fun o e => a.keep L o (out L fun p hp q => (M p hp).2.2.2.1 q) e
  · obtain ⟨o, e, hd⟩ := I.cell n c hc
    exact ⟨o, a.keep c o (out c fun p hp q => (M p hp).2.2.2.2 (n, c) hc q.symm) e, hd⟩
  · rcases List.mem_append.mp hp with hp | hp
    · have : p.1 ∈ mu0.map (·.1) := by rw [← hm]; exact List.mem_map.mpr ⟨p, hp, rfl⟩
      obtain ⟨q, hq, e⟩ := List.mem_map.mp this
      have z := M q hq
      rw [e] at z
      exact ⟨ho p hp, a.new _ (alive z.1) z.2.1, z.2.2⟩
    · have z := I.muH p (List.mem_append_right _ hp)
      refine ⟨a.keep _ _ (out _ fun q hq e => ?_) z.1, a.new _ (alive z.1) z.2.1, z.2.2⟩
      exact nd.2.2 q.1 (List.mem_map.mpr ⟨q, hq, rfl⟩) p.1 (List.mem_map.mpr ⟨p, hp, rfl⟩) e
  · have := I.nd
    rw [List.map_append] at this ⊢
    rw [hm]; exact this
end

section
variable {prog : Program} {w : World} {A : Around} {E : Value → Shared → Prop} {s : Shared} {g : Vw} {S : Heap} {mg mb : Str → Option Value}
structure OpensM (T : Vw) (own : List Addr) (g : Vw) (s : Shared) (B : Base) : Prop where
  T : B.T = T
  fin : ∀ {g' mu L m cs cm s'}, IF B g' mu L m cs cm s' → (∀ a ∈ own, s'.heap.get? a ≠ none) → AfterM own g s g' s'
  old : ∀ b, s.heap.get? b = none → ¬ B.off b
  off : ∀ b, s.heap.get? b ≠ none → g b = none → B.off b
/-- a call that turns objects of the caller's -/
theorem call_m {a : Addr} {i : Nat} {pm cd doc dV : Value} {vals : List Value} {binds : List (Str × Value)} {m0 : Str → Option Value} {Q : Value → Shared → Prop} {T : Vw} {d : Nat} {mu0 : List (Addr × Obj)}
    (hg : Sub g s.heap) (hTg : Le T g) (ST : Stat S mg mb) (hT : T = S.get?) (F : FnAt S a i pm cd doc dV) (r : Room A (d + 1))
    (hmu : ∀ p ∈ mu0, s.heap.get? p.1 = some p.2 ∧ g p.1 = none) (hnd : (mu0.map (·.1)).Nodup)
    (hbind : bindArgs (fdOf i pm cd doc dV) ⟨vals, []⟩ = pure binds)
    (hkind : (binds.all fun y => (fScope (stmtAt i)).names.lookup y.1 == some .local || (fScope (stmtAt i)).names.lookup y.1 == some .cell) = true)
    (hm : ∀ L, bindL (callEnvC (fdOf i pm cd doc dV) L a).kindOf binds (fun _ => none) = m0) (hcs : ∀ L, cellsFrom (L + 1) (fScope (stmtAt i)).names [] = [])
    (hco : (fScope (stmtAt i)).isCoroutine = false) (hgen : (fScope (stmtAt i)).isGenerator = false) (hk : (fScope (stmtAt i)).kind = .function)
    (h : ∀ B L s₁, OpensM T (mu0.map (·.1)) g s B → ∀ A', Room A' d → IF B g mu0 L m0 [] (fun _ => none) s₁ →
      wpAny (model prog w) A' (execs (fBody (stmtAt i)) (callEnvC (fdOf i pm cd doc dV) L a)) (fun f s' => Q (match f with | .ret v => v | _ => .none) s') (fun _ _ => False) s₁) :
    wpAny (model prog w) A (call (.ref a) vals) Q E s := by
  refine wpAny_call ?_
  obtain ⟨o, ho, hd⟩ := F.obj
  have up : ∀ b o, S.get? b = some o → s.heap.get? b = some o := fun b o e => hg b o (hTg b o (by rw [hT]; exact e))
  have hcd : s.heap.CodeRec cd (fName (stmtAt i)) := by
    obtain ⟨c, o, vs, t, e1, e2, e3, e4⟩ := F.code
    exact ⟨c, o, vs, t, e1, up _ _ e2, e3, e4⟩
  refine codeAny_call_cells (fd := fdOf i pm cd doc dV) (body := fBody (stmtAt i)) r.lim (up _ _ ho) hd (ST.lim.keeps up) hcd rfl hbind rfl (PySem.W.kindsX hkind _) (fun s₁ x => ?_) hco hgen hk
  have hin := x.toInCall
  have hL : g s.heap.objs.size = none := none_of_size hg (Nat.le_refl _)
  have hlive : ∀ p ∈ mu0, p.1 ≠ s.heap.objs.size := fun p hp e => by
    have := (hmu p hp).1
    rw [e, get_none_of_size (Nat.le_refl _)] at this; cases this
  have lk : ∀ b, b ∈ mu0.map (·.1) → ∃ p ∈ mu0, p.1 = b := fun b hb => by obtain ⟨p, hp, e⟩ := List.mem_map.mp hb; exact ⟨p, hp, e⟩
  have I : IF ⟨T, s, g, fun b => if b ∈ mu0.map (·.1) then none else s.heap.get? b, fun b => s.heap.get? b ≠ none ∧ g b = none⟩ g mu0 s.heap.objs.size (bindL (callEnvC (fdOf i pm cd doc dV) s.heap.objs.size a).kindOf binds fun _ => none) [] (fun _ => none) s₁ := by
    refine ⟨hin.same, hTg, Le.refl g, fun b hb => ⟨hb.2, alive_keep hin.keep hb.1⟩, fun b o e => ?_, fun b o e => hin.keep b o (hg b o e), hin.ns, hL, ?_, fun _ _ h => (nomatch h), fun _ _ h => (nomatch h), .nil, fun p hp => ⟨hin.keep _ _ (hmu p hp).1, (hmu p hp).2, ?_, hlive p hp, fun _ h => (nomatch h)⟩, hnd⟩
    · dsimp only at e
      by_cases q : b ∈ mu0.map (·.1)
      · rw [if_pos q] at e; cases e
      · rw [if_neg q] at e; exact hin.keep b o e
    · dsimp only
      rw [get_none_of_size (Nat.le_refl _)]; simp
    · dsimp only
      rw [if_pos (List.mem_map.mpr ⟨p, hp, rfl⟩)]
  rw [hm] at I
  have HO : OpensM T (mu0.map (·.1)) g s ⟨T, s, g, fun b => if b ∈ mu0.map (·.1) then none else s.heap.get? b, fun b => s.heap.get? b ≠ none ∧ g b = none⟩ := by
    refine ⟨rfl, fun {g' mu L m cs cm s'} K hl => ⟨K.same, fun b o hb e => K.keep b o ?_, fun b hb => ?_, K.ge, K.sub, fun b hb e => (K.off b ⟨hb, e⟩).1⟩, fun b hb q => q.1 hb, fun b h1 h2 => ⟨h1, h2⟩⟩
    · dsimp only; rw [if_neg hb]; exact e
    · by_cases q : b ∈ mu0.map (·.1)
      · exact hl b q
      · cases e : s.heap.get? b with
        | none => exact absurd e hb
        | some o => exact alive (K.keep b o (by dsimp only; rw [if_neg q]; exact e))
  exact wpAny_mono (h _ _ s₁ HO _ r.deeper I) (fun f s' q => q) (fun _ _ q => q.elim)
end

section
variable {prog : Program} {w : World} {A : Around} {E : Value → Shared → Prop} {s : Shared} {env : Env}
variable {B : Base} {g : Vw} {mu : List (Addr × Obj)} {L : Addr} {m : Str → Option Value} {cs : List (Str × Addr)} {cm : Str → Option Value}
/-- del seq[0] -/
theorem r_del0 {o i : Expr} {p pos : Pos} {rest : List Stmt} {Q : Flow → Shared → Prop}
    (h : wpAny (model prog w) A (eval o env) (fun ov s₁ => wpAny (model prog w) A (eval i env) (fun iv s₂ => wpAny (model prog w) A (delItem ov iv) (fun _ s₃ => wpAny (model prog w) A (execs rest env) Q E s₃) E s₂) E s₁) E s) :
    wpAny (model prog w) A (execs (.Delete [.Subscript o i p] pos :: rest) env) Q E s := by
  refine wpAny_execs_cons (wpAny_Delete (wpAny_deleteEach_cons ?_))
  show wpAny _ _ (do let ov ← eval o env; let iv ← holding [ov] (eval i env); standAt p; holding [ov, iv] (delItem ov iv); release [ov, iv] []) _ _ _
  refine wpAny_bind (wpAny_mono h (fun ov s₁ h₁ => wpAny_bind (wpAny_holding (wpAny_mono h₁ (fun iv s₂ h₂ => wpAny_bind (wpAny_standAt (wpAny_bind (wpAny_holding (wpAny_mono h₂ (fun _ s₃ h₃ => ?_) fun _ _ q => q))))) fun _ _ q => q))) fun _ _ q => q)
  exact wpAny_release (wpAny_deleteEach_nil h₃)
theorem t_del0 {D : Addr} {v : Value} {vs : List Value} {n : Nat} {u : Tok} {Q : Unit → Shared → Prop} (I : IF B g mu L m cs cm s) (hD : (D, lo (v :: vs) n) ∈ mu) (hn : vs.length ≤ 10000) (h : ∀ s', IF B g (setL mu D (lo vs (n + 1))) L m cs cm s' → Q () s') :
    wpAny (model prog w) A (delItem (.ref D) (.int 0 u)) Q E s := by
  refine delItem_at (i := 0) (k := 0) (I.muH _ hD).1 (by decide) (by rw [List.size_toArray]; exact StrLaws.seqIndex_nonneg (i := 0) (by decide) (by rw [List.length_cons]; lia)) (fun h' hs ho => h _ (I.turnIn (t := s.toks) hD ?_ hs)) (by rw [List.size_toArray, sizeLine_eq, List.length_cons]; lia)
  rw [ho]; rfl
end
end Mine
set_option Elab.async false
set_option maxRecDepth 100000
set_option linter.unusedVariables false
namespace Mine
open PySem PySem.W PyProof.Rows PySem.Calls SeqAt
/-! ## _c3_merge -/
noncomputable def okC (rs : List (List Str)) : List Str → Option Str
  | h :: _ => if rs.any (fun s2 => decide (h ∈ s2.drop 1)) = true then none else some h
  | [] => none
noncomputable def drop1 (c : Str) : List Str → List Str
  | h :: t => if h = c then t else h :: t
  | [] => []
noncomputable def full (r : List Str) : Bool := decide (r ≠ [])
noncomputable def c3 : Nat → List (List Str) → Option (List Str)
  | 0, _ => none
  | n + 1, rows => if rows.filter full = [] then some [] else match (rows.filter full).findSome? (okC (rows.filter full)) with
    | none => none
    | some c => (c3 n ((rows.filter full).map (drop1 c))).map (c :: ·)
noncomputable def HasRows (mu : List (Addr × Obj)) (as : List Addr) (cont : Addr → List Str) : Prop := ∀ a ∈ as, ∃ vs n, (a, lo vs n) ∈ mu ∧ All₂ StrV vs (cont a)
noncomputable def RefV (v : Value) (a : Addr) : Prop := v = .ref a
theorem refs_eq {vs : List Value} {as : List Addr} (x : All₂ RefV vs as) : vs = as.map .ref := by
  induction x with
  | nil => rfl
  | cons h _ ih => rw [List.map_cons, ← ih]; rw [show _ = _ from h]
theorem drop1_len (c : Str) (r : List Str) : (drop1 c r).length ≤ r.length := by
  cases r with
  | nil => exact Nat.le_refl _
  | cons h t =>
    show (if h = c then t else h :: t).length ≤ (h :: t).length
    split <;> simp

theorem findSome_at {α β : Type} (f : α → Option β) : ∀ (l : List α) (i : Nat) (x : α) (y : β), (∀ (j : Nat) (a : α), j < i → l[j]? = some a → f a = none) → l[i]? = some x → f x = some y → l.findSome? f = some y
  | [], i, x, y, _, h, _ => by simp at h
  | a :: r, 0, x, y, _, h, hf => by simp at h; subst h; simp [List.findSome?, hf]
  | a :: r, i + 1, x, y, hb, h, hf => by
    have h0 := hb 0 a (Nat.succ_pos _) rfl
    simp only [List.findSome?, h0]
    exact findSome_at f r i x y (fun j b hj hb' => hb (j + 1) b (Nat.succ_lt_succ hj) (by simpa using hb')) (by simpa using h) hf
theorem findSome_none {α β : Type} (f : α → Option β) (l : List α) (h : ∀ (j : Nat) (a : α), l[j]? = some a → f a = none) : l.findSome? f = none := by
  rw [List.findSome?_eq_none_iff]
  intro x hx
  obtain ⟨i, hi, rfl⟩ := List.getElem_of_mem hx
  exact h i _ (List.getElem?_eq_getElem hi)

section
variable {prog : Program} {w : World} {A : Around} {E : Value → Shared → Prop} {s : Shared} {g : Vw} {S : Heap} {mg mb : Str → Option Value}
theorem IF.cm0 {B : Base} {g : Vw} {mu : List (Addr × Obj)} {L : Addr} {m cm : Str → Option Value} {s : Shared} (I : IF B g mu L m [] cm s) (cm' : Str → Option Value) : IF B g mu L m [] cm' s :=
  { I with cell := fun _ _ h => nomatch h }
set_option maxHeartbeats 2000000 in
theorem merge_call {a l : Addr} {pm cd doc : Value} {k n : Nat} {as : List Addr} {mu0 : List (Addr × Obj)} {cont : Addr → List Str} {out : List Str} {d : Nat} {Q : Value → Shared → Prop} (hg : Sub g s.heap) (hTg : Le S.get? g) (G : Globs S mg mb) (F : FnAt S a 5 pm cd doc .none) (r : Room A (d + 1))
    (hl : g l = some (lo (as.map .ref) k)) (hmu : ∀ p ∈ mu0, s.heap.get? p.1 = some p.2 ∧ g p.1 = none) (hfst : mu0.map (·.1) = as) (hnd : as.Nodup) (hrows : HasRows mu0 as cont)
    (hc : c3 n (as.map cont) = some out) (hn : n ≤ 10000) (hlen : as.length ≤ 1000) (hcl : ∀ a ∈ as, (cont a).length ≤ 1000)
    (h : ∀ v g' s' (mu' : List (Addr × Obj)), AfterM as g s g' s' → mu'.map (·.1) = as → (∀ p ∈ mu', s'.heap.get? p.1 = some p.2 ∧ ∃ n, p.2 = lo [] n) → StrsV g' v out → Q v s') : wpAny (model prog w) A (call (.ref a) [.ref l]) Q E s := by
  refine call_m (mu0 := mu0) (m0 := upd (fun _ => none) (Str.ofString "sequences") (.ref l)) hg hTg G.st rfl F r hmu (hfst ▸ hnd)
    (binds := [(Str.ofString "sequences", .ref l)]) (by rfl) (by rfl) (fun _ => rfl) (fun _ => rfl) (by rfl) (by rfl) (by rfl) ?_
  intro B L s₁ O A1 r I
  have ST := G.st
  have hu : A1.units + 40 < cLine := by have := r.units; unfold cLine; lia
  refine r_assign (by rfl) (r_list (r_items0 (t_mu I (Nat.le_of_ble_eq_true rfl) (by rfl) ?_)))
  intro Dr s2 I oDr
  refine r_storeLocal I (by rfl) (by rfl) ?_
  intro s3 I
  refine r_while (fun n s => E11 fun g1 m mur rs kr cont bs lb kb done rest => C13 (IF B g1 ((Dr, lo rs kr) :: mur) L m [] (fun _ => none) s) (m (Str.ofString "result") = some (.ref Dr)) (m (Str.ofString "sequences") = some (.ref lb)) (g1 lb = some (lo (bs.map .ref) kb)) (mur.map (·.1) = as) (HasRows mur as cont) (bs.Sublist as) (∀ a ∈ as, a ∉ bs → cont a = []) (All₂ StrV rs done) (c3 n (bs.map cont) = some rest) (done ++ rest = out) (done.length + n ≤ 10000) (∀ a ∈ as, (cont a).length ≤ 1000)) n
    ⟨g, _, mu0, [], 0, cont, as, l, k, [], out, I, by rfl, by rfl, hl, hfst, hrows, List.Sublist.refl _, fun a h1 h2 => absurd h1 h2, .nil, hc, rfl, by simpa using hn, hcl⟩ ?_
  clear I hc hcl hrows hmu
  rintro n s K Ke hK hKe ⟨g1, m, mur, rs, kr, cont, bs, lb, kb, done, rest, I, m1, m2, eb, hfm, hrows, hsub, hdead, hrs, hc, hout, hdn, hcl⟩
  have hbn : bs.Nodup := hsub.nodup hnd
  refine r_test (wpAny_Constant_bool (wpAny_truthy_bool ?_)) (by rfl)
  rw [if_pos rfl]
  -- sequences = [s for s in sequences if s]
  refine r_assignComp (cl := []) (by rfl) (by rfl) (by rfl) (by rfl) (by rfl) (by rfl) ?_
  refine r_local I (by rfl) (by rfl) m2 (by decide) ?_
  refine it_list I r.handled eb ?_
  intro it s4 X
  have hbl : bs.length ≤ 1000 := Nat.le_trans hsub.length_le hlen
  refine ⟨B, _, _, _, (Dr, lo rs kr) :: mur, CompOK.pure bs (fun a => full (cont a)) id (fun _ v a => RefV v a) (fun _ _ _ _ _ b => b) (by lia) (by have := X (Expr.Name (Str.ofString "s") ⟨46, 27, 46, 28⟩); rw [List.length_map] at this; exact this) ?_ ?_⟩
  · intro B' C g' mC s5 j v b inn le hP hb I
    have hv : v = .ref b := by
      rw [List.getElem?_map, hb] at hP
      exact (Option.some.inj hP).symm
    subst hv
    have hbm := hsub.subset (List.mem_of_getElem? hb)
    obtain ⟨vs, nn, hm, hvs⟩ := hrows b hbm
    refine a_name (r_storeLocal I (by rfl) (by rfl) ?_)
    intro s6 I
    refine tests1 (r_test (r_local I (by rfl) (by rfl) (by rfl) (by decide) ?_) (by rfl))
    refine tr_list I (I.keep _ _ (inn.mu _ (.tail _ hm))) (by rw [hvs.length]; have := hcl b hbm; lia) ?_
    intro s7 I
    have e : decide (vs ≠ []) = full (cont b) := by
      unfold full
      apply decide_eq_decide.mpr
      constructor
      · intro q e; apply q; have := hvs.length; rw [e] at this; exact List.eq_nil_of_length_eq_zero this
      · intro q e; apply q; have := hvs.length; rw [e] at this; exact List.eq_nil_of_length_eq_zero this.symm
    rw [e]
    refine ⟨rfl, ite_of (fun q => ?_) fun q => ⟨_, _, I⟩⟩
    exact r_local I (by rfl) (by rfl) (by rfl) (by decide) ⟨_, _, I, rfl⟩
  intro D2 g2 ys k2 s5 l2 I oD2 hys
  rw [List.map_id] at hys
  have hys' := refs_eq hys
  have lf2 : Le g2 (put g2 D2 (lo ys k2)) := le_put (I.muH _ (.head _)).2.1
  have J := I.freeze oD2
  clear I
  have eD2 := put_self g2 D2 (lo ys k2)
  generalize put g2 D2 (lo ys k2) = g3 at J eD2 lf2
  have I := J
  have hfil : (bs.map cont).filter full = (bs.filter fun a => full (cont a)).map cont := by rw [List.filter_map]; rfl
  have hsub2 : (bs.filter fun a => full (cont a)).Sublist bs := List.filter_sublist
  have hfull : ∀ a ∈ bs.filter (fun a => full (cont a)), full (cont a) = true := fun a ha => (List.mem_filter.mp ha).2
  have hdead2 : ∀ a ∈ as, a ∉ bs.filter (fun a => full (cont a)) → cont a = [] := fun a ha hn => by
    by_cases q : a ∈ bs
    · have : ¬ full (cont a) = true := fun z => hn (List.mem_filter.mpr ⟨q, z⟩)
      simpa [full] using this
    · exact hdead a ha q
  cases n with
  | zero => cases hc
  | succ n =>
  simp only [c3, hfil] at hc
  generalize bs.filter (fun a => full (cont a)) = cs at hys hys' hfil hsub2 hfull hdead2 hc
  have hcsas : cs.Sublist as := hsub2.trans hsub
  have hcn : cs.Nodup := hsub2.nodup hbn
  have hcsl : cs.length ≤ 1000 := Nat.le_trans hsub2.length_le hbl
  -- if not sequences
  refine r_ifp (isTrue_not (r_test (r_local I (by rfl) (by rfl) (by rfl) (by decide) (tr_list I (I.sub _ _ eD2) (by rw [hys.length]; lia) ?_)) (by rfl)))
  intro s6 I
  by_cases hcs0 : cs = []
  · subst hcs0
    have e0 : ys = [] := by rw [hys']; rfl
    have e1 : decide (ys ≠ []) = false := decide_eq_false fun q => q e0
    rw [e1]
    show if true = true then _ else _
    rw [if_pos rfl]
    simp only [List.map_nil, if_true] at hc
    have hre : rest = [] := (Option.some.inj hc).symm
    subst hre
    rw [List.append_nil] at hout
    subst hout
    refine r_return (r_local I (by rfl) (by rfl) (by exact m1) (by decide) ?_)
    have J := I.freeze oDr
    have AF := O.fin J fun b hb => by
      rw [hfst, ← hfm] at hb
      obtain ⟨p, hp, rfl⟩ := List.mem_map.mp hb
      exact alive (J.muH p hp).1
    rw [hfst] at AF
    refine hK _ _ (h _ _ _ mur AF hfm (fun p hp => ⟨(J.muH p hp).1, ?_⟩) ⟨Dr, rs, kr, rfl, put_self .., hrs⟩)
    have hpa : p.1 ∈ as := by rw [← hfm]; exact List.mem_map.mpr ⟨p, hp, rfl⟩
    obtain ⟨vs, nn, hm, hvs⟩ := hrows p.1 hpa
    rw [hdead2 p.1 hpa (by simp)] at hvs
    have hv0 : vs = [] := List.eq_nil_of_length_eq_zero hvs.length
    subst hv0
    have e1 := (J.muH _ hm).1
    have e2 := (J.muH p hp).1
    rw [e1] at e2
    exact ⟨nn, (Option.some.inj e2).symm⟩
  have e1 : decide (ys ≠ []) = true := decide_eq_true fun q => hcs0 (by rw [hys'] at q; simpa using q)
  rw [e1]
  show if false = true then _ else _
  rw [if_neg (by decide)]
  rw [if_neg (by simpa using hcs0)] at hc
  obtain ⟨c, hcand, rest', hrest', hre⟩ : ∃ c, (cs.map cont).findSome? (okC (cs.map cont)) = some c ∧ ∃ rest', c3 n ((cs.map cont).map (drop1 c)) = some rest' ∧ rest = c :: rest' := by
    cases e : (cs.map cont).findSome? (okC (cs.map cont)) with
    | none => rw [e] at hc; cases hc
    | some c =>
      rw [e] at hc
      change (c3 n ((cs.map cont).map (drop1 c))).map (c :: ·) = some rest at hc
      cases e2 : c3 n ((cs.map cont).map (drop1 c)) with
      | none => rw [e2] at hc; cases hc
      | some rest' =>
        rw [e2] at hc
        exact ⟨c, rfl, rest', e2, (Option.some.inj hc).symm⟩
  refine r_nil ?_
  have hnon : ∀ b ∈ cs, ∃ hd tl', cont b = hd :: tl' := fun b hb => by
    have := hfull b hb
    cases e : cont b with
    | nil => rw [e] at this; cases this
    | cons x r => exact ⟨x, r, rfl⟩
  have hyi : ∀ {i : Nat} {v : Value}, ys[i]? = some v → ∃ b, cs[i]? = some b ∧ v = .ref b := fun {i v} q => by
    rw [hys', List.getElem?_map] at q
    cases e : cs[i]? with
    | none => rw [e] at q; cases q
    | some b => rw [e] at q; exact ⟨b, rfl, (Option.some.inj q).symm⟩
  have hyl := hys.length
  -- the candidate
  refine r_forJ B [] ys.length (fun i v _ => ys[i]? = some v)
    (fun i g' mu m cm => C5 (mu = (Dr, lo rs kr) :: mur) (Le g3 g') (m (Str.ofString "sequences") = some (.ref D2)) (m (Str.ofString "result") = some (.ref Dr)) (∀ (j : Nat) (b : Addr), j < i → cs[j]? = some b → okC (cs.map cont) (cont b) = none))
    (fun g' mu m cm => C5 (mu = (Dr, lo rs kr) :: mur) (Le g3 g') (m (Str.ofString "sequences") = some (.ref D2)) (m (Str.ofString "result") = some (.ref Dr)) (∃ t, m (Str.ofString "candidate") = some (.str c t))) ?_ ?_ ?_ ?_
  · refine r_local I (by rfl) (by rfl) (by rfl) (by decide) ?_
    refine it_list I r.handled eD2 ?_
    intro it s7 X
    exact ⟨_, _, _, _, X _, rfl, Le.refl _, by rfl, by exact m1, fun j b hj => absurd hj (Nat.not_lt_zero _)⟩
  · rintro B' g4 mu m' cm s7 i v K1 hK1 pin hi hP ⟨rfl, le4, m3, m4, hbef⟩ I
    obtain ⟨b, hb, rfl⟩ := hyi hP
    have hbc := List.mem_of_getElem? hb
    obtain ⟨hd, tl', hcb⟩ := hnon b hbc
    obtain ⟨vb, nb, hmb, hvb⟩ := hrows b (hcsas.subset hbc)
    rw [hcb] at hvb
    obtain ⟨vh, hvh, th, rfl⟩ := hvb.get (i := 0) (b := hd) rfl
    refine a_name (r_storeLocal I (by rfl) (by rfl) ?_)
    intro s8 I
    refine r_assign (by rfl) (Subscript_ (r_local I (by rfl) (by rfl) (by rfl) (by decide) (r_int I ?_)))
    intro t1 s9 I
    refine t_list (k := 0) (I.muH _ (.tail _ hmb)).1 hvh (by decide) ?_
    refine r_storeLocal I (by rfl) (by rfl) ?_
    intro s10 I
    refine r_for B' [] ys.length (fun i v _ => ys[i]? = some v)
      (fun i g' mu m cm => C6 (mu = (Dr, lo rs kr) :: mur) (Le g3 g') (m (Str.ofString "sequences") = some (.ref D2)) (m (Str.ofString "result") = some (.ref Dr)) (m (Str.ofString "candidate") = some (.str hd th)) (∀ (j : Nat) (b : Addr), j < i → cs[j]? = some b → decide (hd ∈ (cont b).drop 1) = false)) ?_ ?_ ?_
    · refine r_local I (by rfl) (by rfl) (by exact m3) (by decide) ?_
      refine it_list I r.handled (le4 _ _ eD2) ?_
      intro it s11 X
      exact ⟨_, _, _, _, X _, rfl, le4, by exact m3, by exact m4, by rfl, fun j b hj => absurd hj (Nat.not_lt_zero _)⟩
    · rintro B2 g5 mu m'' cm s11 j v K2 hK2 pin2 hj hP2 ⟨rfl, le5, m5, m6, m7, hbef2⟩ I
      obtain ⟨b2, hb2, rfl⟩ := hyi hP2
      have hbc2 := List.mem_of_getElem? hb2
      obtain ⟨vb2, nb2, hmb2, hvb2⟩ := hrows b2 (hcsas.subset hbc2)
      have hbl2 := hcl b2 (hcsas.subset hbc2)
      refine a_name (r_storeLocal I (by rfl) (by rfl) ?_)
      intro s12 I
      refine r_ifp (r_cmpT (by rfl) ?_)
      refine r_local I (by rfl) (by rfl) (by exact m7) (by decide) ?_
      refine Subscript_ (r_local I (by rfl) (by rfl) (by rfl) (by decide) (slice_sn (r_int I ?_)))
      intro t2 s13 I
      refine t_listSlice I (I.muH _ (.tail _ hmb2)).1 (by rw [hvb2.length]; lia) (.int _ _) .none .none (by intro q; cases q) ?_
      intro D g6 s14 I l6 e6
      have e7 : (slicePick vb2.toArray (some (1 : Int)) none none).toList = vb2.drop 1 := by
        have := slicePick_from' vb2.toArray 1
        rw [show ((1 : Nat) : Int) = 1 from rfl] at this
        rw [this]
      rw [e7] at e6
      refine c_inStrs (I.sub _ _ e6) (hvb2.drop 1) (wpAny_truthy_bool (ite_of (fun hq => ?_) fun hq => ?_))
      · refine r_assign (by rfl) (wpAny_Constant_none ?_)
        refine r_storeLocal I (by rfl) (by rfl) ?_
        intro s15 I
        refine wpAny_execs_cons (wpAny_Break (hK2 _ _ (r_nil (hK1 _ _ ⟨_, _, _, _, pin2.un I, rfl, le5.trans l6, by exact m5, by exact m6, fun j' b' hj' hb' => ?_⟩))))
        by_cases q : j' = i
        · subst q
          rw [hb] at hb'; cases hb'
          rw [hcb]
          show (if _ then none else some hd) = none
          rw [if_pos]
          rw [List.any_eq_true]
          exact ⟨cont b2, List.mem_map.mpr ⟨b2, hbc2, rfl⟩, hq⟩
        · exact hbef j' b' (by lia) hb'
      · refine r_nil (r_nil (hK2 _ _ ⟨_, _, _, _, I, rfl, le5.trans l6, by exact m5, by exact m6, by exact m7, fun j' b' hj' hb' => ?_⟩))
        by_cases q : j' = j
        · subst q
          rw [hb2] at hb'; cases hb'
          exact hq
        · exact hbef2 j' b' (by lia) hb'
    · rintro g5 mu m'' cm s11 I ⟨rfl, le5, m5, m6, m7, hbef2⟩
      have hok : okC (cs.map cont) (cont b) = some hd := by
        rw [hcb]
        show (if _ then none else some hd) = some hd
        rw [if_neg]
        intro q
        rw [List.any_eq_true] at q
        obtain ⟨x, hx, hq⟩ := q
        obtain ⟨b', hb', rfl⟩ := List.mem_map.mp hx
        obtain ⟨j', hj', rfl⟩ := List.getElem_of_mem hb'
        have := hbef2 j' _ (by lia) (List.getElem?_eq_getElem hj')
        rw [this] at hq; cases hq
      have hfs : (cs.map cont).findSome? (okC (cs.map cont)) = some hd := by
        refine findSome_at _ _ i (cont b) hd (fun j x hj hx => ?_) (by rw [List.getElem?_map, hb]; rfl) hok
        rw [List.getElem?_map] at hx
        cases e : cs[j]? with
        | none => rw [e] at hx; cases hx
        | some b' => rw [e] at hx; cases hx; exact hbef j b' hj e
      have hdc : hd = c := by rw [hfs] at hcand; exact Option.some.inj hcand
      exact wpAny_execs_cons (wpAny_Break (hK1 _ _ ⟨_, _, _, _, I, rfl, le5, m5, m6, th, by rw [← hdc]; exact m7⟩))
  · rintro g4 mu m' cm ⟨rfl, le4, m3, m4, hbef⟩
    have : (cs.map cont).findSome? (okC (cs.map cont)) = none := findSome_none _ _ fun j x hx => by
      rw [List.getElem?_map] at hx
      cases e : cs[j]? with
      | none => rw [e] at hx; cases hx
      | some b' =>
        rw [e] at hx; cases hx
        refine hbef j b' ?_ e
        have := (List.getElem?_eq_some_iff.mp e).1
        lia
    rw [this] at hcand; cases hcand
  rintro g4 mu m' cm s7 I ⟨rfl, le4, m3, m4, tc, m5⟩
  -- if candidate is None
  refine r_ifp (r_cmpT (by rfl) ?_)
  refine r_local I (by rfl) (by rfl) m5 (by decide) (wpAny_Constant_none (is_none (wpAny_truthy_bool ?_)))
  rw [if_neg (by simp)]
  refine r_nil (r_append (by rfl) (by rfl) (by rfl) (by rfl) ?_)
  refine r_local I (by rfl) (by rfl) m4 (by decide) ⟨_, _, _, rfl, (I.muH _ (.head _)).1, ?_⟩
  refine r_local I (by rfl) (by rfl) m5 (by decide) ?_
  refine t_append I (by have := hrs.length; lia) ?_
  intro s8 kr2 I
  -- the heads go
  refine r_for B [] ys.length (fun i v _ => ys[i]? = some v)
    (fun i g' mu m cm => E2 fun mur2 cont2 => C8 (mu = (Dr, lo (rs ++ [.str c tc]) kr2) :: mur2) (Le g4 g') (m (Str.ofString "sequences") = some (.ref D2)) (m (Str.ofString "result") = some (.ref Dr)) (m (Str.ofString "candidate") = some (.str c tc)) (mur2.map (·.1) = as) (HasRows mur2 as cont2) (∀ b ∈ as, cont2 b = if b ∈ cs.take i then drop1 c (cont b) else cont b)) ?_ ?_ ?_
  · refine r_local I (by rfl) (by rfl) m3 (by decide) ?_
    refine it_list I r.handled (le4 _ _ eD2) ?_
    intro it s9 X
    exact ⟨_, _, _, _, X _, mur, cont, rfl, Le.refl _, m3, m4, m5, hfm, hrows, fun b _ => by simp⟩
  · rintro B' g5 mu m' cm s9 i v K1 hK1 pin hi hP ⟨mur2, cont2, rfl, le5, m6, m7, m8, hfm2, hrows2, hc2⟩ I
    obtain ⟨b, hb, rfl⟩ := hyi hP
    have hbc := List.mem_of_getElem? hb
    have hba := hcsas.subset hbc
    have hnt : b ∉ cs.take i := by
      intro q
      have hcn' : (cs.take i ++ cs.drop i).Nodup := by rw [List.take_append_drop]; exact hcn
      obtain ⟨hil, e2⟩ := List.getElem?_eq_some_iff.mp hb
      rw [List.drop_eq_getElem_cons hil, e2] at hcn'
      exact (List.nodup_append.mp hcn').2.2 b q b (List.mem_cons_self ..) rfl
    have hcb2 : cont2 b = cont b := by rw [hc2 b hba, if_neg hnt]
    obtain ⟨hd, tl', hcb⟩ := hnon b hbc
    obtain ⟨vb, nb, hmb, hvb⟩ := hrows2 b hba
    rw [hcb2, hcb] at hvb
    obtain ⟨vh, hvh, th, rfl⟩ := hvb.get (i := 0) (b := hd) rfl
    have htk : cs.take (i + 1) = cs.take i ++ [b] := by rw [List.take_add_one, hb]; rfl
    refine a_name (r_storeLocal I (by rfl) (by rfl) ?_)
    intro s10 I
    refine r_ifp (r_cmpT (by rfl) (Subscript_ (r_local I (by rfl) (by rfl) (by rfl) (by decide) (r_int I ?_))))
    intro t1 s11 I
    refine t_list (k := 0) (I.muH _ (.tail _ hmb)).1 hvh (by decide) ?_
    refine r_local I (by rfl) (by rfl) (by exact m8) (by decide) ?_
    refine c_eqStr (wpAny_truthy_bool (ite_of (fun hq => ?_) fun hq => ?_))
    · have hdc := of_decide_eq_true hq
      refine r_del0 (r_local I (by rfl) (by rfl) (by rfl) (by decide) (r_int I ?_))
      intro t2 s12 I
      obtain ⟨vb', rfl⟩ : ∃ vb', vb = .str hd th :: vb' := by
        cases vb with
        | nil => cases hvh
        | cons x r => cases hvh; exact ⟨r, rfl⟩
      have hvb' : All₂ StrV vb' tl' := by cases hvb; assumption
      have hbl := hcl b hba
      rw [hcb, List.length_cons] at hbl
      refine t_del0 I (.tail _ hmb) (by rw [hvb'.length]; lia) ?_
      intro s13 I
      have hDr : Dr ≠ b := fun e => by
        have := I.nd
        rw [setL_fst, List.map_cons, List.nodup_cons] at this
        exact this.1 (by show Dr ∈ mur2.map (·.1); rw [hfm2, e]; exact hba)
      have hset : setL ((Dr, lo (rs ++ [.str c tc]) kr2) :: mur2) b (lo vb' (nb + 1)) = (Dr, lo (rs ++ [.str c tc]) kr2) :: setL mur2 b (lo vb' (nb + 1)) := by
        show (if Dr = b then _ else _) :: _ = _
        rw [if_neg hDr]; rfl
      rw [hset] at I
      refine r_nil (r_nil (hK1 _ _ ⟨_, _, _, _, I, setL mur2 b (lo vb' (nb + 1)), fun x => if x = b then tl' else cont2 x, rfl, le5, by exact m6, by exact m7, by exact m8, by rw [setL_fst]; exact hfm2, fun x hx => ?_, fun x hx => ?_⟩))
      · by_cases q : x = b
        · subst q
          exact ⟨vb', nb + 1, setL_self hmb, by dsimp only; rw [if_pos rfl]; exact hvb'⟩
        · obtain ⟨vx, nx, hmx, hvx⟩ := hrows2 x hx
          exact ⟨vx, nx, setL_ne q hmx, by dsimp only; rw [if_neg q]; exact hvx⟩
      · dsimp only
        rw [htk]
        by_cases q : x = b
        · subst q
          rw [if_pos rfl, if_pos (by simp), hcb]
          show tl' = if hd = c then tl' else hd :: tl'
          rw [if_pos hdc]
        · rw [if_neg q, hc2 x hx]
          have : (x ∈ cs.take i ++ [b]) ↔ x ∈ cs.take i := by simp [q]
          by_cases z : x ∈ cs.take i
          · rw [if_pos z, if_pos (this.mpr z)]
          · rw [if_neg z, if_neg (fun y => z (this.mp y))]
    · have hdc := of_decide_eq_false hq
      refine r_nil (r_nil (hK1 _ _ ⟨_, _, _, _, I, mur2, cont2, rfl, le5, by exact m6, by exact m7, by exact m8, hfm2, hrows2, fun x hx => ?_⟩))
      rw [htk]
      by_cases q : x = b
      · subst q
        rw [hcb2, if_pos (by simp), hcb]
        show hd :: tl' = if hd = c then tl' else hd :: tl'
        rw [if_neg hdc]
      · rw [hc2 x hx]
        have : (x ∈ cs.take i ++ [b]) ↔ x ∈ cs.take i := by simp [q]
        by_cases z : x ∈ cs.take i
        · rw [if_pos z, if_pos (this.mpr z)]
        · rw [if_neg z, if_neg (fun y => z (this.mp y))]
  · rintro g5 mu m' cm s9 I ⟨mur2, cont2, rfl, le5, m6, m7, m8, hfm2, hrows2, hc2⟩
    rw [hyl, List.take_length] at hc2
    refine r_nil (r_nil (hK _ _ ⟨n, Nat.lt_succ_self _, g5, _, mur2, _, kr2, cont2, cs, D2, k2, done ++ [c], rest', I.cm0 _, m7, m6, ?_, hfm2, hrows2, hcsas, fun b hb hn => ?_, hrs.append (.cons ⟨tc, rfl⟩ .nil), ?_, ?_, ?_, fun b hb => ?_⟩))
    · rw [← hys']; exact le5 _ _ (le4 _ _ eD2)
    · rw [hc2 b hb, if_neg hn]; exact hdead2 b hb hn
    · rw [← hrest', List.map_map]
      congr 1
      apply List.map_congr_left
      intro b hb
      rw [hc2 b (hcsas.subset hb), if_pos hb]; rfl
    · rw [← hout, hre, List.append_assoc]; rfl
    · rw [List.length_append, List.length_singleton]; lia
    · rw [hc2 b hb]
      split
      · exact Nat.le_trans (drop1_len c _) (hcl b hb)
      · exact hcl b hb
end
end Mine
set_option Elab.async false
set_option maxRecDepth 100000
set_option linter.unusedVariables false
namespace Mine
open PySem PySem.W PyProof.Rows PySem.Calls SeqAt

section
variable {prog : Program} {w : World} {A : Around} {E : Value → Shared → Prop} {s : Shared} {g : Vw} {S : Heap} {mg mb : Str → Option Value}
/-- a call of a def with cells that turns objects of the caller's -/
theorem call_cm {a : Addr} {i : Nat} {pm cd doc dV : Value} {vals : List Value} {binds : List (Str × Value)} {m0 cm0 : Str → Option Value} {cs0 : Addr → List (Str × Addr)} {Q : Value → Shared → Prop} {T : Vw} {d : Nat} {mu0 : List (Addr × Obj)}
    (hg : Sub g s.heap) (hTg : Le T g) (ST : Stat S mg mb) (hT : T = S.get?) (F : FnAt S a i pm cd doc dV) (r : Room A (d + 1))
    (hmu : ∀ p ∈ mu0, s.heap.get? p.1 = some p.2 ∧ g p.1 = none) (hnd : (mu0.map (·.1)).Nodup)
    (hbind : bindArgs (fdOf i pm cd doc dV) ⟨vals, []⟩ = pure binds)
    (hkind : (binds.all fun y => (fScope (stmtAt i)).names.lookup y.1 == some .local || (fScope (stmtAt i)).names.lookup y.1 == some .cell) = true)
    (hnc : ((cellsFrom 0 (fScope (stmtAt i)).names []).map (·.1)).Nodup)
    (hm : ∀ L, bindL (callEnvC (fdOf i pm cd doc dV) L a).kindOf binds (fun _ => none) = m0) (hcm : ∀ L, bindC (callEnvC (fdOf i pm cd doc dV) L a).kindOf binds (fun _ => none) = cm0) (hcs : ∀ L, cellsFrom (L + 1) (fScope (stmtAt i)).names [] = cs0 L)
    (hco : (fScope (stmtAt i)).isCoroutine = false) (hgen : (fScope (stmtAt i)).isGenerator = false) (hk : (fScope (stmtAt i)).kind = .function)
    (h : ∀ B L s₁, OpensM T (mu0.map (·.1)) g s B → (∀ q ∈ cs0 L, s.heap.get? q.2 = none) → ∀ A', Room A' d → IF B g mu0 L m0 (cs0 L) cm0 s₁ →
      wpAny (model prog w) A' (execs (fBody (stmtAt i)) (callEnvC (fdOf i pm cd doc dV) L a)) (fun f s' => Q (match f with | .ret v => v | _ => .none) s') (fun _ _ => False) s₁) :
    wpAny (model prog w) A (call (.ref a) vals) Q E s := by
  refine wpAny_call ?_
  obtain ⟨o, ho, hd⟩ := F.obj
  have up : ∀ b o, S.get? b = some o → s.heap.get? b = some o := fun b o e => hg b o (hTg b o (by rw [hT]; exact e))
  have hcd : s.heap.CodeRec cd (fName (stmtAt i)) := by
    obtain ⟨c, o, vs, t, e1, e2, e3, e4⟩ := F.code
    exact ⟨c, o, vs, t, e1, up _ _ e2, e3, e4⟩
  refine codeAny_call_cells (fd := fdOf i pm cd doc dV) (body := fBody (stmtAt i)) r.lim (up _ _ ho) hd (ST.lim.keeps up) hcd rfl hbind rfl (PySem.W.kindsX hkind _) (fun s₁ x => ?_) hco hgen hk
  have hin := x.toInCall
  have hab := x.above
  have hL : g s.heap.objs.size = none := none_of_size hg (Nat.le_refl _)
  have hlt : ∀ p ∈ mu0, p.1 < s.heap.objs.size := fun p hp => Heap.lt_size (hmu p hp).1
  have hlive : ∀ p ∈ mu0, p.1 ≠ s.heap.objs.size := fun p hp => Nat.ne_of_lt (hlt p hp)
  have mem : ∀ n c, (n, c) ∈ cellsFrom (s.heap.objs.size + 1) (fScope (stmtAt i)).names [] → (cellsFrom (s.heap.objs.size + 1) (fScope (stmtAt i)).names []).lookup n = some c := by
    intro n c hm
    refine lookup_of_mem ?_ hm
    rw [cellsFrom_names (fScope (stmtAt i)).names (s.heap.objs.size + 1) 0 [] [] rfl]
    exact hnc
  have kNone : ∀ b, s.heap.objs.size ≤ b → (if b ∈ mu0.map (·.1) then none else s.heap.get? b) = none := fun b hb => by
    rw [get_none_of_size hb]; simp
  have I : IF ⟨T, s, g, fun b => if b ∈ mu0.map (·.1) then none else s.heap.get? b, fun b => s.heap.get? b ≠ none ∧ g b = none⟩ g mu0 s.heap.objs.size (bindL (callEnvC (fdOf i pm cd doc dV) s.heap.objs.size a).kindOf binds fun _ => none)
      (cellsFrom (s.heap.objs.size + 1) (fScope (stmtAt i)).names []) (bindC (callEnvC (fdOf i pm cd doc dV) s.heap.objs.size a).kindOf binds fun _ => none) s₁ := by
    refine ⟨hin.same, hTg, Le.refl g, fun b hb => ⟨hb.2, alive_keep hin.keep hb.1⟩, fun b o e => ?_, fun b o e => hin.keep b o (hg b o e), hin.ns, hL, kNone _ (Nat.le_refl _), fun n c hc => x.cell n c (mem n c hc), fun n c hc => ?_, x.apart,
      fun p hp => ⟨hin.keep _ _ (hmu p hp).1, (hmu p hp).2, ?_, hlive p hp, fun q hq => ?_⟩, hnd⟩
    · dsimp only at e
      by_cases q : b ∈ mu0.map (·.1)
      · rw [if_pos q] at e; cases e
      · rw [if_neg q] at e; exact hin.keep b o e
    · have := hab n c hc
      have hle : s.heap.objs.size ≤ c := Nat.le_of_lt this
      exact ⟨none_of_size hg hle, kNone _ hle, Nat.ne_of_gt this⟩
    · dsimp only
      rw [if_pos (List.mem_map.mpr ⟨p, hp, rfl⟩)]
    · have h1 := hab q.1 q.2 hq
      have h2 := hlt p hp
      exact Nat.ne_of_gt (Nat.lt_trans h2 h1)
  rw [hm, hcm, hcs] at I
  have HO : OpensM T (mu0.map (·.1)) g s ⟨T, s, g, fun b => if b ∈ mu0.map (·.1) then none else s.heap.get? b, fun b => s.heap.get? b ≠ none ∧ g b = none⟩ := by
    refine ⟨rfl, fun {g' mu L m cs cm s'} K hl => ⟨K.same, fun b o hb e => K.keep b o ?_, fun b hb => ?_, K.ge, K.sub, fun b hb e => (K.off b ⟨hb, e⟩).1⟩, fun b hb q => q.1 hb, fun b h1 h2 => ⟨h1, h2⟩⟩
    · dsimp only; rw [if_neg hb]; exact e
    · by_cases q : b ∈ mu0.map (·.1)
      · exact hl b q
      · cases e : s.heap.get? b with
        | none => exact absurd e hb
        | some o => exact alive (K.keep b o (by dsimp only; rw [if_neg q]; exact e))
  have hfr : ∀ q ∈ cs0 s.heap.objs.size, s.heap.get? q.2 = none := fun q hq => get_none_of_size (Nat.le_of_lt (hab q.1 q.2 (by show q ∈ cellsFrom (s.heap.objs.size + 1) (fScope (stmtAt i)).names []; rw [hcs]; exact hq)))
  exact wpAny_mono (h _ _ s₁ HO hfr _ r.deeper I) (fun f s' q => q) (fun _ _ q => q.elim)
end

/-! ### a dict of texts that the frame owns -/
section
variable {prog : Program} {w : World} {A : Around} {E : Value → Shared → Prop} {s : Shared} {env : Env}
variable {B : Base} {g : Vw} {mu : List (Addr × Obj)} {L : Addr} {m : Str → Option Value} {cs : List (Str × Addr)} {cm : Str → Option Value}

theorem r_emptyDict {S : Heap} {mg mb : Str → Option Value} {pos : Pos} {Q : Value → Shared → Prop} (I : IF B g mu L m cs cm s) (ST : Stat S mg mb) (hT : B.T = S.get?) (h : ∀ D o s', IF B g ((D, o) :: mu) L m cs cm s' → ¬ B.off D → (D == sysModules) = false → o.IsDictOf (strKind prog w) [] → Q (.ref D) s') :
    wpAny (model prog w) A (eval (.Dict [] [] pos) env) Q E s := by
  refine wpAny_Dict_empty ?_
  have J := I.gain (own := [(s.heap.objs.size, { cls := .type "dict", data := .dict #[] })]) (h' := s.heap.push { cls := .type "dict", data := .dict #[] }) (t := s.toks) (by simp) (fun p hp => by
    rw [List.mem_singleton.mp hp]; exact ⟨Nat.le_refl _, Heap.get?_push_size _ rfl⟩) (fun b o e => Heap.get?_push_of_some _ e)
  refine h _ _ _ J (I.fresh (Nat.le_refl _)) ?_ ?_
  · obtain ⟨o, es, ep, e, _⟩ := ST.g
    have := Heap.lt_size (I.st hT _ _ e)
    have h3 : mainGlobals = 3 := rfl
    have h1 : sysModules = 1 := rfl
    rw [h3] at this
    rw [beq_eq_false_iff_ne]
    intro e
    rw [e, h1] at this
    exact absurd this (by decide)
  · exact ⟨#[], _, ⟨rfl, rfl, rfl⟩, rfl, fun e he => by simp at he, .nil, List.nodup_nil⟩
theorem t_setMap {D : Addr} {o : Obj} {kvs : List (Str × Value)} {x : Str} {t : Tok} {v : Value} {Q : Unit → Shared → Prop} (I : IF B g mu L m cs cm s) (hD : (D, o) ∈ mu) (ho : o.IsDictOf (strKind prog w) kvs) (hn : kvs.length ≤ 10000)
    (h : ∀ o' s', IF B g (setL mu D o') L m cs cm s' → o'.IsDictOf (strKind prog w) (stored kvs x v) → Q () s') :
    wpAny (model prog w) A (setItem (.ref D) (.str x t) v) Q E s := by
  refine wpAny_setItem_pairs (knd := strKind prog w) (strKind_is prog w x t) (Heap.dictOf_iff.mpr ⟨o, (I.muH _ hD).1, ho⟩) (fun h' hd hs => ?_) (by rw [sizeLine_eq]; lia)
  obtain ⟨o', e, hd⟩ := Heap.dictOf_iff.mp hd
  exact h o' _ (I.turnIn (t := s.toks + 1) hD e hs) hd
theorem r_get2 {o e f : Expr} {apos pos : Pos} {Q : Value → Shared → Prop} (hbase : attributeBase o "get" env (eval o env) = eval o env) (hs : starEach [e, f] env = [(false, eval e env), (false, eval f env)]) (hline : (apos.endLine == pos.line) = true)
    (h : wpAny (model prog w) A (eval o env) (fun ov s₁ => ∃ D ob, ov = .ref D ∧ (D == sysModules) = false ∧ s₁.heap.get? D = some ob ∧ (∃ kvs : List (Str × Value), ob.IsDictOf (strKind prog w) kvs) ∧ wpAny (model prog w) A (eval e env) (fun k s₂ => wpAny (model prog w) A (eval f env) (fun dv s₃ => E11 fun B g mu L m cs cm o x t kvs => C5 (k = .str x t) (IF B g mu L m cs cm s₃) (s₃.heap.get? D = some o) (o.IsDictOf (strKind prog w) kvs) (∀ s', IF B g mu L m cs cm s' → Q ((valueAt kvs x).getD dv) s')) E s₂) E s₁) E s) :
    wpAny (model prog w) A (eval (.Call (.Attribute o "get" apos) [e, f] [] pos) env) Q E s := by
  refine Call_method2 hbase hs hline (wpAny_mono h (fun ov s₁ h₁ => ?_) fun _ _ q => q)
  obtain ⟨D, ob, rfl, hsys, hob, ⟨kvs0, hd0⟩, h₁⟩ := h₁
  have hm0 := (Heap.dictOf_iff (knd := strKind prog w).mpr ⟨ob, hob, hd0⟩).mapOf
  refine ⟨"dict", _, PySem.F.plainAttrs_dict, PySem.F.slot_dict_get, PySem.F.type_dict_get, hm0.typeIs, ?_, wpAny_dict_get2 (knd := strKind prog w) hsys (wpAny_mono h₁ (fun k s₂ h₂ => wpAny_mono h₂ (fun dv s₃ h₃ => ?_) fun _ _ q => q) fun _ _ q => q)⟩
  · intro a e; cases e; exact ⟨ob, hob, by obtain ⟨_, _, ⟨_, h, _⟩, _⟩ := hd0; exact h⟩
  obtain ⟨B, g, mu, L, m, cs, cm, o, x, t, kvs, rfl, I, ho, hd, fin⟩ := h₃
  exact ⟨x, _, strKind_is prog w x t, (Heap.dictOf_iff.mpr ⟨o, ho, hd⟩).mapOf, fin _ (I.tok _)⟩
theorem r_index {o : Expr} {apos pos p : Pos} {k : Nat} {Q : Value → Shared → Prop} (hbase : attributeBase o "index" env (eval o env) = eval o env) (hs : starEach [.Constant (.bool true) k p] env = [(false, eval (.Constant (.bool true) k p) env)]) (hline : (apos.endLine == pos.line) = true)
    (h : wpAny (model prog w) A (eval o env) (fun ov s₁ => E5 fun D vs n bs j => C6 (ov = .ref D) (s₁.heap.get? D = some (lo vs n)) (All₂ BoolV vs bs) (bs.length ≤ 10000) (bs.findIdx? id = some j) (∀ t, Q (.int (j : Nat) t) { s₁ with toks := s₁.toks + 1 })) E s) :
    wpAny (model prog w) A (eval (.Call (.Attribute o "index" apos) [.Constant (.bool true) k p] [] pos) env) Q E s := by
  refine Call_method1 hbase hs hline (wpAny_mono h (fun ov s₁ h₁ => ?_) fun _ _ q => q)
  obtain ⟨D, vs, n, bs, j, rfl, hD, hv, hn, hj, fin⟩ := h₁
  refine ⟨"list", _, PySem.F.plainAttrs_list, PySem.F.slot_list_index, PySem.F.type_list_index, ⟨_, hD, rfl⟩, ?_, PySem.P.index_list (wpAny_Constant_bool ?_)⟩
  · intro a e; cases e; exact ⟨_, hD, rfl⟩
  rw [List.findIdx?_eq_some_iff_getElem] at hj
  obtain ⟨hlt, h1, h2⟩ := hj
  have hl := hv.length
  have at' : ∀ (m : Nat) (hm : m < vs.toArray.size), vs.toArray[m] = .bool (bs[m]'(by rw [List.size_toArray] at hm; lia)) := fun m hm => by
    have hm' : m < bs.length := by rw [List.size_toArray] at hm; lia
    obtain ⟨v, e, hb⟩ := hv.get (List.getElem?_eq_getElem hm')
    have e2 := (List.getElem?_eq_some_iff.mp e).2
    rw [List.getElem_toArray, e2]; exact hb
  refine ⟨vs.toArray, n, fun v => (match v with | .bool b => b | _ => false), j, by rw [List.size_toArray]; lia, hD, ?_, by lia, ?_, ?_, fin _⟩
  · intro y hy
    obtain ⟨b, _, rfl⟩ := hv.memL y (by simpa using hy)
    exact fun prog w A E s Q h => EqAt.bool_bool b true prog w E Q (by cases b <;> exact h)
  · rw [at' j]; exact h1
  · intro m hm hlt2
    rw [at' m]
    have := h2 m hlt2
    simpa using this
end
end Mine
set_option Elab.async false
set_option maxRecDepth 100000
set_option linter.unusedVariables false
namespace Mine
open PySem PySem.W PyProof.Rows PySem.Calls SeqAt

/-! ## `def` within a frame -/
noncomputable def BMain (S : Heap) (mg : Str → Option Value) : Prop := E2 fun bm ob => C6 (mg "__builtins__" = some (.ref bm)) (bm ≠ builtinsNs) (S.get? bm = some ob) (ob.cls = .type "module") (ob.dict = some builtinsNs) (ob.data = .plain)
section
variable {prog : Program} {w : World} {A : Around} {E : Value → Shared → Prop} {s : Shared} {env : Env} {S : Heap} {mg mb : Str → Option Value}
variable {B : Base} {g : Vw} {mu : List (Addr × Obj)} {L : Addr} {m : Str → Option Value} {cs : List (Str × Addr)} {cm : Str → Option Value}
theorem AfterM.def_ {P c' : Addr} {h' : Heap} {fn oc o' : Obj} {tk : Nat} (hg : Sub g s.heap) (hP : s.heap.get? P ≠ none) (gP : g P = none) (hx : Heap.ExtBut P s.heap h') (hge : s.heap.objs.size ≤ c') (hlt : c' < h'.objs.size) (hoc : h'.get? c' = some oc) (htb : h'.get? P = some o') (hf : fn.isFreed = false) :
    AfterM [P] g s (put (put g c' oc) h'.objs.size fn) { s with heap := h'.push fn, toks := tk } := by
  have n1 : s.heap.get? c' = none := get_none_of_size hge
  have n2 : s.heap.get? h'.objs.size = none := get_none_of_size (Nat.le_of_lt (Nat.lt_of_le_of_lt hge hlt))
  have g1 : g c' = none := none_of_size hg hge
  have g2 : put g c' oc h'.objs.size = none := by rw [put_ne (Nat.ne_of_gt hlt)]; exact none_of_size hg (Nat.le_of_lt (Nat.lt_of_le_of_lt hge hlt))
  refine ⟨⟨_, _, rfl⟩, fun b o hb e => Heap.get?_push_of_some _ (hx b o (fun q => hb (by rw [q]; exact .head _)) e), fun b hb => ?_, (le_put g1).trans (le_put g2), fun b o e => ?_, fun b hb e => ?_⟩
  · by_cases q : b = P
    · subst q; exact alive (Heap.get?_push_of_some _ htb)
    · cases e : s.heap.get? b with
      | none => exact absurd e hb
      | some o => exact alive (Heap.get?_push_of_some _ (hx b o q e))
  · by_cases q : b = h'.objs.size
    · subst q; rw [put_self] at e; cases e; exact Heap.get?_push_size _ hf
    · rw [put_ne q] at e
      by_cases q2 : b = c'
      · subst q2; rw [put_self] at e; cases e; exact Heap.get?_push_of_some _ hoc
      · rw [put_ne q2] at e
        exact Heap.get?_push_of_some _ (hx b o (fun z => by rw [z, gP] at e; cases e) (hg b o e))
  · rw [put_ne (fun q => hb (by rw [q]; exact n2)), put_ne (fun q => hb (by rw [q]; exact n1))]; exact e
theorem r_def {name : Str} {params : Arguments} {body : List Stmt} {scope : Scope} {pos : Pos} {rest : List Stmt} {clos : List (Str × Addr)} {c P : Addr} {ps : Array Value} {Q : Flow → Shared → Prop}
    (I : IF B g ((P, tabObj ps) :: mu) L m cs cm s) (ST : Stat S mg mb) (BM : BMain S mg) (hT : B.T = S.get?) (C : CodeHd S c P) (hcode : env.code = .ref c) (hge0 : env.globals = mainGlobals)
    (hd0 : params.defaults = []) (hk0 : params.kw_defaults = []) (ha : annTrees params none env = []) (hcl : closureFor scope env = pure clos) (ht : TriplesOk ps.toList) (hnf : codeAmong pos ps.toList = none)
    (h : ∀ f c' oc ctv doc s', IF B (put (put g c' oc) f (fnMade name (qualnameIn env name name) params body scope clos doc ((mg "__name__").getD .none) c' ctv)) ((P, tabObj (ps ++ #[rawInt pos.line, rawInt pos.col, .ref c'])) :: mu) L m cs cm s' →
      (∃ vs t, oc.data = .fields vs ∧ vs[1]? = some (.str (qualnameIn env name name) t)) → s.heap.get? c' = none → s.heap.get? f = none → c' ≠ f →
      wpAny (model prog w) A (storeName env name (.ref f)) (fun _ s'' => wpAny (model prog w) A (execs rest env) Q E s'') E s') :
    wpAny (model prog w) A (execs (.FunctionDef name params body [] none [] scope none name pos :: rest) env) Q E s := by
  have hm := I.muH _ (.head _)
  have gSome : ∀ b o, S.get? b = some o → g b = some o := fun b o e => I.stat b o (by rw [hT]; exact e)
  have gsP : ∀ b o, S.get? b = some o → b ≠ P := fun b o e q => by
    have := gSome b o e
    rw [q] at this
    have z : g P = none := hm.2.1
    rw [z] at this; cases this
  have hgs := ST.g.keeps (I.st hT)
  obtain ⟨bm, ob, b1, b2, b3, b4, b5, b6⟩ := BM
  have hgP : mainGlobals ≠ P := by obtain ⟨o, es, ep, e, _⟩ := ST.g; exact gsP _ _ e
  have hbG : bm ≠ mainGlobals := fun q => by
    obtain ⟨o, es, ep, e, hd, _⟩ := ST.g
    rw [q, e] at b3; cases b3; rw [hd] at b6; cases b6
  refine wpAny_execs_cons (nestDef_K hd0 hk0 ha (makeFunction_K (mg := mg) hcl hge0 hgs hcode (C.keeps (I.st hT)) hm.1 ht hnf hgP ⟨bm, ob, b1, b2, hbG, gsP _ _ b3, I.st hT _ _ b3, b4, b5, b6⟩ fun c' ctv doc h' tk hx hge hlt hrec htb => ?_))
  obtain ⟨c₂, oc, vs, t, e2, hoc, hd, hv⟩ := hrec
  cases e2
  have am := AfterM.def_ (tk := tk) (fn := fnMade name (qualnameIn env name name) params body scope clos doc ((mg "__name__").getD .none) c' ctv) I.sub (alive hm.1) hm.2.1 hx hge hlt hoc htb rfl
  have J := I.afterM (mu0 := [(P, tabObj ps)]) (mu0' := [(P, tabObj (ps ++ #[rawInt pos.line, rawInt pos.col, .ref c']))]) am rfl (fun p hp => by
    rw [List.mem_singleton.mp hp]; exact Heap.get?_push_of_some _ htb)
  exact h _ _ _ _ _ _ J ⟨vs, t, hd, hv⟩ (get_none_of_size hge) (get_none_of_size (Nat.le_of_lt (Nat.lt_of_le_of_lt hge hlt))) (Nat.ne_of_lt hlt)
end
end Mine
set_option Elab.async false
set_option maxRecDepth 100000
set_option linter.unusedVariables false
namespace Mine
open PySem PySem.W PyProof.Rows PySem.Calls SeqAt

/-! ## _law_before -/
noncomputable def sinceL (rows : List (List Str)) (row : List Str) : Nat := ((rows.map fun o => decide (row.headD default ∈ o)).findIdx? id).getD 0
noncomputable def lateStep (n : Int) (f : Str → Option Int) (x : Str) : Str → Option Int := fun y => if y = x then some (max ((f x).getD 0) n) else f y
noncomputable def lateRow (n : Int) (f : Str → Option Int) (row : List Str) : Str → Option Int := row.foldl (lateStep n) f
noncomputable def lateL (all : List (List Str)) (rows : List (List Str)) : Str → Option Int := rows.foldl (fun f row => lateRow (sinceL all row) f row) fun _ => none
/-- the dict says what f says -/
noncomputable def LateV (kvs : List (Str × Value)) (f : Str → Option Int) : Prop := ∀ x, (match f x with | none => valueAt kvs x = none | some n => ∃ t, valueAt kvs x = some (.int n t))
theorem valueAt_cons {p : Str × Value} {r : List (Str × Value)} {y : Str} : valueAt (p :: r) y = if p.1 = y then some p.2 else valueAt r y := by
  unfold valueAt
  rw [List.find?_cons]
  by_cases q : p.1 = y <;> simp [q]
theorem valueAt_append {a b : List (Str × Value)} {y : Str} : valueAt (a ++ b) y = (valueAt a y).or (valueAt b y) := by
  induction a with
  | nil => rfl
  | cons p r ih =>
    rw [List.cons_append, valueAt_cons, valueAt_cons, ih]
    by_cases q : p.1 = y <;> simp [q]
theorem valueAt_map {x y : Str} {v : Value} : ∀ kvs : List (Str × Value), valueAt (kvs.map fun kv => if kv.1 = x then (kv.1, v) else kv) y = if y = x then (valueAt kvs x).map (fun _ => v) else valueAt kvs y
  | [] => by simp [valueAt]
  | p :: r => by
    rw [List.map_cons, valueAt_cons, valueAt_map r, valueAt_cons, valueAt_cons]
    by_cases q : p.1 = x
    · by_cases z : y = x
      · subst z; simp [q]
      · have : ¬ x = y := fun e => z e.symm
        simp [q, z, this]
    · by_cases z : y = x
      · subst z; simp [q]
      · simp [q, z]
theorem valueAt_any {x : Str} : ∀ kvs : List (Str × Value), (kvs.any fun kv => decide (kv.1 = x)) = (valueAt kvs x).isSome
  | [] => rfl
  | p :: r => by
    rw [List.any_cons, valueAt_any r, valueAt_cons]
    by_cases q : p.1 = x <;> simp [q]
theorem valueAt_stored {kvs : List (Str × Value)} {x y : Str} {v : Value} : valueAt (stored kvs x v) y = if y = x then some v else valueAt kvs y := by
  unfold stored
  split
  · rename_i h
    rw [valueAt_map]
    have h' : (valueAt kvs x).isSome = true := by rw [← valueAt_any]; exact h
    obtain ⟨u, e⟩ := Option.isSome_iff_exists.mp h'
    by_cases q : y = x
    · rw [if_pos q, if_pos q, e]; rfl
    · rw [if_neg q, if_neg q]
  · rename_i h
    rw [valueAt_append, valueAt_cons]
    have h' : (valueAt kvs x).isSome = false := by rw [← valueAt_any]; exact Bool.eq_false_iff.mpr h
    have h2 : valueAt kvs x = none := by simpa using h'
    by_cases q : y = x
    · subst q; simp [h2]
    · have : ¬ x = y := fun e => q e.symm
      simp [q, this, valueAt]
theorem stored_len {kvs : List (Str × Value)} {x : Str} {v : Value} : (stored kvs x v).length ≤ kvs.length + 1 := by
  unfold stored
  split <;> simp
theorem LateV.step {kvs : List (Str × Value)} {f : Str → Option Int} (h : LateV kvs f) (x : Str) (n : Int) (t : Tok) : LateV (stored kvs x (.int (max ((f x).getD 0) n) t)) (lateStep n f x) := by
  intro y
  rw [valueAt_stored]
  by_cases q : y = x
  · subst q
    simp only [lateStep, if_true]
    exact ⟨t, rfl⟩
  · simp only [lateStep, if_neg q]
    exact h y
theorem LateV.getD {kvs : List (Str × Value)} {f : Str → Option Int} (h : LateV kvs f) (x : Str) (u : Tok) : ∃ t, (valueAt kvs x).getD (.int 0 u) = .int ((f x).getD 0) t := by
  have := h x
  cases e : f x with
  | none => rw [e] at this; rw [this]; exact ⟨u, rfl⟩
  | some n => rw [e] at this; obtain ⟨t, q⟩ := this; rw [q]; exact ⟨t, rfl⟩
noncomputable def ruleS : Stmt := (fBody (stmtAt 33)).getD 2 (stmtAt 0)
/-- the rule that _law_before makes -/
inductive RuleV (prog : Program) (w : World) (g : Vw) (v : Value) (ab : Addr) (f : Str → Option Int) : Prop
  | mk (fa c' : Addr) (oc : Obj) (ctv doc pm : Value) (cb cl D : Addr) (od : Obj) (kvs : List (Str × Value)) (vs : Array Value) (t : Tok) (h0 : v = .ref fa) (h1 : g fa = some (fnMade (Str.ofString "rule") (Str.ofString "_law_before.<locals>.rule") (fArgs ruleS) (fBody ruleS) (fScope ruleS) [(Str.ofString "late", cl), (Str.ofString "book", cb)] doc pm c' ctv))
    (h2 : g c' = some oc)
    (h3 : oc.data = .fields vs)
    (h4 : vs[1]? = some (.str (Str.ofString "_law_before.<locals>.rule") t))
    (h5 : ∃ o, g cb = some o ∧ o.data = .cell (some (.ref ab)))
    (h6 : ∃ o, g cl = some o ∧ o.data = .cell (some (.ref D)))
    (h7 : (D == sysModules) = false)
    (h8 : g D = some od)
    (h9 : od.IsDictOf (strKind prog w) kvs)
    (h10 : LateV kvs f) : RuleV prog w g v ab f

section
variable {prog : Program} {w : World} {A : Around} {E : Value → Shared → Prop} {s : Shared} {g : Vw} {S : Heap} {mg mb : Str → Option Value}
theorem take_step {rows : List (List Str)} {i : Nat} {row : List Str} {α : Type} (h : rows[i]? = some row) (f : α → List Str → α) (z : α) : (rows.take (i + 1)).foldl f z = f ((rows.take i).foldl f z) row := by
  rw [List.take_add_one, h, List.foldl_append]; rfl
theorem take_stepS {row : List Str} {i : Nat} {x : Str} {α : Type} (h : row[i]? = some x) (f : α → Str → α) (z : α) : (row.take (i + 1)).foldl f z = f ((row.take i).foldl f z) x := by
  rw [List.take_add_one, h, List.foldl_append]; rfl
theorem AfterM.put {own : List Addr} {g g' : Vw} {s s' : Shared} {b : Addr} {o : Obj} (a : AfterM own g s g' s') (hb : s.heap.get? b = none) (ho : s'.heap.get? b = some o) (hn : g' b = none) : AfterM own g s (put g' b o) s' :=
  ⟨a.same, a.keep, a.live, a.le.trans (le_put hn), fun x ox e => by
    by_cases q : x = b
    · subst q; rw [put_self] at e; cases e; exact ho
    · rw [put_ne q] at e; exact a.sub x ox e, fun x hx e => by rw [put_ne (fun q => hx (by rw [q]; exact hb))]; exact a.new x hx e⟩
set_option maxHeartbeats 2000000 in
theorem before_call {a P c ab : Addr} {pm cd doc rv : Value} {rows : List (List Str)} {d : Nat} {Q : Value → Shared → Prop} (hg : Sub g s.heap) (hTg : Le S.get? g) (G : Globs S mg mb) (BM : BMain S mg) (F : FnAt S a 33 pm cd doc .none) (r : Room A (d + 1))
    (C : CodeHd S c P) (hcd : cd = .ref c) (hP : s.heap.get? P = some (tabObj #[])) (gP : g P = none)
    (hr : RowsV g rv rows) (hne : ∀ row ∈ rows, row ≠ []) (hn : rows.length ≤ 100) (hn2 : ∀ row ∈ rows, row.length ≤ 50)
    (h : ∀ v g' s', AfterM [P] g s g' s' → (∃ ps, s'.heap.get? P = some (tabObj ps)) → RuleV prog w g' v ab (lateL rows rows) → Q v s') : wpAny (model prog w) A (call (.ref a) [rv, .ref ab]) Q E s := by
  obtain ⟨lr, vr, kr, rfl, er, hvr⟩ := hr
  refine call_cm (mu0 := [(P, tabObj #[])]) (m0 := upd (fun _ => none) (Str.ofString "rows") (.ref lr)) (cm0 := upd (fun _ => none) (Str.ofString "book") (.ref ab)) (cs0 := fun L => [(Str.ofString "late", L + 1 + 1 + 1), (Str.ofString "row", L + 1 + 1), (Str.ofString "book", L + 1)]) hg hTg G.st rfl F r
    (fun p hp => by rw [List.mem_singleton.mp hp]; exact ⟨hP, gP⟩) (by simp)
    (binds := [(Str.ofString "rows", .ref lr), (Str.ofString "book", .ref ab)]) (by rfl) (by rfl) (by decide +kernel) (fun _ => rfl) (fun _ => rfl) (fun _ => rfl) (by rfl) (by rfl) (by rfl) ?_
  intro B L s₁ O hfr A1 r I
  have ST := G.st
  have hu : A1.units + 40 < cLine := by have := r.units; unfold cLine; lia
  have hcs : (([(Str.ofString "late", L + 1 + 1 + 1), (Str.ofString "row", L + 1 + 1), (Str.ofString "book", L + 1)] : List (Str × Addr)).map (·.1)).Nodup := by show List.Nodup [Str.ofString "late", Str.ofString "row", Str.ofString "book"]; decide +kernel
  refine r_assign (by rfl) (r_emptyDict I ST O.T ?_)
  intro D od s2 I oD sysD hod
  refine r_storeC I hcs (by rfl) (by rfl) (by rfl) (.head _) ?_
  intro s3 I
  refine r_forJ B [(Str.ofString "late", L + 1 + 1 + 1), (Str.ofString "row", L + 1 + 1), (Str.ofString "book", L + 1)] rows.length (fun i v _ => vr[i]? = some v)
    (fun i g' mu m cm => E2 fun od kvs => C8 (mu = [(D, od), (P, tabObj #[])]) (Le g g') (m (Str.ofString "rows") = some (.ref lr)) (cm (Str.ofString "late") = some (.ref D)) (cm (Str.ofString "book") = some (.ref ab)) (od.IsDictOf (strKind prog w) kvs) (kvs.length ≤ 50 * i) (LateV kvs ((rows.take i).foldl (fun f row => lateRow (sinceL rows row) f row) fun _ => none)))
    (fun g' mu m cm => E2 fun od kvs => C6 (mu = [(D, od), (P, tabObj #[])]) (Le g g') (cm (Str.ofString "late") = some (.ref D)) (cm (Str.ofString "book") = some (.ref ab)) (od.IsDictOf (strKind prog w) kvs) (LateV kvs (lateL rows rows))) ?_ ?_ ?_ ?_
  · refine r_local I (by rfl) (by rfl) (by rfl) (by decide) ?_
    refine it_list I r.handled er ?_
    intro it s4 X
    exact ⟨_, _, _, _, hvr.length ▸ X _, od, [], rfl, Le.refl _, by rfl, by rfl, by rfl, hod, Nat.le_refl _, fun x => rfl⟩
  · rintro B' g1 mu m cm s4 i v K hK pin hi hPi ⟨od, kvs, rfl, le, m1, c1, c2, hod, hlen, hlate⟩ I
    obtain ⟨row, hrow, hv⟩ := hvr.get' hPi
    have hrm := List.mem_of_getElem? hrow
    have hT : B'.T = S.get? := pin.T.trans O.T
    rw [take_step hrow] at hK
    obtain ⟨hd, tl', hrowe⟩ : ∃ hd tl', row = hd :: tl' := by
      cases row with
      | nil => exact absurd rfl (hne _ hrm)
      | cons a r => exact ⟨a, r, rfl⟩
    refine a_name (r_storeC I hcs (by rfl) (by rfl) (by rfl) (.tail _ (.head _)) ?_)
    intro s5 I
    obtain ⟨la, wa, ka, rfl, ea, hwa⟩ := hv
    refine r_assign (by rfl) (r_index (by rfl) (by rfl) (by rfl) ?_)
    refine r_comp (cl := [(Str.ofString "row", L + 1 + 1)]) (by rfl) (by rfl) (by rfl) ?_
    refine r_local I (by rfl) (by rfl) m1 (by decide) ?_
    refine it_list I r.handled (le _ _ er) ?_
    intro it s6 X
    refine ⟨B', L, _, _, _, [(D, od), (P, tabObj #[])], CompOK.map rows (fun o => decide (row.headD default ∈ o)) (fun _ v c => BoolV v c) (fun _ _ _ _ _ b => b) (by lia) (hvr.length ▸ X _) ?_ ?_⟩
    · intro B2 C2 g2 mC s7 j v2 o inn le2 hP2 ho I
      obtain ⟨lo', wo, ko, rfl, eo, hwo⟩ := (hvr.at hP2 ho).up (le.trans le2)
      refine a_name (r_storeLocal I (by rfl) (by rfl) ?_)
      intro s8 I
      refine r_cmp (by rfl) (Subscript_ ?_)
      refine r_cell (by rfl) (by rfl) (by rfl) (inn.rd I (.tail _ (.head _)) (by rfl)) (by decide) ?_
      refine r_int I ?_
      intro t1 s9 I
      obtain ⟨vh, hvh, th, rfl⟩ := hwa.get (i := 0) (b := hd) (by rw [hrowe]; rfl)
      refine t_list (k := 0) (I.sub _ _ (le2 _ _ (le _ _ ea))) hvh (by decide) ?_
      refine r_local I (by rfl) (by rfl) (by rfl) (by decide) ?_
      refine c_inStrs (I.sub _ _ eo) hwo ⟨_, _, I, ?_⟩
      show _ = _
      rw [hrowe]; rfl
    intro Db g2 bs kb s7 le2 I oDb hbs
    have hmem : (rows.map fun o => decide (row.headD default ∈ o)).findIdx? id = some (sinceL rows row) := by
      unfold sinceL
      cases e : (rows.map fun o => decide (row.headD default ∈ o)).findIdx? id with
      | some j => rfl
      | none =>
        rw [List.findIdx?_eq_none_iff] at e
        have := e true (List.mem_map.mpr ⟨row, hrm, decide_eq_true (by rw [hrowe]; exact List.mem_cons_self ..)⟩)
        simp at this
    refine ⟨Db, bs, kb, _, _, rfl, (I.muH _ (.head _)).1, hbs, by rw [List.length_map]; lia, hmem, fun t => ?_⟩
    have I := I.tok (s7.toks + 1)
    refine r_storeLocal I (by rfl) (by rfl) ?_
    intro s8 I
    have I := I.weaken (mu' := [(D, od), (P, tabObj #[])]) (fun p hp => .tail _ hp) (by
      have := I.nd
      rw [List.map_cons, List.nodup_cons] at this
      exact this.2)
    have hT2 : B'.T = S.get? := hT
    refine r_forJ B' [(Str.ofString "late", L + 1 + 1 + 1), (Str.ofString "row", L + 1 + 1), (Str.ofString "book", L + 1)] row.length (fun i v _ => wa[i]? = some v)
      (fun j g' mu m cm => E3 fun od kvs t => C9 (mu = [(D, od), (P, tabObj #[])]) (Le g g') (m (Str.ofString "rows") = some (.ref lr)) (m (Str.ofString "since") = some (.int (sinceL rows row : Nat) t)) (cm (Str.ofString "late") = some (.ref D)) (cm (Str.ofString "book") = some (.ref ab)) (od.IsDictOf (strKind prog w) kvs) (kvs.length ≤ 50 * i + j) (LateV kvs ((row.take j).foldl (lateStep (sinceL rows row : Nat)) ((rows.take i).foldl (fun f row => lateRow (sinceL rows row) f row) fun _ => none))))
      (fun g' mu m cm => E2 fun od kvs => C8 (mu = [(D, od), (P, tabObj #[])]) (Le g g') (m (Str.ofString "rows") = some (.ref lr)) (cm (Str.ofString "late") = some (.ref D)) (cm (Str.ofString "book") = some (.ref ab)) (od.IsDictOf (strKind prog w) kvs) (kvs.length ≤ 50 * i + row.length) (LateV kvs (lateRow (sinceL rows row : Nat) ((rows.take i).foldl (fun f row => lateRow (sinceL rows row) f row) fun _ => none) row))) ?_ ?_ ?_ ?_
    · refine r_cell (by rfl) (by rfl) (by rfl) (I.rd (.tail _ (.head _)) (by rfl)) (by decide) ?_
      refine it_list I r.handled (le2 _ _ (le _ _ ea)) ?_
      intro it s9 X
      exact ⟨_, _, _, _, hwa.length ▸ X _, od, kvs, t, rfl, le.trans le2, by exact m1, by rfl, by exact c1, by exact c2, hod, by lia, hlate⟩
    · rintro B2 g3 mu m cm s9 j v2 K2 hK2 pin2 hj hPj ⟨od, kvs, t, rfl, le3, m1, m2, c1, c2, hod, hlen, hlate⟩ I
      obtain ⟨x, hx, tx, rfl⟩ := hwa.get' hPj
      rw [take_stepS hx] at hK2
      refine a_name (r_storeLocal I (by rfl) (by rfl) ?_)
      intro s10 I
      refine wpAny_execs_cons (wpAny_Assign_Subscript ?_)
      refine r_callB I ST (pin2.T.trans hT) (by rfl) (by rfl) (by rfl) (by rfl) (by exact G.no "max" (.tail _ (.head _))) (by rfl) (by decide) (by decide) (by rfl) (by rfl) (by rfl) ?_
      refine r_items (by rfl) (r_get2 (by rfl) (by rfl) (by rfl) ?_)
      refine r_cell (by rfl) (by rfl) (by rfl) (I.rd (.head _) (by exact c1)) (by decide) ⟨D, od, rfl, sysD, (I.muH _ (.head _)).1, ⟨kvs, hod⟩, ?_⟩
      refine r_local I (by rfl) (by rfl) (by rfl) (by decide) (r_int I ?_)
      intro t1 s11 I
      refine ⟨_, _, _, _, _, _, _, od, x, tx, kvs, rfl, I, (I.muH _ (.head _)).1, hod, fun s12 I => ?_⟩
      obtain ⟨t2, e2⟩ := hlate.getD x t1
      rw [e2]
      refine r_items (by rfl) (r_local I (by rfl) (by rfl) (by exact m2) (by decide) (r_items0 (b_max I r.handled ?_)))
      intro t3 s13 I
      refine r_cell (by rfl) (by rfl) (by rfl) (I.rd (.head _) (by exact c1)) (by decide) ?_
      refine r_local I (by rfl) (by rfl) (by rfl) (by decide) ?_
      have hrl := hn2 _ hrm
      refine t_setMap I (.head _) hod (by lia) ?_
      intro od2 s14 I hod2
      have hDP : ¬ P = D := fun e => by
        have := I.nd
        rw [setL_fst] at this
        simp only [List.map_cons, List.map_nil, List.nodup_cons, List.mem_singleton] at this
        exact this.1 e.symm
      rw [show setL [(D, od), (P, tabObj #[])] D od2 = [(D, od2), (P, tabObj #[])] by simp only [setL, List.map_cons, List.map_nil, if_true, if_neg hDP]] at I
      exact r_nil (hK2 _ _ ⟨_, _, _, _, I, od2, _, t, rfl, le3, by exact m1, by exact m2, by exact c1, by exact c2, hod2, Nat.le_trans stored_len (by lia), hlate.step x _ t3⟩)
    · rintro g3 mu m cm ⟨od, kvs, t, rfl, le3, m1, m2, c1, c2, hod, hlen, hlate⟩
      rw [List.take_length] at hlate
      exact ⟨od, kvs, rfl, le3, m1, c1, c2, hod, hlen, hlate⟩
    · rintro g3 mu m cm s9 I ⟨od, kvs, rfl, le3, m1, c1, c2, hod, hlen, hlate⟩
      have hrl := hn2 _ hrm
      exact r_nil (hK _ _ ⟨_, _, _, _, I, od, kvs, rfl, le3, m1, c1, c2, hod, by lia, hlate⟩)
  · rintro g1 mu m cm ⟨od, kvs, rfl, le, m1, c1, c2, hod, hlen, hlate⟩
    rw [List.take_length] at hlate
    exact ⟨od, kvs, rfl, le, c1, c2, hod, hlate⟩
  · rintro g1 mu m cm s4 I ⟨od, kvs, rfl, le, c1, c2, hod, hlate⟩
    have I := I.weaken (mu' := [(P, tabObj #[]), (D, od)]) (fun p hp => by
      rcases List.mem_cons.mp hp with rfl | hp
      · exact .tail _ (.head _)
      · rw [List.mem_singleton.mp hp]; exact .head _) (by
      have := I.nd
      simp only [List.map_cons, List.map_nil, List.nodup_cons, List.mem_singleton, List.not_mem_nil, not_false_eq_true, List.nodup_nil, and_true] at this ⊢
      exact fun e => this e.symm)
    refine r_def I ST BM O.T C (by exact hcd) (by rfl) (by rfl) (by rfl) (by rfl) (by rfl) (by exact trivial) (by rfl) ?_
    intro f c' oc ctv doc s5 I hoc fc ff hcf
    refine r_storeLocal I (by rfl) (by rfl) ?_
    intro s6 I
    refine r_return (r_local I (by rfl) (by rfl) (by rfl) (by decide) ?_)
    have HD := I.muH (D, od) (.tail _ (.head _))
    have HP := I.muH _ (.head _)
    have nd := I.nd
    have dn : s.heap.get? D = none := by
      cases e : s.heap.get? D with
      | none => rfl
      | some o => exact absurd (O.off D (by rw [e]; simp) (by
          cases q : g D with
          | none => rfl
          | some o' => have z := HD.2.1; have y := (O.fin I (fun b hb => by rw [List.mem_singleton.mp hb]; exact alive HP.1)).le _ _ q; rw [y] at z; cases z)) oD
    have Z := O.fin I (fun b hb => by rw [List.mem_singleton.mp hb]; exact alive HP.1)
    obtain ⟨ocl, ecl, dcl⟩ := I.cell _ _ (.head _)
    obtain ⟨ocb, ecb, dcb⟩ := I.cell _ _ (.tail _ (.tail _ (.head _)))
    have ncl := (I.cg _ _ (.head _)).1
    have ncb := (I.cg _ _ (.tail _ (.tail _ (.head _)))).1
    have Z := ((Z.put dn HD.1 HD.2.1).put (hfr _ (.head _)) ecl (by rw [put_ne (HD.2.2.2.2 _ (.head _))]; exact ncl)).put (hfr _ (.tail _ (.tail _ (.head _)))) ecb (by
      rw [put_ne (Nat.ne_of_lt (Nat.lt_of_lt_of_le (Nat.lt_succ_self _) (Nat.le_succ _))), put_ne (HD.2.2.2.2 _ (.tail _ (.tail _ (.head _))))]; exact ncb)
    refine h _ _ _ Z ⟨_, HP.1⟩ ?_
    have l1 := le_put (o := od) HD.2.1
    have l2 := le_put (o := ocl) (show put _ D od (L + 1 + 1 + 1) = none by rw [put_ne (HD.2.2.2.2 _ (.head _))]; exact ncl)
    have l3 := le_put (o := ocb) (show put (put _ D od) (L + 1 + 1 + 1) ocl (L + 1) = none by
      rw [put_ne (Nat.ne_of_lt (Nat.lt_of_lt_of_le (Nat.lt_succ_self _) (Nat.le_succ _))), put_ne (HD.2.2.2.2 _ (.tail _ (.tail _ (.head _))))]; exact ncb)
    obtain ⟨vs, t, hd1, hd2⟩ := hoc
    rw [c1] at dcl
    rw [c2] at dcb
    exact ⟨f, c', oc, ctv, doc, _, L + 1, L + 1 + 1 + 1, D, od, kvs, vs, t, rfl, l3 _ _ (l2 _ _ (l1 _ _ (put_self ..))), l3 _ _ (l2 _ _ (l1 _ _ (by rw [put_ne hcf]; exact put_self ..))), hd1, hd2, ⟨ocb, put_self .., dcb⟩, ⟨ocl, l3 _ _ (put_self ..), dcl⟩, sysD, l3 _ _ (l2 _ _ (put_self ..)), hod, hlate⟩
end
end Mine
set_option Elab.async false
set_option maxRecDepth 100000
set_option linter.unusedVariables false
namespace Mine
open PySem PySem.W PyProof.Rows PySem.Calls SeqAt

/-! ## A call of a closure -/
section
variable {prog : Program} {w : World} {A : Around} {E : Value → Shared → Prop} {s : Shared} {g : Vw} {S : Heap} {mg mb : Str → Option Value}
theorem call_clo {fa c' : Addr} {name qual : Str} {params : Arguments} {body : List Stmt} {scope : Scope} {cl : List (Str × Addr)} {doc pm ctv : Value} {oc : Obj} {vs : Array Value} {t : Tok} {vals : List Value} {binds : List (Str × Value)} {m0 : Str → Option Value} {d : Nat} {Q : Value → Shared → Prop}
    (hg : Sub g s.heap) (hTg : Le S.get? g) (ST : Stat S mg mb) (r : Room A (d + 1)) (hf : g fa = some (fnMade name qual params body scope cl doc pm c' ctv)) (hc' : g c' = some oc) (hd : oc.data = .fields vs) (hq : vs[1]? = some (.str qual t))
    (hbind : bindArgs (fnX name qual params body scope cl .none .none doc pm none (.ref c') ctv) ⟨vals, []⟩ = pure binds) (hloc : ∀ y ∈ binds, scope.names.lookup y.1 = some .local) (hcell : ∀ x ∈ scope.names, x.2 ≠ .cell)
    (hm : (fun y => binds.reverse.lookup y) = m0) (hco : scope.isCoroutine = false) (hgen : scope.isGenerator = false) (hk : scope.kind = .function)
    (h : ∀ B L s₁, Opens S.get? g s B → ∀ A', Room A' d → IF B g [] L m0 [] (fun _ => none) s₁ →
      wpAny (model prog w) A' (execs body (callEnv (fnX name qual params body scope cl .none .none doc pm none (.ref c') ctv) L fa)) (fun f s' => Q (match f with | .ret v => v | _ => .none) s') NoE s₁) :
    wpAny (model prog w) A (call (.ref fa) vals) Q E s := by
  refine wpAny_call ?_
  have up : ∀ b o, S.get? b = some o → s.heap.get? b = some o := fun b o e => hg b o (hTg b o e)
  refine codeAny_call_def (fd := fnX name qual params body scope cl .none .none doc pm none (.ref c') ctv) (body := body) (binds := binds) r.lim (hg _ _ hf) rfl (ST.lim.keeps up) ⟨c', oc, vs, t, rfl, hg _ _ hc', hd, hq⟩ rfl (.of_eq hbind) hcell hloc (fun h₀ hns hk₀ => ?_) hco hgen hk
  rw [hm] at hns
  have hL : g s.heap.objs.size = none := none_of_size hg (Nat.le_refl _)
  have I : IF ⟨S.get?, s, g, s.heap.get?, fun b => s.heap.get? b ≠ none ∧ g b = none⟩ g [] s.heap.objs.size m0 [] (fun _ => none) { s with heap := h₀, toks := s.toks + binds.length } :=
    ⟨⟨_, _, rfl⟩, hTg, Le.refl g, fun b hb => ⟨hb.2, alive_keep hk₀ hb.1⟩, hk₀, fun b o e => hk₀ b o (hg b o e), hns, hL, get_none_of_size (Nat.le_refl _), fun _ _ h => (nomatch h), fun _ _ h => (nomatch h), .nil, fun p hp => (nomatch hp), List.nodup_nil⟩
  exact wpAny_mono (h _ _ _ ⟨rfl, fun I => I.end_, fun b hb q => q.1 hb, fun _ _ e => e⟩ _ r.deeper I) (fun f s' q => q) (fun _ _ q => q.elim)

/-! ### rule(one, two) -/
theorem lookup_two (a b : Str) (u v : Value) (h : a ≠ b) : (fun y => ([(a, u), (b, v)] : List (Str × Value)).reverse.lookup y) = upd (upd (fun _ => none) a u) b v := by
  funext z
  show List.lookup z [(b, v), (a, u)] = _
  rw [List.lookup_cons, List.lookup_cons]
  unfold upd
  by_cases q : z = b
  · simp [q]
  · have q' : (z == b) = false := by simpa using q
    rw [q', if_neg q]
    by_cases q2 : z = a
    · simp [q2]
    · have q3 : (z == a) = false := by simpa using q2
      rw [q3, if_neg q2]; rfl
/-- the book's answer: paths that may be joined -/
structure PathAt (kvs : List (Str × Value)) (N : Str → List (List Nat)) (x : Str) : Prop where
  at_ : ∃ p t, valueAt kvs x = some (.str p t) ∧ tl p = pathL (N x) ∧ p.length ≤ 900
  ne : N x ≠ []
  ok : OkN (N x)
  dot : NoDot (N x)
noncomputable def ruleL (N : Str → List (List Nat)) (f : Str → Option Int) (a b : Str) : Int :=
  if 47 :: joinL (cpre (N a) (N b)) = pathL (N a) ∨ 47 :: joinL (cpre (N a) (N b)) = pathL (N b) then ((pathL (N b)).length : Int) - (pathL (N a)).length else ((f a).getD 0) - ((f b).getD 0)
set_option maxHeartbeats 2000000 in
theorem rule_call {v : Value} {ab fcp : Addr} {pmc cdc docc : Value} {f : Str → Option Int} {ob : Obj} {kvs : List (Str × Value)} {N : Str → List (List Nat)} {x y : Str} {tx ty : Tok} {d : Nat} {Q : Value → Shared → Prop} (hg : Sub g s.heap) (hTg : Le S.get? g) (G : Globs S mg mb) (r : Room A (d + 5))
    (hcp : mg (Str.ofString "commonpath") = some (.ref fcp)) (Fcp : FnAt S fcp 21 pmc cdc docc .none)
    (hv : RuleV prog w g v ab f) (hab : g ab = some ob) (hsys : (ab == sysModules) = false) (hob : ob.IsDictOf (strKind prog w) kvs) (hx : PathAt kvs N x) (hy : PathAt kvs N y) (fx : (f x).isSome) (fy : (f y).isSome)
    (h : ∀ t g' s', After g s g' s' → Q (.int (ruleL N f x y) t) s') : wpAny (model prog w) A (call v [.str x tx, .str y ty]) Q E s := by
  obtain ⟨fa, c', oc, ctv, doc, pm, cb, cl, D, od, dk, vs, t, rfl, hfa, hc', hd, hq, ⟨ocb, ecb, dcb⟩, ⟨ocl, ecl, dcl⟩, sysD, eD, hod, hlate⟩ := hv
  refine call_clo (binds := [(Str.ofString "one", .str x tx), (Str.ofString "two", .str y ty)]) (m0 := upd (upd (fun _ => none) (Str.ofString "one") (.str x tx)) (Str.ofString "two") (.str y ty)) hg hTg G.st r hfa hc' hd hq (by rfl) (fun z hz => by
    rcases List.mem_cons.mp hz with rfl | hz
    · rfl
    · rw [List.mem_singleton.mp hz]; rfl) (by decide +kernel) (lookup_two _ _ _ _ (by decide)) (by rfl) (by rfl) (by rfl) ?_
  intro B L s₁ O A1 r I
  have ST := G.st
  obtain ⟨p1, u1, hv1, ht1, hl1⟩ := hx.at_
  obtain ⟨p2, u2, hv2, ht2, hl2⟩ := hy.at_
  obtain ⟨n1, hn1⟩ := Option.isSome_iff_exists.mp fx
  obtain ⟨n2, hn2⟩ := Option.isSome_iff_exists.mp fy
  obtain ⟨w1, hw1⟩ : ∃ t, valueAt dk x = some (.int n1 t) := by have := hlate x; rw [hn1] at this; exact this
  obtain ⟨w2, hw2⟩ : ∃ t, valueAt dk y = some (.int n2 t) := by have := hlate y; rw [hn2] at this; exact this
  refine r_assign (by rfl) (r_call I ST O.T (by rfl) (by rfl) (by rfl) hcp (by decide) Fcp (by rfl) (by rfl) ?_)
  refine r_items (by rfl) (r_list (r_items (by rfl) (Subscript_ ?_)))
  refine r_free (by rfl) (by rfl) (by rfl) ⟨ocb, I.sub _ _ ecb, dcb⟩ (by decide) (by decide) ?_
  refine r_local I (by rfl) (by rfl) (by rfl) (by decide) (t_map I (I.sub _ _ hab) hob hv1 ?_)
  intro s2 I
  refine r_items (by rfl) (Subscript_ ?_)
  refine r_free (by rfl) (by rfl) (by rfl) ⟨ocb, I.sub _ _ ecb, dcb⟩ (by decide) (by decide) ?_
  refine r_local I (by rfl) (by rfl) (by rfl) (by decide) (t_map I (I.sub _ _ hab) hob hv2 ?_)
  intro s3 I
  refine r_items0 (t_fz I (Nat.le_of_ble_eq_true rfl) (by rfl) ?_)
  intro D2 g2 s4 I le2 eD2
  refine r_items0 ⟨I.st O.T, ?_⟩
  refine common_call I.sub (O.T ▸ I.stat) G Fcp r eD2 ht1 ht2 hx.ne hy.ne hx.ok hy.ok hx.dot hy.dot hl1 hl2 ?_
  intro z tz g3 s5 af hz
  have I := I.after af
  have le3 := le2.trans af.le
  refine r_storeLocal I (by rfl) (by rfl) ?_
  intro s6 I
  have eqz : ∀ (q : Str) (n : List (List Nat)), tl q = pathL n → (decide (z = q) = decide (47 :: joinL (cpre (N x) (N y)) = pathL n)) := fun q n hq => by
    by_cases e : z = q
    · subst e; rw [hz] at hq; simp [hq]
    · have : ¬ 47 :: joinL (cpre (N x) (N y)) = pathL n := fun q2 => e (str_ext (by rw [hz, hq, q2]))
      simp [e, this]
  have len_ : ∀ q : Str, (tl q).length = q.length := fun q => len_tl q
  refine r_ifp (wpAny_isTrue_BoolOp (wpAny_allTrue_Or_cons (r_cmpT (by rfl) ?_)))
  refine r_local I (by rfl) (by rfl) (by rfl) (by decide) (Subscript_ ?_)
  refine r_free (by rfl) (by rfl) (by rfl) ⟨ocb, I.sub _ _ (le3 _ _ ecb), dcb⟩ (by decide) (by decide) ?_
  refine r_local I (by rfl) (by rfl) (by rfl) (by decide) (t_map I (I.sub _ _ (le3 _ _ hab)) hob hv1 ?_)
  intro s7 I
  refine c_eqStr (wpAny_truthy_bool ?_)
  rw [eqz p1 _ ht1]
  have yes : ∀ (c1 : 47 :: joinL (cpre (N x) (N y)) = pathL (N x) ∨ 47 :: joinL (cpre (N x) (N y)) = pathL (N y)), ruleL N f x y = (p2.length : Int) - p1.length := fun c1 => by
    unfold ruleL; rw [if_pos c1, ← ht1, ← ht2, len_, len_]
  refine ite_of (fun hb => ?_) fun hb => ?_
  · have c1 := yes (.inl (of_decide_eq_true hb))
    rw [if_pos rfl]
    refine r_return (r_bin ?_)
    refine r_callB I ST O.T (by rfl) (by rfl) (by rfl) (by rfl) (by exact G.no "len" (.tail _ (.tail _ (.head _)))) (by rfl) (by decide) (by decide) (by rfl) (by rfl) (by rfl) ?_
    refine r_items (by rfl) (Subscript_ ?_)
    refine r_free (by rfl) (by rfl) (by rfl) ⟨ocb, I.sub _ _ (le3 _ _ ecb), dcb⟩ (by decide) (by decide) ?_
    refine r_local I (by rfl) (by rfl) (by rfl) (by decide) (t_map I (I.sub _ _ (le3 _ _ hab)) hob hv2 ?_)
    intro s8 I
    refine r_items0 (b_lenStr I (by lia) ?_)
    intro t8 s9 I
    refine r_callB I ST O.T (by rfl) (by rfl) (by rfl) (by rfl) (by exact G.no "len" (.tail _ (.tail _ (.head _)))) (by rfl) (by decide) (by decide) (by rfl) (by rfl) (by rfl) ?_
    refine r_items (by rfl) (Subscript_ ?_)
    refine r_free (by rfl) (by rfl) (by rfl) ⟨ocb, I.sub _ _ (le3 _ _ ecb), dcb⟩ (by decide) (by decide) ?_
    refine r_local I (by rfl) (by rfl) (by rfl) (by decide) (t_map I (I.sub _ _ (le3 _ _ hab)) hob hv1 ?_)
    intro s10 I
    refine r_items0 (b_lenStr I (by lia) ?_)
    intro t10 s11 I
    refine o_sub I ?_
    intro t11 s12 I
    rw [← c1]
    exact h _ _ _ (O.fin I)
  refine wpAny_allTrue_Or_cons (r_cmpT (by rfl) ?_)
  refine r_local I (by rfl) (by rfl) (by rfl) (by decide) (Subscript_ ?_)
  refine r_free (by rfl) (by rfl) (by rfl) ⟨ocb, I.sub _ _ (le3 _ _ ecb), dcb⟩ (by decide) (by decide) ?_
  refine r_local I (by rfl) (by rfl) (by rfl) (by decide) (t_map I (I.sub _ _ (le3 _ _ hab)) hob hv2 ?_)
  intro s8 I
  refine c_eqStr (wpAny_truthy_bool ?_)
  rw [eqz p2 _ ht2]
  refine ite_of (fun hb2 => ?_) fun hb2 => ?_
  · have c1 := yes (.inr (of_decide_eq_true hb2))
    rw [if_pos rfl]
    refine r_return (r_bin ?_)
    refine r_callB I ST O.T (by rfl) (by rfl) (by rfl) (by rfl) (by exact G.no "len" (.tail _ (.tail _ (.head _)))) (by rfl) (by decide) (by decide) (by rfl) (by rfl) (by rfl) ?_
    refine r_items (by rfl) (Subscript_ ?_)
    refine r_free (by rfl) (by rfl) (by rfl) ⟨ocb, I.sub _ _ (le3 _ _ ecb), dcb⟩ (by decide) (by decide) ?_
    refine r_local I (by rfl) (by rfl) (by rfl) (by decide) (t_map I (I.sub _ _ (le3 _ _ hab)) hob hv2 ?_)
    intro s8 I
    refine r_items0 (b_lenStr I (by lia) ?_)
    intro t8 s9 I
    refine r_callB I ST O.T (by rfl) (by rfl) (by rfl) (by rfl) (by exact G.no "len" (.tail _ (.tail _ (.head _)))) (by rfl) (by decide) (by decide) (by rfl) (by rfl) (by rfl) ?_
    refine r_items (by rfl) (Subscript_ ?_)
    refine r_free (by rfl) (by rfl) (by rfl) ⟨ocb, I.sub _ _ (le3 _ _ ecb), dcb⟩ (by decide) (by decide) ?_
    refine r_local I (by rfl) (by rfl) (by rfl) (by decide) (t_map I (I.sub _ _ (le3 _ _ hab)) hob hv1 ?_)
    intro s10 I
    refine r_items0 (b_lenStr I (by lia) ?_)
    intro t10 s11 I
    refine o_sub I ?_
    intro t11 s12 I
    rw [← c1]
    exact h _ _ _ (O.fin I)
  · have c0 : ruleL N f x y = n1 - n2 := by
      unfold ruleL
      rw [if_neg (fun q => q.elim (of_decide_eq_false hb) (of_decide_eq_false hb2)), hn1, hn2]; rfl
    refine wpAny_allTrue_Or_nil ?_
    rw [if_neg (by simp)]
    refine r_nil (r_return (r_bin (Subscript_ ?_)))
    refine r_free (by rfl) (by rfl) (by rfl) ⟨ocl, I.sub _ _ (le3 _ _ ecl), dcl⟩ (by decide) (by decide) ?_
    refine r_local I (by rfl) (by rfl) (by rfl) (by decide) (t_map I (I.sub _ _ (le3 _ _ eD)) hod hw1 ?_)
    intro s9 I
    refine Subscript_ ?_
    refine r_free (by rfl) (by rfl) (by rfl) ⟨ocl, I.sub _ _ (le3 _ _ ecl), dcl⟩ (by decide) (by decide) ?_
    refine r_local I (by rfl) (by rfl) (by rfl) (by decide) (t_map I (I.sub _ _ (le3 _ _ eD)) hod hw2 ?_)
    intro s10 I
    refine o_sub I ?_
    intro t11 s12 I
    rw [← c0]
    exact h _ _ _ (O.fin I)
end
end Mine
set_option Elab.async false
set_option maxRecDepth 100000
set_option linter.unusedVariables false
namespace Mine
open PySem PySem.W PyProof.Rows PySem.Calls SeqAt
set_option maxHeartbeats 4000000

/-! ## The class K of cmp_to_key: type.__new__ -/
noncomputable abbrev kEnts (h : Str → Int) (kt : Str → Tok) (vMod vQual vLine vSlots fI fL fG fE fLe fGe vSt : Value) : List DictEntry :=
  [⟨h "__module__", .str "__module__" (kt "__module__"), vMod⟩, ⟨h "__qualname__", .str "__qualname__" (kt "__qualname__"), vQual⟩,
   ⟨h "__firstlineno__", .str "__firstlineno__" (kt "__firstlineno__"), vLine⟩, ⟨h "__slots__", .str "__slots__" (kt "__slots__"), vSlots⟩,
   ⟨h "__init__", .str "__init__" (kt "__init__"), fI⟩, ⟨h "__lt__", .str "__lt__" (kt "__lt__"), fL⟩, ⟨h "__gt__", .str "__gt__" (kt "__gt__"), fG⟩,
   ⟨h "__eq__", .str "__eq__" (kt "__eq__"), fE⟩, ⟨h "__le__", .str "__le__" (kt "__le__"), fLe⟩, ⟨h "__ge__", .str "__ge__" (kt "__ge__"), fGe⟩,
   ⟨h "__hash__", .str "__hash__" (kt "__hash__"), .none⟩, ⟨h "__static_attributes__", .str "__static_attributes__" (kt "__static_attributes__"), vSt⟩]

section
variable {M : Model} {A : Around} {E : Value → Shared → Prop} {s : Shared}
theorem wp_for1 {α β : Type} {x : α} {f : α → β → Sem (ForInStep β)} {b : β} {Q : β → Shared → Prop} (h : wpAny M A (f x b) (fun r s' => match r with | .yield b' => Q b' s' | .done b' => Q b' s') E s) : wpAny M A (forIn [x] b f) Q E s := by
  rw [List.forIn_cons]
  refine wpAny_bind (wpAny_mono h (fun r s' q => ?_) fun _ _ q => q)
  cases r with
  | done b' => exact wpAny_pure q
  | yield b' => show wpAny M A (forIn [] b' f) Q E s'; rw [List.forIn_nil]; exact wpAny_pure q
end

section
variable {M : Model} {A : Around} {E : Value → Shared → Prop} {s : Shared}
theorem wp_iff {α : Type} {b : Bool} {x y : Sem α} {Q : α → Shared → Prop} (hb : b = false) (h : wpAny M A y Q E s) : wpAny M A (if b = true then x else y) Q E s := by rw [hb]; exact h
theorem wp_ift {α : Type} {b : Bool} {x y : Sem α} {Q : α → Shared → Prop} (hb : b = true) (h : wpAny M A x Q E s) : wpAny M A (if b = true then x else y) Q E s := by rw [hb]; exact h
end

local macro_rules | `(tactic| o_shape) => `(tactic| first
  | with_reducible (first
      | refine wpAny_bind ?_ | refine wpAny_pure ?_ | refine wpAny_holding ?_ | refine wpAny_rule ?_ | refine wpAny_mkInt' ?_ | refine wpAny_mkStr' ?_ | refine wpAny_fresh' ?_ | refine wpAny_alloc' ?_
      | refine wpAny_typeOf (by assumption) ?_ | refine wpAny_of_eq (by assumption) ?_ | refine wp_iff (by assumption) ?_ | refine wp_ift (by assumption) ?_ | refine wpAny_load' (by assumption) ?_ | refine wpAny_loadPart' (by assumption) ?_)
  | wp_delta
  | (with_reducible apply wpAny_ite_false); focus (rfl; done)
  | (with_reducible apply wpAny_ite_true); focus (rfl; done))


theorem kf1 : isSubtype (.type "tuple") (.type "tuple") = pure true := by kernel_rfl
theorem kf2 : isSubtype (.type "dict") (.type "dict") = pure true := by kernel_rfl
theorem kf3 : isSubtype (.type "type") (.type "type") = pure true := by kernel_rfl
theorem kf4 : isSubtype (.type "object") (.type "object") = pure true := by kernel_rfl
theorem kf5 : typeLookup (.type "dict") "__iter__" = pure (some (.builtin "dict.__iter__")) := by rw [typeLookup_type, builtinLookup_eq_fast]; kernel_rfl
theorem kf6 : mroOf (.type "object") = pure [.type "object"] := by kernel_rfl
theorem kf7 : Builtin.extendedBase (if ((some #[Value.type "object"] : Option (Array Value)).getD #[]).toList.isEmpty = true then [Value.type "object"] else ((some #[Value.type "object"] : Option (Array Value)).getD #[]).toList) = pure (.type "object") := by kernel_rfl
theorem kf8 : Builtin.notOverATurnedClass (if ((some #[Value.type "object"] : Option (Array Value)).getD #[]).toList.isEmpty = true then [Value.type "object"] else ((some #[Value.type "object"] : Option (Array Value)).getD #[]).toList) = pure () := by kernel_rfl
theorem kf10 : typeOf (.type "object") = pure (.type "type") := by kernel_rfl
theorem kf11 : isType (.type "object") = pure true := by kernel_rfl
theorem kf9 : mroOf (.type "type") = pure [.type "type", .type "object"] := by kernel_rfl

theorem kf12 : Builtin.Slots.bestBase (if ((some #[Value.type "object"] : Option (Array Value)).getD #[]).toList.isEmpty = true then [Value.type "object"] else ((some #[Value.type "object"] : Option (Array Value)).getD #[]).toList) = pure (.type "object") := by kernel_rfl
theorem kf13 : Builtin.Slots.slotNamesOf (.type "object") = pure [] := by kernel_rfl
theorem kf14 : Builtin.Slots.givesDict (.type "object") = pure false := by kernel_rfl
theorem kf15 : Builtin.Slots.givesWeak (.type "object") = pure false := by kernel_rfl
theorem kf16 : Builtin.Slots.varSize (.type "object") = pure false := by kernel_rfl
theorem kf17 : isSubtype (.type "list") (.type "str") = pure false := by kernel_rfl
end Mine
set_option Elab.async false
set_option maxRecDepth 100000
set_option linter.unusedVariables false
namespace Mine
open PySem PySem.W PyProof.Rows PySem.Calls SeqAt
set_option maxHeartbeats 4000000
local macro_rules | `(tactic| o_shape) => `(tactic| first
  | with_reducible (first
      | refine wpAny_bind ?_ | refine wpAny_pure ?_ | refine wpAny_holding ?_ | refine wpAny_rule ?_ | refine wpAny_mkInt' ?_ | refine wpAny_mkStr' ?_ | refine wpAny_fresh' ?_ | refine wpAny_alloc' ?_
      | refine wpAny_typeOf (by assumption) ?_ | refine wpAny_of_eq (by assumption) ?_ | refine wp_iff (by assumption) ?_ | refine wp_ift (by assumption) ?_ | refine wpAny_load' (by assumption) ?_ | refine wpAny_loadPart' (by assumption) ?_)
  | wp_delta
  | (with_reducible apply wpAny_ite_false); focus (rfl; done)
  | (with_reducible apply wpAny_ite_true); focus (rfl; done))

noncomputable abbrev kB : List Value := (if ((some #[Value.type "object"] : Option (Array Value)).getD #[]).toList.isEmpty = true then [Value.type "object"] else ((some #[Value.type "object"] : Option (Array Value)).getD #[]).toList)
theorem wp_for1A {M : Model} {A : Around} {E : Value → Shared → Prop} {s : Shared} {α β : Type} {x : α} {f : α → β → Sem (ForInStep β)} {b : β} {Q : β → Shared → Prop} (h : wpAny M A (f x b) (fun r s' => match r with | .yield b' => Q b' s' | .done b' => Q b' s') E s) : wpAny M A (forIn #[x] b f) Q E s := by
  rw [← Array.forIn_toList]
  exact wp_for1 h
theorem readSlots {prog : Program} {w : World} {A : Around} {Q : Builtin.Slots.Plan → Shared → Prop} {E : Value → Shared → Prop} {h : Heap} {g : Array GenState} {d : Drawn} {t : Nat} {os : OsState}
   {sl : Addr} {to_ : Tok} {e0 : Nat} {es : Array DictEntry} {en : DictEntry}
   (hsl : h.get? sl = some ⟨.type "list", none, .seq #[.str "obj" to_] e0, #[]⟩) (hf : es.find? (·.key.isStr "__slots__") = some en) (hv : en.val = .ref sl) (ha : es.any (·.key.isStr "obj") = false)
   (hq : ∀ h', (∀ b o, h.get? b = some o → h'.get? b = some o) → Q ⟨["obj"], false, false, []⟩ ⟨h', g, d, t, os⟩) :
   wpAny (model prog w) A (Builtin.Slots.read "K" kB es) Q E ⟨h, g, d, t, os⟩ := by
  have e2 := kf12
  have e3 := kf13
  have e4 := kf14
  have e5 := kf15
  have e6 := kf16
  unfold Builtin.Slots.read
  iterate 11 o_shape
  rw [hf]
  dsimp only
  rw [hv]
  iterate 9 o_shape
  refine wpAny_collect_seq sl (.inl rfl) hsl rfl rfl (fun h' hk => ?_)
  iterate 16 o_shape
  rw [show Builtin.Slots.isIdentifier (Str.ofString "obj") = some true from by kernel_rfl]
  have c1 : (Str.ofString "obj" == Str.ofString "__dict__") = false := by kernel_rfl
  have c2 : (Str.ofString "obj" == Str.ofString "__weakref__") = false := by kernel_rfl
  have c3 : (Str.ofString "obj" == Str.ofString "__del__") = false := by kernel_rfl
  iterate 11 o_shape
  refine wp_for1A (x := Str.ofString "obj") ?_
  have c4 : Builtin.Slots.mangle (Str.ofString "K") (Str.ofString "obj") = Str.ofString "obj" := by kernel_rfl
  rw [c4]
  have c5 : ((es.any fun x => x.key.isStr (Str.ofString "obj")) && !(([Str.ofString "__qualname__", Str.ofString "__classcell__", Str.ofString "__classdictcell__"] : List Str).contains (Str.ofString "obj"))) = false := by
    rw [ha]; rfl
  iterate 5 o_shape
  refine wp_for1 (x := Value.type "object") ?_
  iterate 3 o_shape
  exact hq _ hk
end Mine
set_option Elab.async false
set_option maxRecDepth 100000
set_option linter.unusedVariables false
namespace Mine
open PySem PySem.W PyProof.Rows PySem.Calls SeqAt
open PySem.W.X (Mem)
set_option maxHeartbeats 4000000
local macro_rules | `(tactic| o_shape) => `(tactic| first
  | with_reducible (first
      | refine wpAny_bind ?_ | refine wpAny_pure ?_ | refine wpAny_holding ?_ | refine wpAny_rule ?_ | refine wpAny_mkInt' ?_ | refine wpAny_mkStr' ?_ | refine wpAny_fresh' ?_
      | refine wpAny_typeOf (by assumption) ?_ | refine wpAny_of_eq (by assumption) ?_ | refine wp_iff (by assumption) ?_ | refine wp_ift (by assumption) ?_ | refine wpAny_load' (by assumption) ?_ | refine wpAny_loadPart' (by assumption) ?_)
  | wp_delta
  | (with_reducible apply wpAny_ite_false); focus (rfl; done)
  | (with_reducible apply wpAny_ite_true); focus (rfl; done))

section
variable {M : Model} {A : Around} {E : Value → Shared → Prop} {h₀ h : Heap} {g : Array GenState} {d : Drawn} {t : Nat} {os : OsState} {news : List (Addr × Obj)}
theorem m_alloc {o : Obj} {Q : Addr → Shared → Prop} (D : Mem h₀ h [] news) (hf : o.isFreed = false) (hq : ∀ a h', Mem h₀ h' [] ((a, o) :: news) → Q a ⟨h', g, d, t, os⟩) : wpAny M A (alloc o) Q E ⟨h, g, d, t, os⟩ :=
  wpAny_alloc (hq _ _ (D.alloc hf))
theorem m_newObj {T : String} {data : Data} {dd : Option Addr} {Q : Value → Shared → Prop} (D : Mem h₀ h [] news) (hd : sizeOk data) (hf : (⟨.type T, dd, data, #[]⟩ : Obj).isFreed = false)
    (hq : ∀ a h', Mem h₀ h' [] ((a, ⟨.type T, dd, data, #[]⟩) :: news) → Q (.ref a) ⟨h', g, d, t, os⟩) : wpAny M A (newObj (.type T) data dd) Q E ⟨h, g, d, t, os⟩ :=
  wpAny_newObj_type (hq _ _ (D.alloc hf)) hd
theorem m_upd {a : Addr} {q : Option Value} {f : Obj → Obj} {o : Obj} {Q : Unit → Shared → Prop} (D : Mem h₀ h [] news) (i : Nat) (hi : news[i]? = some (a, o)) (hf : (f o).isFreed = false)
    (hq : ∀ h', Mem h₀ h' [] (news.set i (a, f o)) → Q () ⟨h', g, d, t, os⟩) : wpAny M A (updatePart a q f) Q E ⟨h, g, d, t, os⟩ :=
  wpAny_updatePart' (D.at i a o hi) (hq _ (D.update hi hf))
theorem m_setSlot {a : Addr} {i : Nat} {v : Option Value} {o o' : Obj} {Q : Unit → Shared → Prop} (D : Mem h₀ h [] news) (j : Nat) (hi : news[j]? = some (a, o)) (hl : decide (i ≥ sizeLine) = false) (he : ({ o with slots := (o.slots ++ Array.replicate (i + 1 - o.slots.size) none).setIfInBounds i v } : Obj) = o') (hf : o'.isFreed = false)
    {news' : List (Addr × Obj)} (hn : news.set j (a, o') = news') (hq : ∀ h', Mem h₀ h' [] news' → Q () ⟨h', g, d, t, os⟩) : wpAny M A (setSlotAt a i v) Q E ⟨h, g, d, t, os⟩ := by
  unfold setSlotAt
  subst he hn
  rw [if_neg (of_decide_eq_false hl)]
  exact m_upd D j hi hf hq
theorem m_updCls {a : Addr} {f : ClassData → ClassData} {o o' : Obj} {cd : ClassData} {Q : Unit → Shared → Prop} (D : Mem h₀ h [] news) (j : Nat) (hi : news[j]? = some (a, o)) (hc : o.data = .cls cd) (he : Obj.mapCls f o = o') (hf : o'.isFreed = false) (hp : o'.data.pastItsLine = none)
    {news' : List (Addr × Obj)} (hn : news.set j (a, o') = news') (hq : ∀ h', Mem h₀ h' [] news' → Q () ⟨h', g, d, t, os⟩) : wpAny M A (updateCls a f) Q E ⟨h, g, d, t, os⟩ := by
  unfold updateCls
  subst he hn
  refine wpAny_bind (wpAny_load' (D.at j a o hi) ?_)
  rw [hc]
  refine wpAny_bind (wpAny_update' (D.at j a o hi) ?_)
  have D' := D.update (f := Obj.mapCls f) hi hf
  have hl : (news.set j (a, Obj.mapCls f o))[j]? = some (a, Obj.mapCls f o) := by
    obtain ⟨hlt, _⟩ := List.getElem?_eq_some_iff.mp hi
    rw [List.getElem?_set_self hlt]
  exact wpAny_lookBehind (D'.at j _ _ hl) hp (hq _ D')
theorem m_more {h' : Heap} (D : Mem h₀ h [] news) (k : ∀ b o, h.get? b = some o → h'.get? b = some o) : Mem h₀ h' [] news :=
  ⟨fun b o e q => k b o (D.keep b o e q), fun _ hp => (nomatch hp), D.cd, fun p hp => ⟨k _ _ (D.nw p hp).1, (D.nw p hp).2⟩, D.ord⟩
theorem m_old {b : Addr} {o : Obj} (D : Mem h₀ h [] news) (e : h₀.get? b = some o) : h.get? b = some o := D.keep b o e (by unfold PySem.W.X.away; rw [List.all_nil, Bool.or_true])
end

section
variable {prog : Program} {w : World} {A : Around} {E : Value → Shared → Prop} {h₀ h : Heap} {g : Array GenState} {d : Drawn} {t : Nat} {os : OsState} {news : List (Addr × Obj)}
theorem m_nsGet {a : Addr} {o : Obj} {name : Str} {v : Option Value} {Q : Option Value → Shared → Prop} (ho : h.get? a = some o) (hv : nsLook name o = pure v) (hq : Q v ⟨h, g, d, t, os⟩) : wpAny (model prog w) A (nsGet a name) Q E ⟨h, g, d, t, os⟩ := by
  unfold nsGet
  refine wpAny_bind (wpAny_loadPart' ho ?_)
  exact wpAny_of_eq hv hq
theorem m_nsDel {a : Addr} {o o' : Obj} {name : Str} {Q : Bool → Shared → Prop} (D : Mem h₀ h [] news) (j : Nat) (hi : news[j]? = some (a, o)) (hh : nsHas name o = pure true) (he : Obj.dropName name o = o') (hf : o'.isFreed = false)
    {news' : List (Addr × Obj)} (hn : news.set j (a, o') = news') (hq : ∀ h', Mem h₀ h' [] news' → Q true ⟨h', g, d, t, os⟩) : wpAny (model prog w) A (nsDel a name) Q E ⟨h, g, d, t, os⟩ := by
  unfold nsDel
  subst he hn
  refine wpAny_bind (wpAny_loadPart' (D.at j a o hi) ?_)
  rw [hh]
  refine wpAny_bind (wpAny_pure (wpAny_ite_true rfl ?_))
  exact wpAny_bind (m_upd D j hi hf fun h' D' => wpAny_pure (hq h' D'))
end

theorem wp_forSame {M : Model} {A : Around} {E : Value → Shared → Prop} {s : Shared} {α β : Type} {l : List α} {f : α → β → Sem (ForInStep β)} {b : β} {Q : β → Shared → Prop} (hf : ∀ x ∈ l, wpAny M A (f x b) (fun r s' => r = .yield b ∧ s' = s) E s) (hq : Q b s) : wpAny M A (forIn l b f) Q E s := by
  induction l with
  | nil => rw [List.forIn_nil]; exact wpAny_pure hq
  | cons x l ih =>
    rw [List.forIn_cons]
    refine wpAny_bind (wpAny_mono (hf x (.head _)) (fun r s' q => ?_) fun _ _ q => q)
    obtain ⟨rfl, rfl⟩ := q
    exact ih (fun y hy => hf y (.tail _ hy))

theorem kf18 : Builtin.mroHook? (.type "type") = pure none := by kernel_rfl
theorem kf19 : Builtin.linearize kB mroOf = pure [.type "object"] := by kernel_rfl
theorem m_mroK {M : Model} {A : Around} {E : Value → Shared → Prop} {h : Heap} {g : Array GenState} {d : Drawn} {t : Nat} {os : OsState} {ka : Addr} {o : Obj} {cd : ClassData} {Q : List Value → Shared → Prop} (hk : h.get? ka = some o) (hd : o.data = .cls cd) (hq : Q cd.mro ⟨h, g, d, t, os⟩) : wpAny M A (mroOf (.ref ka)) Q E ⟨h, g, d, t, os⟩ := by
  show wpAny M A (do return (← classData ka).mro) Q E _
  unfold classData
  refine wpAny_bind (wpAny_bind (wpAny_load' hk ?_))
  rw [hd]
  exact wpAny_pure (wpAny_pure hq)
theorem m_lookK {prog : Program} {w : World} {A : Around} {E : Value → Shared → Prop} {h : Heap} {g : Array GenState} {d : Drawn} {t : Nat} {os : OsState} {ka : Addr} {o on : Obj} {cd : ClassData} {name : Str} {v y : Option Value} {Q : Option Value → Shared → Prop}
    (hk : h.get? ka = some o) (hd : o.data = .cls cd) (hm : cd.mro = [.ref ka, .type "object"]) (hn : h.get? cd.ns = some on) (hl : nsLook name on = pure v) (hB : typeLookup (.type "object") name = pure y)
    (hq : Q (match v with | some v => some v | none => y) ⟨h, g, d, t, os⟩) : wpAny (model prog w) A (typeLookup (.ref ka) name) Q E ⟨h, g, d, t, os⟩ := by
  have hrest : lookupAlong [.type "object"] name = pure y := by rw [typeLookup_eq, kf6] at hB; exact hB
  rw [typeLookup_eq]
  refine wpAny_bind (m_mroK hk hd ?_)
  rw [hm, lookupAlong_cons]
  refine wpAny_bind ?_
  show wpAny _ _ (do nsGet (← classData ka).ns name) _ _ _
  unfold classData
  refine wpAny_bind (wpAny_bind (wpAny_load' hk ?_))
  rw [hd]
  refine wpAny_pure (m_nsGet hn hl ?_)
  cases v with
  | some v => exact wpAny_pure hq
  | none => rw [hrest]; exact wpAny_pure hq
theorem kf20 : Bind.madeBy (.type "object") = pure (some "object.__new__") := by kernel_rfl
theorem kf21 : typeLookup (.type "object") "__new__" = pure (some (.builtin "object.__new__")) := by rw [typeLookup_type, builtinLookup_eq_fast]; kernel_rfl
noncomputable abbrev kC1 (ka na : Addr) (qn : Str) (sl : Array (Option Value)) : Obj := { cls := .type "type", data := .cls { name := "K", bases := [.type "object"], mro := [.ref ka, .type "object"], ns := na, qualname := qn }, slots := sl }
noncomputable abbrev kC0 (na : Addr) (qn : Str) (sl : Array (Option Value)) : Obj := { cls := .type "type", data := .cls { name := "K", bases := [.type "object"], mro := [], ns := na, qualname := qn }, slots := sl }
noncomputable abbrev kEnts2 (h : Str → Int) (kt : Str → Tok) (vMod vLine vSlots fI fL fG fE fLe fGe vSt : Value) : List DictEntry :=
  [⟨h "__module__", .str "__module__" (kt "__module__"), vMod⟩,
   ⟨h "__firstlineno__", .str "__firstlineno__" (kt "__firstlineno__"), vLine⟩, ⟨h "__slots__", .str "__slots__" (kt "__slots__"), vSlots⟩,
   ⟨h "__init__", .str "__init__" (kt "__init__"), fI⟩, ⟨h "__lt__", .str "__lt__" (kt "__lt__"), fL⟩, ⟨h "__gt__", .str "__gt__" (kt "__gt__"), fG⟩,
   ⟨h "__eq__", .str "__eq__" (kt "__eq__"), fE⟩, ⟨h "__le__", .str "__le__" (kt "__le__"), fLe⟩, ⟨h "__ge__", .str "__ge__" (kt "__ge__"), fGe⟩,
   ⟨h "__hash__", .str "__hash__" (kt "__hash__"), .none⟩, ⟨h "__static_attributes__", .str "__static_attributes__" (kt "__static_attributes__"), vSt⟩]

end Mine
set_option Elab.async false
set_option maxRecDepth 100000
set_option linter.unusedVariables false
namespace Mine
open PySem PySem.W PyProof.Rows PySem.Calls SeqAt
open PySem.W.X (Mem)
set_option maxHeartbeats 4000000
local macro_rules | `(tactic| o_shape) => `(tactic| first
  | with_reducible (first
      | refine wpAny_bind ?_ | refine wpAny_pure ?_ | refine wpAny_holding ?_ | refine wpAny_rule ?_ | refine wpAny_mkInt' ?_ | refine wpAny_mkStr' ?_ | refine wpAny_fresh' ?_
      | refine wpAny_typeOf (by assumption) ?_ | refine wpAny_of_eq (by assumption) ?_ | refine wp_iff (by assumption) ?_ | refine wp_ift (by assumption) ?_ | refine wpAny_load' (by assumption) ?_ | refine wpAny_loadPart' (by assumption) ?_)
  | wp_delta
  | (with_reducible apply wpAny_ite_false); focus (rfl; done)
  | (with_reducible apply wpAny_ite_true); focus (rfl; done))


section
variable {prog : Program} {w : World} {A : Around} {E : Value → Shared → Prop} {h₀ h : Heap} {g : Array GenState} {d : Drawn} {t : Nat} {os : OsState} {news : List (Addr × Obj)}
theorem m_slotAt {M : Model} {a : Addr} {i : Nat} {o : Obj} {v : Option Value} {Q : Option Value → Shared → Prop} (ho : h.get? a = some o) (hv : (o.slots[i]?).join = v) (hq : Q v ⟨h, g, d, t, os⟩) : wpAny M A (slotAt a i) Q E ⟨h, g, d, t, os⟩ := by
  unfold slotAt
  subst hv
  exact wpAny_bind (wpAny_loadPart' ho (wpAny_pure hq))
theorem m_refresh {ka : Addr} {o on : Obj} {cd : ClassData} {Q : Unit → Shared → Prop} {x : Value}
    (hk : h.get? ka = some o) (hd : o.data = .cls cd) (hm : cd.mro = [.ref ka, .type "object"]) (hn : h.get? cd.ns = some on) (hl : nsLook "__new__" on = pure none) (hs : (o.slots[4]?).join = some x) (hq : Q () ⟨h, g, d, t, os⟩) :
    wpAny (model prog w) A (Bind.refreshMaker ka) Q E ⟨h, g, d, t, os⟩ := by
  unfold Bind.refreshMaker
  refine wpAny_bind (m_slotAt hk hs ?_)
  refine wpAny_ite_false rfl ?_
  refine wpAny_bind (m_lookK hk hd hm hn hl kf21 ?_)
  have e1 : (!("object.__new__".endsWith ".__new__")) = false := by kernel_rfl
  refine wp_iff e1 ?_
  exact wpAny_pure hq
theorem m_nsSetByValue {a : Addr} {o o' : Obj} {es : Array DictEntry} {n : Nat} {name : Str} {v : Value} {Q : Unit → Shared → Prop} (D : Mem h₀ h [] news) (j : Nat) (hi : news[j]? = some (a, o)) (hd : o.data = .dict es n) (hz : (decide (es.size > sizeLine) && noSuchName name es) = false)
    (hr : aRefKeyMayBeTheName name es = false) (he : Obj.putName name (hashStr w name) (.str name t) v o = o') (hf : o'.isFreed = false) {news' : List (Addr × Obj)} (hn : news.set j (a, o') = news')
    (hq : ∀ h', Mem h₀ h' [] news' → Q () ⟨h', g, d, t + 1, os⟩) : wpAny (model prog w) A (nsSetByValue a name v) Q E ⟨h, g, d, t, os⟩ := by
  subst he hn
  unfold nsSetByValue nsSet
  refine wpAny_bind (wpAny_loadPart' (D.at j a o hi) ?_)
  rw [hd]
  dsimp only
  rw [hz, if_neg Bool.false_ne_true]
  unfold strHash
  refine wpAny_bind (wpAny_bind (wpAny_askSetting (wpAny_pure ?_)))
  refine wpAny_bind (wpAny_mkText ?_)
  refine wpAny_bind (wpAny_loadPart' (D.at j a o hi) ?_)
  rw [hd]
  dsimp only
  rw [hr, if_neg Bool.false_ne_true]
  exact m_upd D j hi hf hq
noncomputable abbrev mdObj (ka : Addr) (t : Tok) : Obj := { cls := .type "member_descriptor", data := .fields #[.str "obj" t, .ref ka, .builtin "proto.slot", .builtin "proto.slot#set", rawInt 0] }
theorem m_install {ka na : Addr} {o o' on : Obj} {on' : Addr → Obj} {es : Array DictEntry} {n : Nat} {cd : ClassData} {Q : Unit → Shared → Prop} (D : Mem h₀ h [] news) (hk : news[0]? = some (ka, o)) (hn : news[1]? = some (na, on)) (hd : on.data = .dict es n)
    (hl : nsLook "obj" on = pure none) (hz : (decide (es.size > sizeLine) && noSuchName "obj" es) = false) (hr : aRefKeyMayBeTheName "obj" es = false) (hc : o.data = .cls cd)
    (he : ∀ md, Obj.putName "obj" (hashStr w "obj") (.str "obj" (t + 1)) (.ref md) on = on' md) (hf : ∀ md, (on' md).isFreed = false)
    (hu : Obj.mapCls (fun (c : ClassData) => { c with hasDict := false, slotNames := (([] : List Str) ++ (["obj"] : List Str)) }) o = o') (huf : o'.isFreed = false) (hup : o'.data.pastItsLine = none)
    (hq : ∀ md h', Mem h₀ h' [] (((((md, mdObj ka t) :: news).set 2 (na, on' md))).set 1 (ka, o')) → Q () ⟨h', g, d, t + 2, os⟩) :
    wpAny (model prog w) A (Builtin.Slots.install (.ref ka) na kB { names := ["obj"], dict := false, weak := false }) Q E ⟨h, g, d, t, os⟩ := by
  unfold Builtin.Slots.install
  dsimp only
  iterate 1 o_shape
  refine wp_for1 (x := Str.ofString "obj") ?_
  o_shape
  refine m_nsGet (D.at 1 _ _ hn) hl ?_
  refine wpAny_ite_true rfl ?_
  iterate 3 o_shape
  unfold newFields
  refine m_newObj D (by size_fits) rfl (fun md h1 D => ?_)
  o_shape
  refine m_nsSetByValue D 2 hn hd hz hr (he md) (hf md) rfl (fun h2 D => ?_)
  o_shape
  o_shape
  have e14 := kf14
  refine wp_for1 (x := Value.type "object") ?_
  iterate 5 o_shape
  exact m_updCls D 1 (by rw [List.getElem?_set_ne (by decide)]; exact hk) hc hu huf hup rfl (fun h' D => hq _ _ D)
theorem m_nsSet {a : Addr} {o o' : Obj} {es : Array DictEntry} {n : Nat} {name : Str} {v : Value} {Q : Unit → Shared → Prop} (D : Mem h₀ h [] news) (j : Nat) (hi : news[j]? = some (a, o)) (hd : o.data = .dict es n)
    (hr : aRefKeyMayBeTheName name es = false) (he : Obj.putName name (hashStr w name) (.str name t) v o = o') (hf : o'.isFreed = false) {news' : List (Addr × Obj)} (hn : news.set j (a, o') = news')
    (hq : ∀ h', Mem h₀ h' [] news' → Q () ⟨h', g, d, t + 1, os⟩) : wpAny (model prog w) A (nsSet a name v) Q E ⟨h, g, d, t, os⟩ := by
  subst he hn
  unfold nsSet strHash
  refine wpAny_bind (wpAny_bind (wpAny_askSetting (wpAny_pure ?_)))
  refine wpAny_bind (wpAny_mkText ?_)
  refine wpAny_bind (wpAny_loadPart' (D.at j a o hi) ?_)
  rw [hd]
  dsimp only
  rw [hr, if_neg Bool.false_ne_true]
  exact m_upd D j hi hf hq

noncomputable def PlainV (h : Heap) (v : Value) : Prop := (∀ i, v ≠ .builtin i) ∧ ∃ T ∈ ["str", "int", "list", "function", "NoneType", "tuple", "member_descriptor"], ∀ g d t os, (⟨h, g, d, t, os⟩ : Shared).TypeIs v T
theorem kf22 : ∀ T ∈ ["str", "int", "list", "function", "NoneType", "tuple", "member_descriptor"], typeLookup (.type T) "__set_name__" = pure none := by
  intro T hT
  simp only [List.mem_cons, List.not_mem_nil, or_false] at hT
  rcases hT with rfl | rfl | rfl | rfl | rfl | rfl | rfl <;> (rw [typeLookup_type, builtinLookup_eq_fast]; kernel_rfl)
theorem m_plain {v : Value} {Q : Option Value → Shared → Prop} (hv : PlainV h v) (hq : Q none ⟨h, g, d, t, os⟩) : wpAny (model prog w) A (specialOf v "__set_name__") Q E ⟨h, g, d, t, os⟩ := by
  obtain ⟨hb, T, hT, ht⟩ := hv
  unfold specialOf
  refine wpAny_bind (wpAny_typeOf (ht _ _ _ _) ?_)
  exact wpAny_of_eq (kf22 T hT) hq
theorem PlainV.notLaid {v k : Value} (hv : PlainV h v) : Builtin.laidUnderItsOwnName k v = false := by
  unfold Builtin.laidUnderItsOwnName Builtin.heldUnderItsOwnName
  split
  · split
    · rename_i i; exact absurd rfl (hv.1 i)
    · rfl
  · rfl
theorem wp_forSameA {M : Model} {A : Around} {E : Value → Shared → Prop} {s : Shared} {α β : Type} {l : Array α} {f : α → β → Sem (ForInStep β)} {b : β} {Q : β → Shared → Prop} (hf : ∀ x ∈ l.toList, wpAny M A (f x b) (fun r s' => r = .yield b ∧ s' = s) E s) (hq : Q b s) : wpAny M A (forIn l b f) Q E s := by
  rw [← Array.forIn_toList]
  exact wp_forSame hf hq
end
end Mine
set_option Elab.async false
set_option maxRecDepth 100000
set_option linter.unusedVariables false
namespace Mine
open PySem PySem.W PyProof.Rows PySem.Calls SeqAt
open PySem.W.X
set_option maxHeartbeats 8000000
theorem oldOf {h₀ h : Heap} {news : List (Addr × Obj)} (D : Mem h₀ h [] news) : ∀ b o, h₀.get? b = some o → h.get? b = some o := fun b o e => m_old D e
noncomputable abbrev Calm (s s' : Shared) : Prop := (∃ h tk, s' = ⟨h, s.gens, s.drawn, tk, s.os⟩) ∧ ∀ b o, s.heap.get? b = some o → s'.heap.get? b = some o
section
local macro_rules | `(tactic| x_close) => `(tactic| first
  | exact ⟨_, rfl, ⟨⟨_, _, rfl⟩, oldOf (by assumption)⟩, (Mem.nw (by assumption) (_, _) (List.Mem.head _)).1⟩
  | exact ⟨⟨_, _, rfl⟩, oldOf (by assumption)⟩
  | exact ⟨⟨_, _, rfl⟩, fun _ _ e => e⟩)
set_option maxHeartbeats 0 in
theorem isubC {prog : Program} {w : World} {A : Around} {s : Shared} {ka na : Nat} {qn : Str} {sl : Array (Option Value)} (hk : s.heap.get? ka = some ⟨.type "type", none, .cls { name := "K", bases := [.type "object"], mro := [.ref ka, .type "object"], ns := na, qualname := qn, hasDict := false, slotNames := ["obj"] }, sl⟩) :
    wpAny (model prog w) A (call (.builtin "classmethod_descriptor.__get__") [.builtin "object.__init_subclass__", .none, .ref ka]) (fun v s' => ∃ f, v = .ref f ∧ Calm s s' ∧ s'.heap.get? f = some ⟨.type "builtin_function_or_method", none, .fields #[.builtin "object.__init_subclass__", .ref ka], #[]⟩) (fun _ _ => False) s := by
  x_run
set_option maxHeartbeats 0 in
theorem isubS {prog : Program} {w : World} {A : Around} {s : Shared} {ka na : Nat} {qn : Str} {sl : Array (Option Value)} (hk : s.heap.get? ka = some ⟨.type "type", none, .cls { name := "K", bases := [.type "object"], mro := [.ref ka, .type "object"], ns := na, qualname := qn, hasDict := false, slotNames := ["obj"] }, sl⟩) :
    wpAny (model prog w) A (call (.type "super") [.ref ka, .ref ka]) (fun v s' => ∃ so, v = .ref so ∧ Calm s s' ∧ s'.heap.get? so = some ⟨.type "super", none, .fields #[.ref ka, .ref ka, .ref ka], #[]⟩) (fun _ _ => False) s := by
  x_run
set_option maxHeartbeats 0 in
theorem isubD {prog : Program} {w : World} {A : Around} {s : Shared} {f ka na : Nat} {sl : Array (Option Value)} (hk : s.heap.get? ka = some ⟨.type "type", none, .cls { name := "K", bases := [.type "object"], mro := [.ref ka, .type "object"], ns := na, qualname := "cmp_to_key.<locals>.K", hasDict := false, slotNames := ["obj"] }, sl⟩)
    (hf : s.heap.get? f = some ⟨.type "builtin_function_or_method", none, .fields #[.builtin "object.__init_subclass__", .ref ka], #[]⟩) :
    wpAny (model prog w) A (call (.ref f) []) (fun v s' => Calm s s') (fun _ _ => False) s := by
  x_run
end
section
variable {prog : Program} {w : World} {A : Around} {E : Value → Shared → Prop} {h : Heap} {g : Array GenState} {d : Drawn} {t : Nat} {os : OsState}
local macro_rules | `(tactic| o_shape) => `(tactic| first
  | with_reducible (first
      | refine wpAny_bind ?_ | refine wpAny_pure ?_ | refine wpAny_holding ?_ | refine wpAny_rule ?_ | refine wpAny_mkInt' ?_ | refine wpAny_mkStr' ?_ | refine wpAny_fresh' ?_
      | refine wpAny_typeOf (by assumption) ?_ | refine wpAny_of_eq (by assumption) ?_ | refine wp_iff (by assumption) ?_ | refine wp_ift (by assumption) ?_ | refine wpAny_load' (by assumption) ?_ | refine wpAny_loadPart' (by assumption) ?_)
  | wp_delta
  | (with_reducible apply wpAny_ite_false); focus (rfl; done)
  | (with_reducible apply wpAny_ite_true); focus (rfl; done))
theorem kf32 : classOwn (.type "object") "__init_subclass__" = pure (some (.builtin "object.__init_subclass__")) := by kernel_rfl
theorem kf33 : typeOf (.builtin "object.__init_subclass__") = pure (.type "classmethod_descriptor") := by kernel_rfl
theorem kf34 : typeLookup (.type "classmethod_descriptor") "__get__" = pure (some (.builtin "classmethod_descriptor.__get__")) := by rw [typeLookup_type, builtinLookup_eq_fast]; kernel_rfl
theorem m_field {a : Addr} {o : Obj} {vs : Array Value} {i : Nat} {v : Value} {Q : Value → Shared → Prop} (ho : h.get? a = some o) (hd : o.data = .fields vs) (hv : vs[i]? = some v) (hq : Q v ⟨h, g, d, t, os⟩) : wpAny (model prog w) A (field (.ref a) i) Q E ⟨h, g, d, t, os⟩ := by
  unfold field fieldsOf
  refine wpAny_bind (wpAny_bind (wpAny_load' ho ?_))
  rw [hd]
  refine wpAny_pure ?_
  rw [hv]
  exact wpAny_pure hq
theorem isubG {ka na so : Addr} {qn : Str} {sl : Array (Option Value)} {u : Tok} {Q : PySem.Fin → Shared → Prop}
    (hk : h.get? ka = some ⟨.type "type", none, .cls { name := "K", bases := [.type "object"], mro := [.ref ka, .type "object"], ns := na, qualname := qn, hasDict := false, slotNames := ["obj"] }, sl⟩)
    (hso : h.get? so = some ⟨.type "super", none, .fields #[.ref ka, .ref ka, .ref ka], #[]⟩) (hno : Looks (model prog w) h (opaqueClassAbove (.ref ka)) none)
    (hq : ∀ f s', Calm ⟨h, g, d, t, os⟩ s' → s'.heap.get? f = some ⟨.type "builtin_function_or_method", none, .fields #[.builtin "object.__init_subclass__", .ref ka], #[]⟩ → Q (.done (.ret (.ref f))) s') :
    wpAny (model prog w) A (Builtin.«super.__getattribute__» ⟨[.ref so, .str "__init_subclass__" u], []⟩) Q E ⟨h, g, d, t, os⟩ := by
  unfold Builtin.«super.__getattribute__»
  iterate 10 o_shape
  refine m_field hso rfl (v := .ref ka) rfl ?_
  o_shape
  refine m_field hso rfl (v := .ref ka) rfl ?_
  o_shape
  refine m_field hso rfl (v := .ref ka) rfl ?_
  iterate 2 o_shape
  refine ks_wpAny_notOpaque hno ?_
  iterate 2 o_shape
  o_shape
  refine m_mroK hk rfl ?_
  show wpAny _ _ (have after : List Value := List.drop 1 (List.dropWhile (fun x => x != Value.ref ka) [Value.ref ka, Value.type "object"]); _) _ _ _
  rw [show List.drop 1 (List.dropWhile (fun x => x != Value.ref ka) [Value.ref ka, Value.type "object"]) = [Value.type "object"] from by simp]
  refine wpAny_bind (wp_for1 (x := Value.type "object") ?_)
  have e1 := kf32
  have e2 := kf33
  have e3 := kf34
  iterate 8 o_shape
  rw [show (if (Value.ref ka == Value.ref ka) = true then Value.none else Value.ref ka) = Value.none from if_pos (beq_self_eq_true _)]
  refine wpAny_mono (isubC hk) (fun v s' hv => ?_) (fun _ _ z => z.elim)
  obtain ⟨f, rfl, c, hf⟩ := hv
  exact wpAny_bind (wpAny_pure (wpAny_pure (wpAny_pure (hq _ _ c hf))))
/-- the walk to object.__init_subclass__ -/
theorem isub {ka na : Addr} {sl : Array (Option Value)} {Q : Unit → Shared → Prop}
    (hk : h.get? ka = some ⟨.type "type", none, .cls { name := "K", bases := [.type "object"], mro := [.ref ka, .type "object"], ns := na, qualname := "cmp_to_key.<locals>.K", hasDict := false, slotNames := ["obj"] }, sl⟩)
    (hno : Looks (model prog w) h (opaqueClassAbove (.ref ka)) none)
    (hq : ∀ s', Calm ⟨h, g, d, t, os⟩ s' → Q () s') :
    wpAny (model prog w) A (do
      let sup ← call (.type "super") [.ref ka, .ref ka]
      let f ← holding [sup] (getAttr sup (Str.ofString "__init_subclass__"))
      let _ ← call f [] []
      pure ()) Q E ⟨h, g, d, t, os⟩ := by
  refine wpAny_bind (wpAny_mono (isubS hk) (fun v s' hv => ?_) (fun _ _ z => z.elim))
  obtain ⟨so, rfl, ⟨⟨h1, t1, rfl⟩, k1⟩, hso⟩ := hv
  have hlk := F.ks_slot_super_ga.lookup
  have hT : ∀ t', (⟨h1, g, d, t', os⟩ : Shared).TypeIs (.ref so) "super" := fun _ => ⟨_, hso, rfl⟩
  unfold getAttr getAttrBy
  refine wpAny_bind (wpAny_holding (wpAny_bind (wpAny_mkText (wpAny_holding (wpAny_bind (wpAny_typeOf (hT _) (wpAny_bind (wpAny_of_eq hlk ?_))))))))
  show wpAny _ _ (getAttrByItsOwn (.ref so) (.str "__init_subclass__" t1) (.type "super") (.builtin "super.__getattribute__") true false) _ _ _
  unfold getAttrByItsOwn hookBefore callGetattribute boundAndCalled
  refine wpAny_bind (wpAny_of_eq (show (if onTheHeap (.type "super") then typeLookup (.type "super") "__getattr__" else pure none) = pure none from rfl) ?_)
  refine wpAny_bind (wpAny_attempt (wpAny_holding ?_))
  show wpAny _ _ (bindSpecial (.builtin "super.__getattribute__") (.ref so) >>= _) _ _ _
  refine wpAny_bind (wpAny_of_eq (F.ks_slot_super_ga.bind _) ?_)
  refine wpAny_mono (Q := fun v s' => ∃ f, v = .ref f ∧ Calm ⟨h1, g, d, t1 + 1, os⟩ s' ∧ s'.heap.get? f = some ⟨.type "builtin_function_or_method", none, .fields #[.builtin "object.__init_subclass__", .ref ka], #[]⟩) (E := fun _ _ => False)
    (wpAny_call_entry F.ks_slot_super_ga (hT _) F.ks_entry_super_ga (isubG (k1 _ _ hk) hso (hno.keeps k1) fun f s' c hf => ⟨_, rfl, f, rfl, c, hf⟩) (F.ks_gaArgs_super _ _)) (fun v s' hv => ?_) fun _ _ z => z.elim
  obtain ⟨f, rfl, ⟨⟨h2, t2, rfl⟩, k2⟩, hf⟩ := hv
  refine wpAny_pure ?_
  refine wpAny_bind (wpAny_mono (isubD (k2 _ _ (k1 _ _ hk)) hf) (fun v s' hv => ?_) (fun _ _ z => z.elim))
  obtain ⟨⟨h3, t3, rfl⟩, k3⟩ := hv
  exact wpAny_pure (hq _ ⟨⟨_, _, rfl⟩, fun b o e => k3 _ _ (k2 _ _ (k1 _ _ e))⟩)
end
end Mine
set_option Elab.async false
set_option maxRecDepth 100000
set_option linter.unusedVariables false
namespace Mine
open PySem PySem.W PyProof.Rows PySem.Calls SeqAt
open PySem.W.X (Mem)
set_option maxHeartbeats 4000000
local macro_rules | `(tactic| o_shape) => `(tactic| first
  | with_reducible (first
      | refine wpAny_bind ?_ | refine wpAny_pure ?_ | refine wpAny_holding ?_ | refine wpAny_rule ?_ | refine wpAny_mkInt' ?_ | refine wpAny_mkStr' ?_ | refine wpAny_fresh' ?_
      | refine wpAny_typeOf (by assumption) ?_ | refine wpAny_of_eq (by assumption) ?_ | refine wp_iff (by assumption) ?_ | refine wp_ift (by assumption) ?_ | refine wpAny_load' (by assumption) ?_ | refine wpAny_loadPart' (by assumption) ?_)
  | wp_delta
  | (with_reducible apply wpAny_ite_false); focus (rfl; done)
  | (with_reducible apply wpAny_ite_true); focus (rfl; done))

noncomputable abbrev kC2 (ka na : Addr) (qn : Str) (sl : Array (Option Value)) : Obj := { cls := .type "type", data := .cls { name := "K", bases := [.type "object"], mro := [.ref ka, .type "object"], ns := na, qualname := qn, hasDict := false, slotNames := ["obj"] }, slots := sl }
theorem kf23 : ∀ a, Builtin.noteSubclassOfBuiltin "object" a = pure () := by intro a; kernel_rfl
theorem PlainV.mono {h h' : Heap} {v : Value} (k : ∀ b o, h.get? b = some o → h'.get? b = some o) (p : PlainV h v) : PlainV h' v := by
  obtain ⟨hb, T, hT, ht⟩ := p
  refine ⟨hb, T, hT, fun g d t os => ?_⟩
  have q := ht g d t os
  cases v with
  | ref a => obtain ⟨o, ho, hc⟩ := q; exact ⟨o, k _ _ ho, hc⟩
  | _ => exact q
theorem typeNew {prog : Program} {w : World} {A : Around} {Q : PySem.Fin → Shared → Prop} {E : Value → Shared → Prop} {h : Heap} {g : Array GenState} {d : Drawn} {t : Nat} {os : OsState}
   {tn : Tok} {bt nt sl : Addr} {eb ne e0 : Nat} {hs kt vMod vLine fI fL fG fE fLe fGe vSt to_} {qn : Str} {tq : Tok}
   (hb : h.get? bt = some ⟨.type "tuple", none, .seq #[.type "object"] eb, #[]⟩)
   (hn : h.get? nt = some ⟨.type "dict", none, .dict (kEnts hs kt vMod (.str qn tq) vLine (.ref sl) fI fL fG fE fLe fGe vSt).toArray ne, #[]⟩) (hnt : (nt == sysModules) = false) (hpl : ∀ v ∈ [vMod, vLine, fI, fL, fG, fE, fLe, fGe, vSt], PlainV h v)
   (hsl : h.get? sl = some ⟨.type "list", none, .seq #[.str "obj" to_] e0, #[]⟩) (hqn : qn = "cmp_to_key.<locals>.K") (hop : ∀ C, Looks (model prog w) h (opaqueClassAbove (.ref C)) none)
   (hq : ∀ ka na md h' t', Mem h h' [] [(md, mdObj ka t), (ka, kC2 ka na "cmp_to_key.<locals>.K" #[some (.ref bt), none, some (.str "K" tn), some (.str "cmp_to_key.<locals>.K" tq), some (.builtin "object.__new__"), some (.bool false)]),
     (na, ⟨.type "dict", none, .dict (kEnts2 hs kt vMod vLine (.ref sl) fI fL fG fE fLe fGe vSt ++ ([⟨hashStr w "obj", .str "obj" (t + 1), .ref md⟩, ⟨hashStr w "__doc__", .str "__doc__" (t + 2), .none⟩] : List DictEntry)).toArray 3, #[]⟩)] →
     Q (.done (.ret (.ref ka))) ⟨h', g, d, t', os⟩) :
   wpAny (model prog w) A (Builtin.«type.__new__» ⟨[.type "type", .str "K" tn, .ref bt, .ref nt], []⟩) Q E ⟨h, g, d, t, os⟩ := by
  have e1 := kf1
  have e2 := kf2
  have e3 := kf3
  have e5 := kf5
  have e4 := kf4
  have e6 := kf6
  have e7 := kf7
  have e8 := kf8
  have e9 := kf9
  have e10 := kf10
  have e11 := kf11
  have tb : (⟨h, g, d, t, os⟩ : Shared).TypeIs (.ref bt) "tuple" := ⟨_, hb, rfl⟩
  have tnd : (⟨h, g, d, t, os⟩ : Shared).TypeIs (.ref nt) "dict" := ⟨_, hn, rfl⟩
  generalize hes : (kEnts hs kt vMod (.str qn tq) vLine (.ref sl) fI fL fG fE fLe fGe vSt).toArray = es at hn
  unfold Builtin.«type.__new__»
  iterate 55 o_shape
  iterate 15 o_shape
  refine wp_ift (Bool.or_true _) ?_
  iterate 4 o_shape
  refine readSlots (sl := sl) hsl (en := ⟨hs "__slots__", .str "__slots__" (kt "__slots__"), .ref sl⟩) (by rw [← hes]; kernel_rfl) rfl (by rw [← hes]; kernel_rfl) (fun h1 k1 => ?_)
  have D := m_more (Mem.start h) k1
  o_shape
  refine m_newObj D (by rw [← hes]; size_fits) rfl (fun na h2 D => ?_)
  iterate 1 o_shape
  refine wp_iff (by rw [← hes]; kernel_rfl) ?_
  iterate 2 o_shape
  refine wp_iff (by kernel_rfl) ?_
  iterate 2 o_shape
  refine wp_iff (by kernel_rfl) ?_
  o_shape
  refine m_nsGet (D.at 0 _ _ rfl) (v := some (.str qn tq)) (by rw [← hes]; kernel_rfl) ?_
  o_shape
  refine m_nsGet (D.at 0 _ _ rfl) (v := some (.str qn tq)) (by rw [← hes]; kernel_rfl) ?_
  iterate 6 o_shape
  refine m_nsGet (D.at 0 _ _ rfl) (v := none) (by rw [← hes]; kernel_rfl) ?_
  iterate 1 o_shape
  refine m_alloc (o := kC0 na qn #[]) D rfl (fun ka h3 D => ?_)
  iterate 3 o_shape
  refine m_setSlot D 0 rfl rfl (o' := kC0 na qn #[some (.ref bt)]) rfl rfl rfl (fun h4 D => ?_)
  iterate 1 o_shape
  refine m_setSlot D 0 rfl rfl (o' := kC0 na qn #[some (.ref bt), none, some (.str "K" tn)]) rfl rfl rfl (fun h5 D => ?_)
  iterate 2 o_shape
  refine m_setSlot D 0 rfl rfl (o' := kC0 na qn #[some (.ref bt), none, some (.str "K" tn), some (.str qn tq)]) rfl rfl rfl (fun h6 D => ?_)
  iterate 2 o_shape
  refine m_nsDel D 1 rfl (by rw [← hes]; kernel_rfl) (o' := ⟨.type "dict", none, .dict (kEnts2 hs kt vMod vLine (.ref sl) fI fL fG fE fLe fGe vSt).toArray 1, #[]⟩) (by rw [← hes]; kernel_rfl) rfl rfl (fun h7 D => ?_)
  generalize hes2 : (kEnts2 hs kt vMod vLine (.ref sl) fI fL fG fE fLe fGe vSt).toArray = es2 at D
  o_shape
  refine m_nsGet (D.at 1 _ _ rfl) (v := none) (by rw [← hes2]; kernel_rfl) ?_
  iterate 1 o_shape
  refine wp_forSame (fun x hx => ?_) ?_
  · have hl : nsLook x ⟨.type "dict", none, .dict es2 1, #[]⟩ = pure none := by
      rcases List.mem_cons.mp hx with rfl | hx
      · rw [← hes2]; kernel_rfl
      · obtain rfl := List.mem_singleton.mp hx
        rw [← hes2]; kernel_rfl
    o_shape
    refine m_nsGet (D.at 1 _ _ rfl) hl ?_
    iterate 2 o_shape
  iterate 1 o_shape
  refine m_nsGet (D.at 1 _ _ rfl) (v := none) (by rw [← hes2]; kernel_rfl) ?_
  iterate 2 o_shape
  refine m_nsGet (D.at 1 _ _ rfl) (v := none) (by rw [← hes2]; kernel_rfl) ?_
  have e18 := kf18
  have e19 := kf19
  iterate 7 o_shape
  rw [show ([Value.ref ka, Value.type "object"].filter fun x => x != Value.ref ka) = [Value.type "object"] from by simp]
  iterate 7 o_shape
  refine m_updCls D 0 rfl rfl (o' := kC1 ka na qn #[some (.ref bt), none, some (.str "K" tn), some (.str qn tq)]) (by rw [← hes]; kernel_rfl) rfl rfl rfl (fun h8 D => ?_)
  have e20 := kf20
  iterate 3 o_shape
  refine m_setSlot D 0 rfl rfl (o' := kC1 ka na qn #[some (.ref bt), none, some (.str "K" tn), some (.str qn tq), some (.builtin "object.__new__")]) rfl rfl rfl (fun h9 D => ?_)
  o_shape
  refine m_refresh (D.at 0 _ _ rfl) rfl rfl (D.at 1 _ _ rfl) (by rw [← hes2]; kernel_rfl) rfl ?_
  o_shape
  refine m_install D rfl rfl rfl (by rw [← hes2]; kernel_rfl) (by rw [← hes2]; kernel_rfl) (by rw [← hes2]; kernel_rfl) rfl
    (on' := fun md => ⟨.type "dict", none, .dict (kEnts2 hs kt vMod vLine (.ref sl) fI fL fG fE fLe fGe vSt ++ ([⟨hashStr w "obj", .str "obj" (t + 1), .ref md⟩] : List DictEntry)).toArray 2, #[]⟩) (fun md => by rw [← hes2]; kernel_rfl) (fun md => rfl) rfl rfl rfl (fun md h10 D => ?_)
  have e15 := kf15
  iterate 3 o_shape
  refine m_setSlot D 1 rfl rfl (o' := kC2 ka na qn #[some (.ref bt), none, some (.str "K" tn), some (.str qn tq), some (.builtin "object.__new__"), some (.bool false)]) rfl rfl rfl (fun h11 D => ?_)
  generalize hes3 : (kEnts2 hs kt vMod vLine (.ref sl) fI fL fG fE fLe fGe vSt ++ ([⟨hashStr w "obj", .str "obj" (t + 1), .ref md⟩] : List DictEntry)).toArray = es3 at D
  iterate 5 o_shape
  refine m_nsGet (D.at 2 _ _ rfl) (v := none) (by rw [← hes3]; kernel_rfl) ?_
  iterate 3 o_shape
  refine m_nsSet D 2 rfl rfl (by rw [← hes3]; kernel_rfl) (o' := ⟨.type "dict", none, .dict (kEnts2 hs kt vMod vLine (.ref sl) fI fL fG fE fLe fGe vSt ++ ([⟨hashStr w "obj", .str "obj" (t + 1), .ref md⟩, ⟨hashStr w "__doc__", .str "__doc__" (t + 2), .none⟩] : List DictEntry)).toArray 3, #[]⟩) (by rw [← hes3]; kernel_rfl) rfl rfl (fun h12 D => ?_)
  generalize hes4 : (kEnts2 hs kt vMod vLine (.ref sl) fI fL fG fE fLe fGe vSt ++ ([⟨hashStr w "obj", .str "obj" (t + 1), .ref md⟩, ⟨hashStr w "__doc__", .str "__doc__" (t + 2), .none⟩] : List DictEntry)).toArray = es4 at D
  iterate 2 o_shape
  refine m_nsGet (D.at 2 _ _ rfl) (v := some fE) (by rw [← hes4]; kernel_rfl) ?_
  iterate 3 o_shape
  refine m_nsGet (D.at 2 _ _ rfl) (v := some .none) (by rw [← hes4]; kernel_rfl) ?_
  iterate 2 o_shape
  refine wp_for1 (x := Value.type "object") ?_
  have e23 := kf23 ka
  iterate 3 o_shape
  have hkey : ∀ x ∈ es4.toList, ∃ n u, x.key = .str n u := by
    intro x hx
    rw [← hes4] at hx
    simp only [List.cons_append, List.nil_append, List.mem_cons, List.not_mem_nil, or_false] at hx
    rcases hx with rfl | rfl | rfl | rfl | rfl | rfl | rfl | rfl | rfl | rfl | rfl | rfl | rfl <;> exact ⟨_, _, rfl⟩
  have hval : ∀ x ∈ es4.toList, PlainV h12 x.val := by
    have pp : ∀ v ∈ [vMod, vLine, fI, fL, fG, fE, fLe, fGe, vSt], PlainV h12 v := fun v hv => (hpl v hv).mono fun b o e => m_old D e
    have pl : PlainV h12 (.ref sl) := ⟨fun i e => (nomatch e), "list", by simp, fun _ _ _ _ => ⟨_, m_old D hsl, rfl⟩⟩
    have pm : PlainV h12 (.ref md) := ⟨fun i e => (nomatch e), "member_descriptor", by simp, fun _ _ _ _ => ⟨_, D.at 0 _ _ rfl, rfl⟩⟩
    have pn : PlainV h12 .none := ⟨fun i e => (nomatch e), "NoneType", by simp, fun _ _ _ _ => (rfl : typeOf .none = _)⟩
    simp only [List.mem_cons, List.not_mem_nil, or_false, forall_eq_or_imp, forall_eq] at pp
    obtain ⟨p1, p2, p3, p4, p5, p6, p7, p8, p9⟩ := pp
    intro x hx
    rw [← hes4] at hx
    simp only [List.cons_append, List.nil_append, List.mem_cons, List.not_mem_nil, or_false] at hx
    rcases hx with rfl | rfl | rfl | rfl | rfl | rfl | rfl | rfl | rfl | rfl | rfl | rfl | rfl <;> assumption
  refine wpAny_bind (wpAny_tryCatch (wpAny_holding ?_))
  refine wpAny_bind ?_
  refine wpAny_dictEntries (D.at 2 _ _ rfl) rfl ?_
  refine wpAny_bind (wp_forSameA (fun x hx => ?_) ?_)
  · obtain ⟨n, u, e⟩ := hkey x hx
    o_shape
    rw [e]
    iterate 5 o_shape
  iterate 3 o_shape
  refine wpAny_dictEntries (D.at 2 _ _ rfl) rfl ?_
  refine wpAny_bind (wp_forSameA (fun x hx => ?_) ?_)
  · refine wp_iff (hval x hx).notLaid ?_
    o_shape
    refine m_plain (hval x hx) ?_
    o_shape
    exact ⟨rfl, rfl⟩
  subst hqn
  refine isub (D.at 1 _ _ rfl) ((hop ka).keeps (oldOf D)) (fun s' c => ?_)
  obtain ⟨⟨h13, t13, rfl⟩, k13⟩ := c
  have D := m_more D k13
  rw [← hes4] at D
  exact wpAny_pure (hq ka na md h13 t13 D)
end Mine
set_option Elab.async false
set_option maxRecDepth 100000
set_option linter.unusedVariables false
namespace Mine
open PySem PySem.W PyProof.Rows PySem.Calls SeqAt
open PySem.W.X (Mem)
set_option maxHeartbeats 4000000
section
local macro_rules | `(tactic| o_shape) => `(tactic| first
  | with_reducible (first
      | refine wpAny_bind ?_ | refine wpAny_pure ?_ | refine wpAny_holding ?_ | refine wpAny_rule ?_ | refine wpAny_mkInt' ?_ | refine wpAny_mkStr' ?_ | refine wpAny_fresh' ?_
      | refine wpAny_typeOf (by assumption) ?_ | refine wpAny_of_eq (by assumption) ?_ | refine wp_iff (by assumption) ?_ | refine wp_ift (by assumption) ?_ | refine wpAny_load' (by assumption) ?_ | refine wpAny_loadPart' (by assumption) ?_)
  | wp_delta
  | (with_reducible apply wpAny_ite_false); focus (rfl; done)
  | (with_reducible apply wpAny_ite_true); focus (rfl; done))
theorem kf40 (a b c : Value) : checkBuiltinCall "type.__new__" ⟨[.type "type", a, b, c], []⟩ = pure () := by kernel_rfl
theorem kf41 : entryFor table "type.__new__" = some Builtin.«type.__new__» := entryFor_of_tree (by kernel_rfl)
theorem kf42 : Bind.madeBy (.type "type") = pure (some "type.__new__") := by kernel_rfl
theorem kf43 : Slot "type" "__init__" "type.__init__" := .of (owner := "type") (n := "__init__") (by rw [typeLookup_type, builtinLookup_eq_fast]; kernel_rfl) (by decide +kernel) (by decide +kernel) (by decide +kernel)
  (by first | exact .inl (by decide +kernel) | exact .inr (by decide +kernel)) (by rw [isSubtype_type]; kernel_rfl)
theorem kf44 : entryFor table "type.__init__" = some Builtin.«type.__init__» := entryFor_of_tree (by kernel_rfl)
theorem kf45 (o a b c : Value) : argsOk "type.__init__" ⟨[o, a, b, c], []⟩ := by unfold argsOk; kernel_rfl
theorem kf46 (b c : Value) (n : Str) (t : Tok) : checkTypeCall "type" ⟨[.str n t, b, c], []⟩ = pure () := by kernel_rfl
theorem kf47 : ((Manifest.find? "type").bind (·.mro.findSome? fun (t : String) => (Manifest.find? t).bind fun b => if b.noNew then some true else if b.attrs.any (·.1 == "__new__") then some false else none)).getD false = false := by kernel_rfl
variable {prog : Program} {w : World} {A : Around} {E : Value → Shared → Prop} {h : Heap} {g : Array GenState} {d : Drawn} {t : Nat} {os : OsState}
theorem typeCall {tn : Tok} {bt nt : Addr} {Q : Value → Shared → Prop}
    (hn : ∀ (A : Around) (Q' : PySem.Fin → Shared → Prop) (E' : Value → Shared → Prop), (∀ ka s', (∃ o, s'.heap.get? ka = some o ∧ o.cls = .type "type") → Q (.ref ka) s' → Q' (.done (.ret (.ref ka))) s') →
      wpAny (model prog w) A (Builtin.«type.__new__» ⟨[.type "type", .str "K" tn, .ref bt, .ref nt], []⟩) Q' E' ⟨h, g, d, t, os⟩) :
    wpAny (model prog w) A (call (.type "type") [.str "K" tn, .ref bt, .ref nt]) Q E ⟨h, g, d, t, os⟩ := by
  refine wpAny_call (codeAny_of_tree ?_)
  show wpAny _ _ (callAny (.type "type") _) _ _ _
  refine wpAny_pure ⟨Code.quiet_builtin _ (by decide +kernel), codeAny_builtin F.entry_type_call ?_⟩
  unfold Builtin.«type.__call__»
  have e1 := kf9
  have e2 := kf42
  have e3 := kf46 (.ref bt) (.ref nt) "K" tn
  have e4 := kf3
  iterate 18 o_shape
  refine wpAny_call (codeAny_call_builtin_code (Code.quiet_builtin _ (by decide +kernel)) (wpAny_of_eq (kf40 _ _ _) ?_))
  refine codeAny_builtin kf41 (hn _ _ _ fun ka s' ho hQ => ?_)
  show wpAny _ _ _ _ _ _
  obtain ⟨h', g', d', t', os'⟩ := s'
  have hT : (⟨h', g', d', t', os'⟩ : Shared).TypeIs (.ref ka) "type" := ho
  have hli := kf43.lookup
  have hbi := kf43.bind (.ref ka)
  iterate 18 o_shape
  refine wpAny_call_entry kf43 hT kf44 ?_ (kf45 _ _ _ _)
  unfold Builtin.«type.__init__»
  iterate 6 o_shape
  refine wpAny_pure ⟨_, rfl, ?_⟩
  iterate 4 o_shape
  exact wpAny_pure hQ
end
end Mine
set_option Elab.async false
set_option maxRecDepth 100000
set_option linter.unusedVariables false
namespace Mine
open PySem PySem.W PyProof.Rows PySem.Calls SeqAt

/-! ## The code record of a class in a function -/
section
variable {M : Model} {A : Around} {E : Value → Shared → Prop} {s : Shared} {env : Env}
theorem classCode0 {c P : Addr} {pos : Pos} {firstLine : Nat} {name qual : Str} {scope : Scope} {Q : Value → Shared → Prop}
    (hc : env.code = .ref c) (C : CodeHd s.heap c P) (hP : s.heap.get? P = some (tabObj #[]))
    (hQ : ∀ c' P' h' tk, (∀ b o, b ≠ P → s.heap.get? b = some o → h'.get? b = some o) → s.heap.objs.size ≤ c' → s.heap.objs.size ≤ P' → CodeHd h' c' P' → h'.get? P' = some (tabObj #[]) → h'.CodeRec (.ref c') qual →
      h'.get? P = some (tabObj #[rawInt pos.line, rawInt pos.col, .ref c']) → Q (.ref c') { s with heap := h', toks := tk }) :
    wpAny M A (classCode env pos firstLine name qual scope) Q E s := by
  obtain ⟨o, vs, file, tf, flags, tg, inF, text, tt, e1, e2, e3, e4, f3, f4, f5, f6, f7, ne⟩ := C
  unfold classCode codeAt
  rw [hc, if_neg (show ¬ ((Value.ref c == Value.none) = true) from Bool.false_ne_true)]
  refine wpAny_bind (wpAny_fieldsOf e1 e3 ?_)
  rw [f3]
  refine wpAny_bind (wpAny_fieldsOf hP rfl ?_)
  rw [show codeAmong pos (#[] : Array Value).toList = none from rfl, f4, f5, f6, f7]
  refine wpAny_bind (wpAny_newCodeX fun c' P' h' tk hk hc' hP' hcode htab hrec => ?_)
  have hPn := hk _ _ hP
  have cP : c' ≠ P := fun q => absurd (Heap.lt_size hP) (by rw [← q]; exact Nat.not_lt.mpr hc')
  have PP : P' ≠ P := fun q => absurd (Heap.lt_size hP) (by rw [← q]; exact Nat.not_lt.mpr hP')
  refine wpAny_bind (wpAny_updateFieldsOfTheText hPn rfl ?_)
  generalize hf : (fun vs : Array Value => if (codeAmong pos vs.toList).isSome = true then vs else vs ++ #[rawInt pos.line, rawInt pos.col, .ref c']) = f
  have hfo : Obj.mapFields f (tabObj #[]) = tabObj #[rawInt pos.line, rawInt pos.col, .ref c'] := by rw [← hf]; rfl
  have hg : (h'.update P (Obj.mapFields f)).get? P = some (tabObj #[rawInt pos.line, rawInt pos.col, .ref c']) := by
    have := Heap.get?_update_self (Obj.mapFields f) hPn (by rw [hfo]; rfl)
    rw [this, hfo]
  have sb : Heap.SameBut P h' (h'.update P (Obj.mapFields f)) := Heap.SameBut.update ..
  refine wpAny_bind (wpAny_fieldsOf hg rfl ?_)
  rw [show codeAmong pos (#[rawInt pos.line, rawInt pos.col, .ref c'] : Array Value).toList = some (.ref c') from by simp [codeAmong, rawInt]]
  refine wpAny_pure (hQ c' P' _ _ (fun b o hb e => sb.extBut b o hb (hk b o e)) hc' hP' ?_ (sb.extBut _ _ PP htab.2) ?_ hg)
  · obtain ⟨o2, vs2, a1, a2, a3, a4, a5, a6, a7, b1, b2, b3, b4, b5, b6, b7, b8, b9, b10⟩ := CodeHd.of hcode htab
    exact ⟨o2, vs2, a1, a2, a3, a4, a5, a6, a7, sb.extBut _ _ cP b1, b2, b3, b4, b5, b6, b7, b8, b9, b10⟩
  · obtain ⟨c₂, o₂, vs₂, t₂, e₂, g₂, r₂⟩ := hrec
    cases e₂
    exact ⟨_, o₂, vs₂, t₂, rfl, sb.extBut _ _ cP g₂, r₂⟩
end
end Mine
set_option Elab.async false
set_option maxRecDepth 100000
set_option linter.unusedVariables false
namespace Mine
open PySem PySem.W PyProof.Rows PySem.Calls SeqAt
open PySem.W.X
section
local macro_rules | `(tactic| x_close) => `(tactic| first
  | exact ⟨_, rfl, ⟨⟨_, _, rfl⟩, oldOf (by assumption)⟩, (Mem.nw (by assumption) (_, _) (List.Mem.head _)).1, (Mem.nw (by assumption) (_, _) (List.Mem.head _)).2⟩
  | exact ⟨⟨_, _, rfl⟩, oldOf (by assumption)⟩)
set_option maxHeartbeats 0 in
theorem prepA {prog : Program} {w : World} {A : Around} {s : Shared} {u : Tok} :
    wpAny (model prog w) A (call (.builtin "type.__getattribute__") [.type "type", .str "__prepare__" u]) (fun v s' => ∃ f, v = .ref f ∧ Calm s s' ∧ s'.heap.get? f = some ⟨.type "builtin_function_or_method", none, .fields #[.builtin "type.__prepare__", .type "type"], #[]⟩ ∧ s.heap.get? f = none) (fun _ _ => False) s := by
  x_run
set_option maxHeartbeats 0 in
theorem prepB {prog : Program} {w : World} {A : Around} {s : Shared} {f bt : Nat} {u : Tok} (hf : s.heap.get? f = some ⟨.type "builtin_function_or_method", none, .fields #[.builtin "type.__prepare__", .type "type"], #[]⟩) :
    wpAny (model prog w) A (call (.ref f) [.str "K" u, .ref bt]) (fun v s' => ∃ nt, v = .ref nt ∧ Calm s s' ∧ s'.heap.get? nt = some ⟨.type "dict", none, .dict #[] 0, #[]⟩ ∧ s.heap.get? nt = none) (fun _ _ => False) s := by
  x_run
end
end Mine
set_option Elab.async false
set_option maxRecDepth 100000
set_option linter.unusedVariables false
namespace Mine
open PySem PySem.W PyProof.Rows PySem.Calls SeqAt

/-! ## The heap while a class's body runs -/
structure CB (h0 : Heap) (P : Addr) (oP : Obj) (nt pk : Addr) (on : Obj) (ps : Array Value) (fz : List (Addr × Obj)) (h : Heap) : Prop where
  keep : ∀ b o, b ≠ P → h0.get? b = some o → h.get? b = some o
  tab : h.get? P = some oP
  P0 : h0.get? P ≠ none
  ns : h.get? nt = some on
  ns0 : h0.get? nt = none
  pt : h.get? pk = some (tabObj ps)
  pt0 : h0.get? pk = none
  ne : nt ≠ pk
  fz : ∀ p ∈ fz, h.get? p.1 = some p.2 ∧ h0.get? p.1 = none ∧ p.1 ≠ nt ∧ p.1 ≠ pk
section
variable {h0 h h' : Heap} {P nt pk : Addr} {oP on : Obj} {ps : Array Value} {fz : List (Addr × Obj)}
theorem CB.Pn (D : CB h0 P oP nt pk on ps fz h) : P ≠ nt ∧ P ≠ pk := ⟨fun e => D.P0 (e ▸ D.ns0), fun e => D.P0 (e ▸ D.pt0)⟩
theorem CB.more (D : CB h0 P oP nt pk on ps fz h) (k : ∀ b o, h.get? b = some o → h'.get? b = some o) : CB h0 P oP nt pk on ps fz h' :=
  ⟨fun b o hb e => k _ _ (D.keep b o hb e), k _ _ D.tab, D.P0, k _ _ D.ns, D.ns0, k _ _ D.pt, D.pt0, D.ne, fun p hp => ⟨k _ _ (D.fz p hp).1, (D.fz p hp).2⟩⟩
theorem CB.old0 (D : CB h0 P oP nt pk on ps fz h) {a : Addr} (e : h.get? a = none) : h0.get? a = none := by
  cases q : h0.get? a with
  | none => rfl
  | some o =>
    by_cases hp : a = P
    · rw [hp, D.tab] at e; cases e
    · rw [D.keep a o hp q] at e; cases e
theorem CB.add {a : Addr} {o : Obj} (D : CB h0 P oP nt pk on ps fz h) (e : h.get? a = some o) (e0 : h0.get? a = none) (n1 : a ≠ nt) (n2 : a ≠ pk) : CB h0 P oP nt pk on ps ((a, o) :: fz) h := by
  refine { D with fz := fun p hp => ?_ }
  rcases List.mem_cons.mp hp with rfl | hp
  · exact ⟨e, e0, n1, n2⟩
  · exact D.fz p hp
/-- a made object -/
theorem CB.made {o : Obj} (D : CB h0 P oP nt pk on ps fz h) (hf : o.isFreed = false) : CB h0 P oP nt pk on ps ((h.objs.size, o) :: fz) (h.push o) := by
  have e : h.get? h.objs.size = none := get_none_of_size (Nat.le_refl _)
  refine (D.more (fun b o e => Heap.get?_push_of_some _ e)).add (Heap.get?_push_size _ hf) (D.old0 e) (fun q => ?_) (fun q => ?_)
  · have := D.ns; rw [← q, e] at this; cases this
  · have := D.pt; rw [← q, e] at this; cases this
theorem CB.setNs {on' : Obj} (D : CB h0 P oP nt pk on ps fz h) (ho : h'.get? nt = some on') (hs : Heap.SameBut nt h h') : CB h0 P oP nt pk on' ps fz h' :=
  ⟨fun b o hb e => (hs.2 b (fun q => by rw [q, D.ns0] at e; cases e)).trans (D.keep b o hb e), (hs.2 _ D.Pn.1).trans D.tab, D.P0, ho, D.ns0, (hs.2 _ (Ne.symm D.ne)).trans D.pt, D.pt0, D.ne,
    fun p hp => ⟨(hs.2 _ (D.fz p hp).2.2.1).trans (D.fz p hp).1, (D.fz p hp).2⟩⟩
theorem CB.setTab {ps' : Array Value} (D : CB h0 P oP nt pk on ps fz h) (ho : h'.get? pk = some (tabObj ps')) (hx : Heap.ExtBut pk h h') : CB h0 P oP nt pk on ps' fz h' :=
  ⟨fun b o hb e => hx b o (fun q => by rw [q, D.pt0] at e; cases e) (D.keep b o hb e), hx _ _ D.Pn.2 D.tab, D.P0, hx _ _ D.ne D.ns, D.ns0, ho, D.pt0, D.ne,
    fun p hp => ⟨hx _ _ (D.fz p hp).2.2.2 (D.fz p hp).1, (D.fz p hp).2⟩⟩
end

section
variable {prog : Program} {w : World} {A : Around} {E : Value → Shared → Prop} {h0 h : Heap} {g : Array GenState} {d : Drawn} {t : Nat} {os : OsState} {P nt pk : Addr} {oP : Obj} {ps : Array Value} {fz : List (Addr × Obj)} {env : Env}
noncomputable abbrev dObj (es : List DictEntry) (n : Nat) : Obj := ⟨.type "dict", none, .dict es.toArray n, #[]⟩
theorem c_nsSet {es es' : List DictEntry} {n n' : Nat} {x : Str} {v : Value} {Q : Unit → Shared → Prop} (D : CB h0 P oP nt pk (dObj es n) ps fz h) (hr : aRefKeyMayBeTheName x es.toArray = false)
    (he : Obj.putName x (hashStr w x) (.str x t) v (dObj es n) = dObj es' n') (hq : ∀ h', CB h0 P oP nt pk (dObj es' n') ps fz h' → Q () ⟨h', g, d, t + 1, os⟩) : wpAny (model prog w) A (nsSet nt x v) Q E ⟨h, g, d, t, os⟩ := by
  unfold nsSet strHash
  refine wpAny_bind (wpAny_bind (wpAny_askSetting (wpAny_pure ?_)))
  refine wpAny_bind (wpAny_mkText ?_)
  refine wpAny_bind (wpAny_loadPart' D.ns ?_)
  dsimp only
  rw [hr, if_neg Bool.false_ne_true]
  refine wpAny_updatePart' D.ns (hq _ (D.setNs ?_ (Heap.SameBut.update ..)))
  have : (h.update nt (Obj.putName x (hashStr w x) (.str x t) v)).get? nt = some (Obj.putName x (hashStr w x) (.str x t) v (dObj es n)) := Heap.get?_update_self _ D.ns (by rw [he]; rfl)
  exact this.trans (by rw [he])
theorem c_store {es es' : List DictEntry} {n n' : Nat} {x : Str} {v : Value} {Q : Unit → Shared → Prop} (hl : env.locals = nt) (hk : env.scope.kind = .class) (hx : (if env.kindOf x == some .globalImplicit && env.blockKind != .function then none else env.kindOf x) = some .local ∨ ((if env.kindOf x == some .globalImplicit && env.blockKind != .function then none else env.kindOf x) = none ∧ compilersOwnNames.contains x = true))
    (D : CB h0 P oP nt pk (dObj es n) ps fz h) (hr : aRefKeyMayBeTheName x es.toArray = false)
    (he : Obj.putName x (hashStr w x) (.str x t) v (dObj es n) = dObj es' n') (hq : ∀ h', CB h0 P oP nt pk (dObj es' n') ps fz h' → Q () ⟨h', g, d, t + 1, os⟩) : wpAny (model prog w) A (storeName env x v) Q E ⟨h, g, d, t, os⟩ := by
  have hls : wpAny (model prog w) A (localSet env x v) Q E ⟨h, g, d, t, os⟩ := by
    unfold localSet
    rw [hl]
    refine wpAny_bind (wpAny_load' D.ns ?_)
    refine wpAny_ite_true rfl ?_
    exact c_nsSet D hr he hq
  have hbk : env.blockKind = .class := by unfold Env.blockKind; rw [hk]; rfl
  unfold storeName
  rcases hx with hx | ⟨hx, hc⟩
  · rw [hx]
    dsimp only
    rw [hk]
    exact wpAny_ite_true rfl hls
  · rw [hx]
    dsimp only
    rw [hk, hbk, hc]
    refine wpAny_ite_false rfl ?_
    exact wpAny_ite_true rfl hls
/-- a def in the class's body -/
theorem c_def {es : List DictEntry} {es' : Addr → Tok → List DictEntry} {n n' : Nat} {name : Str} {params : Arguments} {body : List Stmt} {scope : Scope} {pos : Pos} {rest : List Stmt} {clos : List (Str × Addr)} {ck bm : Addr} {oc ob : Obj} {mg : Str → Option Value} {Q : Flow → Shared → Prop}
    (D : CB h0 P oP nt pk (dObj es n) ps fz h) (hck : (ck, oc) ∈ fz) (hC : ∀ h', h'.get? ck = some oc → CodeHd h' ck pk) (hcode : env.code = .ref ck) (hge0 : env.globals = mainGlobals) (hG : h0.Ns mainGlobals mg) (hPm : P ≠ mainGlobals)
    (b1 : mg "__builtins__" = some (.ref bm)) (b2 : bm ≠ builtinsNs) (b3 : h0.get? bm = some ob) (b4 : ob.cls = .type "module") (b5 : ob.dict = some builtinsNs) (b6 : ob.data = .plain) (hPb : P ≠ bm)
    (hd0 : params.defaults = []) (hk0 : params.kw_defaults = []) (ha : annTrees params none env = []) (hcl : closureFor scope env = pure clos) (ht : TriplesOk ps.toList) (hnf : codeAmong pos ps.toList = none)
    (hl : env.locals = nt) (hk : env.scope.kind = .class) (hx : (if env.kindOf name == some .globalImplicit && env.blockKind != .function then none else env.kindOf name) = some .local) (hr : aRefKeyMayBeTheName name es.toArray = false)
    (he : ∀ f u, Obj.putName name (hashStr w name) (.str name u) (.ref f) (dObj es n) = dObj (es' f u) n')
    (hq : ∀ f c' oc' ctv doc u h' t', CB h0 P oP nt pk (dObj (es' f u) n') (ps ++ #[rawInt pos.line, rawInt pos.col, .ref c']) ((f, fnMade name (qualnameIn env name name) params body scope clos doc ((mg "__name__").getD .none) c' ctv) :: (c', oc') :: fz) h' →
      (∃ vs t, oc'.data = .fields vs ∧ vs[1]? = some (.str (qualnameIn env name name) t)) → wpAny (model prog w) A (execs rest env) Q E ⟨h', g, d, t', os⟩) :
    wpAny (model prog w) A (execs (.FunctionDef name params body [] none [] scope none name pos :: rest) env) Q E ⟨h, g, d, t, os⟩ := by
  have aliveG : ∀ a o, h0.get? a = some o → a ≠ pk := fun a o e q => by rw [q, D.pt0] at e; cases e
  have hGo : ∃ o, h0.get? mainGlobals = some o := by obtain ⟨o, _, _, e, _⟩ := hG; exact ⟨o, e⟩
  have hg : h.Ns mainGlobals mg := by
    obtain ⟨o, es, ep, e, r⟩ := hG
    exact ⟨o, es, ep, D.keep _ _ (Ne.symm hPm) e, r⟩
  have hbG : bm ≠ mainGlobals := fun q => by
    obtain ⟨o, es, ep, e, hd, _⟩ := hG
    rw [q, e] at b3; cases b3; rw [hd] at b6; cases b6
  have hgP : mainGlobals ≠ pk := by obtain ⟨o, e⟩ := hGo; exact aliveG _ _ e
  refine wpAny_execs_cons (nestDef_K hd0 hk0 ha (makeFunction_K (mg := mg) hcl hge0 hg hcode (hC _ (D.fz _ hck).1) D.pt ht hnf hgP ⟨bm, ob, b1, b2, hbG, aliveG _ _ b3, D.keep _ _ (Ne.symm hPb) b3, b4, b5, b6⟩ fun c' ctv doc h' tk hx' hge hlt hrec htb => ?_))
  obtain ⟨c₂, oc', vs, u, e2, hoc, hd, hv⟩ := hrec
  cases e2
  have e0 : h.get? c' = none := get_none_of_size hge
  have D1 := (D.setTab htb hx').add hoc (D.old0 e0) (fun q => by have := D.ns; rw [← q, e0] at this; cases this) (fun q => by have := D.pt; rw [← q, e0] at this; cases this)
  have D2 := D1.made (o := fnMade name (qualnameIn env name name) params body scope clos doc ((mg "__name__").getD .none) c' ctv) rfl
  exact c_store hl hk (.inl hx) D2 hr (he _ _) (fun h'' D3 => hq _ _ _ _ _ _ _ _ D3 ⟨vs, u, hd, hv⟩)
theorem c_name {es : List DictEntry} {n : Nat} {x : Str} {v : Value} {mg : Str → Option Value} {Q : Value → Shared → Prop} (hl : env.locals = nt) (hge0 : env.globals = mainGlobals) (hk : env.scope.kind = .class) (hx : env.kindOf x = none) (hcn : compilersOwnNames.contains x = true)
    (D : CB h0 P oP nt pk (dObj es n) ps fz h) (hlook : nsLook x (dObj es n) = pure none) (hg : h.Ns mainGlobals mg) (hv : mg x = some v) (h1 : (env.scope.kind.isAnnotationScope && env.kindOf "__classdict__" == some .free && x != "__classdict__") = false) (hq : Q v ⟨h, g, d, t, os⟩) :
    wpAny (model prog w) A (loadName env x) Q E ⟨h, g, d, t, os⟩ := by
  have hbk : env.blockKind = .class := by unfold Env.blockKind; rw [hk]; rfl
  unfold loadName
  rw [h1, hbk, hx]
  refine wpAny_ite_false rfl ?_
  dsimp only
  rw [hcn]
  refine wpAny_ite_false rfl ?_
  unfold localGet loadGlobal
  rw [hl, hge0]
  refine wpAny_bind (wpAny_bind (wpAny_load' D.ns (wpAny_ite_true rfl ?_)))
  refine m_nsGet D.ns hlook ?_
  refine wpAny_bind (wpAny_nsGet hg ?_)
  rw [hv]
  exact wpAny_pure hq
end
end Mine
set_option Elab.async false
set_option maxRecDepth 100000
set_option linter.unusedVariables false
namespace Mine
open PySem PySem.W PyProof.Rows PySem.Calls SeqAt
set_option maxHeartbeats 4000000

noncomputable def cBody : Stmt → List Stmt | .ClassDef _ _ _ b .. => b | _ => []
noncomputable def cScope : Stmt → Scope | .ClassDef _ _ _ _ _ _ s .. => s | _ => default
noncomputable def kStmt : Stmt := (fBody (stmtAt 2)).getD 0 (.Pass default)
noncomputable def mStmt (i : Nat) : Stmt := (cBody kStmt).getD i (.Pass default)
noncomputable abbrev kEnv (nt ck fr : Addr) (clos : List (Str × Addr)) : Env := { scope := cScope kStmt, locals := nt, globals := mainGlobals, cells := clos, qual := "cmp_to_key.<locals>.K" ++ Str.ofString ".", code := Value.ref ck, frame := some fr, builtins := builtinsNs }
noncomputable abbrev kEn (w : World) (x : Str) (t : Tok) (v : Value) : DictEntry := ⟨hashStr w x, .str x t, v⟩
noncomputable abbrev kE0 (w : World) (t1 t2 t3 : Tok) (v1 v2 v3 : Value) : List DictEntry := [⟨hashStr w "__module__", .str "__module__" t1, v1⟩, ⟨hashStr w "__qualname__", .str "__qualname__" t2, v2⟩, ⟨hashStr w "__firstlineno__", .str "__firstlineno__" t3, v3⟩]
noncomputable def NL (k : Nat) (ps : Array Value) : Prop := TriplesOk ps.toList ∧ ∀ pos : Pos, k ≤ pos.line → codeAmong pos ps.toList = none
theorem NL.nil : NL 0 #[] := ⟨trivial, fun _ _ => rfl⟩
theorem codeAmong_more (pos : Pos) (l c : Nat) (v : Value) (hl : l < pos.line) : ∀ (xs : List Value), TriplesOk xs → codeAmong pos xs = none → codeAmong pos (xs ++ [rawInt l, rawInt c, v]) = none := by
  intro xs h hn
  fun_induction TriplesOk xs with
  | case1 =>
    show codeAmong pos [rawInt l, rawInt c, v] = none
    simp only [codeAmong, rawInt]
    rw [if_neg]
    intro q
    have q1 := (Bool.and_eq_true _ _ ▸ q).1
    have := of_decide_eq_true (by simpa using q1)
    lia
  | case2 a t b t2 c2 rest ih =>
    simp only [codeAmong] at hn
    split at hn
    · cases hn
    · rename_i hne
      show codeAmong pos (Value.int a t :: Value.int b t2 :: c2 :: (rest ++ [rawInt l, rawInt c, v])) = none
      simp only [codeAmong]
      rw [if_neg hne]
      exact ih h hn
  | case3 => exact h.elim
theorem NL.snoc {k l c : Nat} {v : Value} {ps : Array Value} (x : NL k ps) (h : k ≤ l + 1) : NL (l + 1) (ps ++ #[rawInt l, rawInt c, v]) := by
  have e : (ps ++ #[rawInt l, rawInt c, v]).toList = ps.toList ++ [rawInt l, rawInt c, v] := by simp
  refine ⟨by rw [e]; exact TriplesOk_snoc _ _ _ _ x.1, fun pos hp => ?_⟩
  rw [e]
  exact codeAmong_more pos l c v (by lia) _ x.1 (x.2 pos (by lia))
section
variable {prog : Program} {w : World} {A : Around} {E : Value → Shared → Prop} {h0 h : Heap} {g : Array GenState} {d : Drawn} {t : Nat} {os : OsState} {P nt pk : Addr} {oP : Obj} {ps : Array Value} {fz : List (Addr × Obj)}
theorem runBodyK {t1 t2 t3 : Tok} {v1 v2 v3 : Value} {ck fr cc bm : Addr} {oc ob : Obj} {mg : Str → Option Value} {Q : Flow → Shared → Prop}
    (D : CB h0 P oP nt pk (dObj (kE0 w t1 t2 t3 v1 v2 v3) 3) #[] fz h) (hck : (ck, oc) ∈ fz) (hC : ∀ h', h'.get? ck = some oc → CodeHd h' ck pk) (hG : h0.Ns mainGlobals mg) (hPm : P ≠ mainGlobals)
    (b1 : mg "__builtins__" = some (.ref bm)) (b2 : bm ≠ builtinsNs) (b3 : h0.get? bm = some ob) (b4 : ob.cls = .type "module") (b5 : ob.dict = some builtinsNs) (b6 : ob.data = .plain) (hPb : P ≠ bm)
    (hq : ∀ vm sl fI fL fG fE fLe fGe cI oI cL oL ctI ctL dI dL ts uI uL uG uE uLe uGe uh (u : Tok) ps' fz' h' t', CB h0 P oP nt pk (dObj [kEn w "__module__" t1 vm, kEn w "__qualname__" t2 v2, kEn w "__firstlineno__" t3 v3, kEn w "__slots__" ts (.ref sl), kEn w "__init__" uI (.ref fI),
        kEn w "__lt__" uL (.ref fL), kEn w "__gt__" uG (.ref fG), kEn w "__eq__" uE (.ref fE), kEn w "__le__" uLe (.ref fLe), kEn w "__ge__" uGe (.ref fGe), kEn w "__hash__" uh .none] 11) ps' fz' h' →
      vm = .str "cpy313.functools" u → (∀ p ∈ fz, p ∈ fz') → (∃ u, (sl, (⟨.type "list", none, .seq #[.str "obj" u] 0, #[]⟩ : Obj)) ∈ fz') →
      (fI, fnMade "__init__" ("cmp_to_key.<locals>.K." ++ "__init__") (fArgs (mStmt 2)) (fBody (mStmt 2)) (fScope (mStmt 2)) [] dI ((mg "__name__").getD .none) cI ctI) ∈ fz' → (cI, oI) ∈ fz' → (∃ vs t, oI.data = .fields vs ∧ vs[1]? = some (.str ("cmp_to_key.<locals>.K." ++ "__init__") t)) →
      (fL, fnMade "__lt__" ("cmp_to_key.<locals>.K." ++ "__lt__") (fArgs (mStmt 3)) (fBody (mStmt 3)) (fScope (mStmt 3)) [("mycmp", cc)] dL ((mg "__name__").getD .none) cL ctL) ∈ fz' → (cL, oL) ∈ fz' → (∃ vs t, oL.data = .fields vs ∧ vs[1]? = some (.str ("cmp_to_key.<locals>.K." ++ "__lt__") t)) →
      (∀ f ∈ [fG, fE, fLe, fGe], ∃ o, (f, o) ∈ fz' ∧ o.cls = .type "function") → Q .next ⟨h', g, d, t', os⟩) :
    wpAny (model prog w) A (run (.body (cBody kStmt) (kEnv nt ck fr [("mycmp", cc)]))) Q E ⟨h, g, d, t, os⟩ := by
  refine wpAny_run (codeAny_of_tree ?_)
  show wpAny _ _ (do blockStart (cBody kStmt) (kEnv nt ck fr [("mycmp", cc)]); return PySem.Fin.done (← (execs (cBody kStmt) (kEnv nt ck fr [("mycmp", cc)])).onRaise (leaving (kEnv nt ck fr [("mycmp", cc)])))) _ _ _
  refine wpAny_bind (wpAny_of_eq (show blockStart (cBody kStmt) (kEnv nt ck fr [("mycmp", cc)]) = pure () from by rfl) ?_)
  refine wpAny_bind (wpAny_onRaise ?_)
  show wpAny _ _ (execs (.Assign _ _ _ :: _) _) _ _ _
  refine wpAny_execs_cons (wpAny_Assign_Name (wpAny_Constant_str ?_))
  refine c_store (es' := [kEn w "__module__" t1 (.str "cpy313.functools" t), kEn w "__qualname__" t2 v2, kEn w "__firstlineno__" t3 v3]) (n' := 3) rfl rfl (.inl rfl) D (by kernel_rfl) (by kernel_rfl) (fun h1 D => ?_)
  refine wpAny_execs_cons (wpAny_Assign_Name (wpAny_List ?_))
  refine spliced_more (wpAny_Constant_str (spliced_none ⟨by rw [sizeLine_eq]; show 1 ≤ 16777216; decide, ?_⟩))
  have D := D.made (o := { cls := .type "list", data := .seq [Value.str "obj" (t + 1 + 1)].toArray }) rfl
  show wpAny (model prog w) _ (storeName _ _ (.ref h1.objs.size)) _ _ ⟨h1.push { cls := .type "list", data := .seq [Value.str "obj" (t + 1 + 1)].toArray }, g, d, t + 1 + 1 + 1, os⟩
  generalize h1.push { cls := .type "list", data := .seq [Value.str "obj" (t + 1 + 1)].toArray } = h2 at D ⊢
  generalize h1.objs.size = sl at D ⊢
  generalize hm : Value.str "cpy313.functools" t = vm at D
  generalize hu1 : t + 1 + 1 = u1 at D ⊢
  refine c_store (es' := [kEn w "__module__" t1 vm, kEn w "__qualname__" t2 v2, kEn w "__firstlineno__" t3 v3, kEn w "__slots__" (u1 + 1) (.ref sl)]) (n' := 4) rfl rfl (.inl rfl) D (by kernel_rfl) (by kernel_rfl) (fun h3 D => ?_)
  refine c_def (n' := 5) (es' := fun f u => [kEn w "__module__" t1 vm, kEn w "__qualname__" t2 v2, kEn w "__firstlineno__" t3 v3, kEn w "__slots__" (u1 + 1) (.ref sl), kEn w "__init__" u (.ref f)]) D (.tail _ hck) hC rfl rfl hG hPm b1 b2 b3 b4 b5 b6 hPb rfl rfl (by rfl) (clos := []) (by rfl) NL.nil.1 (NL.nil.2 _ (Nat.zero_le _)) rfl rfl rfl (by kernel_rfl) (fun f u => by kernel_rfl) (fun fI cI oI ctI dI uI h4 t4 D rI => ?_)
  have N0 := NL.nil.snoc (l := 11) (c := 8) (v := .ref cI) (by decide)
  refine c_def (n' := 6) (es' := fun f u => [kEn w "__module__" t1 vm, kEn w "__qualname__" t2 v2, kEn w "__firstlineno__" t3 v3, kEn w "__slots__" (u1 + 1) (.ref sl), kEn w "__init__" uI (.ref fI), kEn w "__lt__" u (.ref f)]) D (.tail _ (.tail _ (.tail _ hck))) hC rfl rfl hG hPm b1 b2 b3 b4 b5 b6 hPb rfl rfl (by rfl) (clos := [("mycmp", cc)]) (by rfl) N0.1 (N0.2 _ (by decide)) rfl rfl rfl (by kernel_rfl) (fun f u => by kernel_rfl) (fun fL cL oL ctL dL uL h6 t6 D rL => ?_)
  have N1 := N0.snoc (l := 14) (c := 8) (v := .ref cL) (by decide)
  refine c_def (n' := 7) (es' := fun f u => [kEn w "__module__" t1 vm, kEn w "__qualname__" t2 v2, kEn w "__firstlineno__" t3 v3, kEn w "__slots__" (u1 + 1) (.ref sl), kEn w "__init__" uI (.ref fI), kEn w "__lt__" uL (.ref fL), kEn w "__gt__" u (.ref f)]) D (.tail _ (.tail _ (.tail _ (.tail _ (.tail _ hck))))) hC rfl rfl hG hPm b1 b2 b3 b4 b5 b6 hPb rfl rfl (by rfl) (clos := [("mycmp", cc)]) (by rfl) N1.1 (N1.2 _ (by decide)) rfl rfl rfl (by kernel_rfl) (fun f u => by kernel_rfl) (fun fG cG oG ctG dG uG h7 t7 D rG => ?_)
  have N2 := N1.snoc (l := 17) (c := 8) (v := .ref cG) (by decide)
  refine c_def (n' := 8) (es' := fun f u => [kEn w "__module__" t1 vm, kEn w "__qualname__" t2 v2, kEn w "__firstlineno__" t3 v3, kEn w "__slots__" (u1 + 1) (.ref sl), kEn w "__init__" uI (.ref fI), kEn w "__lt__" uL (.ref fL), kEn w "__gt__" uG (.ref fG), kEn w "__eq__" u (.ref f)]) D (.tail _ (.tail _ (.tail _ (.tail _ (.tail _ (.tail _ (.tail _ hck))))))) hC rfl rfl hG hPm b1 b2 b3 b4 b5 b6 hPb rfl rfl (by rfl) (clos := [("mycmp", cc)]) (by rfl) N2.1 (N2.2 _ (by decide)) rfl rfl rfl (by kernel_rfl) (fun f u => by kernel_rfl) (fun fE cE oE ctE dE uE h8 t8 D rE => ?_)
  have N3 := N2.snoc (l := 20) (c := 8) (v := .ref cE) (by decide)
  refine c_def (n' := 9) (es' := fun f u => [kEn w "__module__" t1 vm, kEn w "__qualname__" t2 v2, kEn w "__firstlineno__" t3 v3, kEn w "__slots__" (u1 + 1) (.ref sl), kEn w "__init__" uI (.ref fI), kEn w "__lt__" uL (.ref fL), kEn w "__gt__" uG (.ref fG), kEn w "__eq__" uE (.ref fE), kEn w "__le__" u (.ref f)]) D (.tail _ (.tail _ (.tail _ (.tail _ (.tail _ (.tail _ (.tail _ (.tail _ (.tail _ hck))))))))) hC rfl rfl hG hPm b1 b2 b3 b4 b5 b6 hPb rfl rfl (by rfl) (clos := [("mycmp", cc)]) (by rfl) N3.1 (N3.2 _ (by decide)) rfl rfl rfl (by kernel_rfl) (fun f u => by kernel_rfl) (fun fLe cLe oLe ctLe dLe uLe h9 t9 D rLe => ?_)
  have N4 := N3.snoc (l := 23) (c := 8) (v := .ref cLe) (by decide)
  refine c_def (n' := 10) (es' := fun f u => [kEn w "__module__" t1 vm, kEn w "__qualname__" t2 v2, kEn w "__firstlineno__" t3 v3, kEn w "__slots__" (u1 + 1) (.ref sl), kEn w "__init__" uI (.ref fI), kEn w "__lt__" uL (.ref fL), kEn w "__gt__" uG (.ref fG), kEn w "__eq__" uE (.ref fE), kEn w "__le__" uLe (.ref fLe), kEn w "__ge__" u (.ref f)]) D (.tail _ (.tail _ (.tail _ (.tail _ (.tail _ (.tail _ (.tail _ (.tail _ (.tail _ (.tail _ (.tail _ hck))))))))))) hC rfl rfl hG hPm b1 b2 b3 b4 b5 b6 hPb rfl rfl (by rfl) (clos := [("mycmp", cc)]) (by rfl) N4.1 (N4.2 _ (by decide)) rfl rfl rfl (by kernel_rfl) (fun f u => by kernel_rfl) (fun fGe cGe oGe ctGe dGe uGe h10 t10 D rGe => ?_)
  have N5 := N4.snoc (l := 26) (c := 8) (v := .ref cGe) (by decide)
  refine wpAny_execs_cons (wpAny_Assign_Name (wpAny_Constant_none ?_))
  refine c_store (es' := [kEn w "__module__" t1 vm, kEn w "__qualname__" t2 v2, kEn w "__firstlineno__" t3 v3, kEn w "__slots__" (u1 + 1) (.ref sl), kEn w "__init__" uI (.ref fI), kEn w "__lt__" uL (.ref fL), kEn w "__gt__" uG (.ref fG), kEn w "__eq__" uE (.ref fE), kEn w "__le__" uLe (.ref fLe), kEn w "__ge__" uGe (.ref fGe), kEn w "__hash__" t10 .none]) (n' := 11) rfl rfl (.inl rfl) D (by kernel_rfl) (by kernel_rfl) (fun h11 D => ?_)
  refine wpAny_execs_nil (wpAny_pure ?_)
  have mem : ∀ {p : Addr × Obj} {l l' : List (Addr × Obj)}, p ∈ l → p ∈ l' ++ l := fun h => List.mem_append_right _ h
  refine hq vm sl fI fL fG fE fLe fGe cI oI cL oL ctI ctL dI dL (u1 + 1) uI uL uG uE uLe uGe t10 t _ _ h11 (t10 + 1) D hm.symm ?_ ⟨u1, ?_⟩ ?_ ?_ rI ?_ ?_ rL ?_
  · intro p hp
    iterate 13 refine List.mem_cons_of_mem _ ?_
    exact hp
  · iterate 12 refine List.mem_cons_of_mem _ ?_
    exact List.mem_cons_self ..
  · iterate 10 refine List.mem_cons_of_mem _ ?_
    exact List.mem_cons_self ..
  · iterate 11 refine List.mem_cons_of_mem _ ?_
    exact List.mem_cons_self ..
  · iterate 8 refine List.mem_cons_of_mem _ ?_
    exact List.mem_cons_self ..
  · iterate 9 refine List.mem_cons_of_mem _ ?_
    exact List.mem_cons_self ..
  · intro f hf
    simp only [List.mem_cons, List.not_mem_nil, or_false] at hf
    have aux : ∀ {f : Addr} {o : Obj} {l : List (Addr × Obj)}, (f, o) ∈ l → o.cls = .type "function" → ∃ o, (f, o) ∈ l ∧ o.cls = .type "function" := fun a b => ⟨_, a, b⟩
    rcases hf with rfl | rfl | rfl | rfl
    · apply aux
      iterate 6 refine List.mem_cons_of_mem _ ?_
      exact List.mem_cons_self ..
      rfl
    · apply aux
      iterate 4 refine List.mem_cons_of_mem _ ?_
      exact List.mem_cons_self ..
      rfl
    · apply aux
      iterate 2 refine List.mem_cons_of_mem _ ?_
      exact List.mem_cons_self ..
      rfl
    · apply aux
      exact List.mem_cons_self ..
      rfl
end
end Mine
set_option Elab.async false
set_option maxRecDepth 100000
set_option linter.unusedVariables false
namespace Mine
open PySem PySem.W PyProof.Rows PySem.Calls SeqAt
open PySem.W.X (Mem)
set_option maxHeartbeats 4000000
section
local macro_rules | `(tactic| o_shape) => `(tactic| first
  | with_reducible (first
      | refine wpAny_bind ?_ | refine wpAny_pure ?_ | refine wpAny_holding ?_ | refine wpAny_rule ?_ | refine wpAny_mkInt' ?_ | refine wpAny_mkStr' ?_ | refine wpAny_fresh' ?_
      | refine wpAny_typeOf (by assumption) ?_ | refine wpAny_of_eq (by assumption) ?_ | refine wp_iff (by assumption) ?_ | refine wp_ift (by assumption) ?_ | refine wpAny_load' (by assumption) ?_ | refine wpAny_loadPart' (by assumption) ?_)
  | wp_delta
  | (with_reducible apply wpAny_ite_false); focus (rfl; done)
  | (with_reducible apply wpAny_ite_true); focus (rfl; done))
theorem kf50 : Slot "type" "__getattribute__" "type.__getattribute__" := .of (owner := "type") (n := "__getattribute__") (by rw [typeLookup_type, builtinLookup_eq_fast]; kernel_rfl) (by decide +kernel) (by decide +kernel) (by decide +kernel)
  (by first | exact .inl (by decide +kernel) | exact .inr (by decide +kernel)) (by rw [isSubtype_type]; kernel_rfl)
theorem kf51 : typeOf (.type "type") = pure (.type "type") := by kernel_rfl
variable {prog : Program} {w : World} {A : Around} {E : Value → Shared → Prop} {s : Shared}
theorem getPrep {Q : Option Value → Shared → Prop} (hq : ∀ f s', Calm s s' → s'.heap.get? f = some ⟨.type "builtin_function_or_method", none, .fields #[.builtin "type.__prepare__", .type "type"], #[]⟩ → s.heap.get? f = none → Q (some (.ref f)) s') :
    wpAny (model prog w) A (getAttr? (.type "type") (Str.ofString "__prepare__")) Q E s := by
  unfold getAttr? getAttrBy? getAttrBy
  refine wpAny_bind (wpAny_mkText (wpAny_bind (wpAny_attempt (wpAny_holding (wpAny_bind (wpAny_of_eq kf51 (wpAny_bind (wpAny_of_eq kf50.lookup ?_))))))))
  show wpAny _ _ (getAttrByItsOwn (.type "type") (.str "__prepare__" s.toks) (.type "type") (.builtin "type.__getattribute__") false false) _ _ _
  unfold getAttrByItsOwn hookBefore callGetattribute boundAndCalled
  refine wpAny_bind (wpAny_of_eq (show (if onTheHeap (.type "type") then typeLookup (.type "type") "__getattr__" else pure none) = pure none from rfl) ?_)
  refine wpAny_bind (wpAny_attempt (wpAny_holding ?_))
  show wpAny _ _ (bindSpecial (.builtin "type.__getattribute__") (.type "type") >>= _) _ _ _
  refine wpAny_bind (wpAny_of_eq (kf50.bind _) ?_)
  refine wpAny_mono prepA (fun v s' hv => ?_) (fun _ _ z => z.elim)
  obtain ⟨f, rfl, ⟨⟨h, tk, rfl⟩, k⟩, hf, hn⟩ := hv
  exact wpAny_pure (wpAny_pure (hq f _ ⟨⟨_, _, rfl⟩, k⟩ hf hn))

theorem kf53 : typeLookup (.type "dict") "__getitem__" = pure (some (.builtin "dict.__getitem__")) := by rw [typeLookup_type, builtinLookup_eq_fast]; kernel_rfl
/-- what the class statement made -/
inductive KMade (w : World) (pm : Value) (cc ka : Addr) (F : List (Addr × Obj)) : Prop
  | mk (na md bt sl fI fL fG fE fLe fGe st cI cL : Addr) (oI oL : Obj) (ctI ctL dI dL vm vl : Value) (kt : Str → Tok) (tn tq u1 u2 u3 : Tok)
    (h0 : (ka, kC2 ka na "cmp_to_key.<locals>.K" #[some (.ref bt), none, some (.str "K" tn), some (.str "cmp_to_key.<locals>.K" tq), some (.builtin "object.__new__"), some (.bool false)]) ∈ F)
    (h1 : (na, (⟨.type "dict", none, .dict (kEnts2 (hashStr w) kt vm vl (.ref sl) (.ref fI) (.ref fL) (.ref fG) (.ref fE) (.ref fLe) (.ref fGe) (.ref st) ++ ([⟨hashStr w "obj", .str "obj" u1, .ref md⟩, ⟨hashStr w "__doc__", .str "__doc__" u2, .none⟩] : List DictEntry)).toArray 3, #[]⟩ : Obj)) ∈ F)
    (h2 : (md, mdObj ka u3) ∈ F)
    (h3 : (fI, fnMade "__init__" ("cmp_to_key.<locals>.K." ++ "__init__") (fArgs (mStmt 2)) (fBody (mStmt 2)) (fScope (mStmt 2)) [] dI pm cI ctI) ∈ F)
    (h4 : (cI, oI) ∈ F)
    (h5 : (∃ vs t, oI.data = .fields vs ∧ vs[1]? = some (.str ("cmp_to_key.<locals>.K." ++ "__init__") t)))
    (h6 : (fL, fnMade "__lt__" ("cmp_to_key.<locals>.K." ++ "__lt__") (fArgs (mStmt 3)) (fBody (mStmt 3)) (fScope (mStmt 3)) [("mycmp", cc)] dL pm cL ctL) ∈ F)
    (h7 : (cL, oL) ∈ F)
    (h8 : (∃ vs t, oL.data = .fields vs ∧ vs[1]? = some (.str ("cmp_to_key.<locals>.K." ++ "__lt__") t))) : KMade w pm cc ka F
theorem buildK {Q : Value → Shared → Prop} {h : Heap} {g : Array GenState} {d : Drawn} {t : Nat} {os : OsState} {firstLine : Nat} {env : Env} {pos : Pos} {c P bm cc : Addr} {vn : Value} {ob : Obj} {mg : Str → Option Value}
    (hsys : h.get? sysModules ≠ none) (hcl : closureFor (cScope kStmt) env = pure [(Str.ofString "mycmp", cc)]) (hcode : env.code = .ref c) (C : CodeHd h c P) (hP : h.get? P = some (tabObj #[]))
    (hge0 : env.globals = mainGlobals) (hg : h.Ns mainGlobals mg) (hvn : mg "__name__" = some vn) (b1 : mg "__builtins__" = some (.ref bm)) (b2 : bm ≠ builtinsNs) (b3 : h.get? bm = some ob) (b4 : ob.cls = .type "module") (b5 : ob.dict = some builtinsNs) (b6 : ob.data = .plain) (hlim : h.NoLimit) (hdep : A.depth < recursionLimit) (hop : ∀ C, Looks (model prog w) h (opaqueClassAbove (.ref C)) none) (hop' : ∀ h' : Heap, (∀ b o, b ≠ P → h.get? b = some o → h'.get? b = some o) → ∀ C, Looks (model prog w) h' (opaqueClassAbove (.ref C)) none)
    (hq : ∀ ka F h' t' pt, (∀ b o, b ≠ P → h.get? b = some o → h'.get? b = some o) → h'.get? P = some (tabObj pt) → (∀ p ∈ F, h'.get? p.1 = some p.2 ∧ h.get? p.1 = none) → KMade w ((mg "__name__").getD .none) cc ka F → Q (.ref ka) ⟨h', g, d, t', os⟩) :
    wpAny (model prog w) A (buildClass "K" "cmp_to_key.<locals>.K" [.type "object"] [] (cBody kStmt) (cScope kStmt) ["obj"] firstLine env pos none) Q E ⟨h, g, d, t, os⟩ := by
  have hs1 : ((cScope kStmt).names.lookup ("__class__" : Str) == some NameKind.cell) = false := by rfl
  have hs2 : ((cScope kStmt).names.lookup ("__classdict__" : Str) == some NameKind.cell) = false := by rfl
  have e10 := kf10
  have e11 := kf11
  have e3 := kf3
  unfold buildClass
  have D := Mem.start h
  o_shape
  unfold newTuple
  refine m_newObj D (by size_fits) rfl (fun bt h1 D => ?_)
  refine wpAny_bind (wp_for1 (x := Value.type "object") ?_)
  iterate 16 o_shape
  refine wp_for1 (x := Value.type "object") ?_
  iterate 17 o_shape
  refine getPrep (fun f s' c hf hfn => ?_)
  obtain ⟨⟨h2, t2, rfl⟩, k2⟩ := c
  have D := m_more D k2
  iterate 1 o_shape
  rw [List.filter_nil]
  refine wpAny_mono (prepB hf) (fun v s' hv => ?_) (fun _ _ z => z.elim)
  obtain ⟨nt, rfl, ⟨⟨h3, t3, rfl⟩, k3⟩, hnt, hntn⟩ := hv
  have k03 : ∀ b o, h.get? b = some o → h3.get? b = some o := fun b o e => k3 _ _ (oldOf D b o e)
  have hbt : h3.get? bt = some ⟨.type "tuple", none, .seq #[.type "object"] 0, #[]⟩ := k3 _ _ (D.at 0 _ _ rfl)
  have nt0 : h.get? nt = none := by
    cases e : h.get? nt with
    | none => rfl
    | some o => have := oldOf D _ _ e; rw [hntn] at this; cases this
  have bt0 : h.get? bt = none := (D.nw (bt, _) (.head _)).2
  have hnt1 : (nt == sysModules) = false := by
    cases e : nt == sysModules with
    | false => rfl
    | true => have := eq_of_beq e; rw [this] at nt0; exact absurd nt0 hsys
  have hTn : (⟨h3, g, d, t3, os⟩ : Shared).TypeIs (.ref nt) "dict" := ⟨_, hnt, rfl⟩
  have e53 := kf53
  iterate 21 o_shape
  refine classCode0 hcode (C.keeps k03) (k03 _ _ hP) (fun ck pk h4 t4 k4 hck hpk Ck hPk hrk hP4 => ?_)
  have tabNe : ∀ {a : Addr} {o : Obj}, h.get? a = some o → (∀ vs, o.data ≠ .fields vs) → P ≠ a := fun e hn q => by
    rw [← q, hP] at e; cases e; exact hn _ rfl
  have ne4 : ∀ b o, b ≠ P → h.get? b = some o → h4.get? b = some o := fun b o hb e => k4 b o hb (k03 b o e)
  have nsNe : ∀ {a : Addr} {m : Str → Option Value}, h.Ns a m → P ≠ a := fun hn => by
    obtain ⟨o, es, ep, e, hd, _⟩ := hn
    exact tabNe e (fun vs q => by rw [hd] at q; cases q)
  have hPm := nsNe hg
  have hPb := tabNe b3 (fun vs q => by rw [b6] at q; cases q)
  have P0 : h.get? P ≠ none := by rw [hP]; exact fun q => nomatch q
  have up4 : ∀ {a : Addr} {o : Obj}, h3.get? a = some o → h.get? a = none → h4.get? a = some o := fun e e0 => k4 _ _ (fun q => P0 (by rw [← q]; exact e0)) e
  have no3 : ∀ {a : Addr}, h3.get? a = none → h.get? a = none := fun {a} e => by
    cases q : h.get? a with
    | none => rfl
    | some o => rw [k03 _ _ q] at e; cases e
  have pk3 : h3.get? pk = none := get_none_of_size hpk
  have ck3 : h3.get? ck = none := get_none_of_size hck
  obtain ⟨oc, hC, hoc⟩ : ∃ oc, (∀ h', h'.get? ck = some oc → CodeHd h' ck pk) ∧ h4.get? ck = some oc := by
    obtain ⟨o2, vs2, a1, a2, a3, a4, a5, a6, a7, c1, c2⟩ := Ck
    exact ⟨o2, fun h' e => ⟨o2, vs2, a1, a2, a3, a4, a5, a6, a7, e, c2⟩, c1⟩
  have ckpk : ck ≠ pk := by
    obtain ⟨o2, vs2, a1, a2, a3, a4, a5, a6, a7, c1, c2, c3, c4, c5, c6, c7, c8, c9, c10⟩ := Ck
    exact c10
  have hntF : h3.get? nt = some (dObj [] 0) := hnt
  have D : CB h P (tabObj #[rawInt pos.line, rawInt pos.col, .ref ck]) nt pk (dObj [] 0) #[] [(bt, ⟨.type "tuple", none, .seq #[.type "object"] 0, #[]⟩), (ck, oc)] h4 := by
    refine ⟨ne4, hP4, P0, up4 hntF nt0, nt0, hPk, no3 pk3, fun q => ?_, fun p hp => ?_⟩
    · rw [q, pk3] at hnt; cases hnt
    · rcases List.mem_cons.mp hp with rfl | hp
      · refine ⟨up4 hbt bt0, bt0, fun q => ?_, fun q => ?_⟩
        · have e2 := D.at 0 bt _ rfl
          have q' : bt = nt := q
          rw [q', hntn] at e2; cases e2
        · have q' : bt = pk := q
          rw [q', pk3] at hbt; cases hbt
      · obtain rfl := List.mem_singleton.mp hp
        refine ⟨hoc, no3 ck3, fun q => ?_, ckpk⟩
        have q' : ck = nt := q
        rw [← q', ck3] at hnt; cases hnt
  o_shape
  have hg4 : h4.Ns mainGlobals mg := by
    obtain ⟨o, es, ep, e, r⟩ := hg
    exact ⟨o, es, ep, ne4 _ _ (Ne.symm hPm) e, r⟩
  rw [hge0]
  refine wpAny_builtinsFor hg4 b1 b2 (ne4 _ _ (Ne.symm hPb) b3) b4 b5 b6 ?_
  o_shape
  unfold newBodyFrame
  refine wpAny_bind (wpAny_nsGet hg4 ?_)
  have D := D.made (o := { cls := Value.type "frame", slots := #[some (Value.ref ck), some (Value.ref mainGlobals), some (Value.ref nt), none, some ((mg (Str.ofString "__name__")).getD Value.none), none, some (Value.ref builtinsNs)] }) rfl
  refine wpAny_alloc' ?_
  generalize (h4.push { cls := Value.type "frame", slots := #[some (Value.ref ck), some (Value.ref mainGlobals), some (Value.ref nt), none, some ((mg (Str.ofString "__name__")).getD Value.none), none, some (Value.ref builtinsNs)] }) = h5 at D ⊢
  generalize h4.objs.size = fr at D ⊢
  rw [hcl]
  refine wpAny_bind (wpAny_pure ?_)
  have hg5 : h5.Ns mainGlobals mg := by
    obtain ⟨o, es, ep, e, r⟩ := hg
    exact ⟨o, es, ep, D.keep _ _ (Ne.symm hPm) e, r⟩
  have hlim5 : h5.NoLimit := by
    obtain ⟨mc, ⟨o, es, ep, e, hd, r⟩, hn⟩ := hlim
    exact ⟨mc, ⟨o, es, ep, D.keep _ _ (Ne.symm (tabNe e (fun vs q => by rw [hd] at q; cases q))) e, hd, r⟩, hn⟩
  show wpAny _ _ (holding _ _) _ _ _
  refine wpAny_holding (wpAny_bind (wpAny_enterFrame hlim5 hdep ?_))
  refine wpAny_bind (wpAny_onRaise ?_)
  refine wpAny_bind (c_name (env := kEnv nt ck fr [("mycmp", cc)]) rfl rfl rfl rfl (by rfl) D (by kernel_rfl) hg5 hvn (by rfl) ?_)
  refine wpAny_bind (c_store (env := kEnv nt ck fr [("mycmp", cc)]) (es' := [kEn w "__module__" t4 vn]) (n' := 1) rfl rfl (.inl rfl) D (by kernel_rfl) (by kernel_rfl) (fun h6 D => ?_))
  refine wpAny_bind (wpAny_mkText ?_)
  refine wpAny_bind (c_store (env := kEnv nt ck fr [("mycmp", cc)]) (es' := [kEn w "__module__" t4 vn, kEn w "__qualname__" (t4 + 1 + 1) (.str "cmp_to_key.<locals>.K" (t4 + 1))]) (n' := 2) rfl rfl (.inr ⟨rfl, rfl⟩) D (by kernel_rfl) (by kernel_rfl) (fun h7 D => ?_))
  refine wpAny_bind (wpAny_mkInt ?_)
  refine wpAny_bind (c_store (env := kEnv nt ck fr [("mycmp", cc)]) (es' := [kEn w "__module__" t4 vn, kEn w "__qualname__" (t4 + 1 + 1) (.str "cmp_to_key.<locals>.K" (t4 + 1)), kEn w "__firstlineno__" (t4 + 1 + 1 + 1 + 1) (.int firstLine (t4 + 1 + 1 + 1))]) (n' := 3) rfl rfl (.inr ⟨rfl, rfl⟩) D (by kernel_rfl) (by kernel_rfl) (fun h8 D => ?_))
  refine wpAny_pure ?_
  refine wpAny_bind (runBodyK D (.tail _ (.tail _ (.head _))) hC hg hPm b1 b2 b3 b4 b5 b6 hPb ?_)
  intro vm sl fI fL fG fE fLe fGe cI oI cL oL ctI ctL dI dL ts uI uL uG uE uLe uGe uh u ps' fz' h9 t9 D hvm hsub hsl hfI hcI rI hfL hcL rL hfs
  refine wpAny_bind (wpAny_onRaise ?_)
  have eM : (List.mapM mkText [Str.ofString "obj"] : Sem (List Value)) = (do let a ← mkText (Str.ofString "obj"); pure [a]) := by
    simp only [List.mapM_cons, List.mapM_nil, pure_bind]
  rw [eM]
  refine wpAny_bind (wpAny_bind (wpAny_mkText (wpAny_pure ?_)))
  refine wpAny_bind (wpAny_newTextTuple ?_)
  have D := D.made (o := { cls := .type "tuple", data := .seq [Value.str "obj" t9].toArray }) rfl
  refine wpAny_bind (c_store (env := kEnv nt ck fr [("mycmp", cc)]) (es' := [kEn w "__module__" t4 vm, kEn w "__qualname__" (t4 + 1 + 1) (.str "cmp_to_key.<locals>.K" (t4 + 1)), kEn w "__firstlineno__" (t4 + 1 + 1 + 1 + 1) (.int firstLine (t4 + 1 + 1 + 1)), kEn w "__slots__" ts (.ref sl), kEn w "__init__" uI (.ref fI),
        kEn w "__lt__" uL (.ref fL), kEn w "__gt__" uG (.ref fG), kEn w "__eq__" uE (.ref fE), kEn w "__le__" uLe (.ref fLe), kEn w "__ge__" uGe (.ref fGe), kEn w "__hash__" uh .none, kEn w "__static_attributes__" (t9 + 1) (.ref h9.objs.size)]) (n' := 12) rfl rfl (.inr ⟨rfl, rfl⟩) D (by kernel_rfl) (by kernel_rfl) (fun h10 D => ?_))
  refine wpAny_pure ?_
  iterate 3 o_shape
  generalize h9.objs.size = st at D
  obtain ⟨kt, hkt⟩ : ∃ kt : Str → Tok, ([kEn w "__module__" t4 vm, kEn w "__qualname__" (t4 + 1 + 1) (.str "cmp_to_key.<locals>.K" (t4 + 1)), kEn w "__firstlineno__" (t4 + 1 + 1 + 1 + 1) (.int firstLine (t4 + 1 + 1 + 1)), kEn w "__slots__" ts (.ref sl), kEn w "__init__" uI (.ref fI),
        kEn w "__lt__" uL (.ref fL), kEn w "__gt__" uG (.ref fG), kEn w "__eq__" uE (.ref fE), kEn w "__le__" uLe (.ref fLe), kEn w "__ge__" uGe (.ref fGe), kEn w "__hash__" uh .none, kEn w "__static_attributes__" (t9 + 1) (.ref st)] : List DictEntry) =
      kEnts (hashStr w) kt vm (.str "cmp_to_key.<locals>.K" (t4 + 1)) (.int firstLine (t4 + 1 + 1 + 1)) (.ref sl) (.ref fI) (.ref fL) (.ref fG) (.ref fE) (.ref fLe) (.ref fGe) (.ref st) :=
    ⟨fun x => (([("__module__", t4), ("__qualname__", t4 + 1 + 1), ("__firstlineno__", t4 + 1 + 1 + 1 + 1), ("__slots__", ts), ("__init__", uI), ("__lt__", uL), ("__gt__", uG), ("__eq__", uE), ("__le__", uLe), ("__ge__", uGe), ("__hash__", uh), ("__static_attributes__", t9 + 1)] : List (Str × Tok)).lookup x).getD 0, by kernel_rfl⟩
  rw [hkt] at D
  have memS : ∀ {p : Addr × Obj}, p ∈ fz' → p ∈ (st, (⟨.type "tuple", none, .seq [Value.str "obj" t9].toArray 0, #[]⟩ : Obj)) :: fz' := fun h => .tail _ h
  have D : CB h P (tabObj #[rawInt pos.line, rawInt pos.col, .ref ck]) nt pk (dObj (kEnts (hashStr w) kt vm (.str "cmp_to_key.<locals>.K" (t4 + 1)) (.int firstLine (t4 + 1 + 1 + 1)) (.ref sl) (.ref fI) (.ref fL) (.ref fG) (.ref fE) (.ref fLe) (.ref fGe) (.ref st)) 12) ps' ((st, (⟨.type "tuple", none, .seq [Value.str "obj" t9].toArray 0, #[]⟩ : Obj)) :: fz') h10 := D
  obtain ⟨uS, hsl⟩ := hsl
  have pf : ∀ f o, (f, o) ∈ fz' → o.cls = .type "function" → PlainV h10 (.ref f) := fun f o hm hc => ⟨fun i e => (nomatch e), "function", by simp, fun _ _ _ _ => ⟨o, (D.fz _ (memS hm)).1, hc⟩⟩
  refine typeCall (fun A' Q' E' hQ => typeNew (hs := hashStr w) (kt := kt) (eb := 0) (e0 := 0) (hb := (D.fz (bt, _) (memS (hsub _ (.tail _ (.head _))))).1) (hn := D.ns) (hnt := hnt1) (hpl := ?_) (hsl := (D.fz _ (memS hsl)).1) (hqn := rfl) (hop := hop' _ D.keep) (hq := fun ka na md h' t' M => ?_))
  · intro v hv
    simp only [List.mem_cons, List.not_mem_nil, or_false] at hv
    rcases hv with rfl | rfl | rfl | rfl | rfl | rfl | rfl | rfl | rfl
    · rw [hvm]; exact ⟨fun i e => (nomatch e), "str", by simp, fun _ _ _ _ => (rfl : typeOf (.str _ _) = _)⟩
    · exact ⟨fun i e => (nomatch e), "int", by simp, fun _ _ _ _ => (rfl : typeOf (.int _ _) = _)⟩
    · exact pf _ _ hfI rfl
    · exact pf _ _ hfL rfl
    · obtain ⟨o, hm, hc⟩ := hfs _ (.head _); exact pf _ _ hm hc
    · obtain ⟨o, hm, hc⟩ := hfs _ (.tail _ (.head _)); exact pf _ _ hm hc
    · obtain ⟨o, hm, hc⟩ := hfs _ (.tail _ (.tail _ (.head _))); exact pf _ _ hm hc
    · obtain ⟨o, hm, hc⟩ := hfs _ (.tail _ (.tail _ (.tail _ (.head _)))); exact pf _ _ hm hc
    · exact ⟨fun i e => (nomatch e), "tuple", by simp, fun _ _ _ _ => ⟨_, (D.fz _ (.head _)).1, rfl⟩⟩
  · refine hQ ka _ ⟨_, M.at 1 _ _ rfl, rfl⟩ (wpAny_pure ?_)
    have fin : ∀ {news : List (Addr × Obj)}, Mem h10 h' [] news → KMade w ((mg "__name__").getD .none) cc ka (news ++ ((st, (⟨.type "tuple", none, .seq [Value.str "obj" t9].toArray 0, #[]⟩ : Obj)) :: fz')) → Q (.ref ka) ⟨h', g, d, t', os⟩ := fun {news} M hk =>
      hq ka _ h' t' _ (fun b o hb e => oldOf M _ _ (D.keep b o hb e)) (oldOf M _ _ D.tab) (fun p hp => (List.mem_append.mp hp).elim (fun hp => ⟨(M.nw p hp).1, D.old0 (M.nw p hp).2⟩) (fun hp => ⟨oldOf M _ _ (D.fz p hp).1, (D.fz p hp).2.1⟩)) hk
    refine fin M ?_
    refine ⟨na, md, bt, sl, fI, fL, fG, fE, fLe, fGe, st, cI, cL, oI, oL, ctI, ctL, dI, dL, vm, _, kt, _, _, _, _, _, .tail _ (.head _), .tail _ (.tail _ (.head _)), .head _, ?_, ?_, rI, ?_, ?_, rL⟩
    · exact List.mem_append_right _ (memS hfI)
    · exact List.mem_append_right _ (memS hcI)
    · exact List.mem_append_right _ (memS hfL)
    · exact List.mem_append_right _ (memS hcL)
end
end Mine
set_option Elab.async false
set_option maxRecDepth 100000
set_option linter.unusedVariables false
namespace Mine
open PySem PySem.W PyProof.Rows PySem.Calls SeqAt

/-! ## cmp_to_key -/
noncomputable def putL (g : Vw) : List (Addr × Obj) → Vw
  | [] => g
  | p :: r => fun b => if b = p.1 then some p.2 else putL g r b
theorem putL_mem {g : Vw} {b : Addr} {o : Obj} : ∀ {F : List (Addr × Obj)}, putL g F b = some o → (b, o) ∈ F ∨ g b = some o
  | [], h => .inr h
  | p :: r, h => by
    unfold putL at h
    split at h
    · rename_i q; cases h; exact .inl (by rw [q]; exact List.mem_cons_self ..)
    · exact (putL_mem h).imp (fun h => .tail _ h) id
theorem putL_some {g : Vw} {b : Addr} {o : Obj} : ∀ {F : List (Addr × Obj)}, (b, o) ∈ F → ∃ o', putL g F b = some o'
  | p :: r, h => by
    unfold putL
    by_cases q : b = p.1
    · exact ⟨p.2, if_pos q⟩
    · rw [if_neg q]
      rcases List.mem_cons.mp h with rfl | h
      · exact absurd rfl q
      · exact putL_some h
theorem putL_none {g : Vw} {b : Addr} : ∀ {F : List (Addr × Obj)}, (∀ p ∈ F, b ≠ p.1) → putL g F b = g b
  | [], _ => rfl
  | p :: r, h => by
    unfold putL
    rw [if_neg (h p (.head _))]
    exact putL_none fun q hq => h q (.tail _ hq)
section
variable {s : Shared} {g : Vw}
theorem AfterM.putL {P : Addr} {F : List (Addr × Obj)} {h' : Heap} {t' : Nat} {oP : Obj} (hg : Sub g s.heap) (gP : g P = none) (k : ∀ b o, b ≠ P → s.heap.get? b = some o → h'.get? b = some o) (hP : h'.get? P = some oP) (hP0 : s.heap.get? P ≠ none)
    (hF : ∀ p ∈ F, h'.get? p.1 = some p.2 ∧ s.heap.get? p.1 = none) : AfterM [P] g s (putL g F) { s with heap := h', toks := t' } ∧ ∀ p ∈ F, Mine.putL g F p.1 = some p.2 := by
  have gn : ∀ p ∈ F, g p.1 = none := fun p hp => by
    cases q : g p.1 with
    | none => rfl
    | some o => have := hg _ _ q; rw [(hF p hp).2] at this; cases this
  refine ⟨⟨⟨_, _, rfl⟩, fun b o hb e => k b o (fun q => hb (by rw [q]; exact .head _)) e, fun b hb => ?_, fun b o e => ?_, fun b o e => ?_, fun b hb e => ?_⟩, fun p hp => ?_⟩
  · by_cases q : b = P
    · rw [q, hP]; exact fun z => nomatch z
    · cases e : s.heap.get? b with
      | none => exact absurd e hb
      | some o => rw [k b o q e]; exact fun z => nomatch z
  · rw [putL_none fun p hp q => by rw [q, gn p hp] at e; cases e]; exact e
  · rcases putL_mem e with hm | hm
    · exact (hF _ hm).1
    · exact k b o (fun q => by rw [q, gP] at hm; cases hm) (hg b o hm)
  · rw [putL_none fun p hp q => hb (by rw [q]; exact (hF p hp).2)]; exact e
  · obtain ⟨o', e⟩ := putL_some (g := g) hp
    rcases putL_mem e with hm | hm
    · have a := (hF _ hm).1
      have b := (hF _ hp).1
      rw [a] at b; cases b; exact e
    · rw [gn p hp] at hm; cases hm
end

noncomputable def KV (w : World) (g : Vw) (v fr : Value) : Prop := E5 fun ka F pm cc oc => C5 (v = .ref ka) (∀ p ∈ F, g p.1 = some p.2) (KMade w pm cc ka F) (g cc = some oc) (oc.data = .cell (some fr))
section
variable {prog : Program} {w : World} {A : Around} {E : Value → Shared → Prop} {s : Shared} {g : Vw} {S : Heap} {mg mb : Str → Option Value}
theorem evalArgsN {f : Value} {e : Expr} {env : Env} {pos : Pos} {Q : Args → Shared → Prop} (h : wpAny (model prog w) A (eval e env) (fun v s' => Q ⟨[v], []⟩ s') E s)
    (he : starEach [e] env = [(false, eval e env)] := by rfl) : wpAny (model prog w) A (evalArgs f false (backTo pos (starEach [e] env)) (backToKw pos (keywordEach [] env))) Q E s := by
  have hs : wpAny (model prog w) A (spliced (backTo pos (starEach [e] env))) (fun vs s' => Q ⟨vs, []⟩ s') E s := by
    rw [he]
    exact Calls.spliced_cons (wpAny_mono h (fun v s' q => Calls.spliced_nil q) fun _ _ q => q)
  unfold evalArgs
  refine wpAny_bind (wpAny_mono hs (fun vs s' q => ?_) fun _ _ q => q)
  refine wpAny_holding ?_
  exact wpAny_bind (wpAny_pure (wpAny_bind (wpAny_pure (wpAny_pure q))))
theorem cmpkey_call {a P c : Addr} {pm cd doc fr vn : Value} {d : Nat} {Q : Value → Shared → Prop} (hg : Sub g s.heap) (hTg : Le S.get? g) (G : Globs S mg mb) (BM : BMain S mg) (F : FnAt S a 2 pm cd doc .none) (r : Room A (d + 2))
    (C : CodeHd S c P) (hcd : cd = .ref c) (hP : s.heap.get? P = some (tabObj #[])) (gP : g P = none) (hsys : S.get? sysModules ≠ none) (hop : ∀ C, Looks (model prog w) S (opaqueClassAbove (.ref C)) none) (hvn : mg "__name__" = some vn)
    (h : ∀ v g' s', AfterM [P] g s g' s' → (∃ ps, s'.heap.get? P = some (tabObj ps)) → KV w g' v fr → Q v s') : wpAny (model prog w) A (call (.ref a) [fr]) Q E s := by
  refine call_cm (mu0 := [(P, tabObj #[])]) (m0 := fun _ => none) (cm0 := upd (fun _ => none) (Str.ofString "mycmp") fr) (cs0 := fun L => [(Str.ofString "mycmp", L + 1)]) hg hTg G.st rfl F r
    (fun p hp => by rw [List.mem_singleton.mp hp]; exact ⟨hP, gP⟩) (by simp)
    (binds := [(Str.ofString "mycmp", fr)]) (by rfl) (by rfl) (by decide +kernel) (fun _ => rfl) (fun _ => rfl) (fun _ => rfl) (by rfl) (by rfl) (by rfl) ?_
  intro B L s₁ O hfr A1 r I
  have ST := G.st
  have hu : A1.units + 40 < cLine := by have := r.units; unfold cLine; lia
  show wpAny _ _ (execs (.ClassDef "K" [.Name "object" _] [] (cBody kStmt) [] [] (cScope kStmt) none "K" ["obj"] _ :: _) _) _ _ _
  refine wpAny_execs_cons ?_
  rw [arm_exec_ClassDef]
  refine wpAny_bind (wpAny_of_eq (show evalAll (evalEach [] (callEnvC (fdOf 2 pm cd doc .none) L a)) = pure [] from rfl) ?_)
  refine wpAny_bind (wpAny_standAt ?_)
  unfold buildClassGuard
  refine wpAny_bind (wpAny_bind (wpAny_nsGet (ST.b.keeps (I.st O.T)) ?_))
  rw [(ST.boot "__build_class__" (by decide)).trans (by kernel_rfl : bootBuiltins (Str.ofString "__build_class__") = some (.builtin "__build_class__"))]
  refine wpAny_pure ?_
  refine wpAny_bind (wpAny_holding ?_)
  refine wpAny_bind (evalArgsN ?_)
  refine r_builtin I ST O.T (by rfl) (by rfl) (by rfl) (by rfl) (G.no "object" (.tail _ (.tail _ (.tail _ (.tail _ (.tail _ (.tail _ (.tail _ (.tail _ (.tail _ (.tail _ (.tail _ (.tail _ (.tail _ (.tail _ (.tail _ (.tail _ (.tail _ (.tail _ (.tail _ (.tail _ (.tail _ (.tail _ (.tail _ (.tail _ (.tail _ (.head _))))))))))))))))))))))))))) (by kernel_rfl : bootBuiltins (Str.ofString "object") = some (.type "object")) (by decide) (by decide) ?_
  refine wpAny_bind (wpAny_standAt (wpAny_holding ?_))
  have HP := I.muH _ (.head _)
  obtain ⟨h1, g1, d1, t1, os1⟩ := s₁
  have hBM := BM
  obtain ⟨bm, ob, b1, b2, b3, b4, b5, b6⟩ := hBM
  have up := I.st O.T
  have SP : ∀ b o, S.get? b = some o → b ≠ P := fun b o e q => by
    have := I.stat b o (by rw [O.T]; exact e)
    rw [q] at this
    have z : g P = none := HP.2.1
    rw [z] at this; cases this
  show wpAny _ _ (buildClass (Str.ofString "K") "cmp_to_key.<locals>.K" [.type "object"] [] (cBody kStmt) (cScope kStmt) ["obj"] 7 (callEnvC (fdOf 2 pm cd doc .none) L a) _ none) _ _ _
  refine buildK (h := h1) (env := callEnvC (fdOf 2 pm cd doc .none) L a) (c := c) (P := P) (cc := L + 1) (mg := mg) (vn := vn) ?_ (by rfl) (by rw [← hcd]; rfl) (C.keeps up) HP.1 (by rfl) (ST.g.keeps up) hvn b1 b2 (up _ _ b3) b4 b5 b6 (ST.lim.keeps up) r.lim (fun C' => (hop C').keeps up) (fun h' k C' => (hop C').keeps fun b o e => k b o (SP b o e) (up b o e)) ?_
  · cases e : S.get? sysModules with
    | none => exact absurd e hsys
    | some o => rw [up _ _ e]; exact fun q => nomatch q
  intro ka Fz h' t' pt kk hpt hF hK
  obtain ⟨am, hFg⟩ := AfterM.putL (t' := t') I.sub HP.2.1 kk hpt (by rw [HP.1]; exact fun q => nomatch q) hF
  have J := I.afterM (mu0 := [(P, tabObj #[])]) (mu0' := [(P, tabObj pt)]) (mu := []) am rfl (fun p hp => by rw [List.mem_singleton.mp hp]; exact hpt)
  refine wpAny_bind (wpAny_pure ?_)
  refine wpAny_bind (wpAny_standAt ?_)
  refine wpAny_bind (wpAny_bindName ?_)
  refine r_storeLocal J (by rfl) (by rfl) ?_
  intro s2 I
  refine wpAny_pure ?_
  refine r_return (r_local I (by rfl) (by rfl) (by rfl) (by decide) ?_)
  have HP := I.muH _ (.head _)
  have Z := O.fin I (fun b hb => by rw [List.mem_singleton.mp hb]; exact alive HP.1)
  obtain ⟨oc, ec, dc⟩ := I.cell _ _ (.head _)
  have nc := (I.cg _ _ (.head _)).1
  have Z := Z.put (hfr _ (.head _)) ec nc
  refine h _ _ _ Z ⟨_, HP.1⟩ ⟨ka, Fz, _, L + 1, oc, rfl, fun p hp => ?_, hK, put_self .., dc⟩
  rw [put_ne (fun q => ?_)]
  · exact hFg p hp
  · have e := hFg p hp
    rw [q, nc] at e; cases e
end
end Mine
set_option Elab.async false
set_option maxRecDepth 100000
set_option linter.unusedVariables false
namespace Mine
open PySem PySem.W PyProof.Rows PySem.Calls SeqAt

/-! ## What the class K answers -/
theorem kfind {F : Frag} {ka na : Addr} {qn name : Str} {sl : Array (Option Value)} {es : List DictEntry} {n : Nat} {u y : Option Value} (hka : F.lookup ka = some (kC2 ka na qn sl)) (hna : F.lookup na = some (dObj es n))
    (hu : (match es.find? (·.key.isStr name) with | some e => some (some e.val) | none => if es.any (·.refKey) then none else some none) = some u) (hb : alongIn F name [.type "object"] = some y) :
    findIn F (.ref ka) name = some (u.or y) := by
  have hn : nsIn F na name = some u := by
    unfold nsIn
    rw [hna]
    exact hu
  show (match F.lookup ka with | some ⟨_, _, .cls cd, _⟩ => alongIn F name cd.mro | _ => none) = _
  rw [hka]
  show alongIn F name [.ref ka, .type "object"] = _
  have ho : ownIn F name (.ref ka) = some u := by
    show (match F.lookup ka with | some ⟨_, _, .cls cd, _⟩ => nsIn F cd.ns name | _ => none) = _
    rw [hka]
    exact hn
  unfold alongIn
  rw [ho]
  cases u with
  | some v => rfl
  | none => exact hb

structure KAns (w : World) (F : Frag) (ka md fI fL : Addr) : Prop where
  makes : makesIn F ka = true
  init : findIn F (.ref ka) "__init__" = some (some (.ref fI))
  lt : findIn F (.ref ka) "__lt__" = some (some (.ref fL))
  tI : typeIn F (.ref fI) = some (.type "function")
  tL : isFn F (.ref fL) = true
  get : plainGet F ka "obj" = true
  obj : findIn F (.ref ka) "obj" = some (some (.ref md))
  mget : specialIn F (.ref md) "__get__" = some (some (.builtin "member_descriptor.__get__"))
  takes : takesIn F (.ref md) = some true
  slot : slotIn F md ka = some 0
  cls : isClsIn F ka = true
  set : findIn F (.ref ka) "__setattr__" = some (some (.builtin "object.__setattr__"))
  over : plainOver F ka = true
  taker : takerIn F ka "obj" = some (some (.ref md))
  tm : typeIn F (.ref md) = some (.type "member_descriptor")

theorem KMade.ans {w : World} {pm : Value} {cc ka : Addr} {F : Frag} (hK : KMade w pm cc ka F) (hc : ∀ a o o', (a, o) ∈ F → (a, o') ∈ F → o = o') :
    E11 fun md fI fL cI cL oI oL ctI ctL dI dL => C7 (KAns w F ka md fI fL) ((fI, fnMade "__init__" ("cmp_to_key.<locals>.K." ++ "__init__") (fArgs (mStmt 2)) (fBody (mStmt 2)) (fScope (mStmt 2)) [] dI pm cI ctI) ∈ F) ((cI, oI) ∈ F) (∃ vs t, oI.data = .fields vs ∧ vs[1]? = some (.str ("cmp_to_key.<locals>.K." ++ "__init__") t)) ((fL, fnMade "__lt__" ("cmp_to_key.<locals>.K." ++ "__lt__") (fArgs (mStmt 3)) (fBody (mStmt 3)) (fScope (mStmt 3)) [("mycmp", cc)] dL pm cL ctL) ∈ F) ((cL, oL) ∈ F) (∃ vs t, oL.data = .fields vs ∧ vs[1]? = some (.str ("cmp_to_key.<locals>.K." ++ "__lt__") t)) := by
  obtain ⟨na, md, bt, sl, fI, fL, fG, fE, fLe, fGe, st, cI, cL, oI, oL, ctI, ctL, dI, dL, vm, vl, kt, tn, tq, u1, u2, u3, h1, h2, h3, h4, h5, h6, h7, h8, h9⟩ := hK
  have lk : ∀ {a : Addr} {o : Obj}, (a, o) ∈ F → F.lookup a = some o := fun {a o} hm => by
    cases e : F.lookup a with
    | none =>
      rw [List.lookup_eq_none_iff] at e
      have := e (a, o) hm
      simp at this
    | some o' =>
      have hm' : (a, o') ∈ F := by
        clear hc h1 h2 h3 h4 h5 h7 h8
        induction F with
        | nil => cases e
        | cons p r ih =>
          rw [List.lookup_cons] at e
          split at e
          · rename_i q
            have : a = p.1 := eq_of_beq q
            cases e
            rw [this]
            exact List.mem_cons_self ..
          · rcases List.mem_cons.mp hm with rfl | hm
            · rename_i q; simp at q
            · exact .tail _ (ih hm e)
      rw [hc _ _ _ hm hm']
  have k1 := lk h1
  have k2 := lk h2
  have k3 := lk h3
  have k4 := lk h4
  have k7 := lk h7
  have find : ∀ (name : Str) (u y : Option Value), _ → _ → findIn F (.ref ka) name = some (u.or y) := fun name u y a b => kfind (name := name) (u := u) (y := y) k1 k2 a b
  have tM : typeIn F (.ref md) = some (.type "member_descriptor") := by show (F.lookup md).map (·.cls) = _; rw [k3]; rfl
  have tK : typeIn F (.ref ka) = some (.type "type") := by show (F.lookup ka).map (·.cls) = _; rw [k1]; rfl
  have cK : clsIn F ka = some { name := "K", bases := [.type "object"], mro := [.ref ka, .type "object"], ns := na, qualname := "cmp_to_key.<locals>.K", hasDict := false, slotNames := ["obj"] } := by unfold clsIn; rw [k1]
  have fobj := find "obj" (some (.ref md)) none (by kernel_rfl) (by kernel_rfl)
  have tks : takesIn F (.ref md) = some true := by
    unfold takesIn specialIn
    rw [tM]
    kernel_rfl
  refine ⟨md, fI, fL, cI, cL, oI, oL, ctI, ctL, dI, dL, ⟨?_, ?_, ?_, ?_, ?_, ?_, fobj, ?_, tks, ?_, ?_, ?_, ?_, ?_, tM⟩, h4, h5, h6, h7, h8, h9⟩
  · have c1 : specialIn F (.ref ka) "__call__" = some (some (.builtin "type.__call__")) := by unfold specialIn; rw [tK]; kernel_rfl
    have c2 : instIn F (.ref ka) (.type "type") = some true := by unfold instIn; rw [tK]; kernel_rfl
    unfold makesIn
    rw [k1]
    simp [c1, c2]
  · exact find "__init__" (some (.ref fI)) (some (.builtin "object.__init__")) (by kernel_rfl) (by kernel_rfl)
  · exact find "__lt__" (some (.ref fL)) (some (.builtin "object.__lt__")) (by kernel_rfl) (by kernel_rfl)
  · show (F.lookup fI).map (·.cls) = _; rw [k4]; rfl
  · show ((F.lookup fL).map (·.cls) == _) = true; rw [k7]; rfl
  · unfold plainGet
    rw [find "__getattribute__" none (some (.builtin "object.__getattribute__")) (by kernel_rfl) (by kernel_rfl), find "__getattr__" none none (by kernel_rfl) (by kernel_rfl)]
    rfl
  · unfold specialIn; rw [tM]; kernel_rfl
  · unfold slotIn recIn
    rw [k3, cK]
    simp [rawInt]
  · unfold isClsIn; rw [cK]; rfl
  · exact find "__setattr__" none (some (.builtin "object.__setattr__")) (by kernel_rfl) (by kernel_rfl)
  · unfold plainOver; rw [cK]; rfl
  · unfold takerIn
    rw [fobj]
    show (takesIn F (.ref md)).map _ = _
    rw [tks]
    rfl
end Mine
set_option Elab.async false
set_option maxRecDepth 100000
set_option linter.unusedVariables false
namespace Mine
open PySem PySem.W PyProof.Rows PySem.Calls SeqAt

/-! ## Making a K, asking it -/
theorem Room.make {A : Around} {d : Nat} {C : Addr} {vals : List Value} {kw : List (Str × Value)} (r : Room A (d + 1)) : Room (A.under (.builtin "type.__call__" ⟨.ref C :: vals, kw⟩)) d :=
  ⟨r.handled, by have := r.depth; rw [depth_under_kw]; lia, by have := r.units; show A.units + 1 + 30 * d ≤ 9000; lia⟩
section
variable {prog : Program} {w : World} {A : Around} {E : Value → Shared → Prop} {s : Shared} {g : Vw} {S : Heap} {mg mb : Str → Option Value}
theorem code_clo {fa c' : Addr} {name qual : Str} {params : Arguments} {body : List Stmt} {scope : Scope} {cl : List (Str × Addr)} {doc pm ctv : Value} {oc : Obj} {vs : Array Value} {t : Tok} {vals : List Value} {binds : List (Str × Value)} {m0 : Str → Option Value} {d : Nat} {R : Result → Shared → Prop} {mu0 : List (Addr × Obj)}
    (hg : Sub g s.heap) (hTg : Le S.get? g) (ST : Stat S mg mb) (r : Room A (d + 1)) (hf : g fa = some (fnMade name qual params body scope cl doc pm c' ctv)) (hc' : g c' = some oc) (hd : oc.data = .fields vs) (hq : vs[1]? = some (.str qual t))
    (hmu : ∀ p ∈ mu0, s.heap.get? p.1 = some p.2 ∧ g p.1 = none) (hnd : (mu0.map (·.1)).Nodup)
    (hbind : bindArgs (fnX name qual params body scope cl .none .none doc pm none (.ref c') ctv) ⟨vals, []⟩ = pure binds) (hloc : ∀ y ∈ binds, scope.names.lookup y.1 = some .local) (hcell : ∀ x ∈ scope.names, x.2 ≠ .cell)
    (hm : (fun y => binds.reverse.lookup y) = m0) (hco : scope.isCoroutine = false) (hgen : scope.isGenerator = false) (hk : scope.kind = .function)
    (h : ∀ B L s₁, OpensM S.get? (mu0.map (·.1)) g s B → ∀ A', Room A' d → IF B g mu0 L m0 [] (fun _ => none) s₁ →
      wpAny (model prog w) A' (execs body (callEnv (fnX name qual params body scope cl .none .none doc pm none (.ref c') ctv) L fa)) (fun f s' => R (.ok (.ret (match f with | .ret v => v | _ => .none))) s') NoE s₁) :
    codeAny (model prog w) A (.call (.ref fa) ⟨vals, []⟩) R s := by
  have up : ∀ b o, S.get? b = some o → s.heap.get? b = some o := fun b o e => hg b o (hTg b o e)
  refine codeAny_call_def (fd := fnX name qual params body scope cl .none .none doc pm none (.ref c') ctv) (body := body) (binds := binds) r.lim (hg _ _ hf) rfl (ST.lim.keeps up) ⟨c', oc, vs, t, rfl, hg _ _ hc', hd, hq⟩ rfl (.of_eq hbind) hcell hloc (fun h₀ hns hk₀ => ?_) hco hgen hk
  rw [hm] at hns
  have hL : g s.heap.objs.size = none := none_of_size hg (Nat.le_refl _)
  have hlive : ∀ p ∈ mu0, p.1 ≠ s.heap.objs.size := fun p hp => Nat.ne_of_lt (Heap.lt_size (hmu p hp).1)
  have kNone : (if s.heap.objs.size ∈ mu0.map (·.1) then none else s.heap.get? s.heap.objs.size) = none := by
    rw [get_none_of_size (Nat.le_refl _)]; simp
  have I : IF ⟨S.get?, s, g, fun b => if b ∈ mu0.map (·.1) then none else s.heap.get? b, fun b => s.heap.get? b ≠ none ∧ g b = none⟩ g mu0 s.heap.objs.size m0 [] (fun _ => none) { s with heap := h₀, toks := s.toks + binds.length } := by
    refine ⟨⟨_, _, rfl⟩, hTg, Le.refl g, fun b hb => ⟨hb.2, alive_keep hk₀ hb.1⟩, fun b o e => ?_, fun b o e => hk₀ b o (hg b o e), hns, hL, kNone, fun _ _ h => (nomatch h), fun _ _ h => (nomatch h), .nil, fun p hp => ⟨hk₀ _ _ (hmu p hp).1, (hmu p hp).2, ?_, hlive p hp, fun _ h => nomatch h⟩, hnd⟩
    · dsimp only at e
      by_cases q : b ∈ mu0.map (·.1)
      · rw [if_pos q] at e; cases e
      · rw [if_neg q] at e; exact hk₀ b o e
    · dsimp only
      rw [if_pos (List.mem_map.mpr ⟨p, hp, rfl⟩)]
  have HO : OpensM S.get? (mu0.map (·.1)) g s ⟨S.get?, s, g, fun b => if b ∈ mu0.map (·.1) then none else s.heap.get? b, fun b => s.heap.get? b ≠ none ∧ g b = none⟩ := by
    refine ⟨rfl, fun {g' mu L m cs cm s'} K hl => ⟨K.same, fun b o hb e => K.keep b o ?_, fun b hb => ?_, K.ge, K.sub, fun b hb e => (K.off b ⟨hb, e⟩).1⟩, fun b hb q => q.1 hb, fun b h1 h2 => ⟨h1, h2⟩⟩
    · dsimp only; rw [if_neg hb]; exact e
    · by_cases q : b ∈ mu0.map (·.1)
      · exact hl b q
      · cases e : s.heap.get? b with
        | none => exact absurd e hb
        | some o => exact alive (K.keep b o (by dsimp only; rw [if_neg q]; exact e))
  exact wpAny_mono (h _ _ _ HO _ r.deeper I) (fun f s' q => q) (fun _ _ q => q.elim)

theorem IF.turnN {B : Base} {mu : List (Addr × Obj)} {L : Addr} {m : Str → Option Value} {cs : List (Str × Addr)} {cm : Str → Option Value} {a : Addr} {o o' : Obj} (I : IF B g ((a, o) :: mu) L m cs cm s) {h' : Heap} {t : Nat} (F : Fr hNil L h' m) (ho : h'.get? a = some o')
    (k : ∀ b x, b ≠ L → b ≠ a → s.heap.get? b = some x → h'.get? b = some x) : IF B g ((a, o') :: mu) L m cs cm { s with heap := h', toks := t } := by
  obtain ⟨h0, h1, h2, h3, h4⟩ := I.muH _ (.head _)
  have nd := I.nd
  rw [List.map_cons, List.nodup_cons] at nd
  refine ⟨?_, I.stat, I.ge, fun b hb => ⟨(I.off b hb).1, ?_⟩, fun b x e => k b x (fun q => by rw [q, I.Lk] at e; cases e) (fun q => by rw [q, h2] at e; cases e) (I.keep b x e), fun b x e => k b x (fun q => by rw [q, I.Lg] at e; cases e) (fun q => by rw [q, h1] at e; cases e) (I.sub b x e), F.ns, I.Lg, I.Lk, fun n c hc => ?_, I.cg, I.cap, fun p hp => ?_, I.nd⟩
  · obtain ⟨x1, t1, e1⟩ := I.same
    exact ⟨h', t, by rw [e1]⟩
  · by_cases q : b = L
    · subst q; obtain ⟨_, _, _, e, _⟩ := F.ns; exact alive e
    · by_cases q2 : b = a
      · subst q2; exact alive ho
      · cases e : s.heap.get? b with
        | none => exact absurd e (I.off b hb).2
        | some x => exact alive (k b x q q2 e)
  · obtain ⟨oc, e, d⟩ := I.cell n c hc
    exact ⟨oc, k c oc (I.cg n c hc).2.2 (h4 (n, c) hc) e, d⟩
  · rcases List.mem_cons.mp hp with rfl | hp
    · exact ⟨ho, h1, h2, h3, h4⟩
    · have q := I.muH p (.tail _ hp)
      exact ⟨k _ _ q.2.2.2.1 (fun z => nd.1 (List.mem_map.mpr ⟨p, hp, z⟩)) q.1, q.2⟩

/-- self.obj = obj -/
theorem k_set {B : Base} {mu : List (Addr × Obj)} {L : Addr} {m : Str → Option Value} {cs : List (Str × Addr)} {cm : Str → Option Value} {F : Frag} {ka md fI fL x dx : Addr} {v : Value} {Q : Unit → Shared → Prop} (KA : KAns w F ka md fI fL)
    (I : IF B g ((x, instObj ka dx) :: mu) L m cs cm s) (hF : ∀ p ∈ F, g p.1 = some p.2) (hx : g dx = some emptyDict)
    (h : ∀ s', IF B g ((x, { instObj ka dx with slots := #[some v] }) :: mu) L m cs cm s' → Q () s') : wpAny (model prog w) A (setAttr (.ref x) "obj" v) Q E s := by
  have X : F.In s.heap := fun a o e => by
    have : (a, o) ∈ F := by
      clear hF KA
      induction F with
      | nil => cases e
      | cons p r ih =>
        rw [List.lookup_cons] at e
        split at e
        · rename_i q
          have : a = p.1 := eq_of_beq q
          cases e
          rw [this]
          exact List.mem_cons_self ..
        · exact .tail _ (ih e)
    exact I.sub _ _ (hF _ this)
  have hm := I.muH _ (.head _)
  have IA : InstAt s.heap x (instObj ka dx) ka (some emptyDict) := ⟨hm.1, rfl, rfl, I.sub _ _ hx⟩
  have I1 := I.tok (s.toks + 1)
  have FR : Fr hNil L ({ s with toks := s.toks + 1 } : Shared).heap m := I1.fr
  have N : News hNil L ({ s with toks := s.toks + 1 } : Shared).heap ((allOf s.heap L).filter (fun p => decide (p.1 ≠ x)) ++ (x, instObj ka dx) :: []) := fun p hp => by
    rcases List.mem_append.mp hp with hp | hp
    · exact news_all s L p (List.mem_filter.mp hp).1
    · rw [List.mem_singleton.mp hp]
      exact ⟨hm.1, hm.2.2.2.1, get_hNil _⟩
  refine set_plain X IA KA.set (osa_descr (s := { s with toks := s.toks + 1 }) KF.slot_mset X IA KA.over KA.taker KA.tm (slot_set (s := { s with toks := s.toks + 1 }) FR N X IA KA.slot (by decide) (fun p hp => ?_) (fun p hp => nomatch hp) rfl rfl (fun h' F' N' => ?_)))
  · exact of_decide_eq_true (List.mem_filter.mp hp).2
  · have hx' : h'.get? x = some { instObj ka dx with slots := #[some v] } := (N' (x, _) (List.mem_append_right _ (.head _))).1
    exact h _ (I.turnN F' hx' (fun b o hb hbx e => (N' (b, o) (List.mem_append_left _ (List.mem_filter.mpr ⟨mem_allOf.mpr ⟨hb, e⟩, decide_eq_true hbx⟩))).1))

noncomputable def InstV (g : Vw) (ka x : Addr) (v : Value) : Prop := ∃ dx, g x = some { instObj ka dx with slots := #[some v] } ∧ g dx = some emptyDict
theorem lookup_mem {F : Frag} {a : Addr} {o : Obj} (e : F.lookup a = some o) : (a, o) ∈ F := by
  induction F with
  | nil => cases e
  | cons p r ih =>
    rw [List.lookup_cons] at e
    split at e
    · rename_i q
      have : a = p.1 := eq_of_beq q
      cases e
      rw [this]
      exact List.mem_cons_self ..
    · exact .tail _ (ih e)
theorem fragIn {F : Frag} {h : Heap} (hg : Sub g h) (hF : ∀ p ∈ F, g p.1 = some p.2) : F.In h := fun a o e => hg _ _ (hF _ (lookup_mem e))

/-- K(obj) -/
theorem k_new {B : Base} {mu : List (Addr × Obj)} {L : Addr} {m : Str → Option Value} {cs : List (Str × Addr)} {cm : Str → Option Value} {F : Frag} {ka md fI fL cI : Addr} {oI : Obj} {ctI dI pm : Value} {vs : Array Value} {tI : Tok} {x : Str} {u : Tok} {d : Nat} {Q : Value → Shared → Prop}
    (I : IF B g mu L m cs cm s) (ST : Stat S mg mb) (hT : B.T = S.get?) (r : Room A (d + 2)) (KA : KAns w F ka md fI fL) (hF : ∀ p ∈ F, g p.1 = some p.2)
    (hf : g fI = some (fnMade "__init__" ("cmp_to_key.<locals>.K." ++ "__init__") (fArgs (mStmt 2)) (fBody (mStmt 2)) (fScope (mStmt 2)) [] dI pm cI ctI)) (hc' : g cI = some oI) (hd : oI.data = .fields vs) (hq : vs[1]? = some (.str ("cmp_to_key.<locals>.K." ++ "__init__") tI))
    (h : ∀ k g' s', IF B g' mu L m cs cm s' → Le g g' → InstV g' ka k (.str x u) → Q (.ref k) s') : wpAny (model prog w) A (call (.ref ka) [.str x u]) Q E s := by
  have X : F.In s.heap := fragIn I.sub hF
  obtain ⟨hp, gg, dd, t, os⟩ := s
  refine wpAny_call (make_core (makes_of X KA.makes) (looks_findIn X KA.init) (fun self => bind_fn X self KA.tI) (.inl rfl) ?_)
  have a1 := After.push (t := t) I.sub emptyDict rfl
  have I1 := I.after a1
  have gx : (put g hp.objs.size emptyDict) (hp.objs.size + 1) = none := by
    rw [put_ne (Nat.succ_ne_self _)]
    exact none_of_size I.sub (Nat.le_succ _)
  have I2 := I1.gain (own := [(hp.objs.size + 1, instObj ka hp.objs.size)]) (h' := (hp.push emptyDict).push (instObj ka hp.objs.size)) (t := t) (by simp) (fun p hpp => by
    rw [List.mem_singleton.mp hpp]
    have z : (hp.push emptyDict).objs.size = hp.objs.size + 1 := Heap.size_push ..
    refine ⟨Nat.le_of_eq z, ?_⟩
    have := Heap.get?_push_size (hp.push emptyDict) (o := instObj ka hp.objs.size) rfl
    rw [z] at this
    exact this) (fun b o e => Heap.get?_push_of_some _ e)
  have ndB : ¬ B.off (hp.objs.size + 1) := I.fresh (Nat.le_succ _)
  have hF1 : ∀ p ∈ F, (put g hp.objs.size emptyDict) p.1 = some p.2 := fun p hpp => a1.le _ _ (hF p hpp)
  refine code_clo (mu0 := [(hp.objs.size + 1, instObj ka hp.objs.size)]) (m0 := upd (upd (fun _ => none) (Str.ofString "self") (.ref (hp.objs.size + 1))) (Str.ofString "obj") (.str x u)) I2.sub (by have q := I2.stat; rw [hT] at q; exact q) ST r.make (a1.le _ _ hf) (a1.le _ _ hc') hd hq
    (fun p hpp => by rw [List.mem_singleton.mp hpp]; exact ⟨(I2.muH _ (.head _)).1, gx⟩) (by simp)
    (binds := [(Str.ofString "self", .ref (hp.objs.size + 1)), (Str.ofString "obj", .str x u)]) (by rfl) (fun y hy => by
      rcases List.mem_cons.mp hy with rfl | hy
      · rfl
      · rw [List.mem_singleton.mp hy]; rfl) (by decide +kernel) (lookup_two _ _ _ _ (by decide)) (by rfl) (by rfl) (by rfl) ?_
  intro B1 L1 s₁ O A1 r1 J
  show wpAny _ _ (execs (.Assign [.Attribute (.Name "self" _) "obj" _] (.Name "obj" _) _ :: []) _) _ _ _
  refine wpAny_execs_cons (plainObj_wpAny_Assign_Attribute (r_local J (by rfl) (by rfl) (by rfl) (by decide) (r_local J (by rfl) (by rfl) (by rfl) (by decide) (k_set KA J hF1 (put_self ..) ?_))))
  intro s2 J
  refine wpAny_execs_nil ⟨rfl, ?_⟩
  have Z := O.fin J (fun b hb => by rw [List.mem_singleton.mp hb]; exact alive (J.muH _ (.head _)).1)
  have I3 := I2.afterM (mu0 := [(hp.objs.size + 1, instObj ka hp.objs.size)]) (mu0' := [(hp.objs.size + 1, { instObj ka hp.objs.size with slots := #[some (.str x u)] })]) Z rfl (fun p hpp => by rw [List.mem_singleton.mp hpp]; exact (J.muH _ (.head _)).1)
  have I4 := IF.freeze I3 ndB
  refine h _ _ _ I4 (a1.le.trans (le_put gx)) ⟨hp.objs.size, put_self .., ?_⟩
  rw [put_ne (Nat.ne_of_lt (Nat.lt_succ_self _))]
  exact put_self ..
end
end Mine
set_option Elab.async false
set_option maxRecDepth 100000
set_option linter.unusedVariables false
namespace Mine
open PySem PySem.W PyProof.Rows PySem.Calls SeqAt

/-! ## K.__lt__ -/
structure RuleFn (prog : Program) (w : World) (g : Vw) (fr : Value) (ok : Str → Prop) (f : Str → Str → Int) (d : Nat) : Prop where
  fn : E3 fun fa o fd => C3 (fr = .ref fa) (g fa = some o) (o.data = .func fd)
  run : ∀ {A : Around} {E : Value → Shared → Prop} {s : Shared} {g' : Vw} {x y : Str} {tx ty : Tok} {Q : Value → Shared → Prop}, Sub g' s.heap → Le g g' → Room A d → ok x → ok y → (∀ t g'' s', After g' s g'' s' → Q (.int (f x y) t) s') →
    wpAny (model prog w) A (call fr [.str x tx, .str y ty]) Q E s
section
variable {prog : Program} {w : World} {A : Around} {E : Value → Shared → Prop} {s : Shared} {g : Vw} {S : Heap} {mg mb : Str → Option Value}
theorem k_get {F : Frag} {ka md fI fL x : Addr} {y : Str} {u : Tok} {Q : Value → Shared → Prop} (KA : KAns w F ka md fI fL) (hg : Sub g s.heap) (hF : ∀ p ∈ F, g p.1 = some p.2) (hx : InstV g ka x (.str y u)) (h : Q (.str y u) { s with toks := s.toks + 1 }) :
    wpAny (model prog w) A (getAttr (.ref x) "obj" true) Q E s := by
  have X : F.In s.heap := fragIn hg hF
  obtain ⟨dx, e1, e2⟩ := hx
  have IA : InstAt s.heap x { instObj ka dx with slots := #[some (.str y u)] } ka (some emptyDict) := ⟨hg _ _ e1, rfl, rfl, hg _ _ e2⟩
  exact get_bind X IA (plainGet_of KA.get).1 (findObj_data KA.cls KA.obj KA.mget KA.takes) (plainGet_of KA.get).2 (wpAny_call (slot_get (s := { s with toks := s.toks + 1 }) X IA KA.slot rfl (handed_on rfl h)))

theorem r_callFree {env : Env} {x : Str} {p pos : Pos} {e : Expr} {rest : List Expr} {c fa : Addr} {o : Obj} {fd : FuncData} {Q : Value → Shared → Prop} (hk : env.scope.kind = .function) (hl : env.kindOf x = some .free) (hc : env.cells.lookup x = some c) (hv : s.heap.IsCell c (some (.ref fa)))
    (hd : (x == ("__debug__" : Str)) = false) (hn : (x == ("__classdict__" : Str)) = false) (hdo : o.data = .func fd) (he : starEach (e :: rest) env = (false, eval e env) :: starEach rest env) (hkw : backToKw pos (keywordEach [] env) = [])
    (h : wpAny (model prog w) A (spliced (backTo pos (starEach (e :: rest) env))) (fun vs s₁ => s₁.heap.get? fa = some o ∧ wpAny (model prog w) A (call (.ref fa) vs) Q E s₁) E s) :
    wpAny (model prog w) A (eval (.Call (.Name x p) (e :: rest) [] pos) env) Q E s := by
  rw [arm_eval_Call_Name', hkw]
  refine wpAny_bind (r_free hk hl hc hv hd hn (callWith_function (o := o) (fd := fd) ?_))
  rw [he] at h ⊢
  exact evalArgs_plain (wpAny_mono h (fun vs s₁ h₁ => ⟨⟨h₁.1, hdo⟩, by simpa using h₁.2⟩) fun _ _ q => q)
theorem k_ltCall {F : Frag} {ka md fI fL cL cc x y : Addr} {oL oc : Obj} {ctL dL pm fr : Value} {vs : Array Value} {tL : Tok} {a b : Str} {u v : Tok} {d : Nat} {ok : Str → Prop} {f : Str → Str → Int} {Q : Value → Shared → Prop}
    (hg : Sub g s.heap) (hTg : Le S.get? g) (ST : Stat S mg mb) (r : Room A (d + 1)) (KA : KAns w F ka md fI fL) (hF : ∀ p ∈ F, g p.1 = some p.2)
    (hf : g fL = some (fnMade "__lt__" ("cmp_to_key.<locals>.K." ++ "__lt__") (fArgs (mStmt 3)) (fBody (mStmt 3)) (fScope (mStmt 3)) [("mycmp", cc)] dL pm cL ctL)) (hc' : g cL = some oL) (hd : oL.data = .fields vs) (hq : vs[1]? = some (.str ("cmp_to_key.<locals>.K." ++ "__lt__") tL))
    (hcc : g cc = some oc) (hcd : oc.data = .cell (some fr)) (R : RuleFn prog w g fr ok f d) (hx : InstV g ka x (.str a u)) (hy : InstV g ka y (.str b v)) (oa : ok a) (ob : ok b)
    (h : ∀ g' s', After g s g' s' → Q (.bool (decide (f a b < 0))) s') : wpAny (model prog w) A (call (.ref fL) [.ref x, .ref y]) Q E s := by
  refine call_clo (binds := [(Str.ofString "self", .ref x), (Str.ofString "other", .ref y)]) (m0 := upd (upd (fun _ => none) (Str.ofString "self") (.ref x)) (Str.ofString "other") (.ref y)) hg hTg ST r hf hc' hd hq (by rfl) (fun z hz => by
    rcases List.mem_cons.mp hz with rfl | hz
    · rfl
    · rw [List.mem_singleton.mp hz]; rfl) (by decide +kernel) (lookup_two _ _ _ _ (by decide)) (by rfl) (by rfl) (by rfl) ?_
  intro B L s₁ O A1 r I
  show wpAny _ _ (execs (.Return (some (.Compare (.Call (.Name "mycmp" _) (.Attribute (.Name "self" _) "obj" _ :: _) [] _) [.Lt] [_] _)) _ :: []) _) _ _ _
  refine r_return (r_cmp (by rfl) ?_)
  obtain ⟨fa, o, fd, rfl, ho, hdo⟩ := R.fn
  refine r_callFree (by rfl) (by rfl) (by rfl) ⟨oc, I.sub _ _ hcc, hcd⟩ (by decide) (by decide) hdo (by rfl) (by rfl) ?_
  refine r_items (by rfl) (Attribute_name (r_local I (by rfl) (by rfl) (by rfl) (by decide) (k_get KA I.sub hF hx ?_)))
  have I := I.tok (s₁.toks + 1)
  refine r_items (by rfl) (Attribute_name (r_local I (by rfl) (by rfl) (by rfl) (by decide) (k_get KA I.sub hF hy ?_)))
  have I := I.tok (s₁.toks + 1 + 1)
  refine r_items0 ⟨I.sub _ _ ho, R.run I.sub (Le.refl _) r oa ob ?_⟩
  intro t g2 s2 a2
  have I := I.after a2
  refine r_int I ?_
  intro t2 s3 I
  refine PyProof.Rows.lt_int ?_
  exact h _ _ (O.fin I)
end
end Mine
set_option Elab.async false
set_option maxRecDepth 100000
set_option linter.unusedVariables false
namespace Mine
open PySem PySem.W PyProof.Rows PySem.Calls SeqAt

/-! ## The sort's questions, answered by a strict order -/
noncomputable def KasT.good {α : Type} (n : Nat) (lt : Nat → Nat → Bool) (P : α → Prop) : KasT α → Prop
  | .ret a => P a
  | .ask i j k => i < n ∧ j < n ∧ KasT.good n lt P (k (lt i j))
theorem KasT.good_bind {α β : Type} {n : Nat} {lt : Nat → Nat → Bool} {P : β → Prop} {f : α → KasT β} : ∀ {t : KasT α}, KasT.good n lt (fun a => KasT.good n lt P (f a)) t → KasT.good n lt P (t.bind f)
  | .ret _, h => h
  | .ask i j k, h => ⟨h.1, h.2.1, KasT.good_bind h.2.2⟩
theorem KasT.good_mono {α : Type} {n : Nat} {lt : Nat → Nat → Bool} {P P' : α → Prop} (hp : ∀ a, P a → P' a) : ∀ {t : KasT α}, KasT.good n lt P t → KasT.good n lt P' t
  | .ret _, h => hp _ h
  | .ask i j k, h => ⟨h.1, h.2.1, KasT.good_mono hp h.2.2⟩
theorem KasT.good_wp {α : Type} {n : Nat} {lt : Nat → Nat → Bool} {P : α → Prop} {cmp : Nat → Nat → (Bool → Shared → Prop) → Shared → Prop} {Inv : Shared → Prop} {G : α → Shared → Prop}
    (hc : ∀ i j C s, i < n → j < n → Inv s → (∀ s', Inv s' → C (lt i j) s') → cmp i j C s) (hG : ∀ a s, P a → Inv s → G a s) : ∀ {t : KasT α} {s : Shared}, Inv s → KasT.good n lt P t → t.kasWp cmp G s
  | .ret a, s, hi, h => hG a s h hi
  | .ask i j k, s, hi, h => hc i j _ s h.1 h.2.1 hi fun s' hi' => KasT.good_wp hc hG hi' h.2.2

section
variable {n : Nat} {pos : Nat → Nat}
noncomputable def ltP (pos : Nat → Nat) (i j : Nat) : Bool := decide (pos i < pos j)
noncomputable def OkP (n : Nat) (p : Array Nat) : Prop := p.size = n ∧ p.toList.Perm (List.range n)
noncomputable def At (pos : Nat → Nat) (p : Array Nat) (k : Nat) : Nat := pos (p.getD k 0)
noncomputable def Up (pos : Nat → Nat) (p : Array Nat) (m : Nat) : Prop := ∀ i j, i < j → j < m → At pos p i < At pos p j
noncomputable def Dn (pos : Nat → Nat) (p : Array Nat) (m : Nat) : Prop := ∀ i j, i < j → j < m → At pos p j < At pos p i
theorem OkP.lt {p : Array Nat} (h : OkP n p) {k : Nat} (hk : k < n) : p.getD k 0 < n := by
  have hk' : k < p.size := by rw [h.1]; exact hk
  have e : p.getD k 0 = p[k] := by simp [Array.getD, hk']
  rw [e]
  have hm : p[k] ∈ p.toList := Array.getElem_mem_toList hk'
  exact List.mem_range.mp (h.2.mem_iff.mp hm)
theorem OkP.ne {p : Array Nat} (h : OkP n p) {k l : Nat} (hk : k < n) (hl : l < n) (hkl : k ≠ l) : p.getD k 0 ≠ p.getD l 0 := by
  have hk' : k < p.size := by rw [h.1]; exact hk
  have hl' : l < p.size := by rw [h.1]; exact hl
  have nd : p.toList.Nodup := h.2.nodup_iff.mpr List.nodup_range
  have e1 : p.getD k 0 = p.toList[k]'(by simpa using hk') := by simp [Array.getD, hk']
  have e2 : p.getD l 0 = p.toList[l]'(by simpa using hl') := by simp [Array.getD, hl']
  rw [e1, e2]
  intro e
  have pw := List.pairwise_iff_getElem.mp nd
  have hk2 : k < p.toList.length := by simpa using hk'
  have hl2 : l < p.toList.length := by simpa using hl'
  rcases Nat.lt_or_gt_of_ne hkl with q | q
  · exact pw k l hk2 hl2 q e
  · exact pw l k hl2 hk2 q e.symm
variable (hinj : ∀ i j, i < n → j < n → pos i = pos j → i = j)
include hinj
theorem At.ne {p : Array Nat} (h : OkP n p) {k l : Nat} (hk : k < n) (hl : l < n) (hkl : k ≠ l) : At pos p k ≠ At pos p l := fun e => h.ne hk hl hkl (hinj _ _ (h.lt hk) (h.lt hl) e)
omit hinj in
theorem Up.succ {p : Array Nat} {m : Nat} (h : Up pos p m) (h1 : 1 ≤ m) (h2 : At pos p (m - 1) < At pos p m) : Up pos p (m + 1) := by
  intro i j hij hj
  by_cases e : j = m
  · subst e
    by_cases e2 : i = j - 1
    · rw [e2]; exact h2
    · exact Nat.lt_trans (h i (j - 1) (by lia) (by lia)) h2
  · exact h i j hij (by lia)
omit hinj in
theorem Dn.succ {p : Array Nat} {m : Nat} (h : Dn pos p m) (h1 : 1 ≤ m) (h2 : At pos p m < At pos p (m - 1)) : Dn pos p (m + 1) := by
  intro i j hij hj
  by_cases e : j = m
  · subst e
    by_cases e2 : i = j - 1
    · rw [e2]; exact h2
    · exact Nat.lt_trans h2 (h i (j - 1) (by lia) (by lia))
  · exact h i j hij (by lia)
theorem asc_good {p : Array Nat} (hp : OkP n p) : ∀ (f m : Nat), 1 ≤ m → m + f ≤ n → Up pos p m → KasT.good n (ltP pos) (fun m' => m ≤ m' ∧ m' ≤ m + f ∧ Up pos p m' ∧ (m' = m + f ∨ At pos p m' < At pos p (m' - 1))) (kas_asc p f m)
  | 0, m, h1, h2, hu => ⟨Nat.le_refl _, Nat.le_refl _, hu, .inl rfl⟩
  | f + 1, m, h1, h2, hu => by
    refine ⟨hp.lt (by lia), hp.lt (by lia), ?_⟩
    by_cases c : At pos p m < At pos p (m - 1)
    · rw [show ltP pos (p.getD m 0) (p.getD (m - 1) 0) = true from decide_eq_true c]; dsimp only; rw [if_pos rfl]
      exact ⟨Nat.le_refl _, by lia, hu, .inr c⟩
    · rw [show ltP pos (p.getD m 0) (p.getD (m - 1) 0) = false from decide_eq_false c]; dsimp only; rw [if_neg Bool.false_ne_true]
      have ne := At.ne hinj hp (k := m) (l := m - 1) (by lia) (by lia) (by lia)
      refine KasT.good_mono (fun m' q => ⟨by lia, by lia, q.2.2.1, q.2.2.2.imp (fun e => by lia) id⟩) (asc_good hp f (m + 1) (by lia) (by lia) (hu.succ h1 (by lia)))
theorem desc_good {p : Array Nat} (hp : OkP n p) : ∀ (f m : Nat), 1 ≤ m → m + f ≤ n → Dn pos p m → KasT.good n (ltP pos) (fun r => r.1 = p ∧ r.2.2 = 0 ∧ m ≤ r.2.1 ∧ r.2.1 ≤ m + f ∧ Dn pos p r.2.1) (kas_desc f p m 0)
  | 0, m, h1, h2, hu => ⟨rfl, rfl, Nat.le_refl _, Nat.le_refl _, hu⟩
  | f + 1, m, h1, h2, hu => by
    refine ⟨hp.lt (by lia), hp.lt (by lia), ?_⟩
    by_cases c : At pos p m < At pos p (m - 1)
    · rw [show ltP pos (p.getD m 0) (p.getD (m - 1) 0) = true from decide_eq_true c]; dsimp only; rw [if_pos rfl, if_neg (Nat.lt_irrefl 0)]
      exact KasT.good_mono (fun r q => ⟨q.1, q.2.1, by lia, by lia, q.2.2.2.2⟩) (desc_good hp f (m + 1) (by lia) (by lia) (hu.succ h1 c))
    · rw [show ltP pos (p.getD m 0) (p.getD (m - 1) 0) = false from decide_eq_false c]; dsimp only; rw [if_neg Bool.false_ne_true]
      have ne := At.ne hinj hp (k := m) (l := m - 1) (by lia) (by lia) (by lia)
      refine ⟨hp.lt (by lia), hp.lt (by lia), ?_⟩
      rw [show ltP pos (p.getD (m - 1) 0) (p.getD m 0) = true from decide_eq_true (show At pos p (m - 1) < At pos p m by lia)]; dsimp only; rw [if_pos rfl]
      exact ⟨rfl, rfl, Nat.le_refl _, Nat.le_add_right _ _, hu⟩
omit hinj in
theorem OkP.rev {p : Array Nat} (hp : OkP n p) (i j : Nat) : OkP n (kas_rev p i j) := by
  refine ⟨by rw [kas_rev_size]; exact hp.1, ?_⟩
  exact (Array.perm_iff_toList_perm.mp (mirror_perm p i j _)).trans hp.2
omit hinj in
theorem At.rev {p : Array Nat} (hp : OkP n p) {m k : Nat} (hm : m ≤ n) : At pos (kas_rev p 0 m) k = if k < m then At pos p (m - 1 - k) else At pos p k := by
  have e := getElem?_mirror_all (xs := p) (i := 0) (j := m) (by rw [hp.1]; exact hm) k
  have g : ∀ (q : Array Nat) (i : Nat), q.getD i 0 = (q[i]?).getD 0 := fun q i => by simp [Array.getD_eq_getD_getElem?]
  unfold At kas_rev
  rw [g, e]
  by_cases h : k < m
  · rw [if_pos ⟨Nat.zero_le _, h⟩, if_pos h, g, show 0 + m - 1 - k = m - 1 - k by lia]
  · rw [if_neg (fun q => h q.2), if_neg h, g]
omit hinj in
theorem Dn.rev {p : Array Nat} (hp : OkP n p) {m : Nat} (hm : m ≤ n) (h : Dn pos p m) : Up pos (kas_rev p 0 m) m := by
  intro i j hij hj
  rw [At.rev hp hm, At.rev hp hm, if_pos (by lia), if_pos hj]
  exact h _ _ (by lia) (by lia)
theorem count_good {p : Array Nat} (hp : OkP n p) (h2 : 2 ≤ n) : KasT.good n (ltP pos) (fun r => OkP n r.2 ∧ 1 ≤ r.1 ∧ r.1 ≤ n ∧ Up pos r.2 r.1) (kas_count n p) := by
  unfold kas_count
  refine KasT.good_bind (KasT.good_mono (fun m q => ?_) (asc_good hinj hp (n - 1) 1 (Nat.le_refl _) (by lia) (fun i j hij hj => by lia)))
  obtain ⟨q1, q2, q3, q4⟩ := q
  by_cases e : (m == n) = true
  · rw [if_pos e]
    exact ⟨hp, q1, by lia, q3⟩
  · rw [if_neg e]
    have hmn : m ≠ n := fun z => e (by rw [z]; exact beq_self_eq_true n)
    have hlt : At pos p m < At pos p (m - 1) := by
      rcases q4 with z | z
      · lia
      · exact z
    by_cases h1 : m > 1
    · rw [if_pos h1]
      refine ⟨hp.lt (by lia), hp.lt (by lia), ?_⟩
      rw [show ltP pos (p.getD 0 0) (p.getD (m - 1) 0) = true from decide_eq_true (q3 0 (m - 1) (by lia) (by lia))]; dsimp only; rw [if_pos rfl]
      exact ⟨hp, q1, by lia, q3⟩
    · rw [if_neg h1]
      have m1 : m = 1 := by lia
      subst m1
      unfold kas_descPart
      refine KasT.good_bind (KasT.good_mono (fun r q => ?_) (desc_good hinj hp (n - (1 + 1)) (1 + 1) (by lia) (by lia) (Dn.succ (fun i j hij hj => by lia) (Nat.le_refl _) hlt)))
      obtain ⟨rp, rn, rq⟩ := r
      obtain ⟨r1, r2, r3, r4, r5⟩ := q
      dsimp only at r1 r2 r3 r4 r5 ⊢
      subst r1 r2
      rw [if_neg (Nat.lt_irrefl 0)]
      unfold kas_tail3
      have hpr := hp.rev 0 rn
      refine KasT.good_bind (KasT.good_mono (fun m q => ?_) (asc_good hinj hpr (n - rn) rn (by lia) (by lia) (r5.rev hp (by lia))))
      exact ⟨hpr, by lia, by lia, q.2.2.1⟩
/-- the place of the k-th among the first k -/
theorem place_good {p : Array Nat} (hp : OkP n p) {k : Nat} (hk : k < n) (hu : Up pos p k) : ∀ (f l r : Nat), l ≤ r → r ≤ k → r - l ≤ f → (∀ i, i < l → At pos p i < At pos p k) → (∀ i, r ≤ i → i < k → At pos p k < At pos p i) →
    KasT.good n (ltP pos) (fun l' => l' ≤ k ∧ (∀ i, i < l' → At pos p i < At pos p k) ∧ (∀ i, l' ≤ i → i < k → At pos p k < At pos p i)) (kas_place p k f l r)
  | 0, l, r, h1, h2, h3, hl, hr => ⟨by lia, hl, fun i hi => hr i (by lia)⟩
  | f + 1, l, r, h1, h2, h3, hl, hr => by
    unfold kas_place
    by_cases c : l ≥ r
    · rw [if_pos c]
      exact ⟨by lia, hl, fun i hi => hr i (by lia)⟩
    · rw [if_neg c]
      have hmid : (l + r) / 2 < r := by lia
      have hmid2 : l ≤ (l + r) / 2 := by lia
      refine ⟨hp.lt hk, hp.lt (by lia), ?_⟩
      by_cases c2 : At pos p k < At pos p ((l + r) / 2)
      · rw [show ltP pos (p.getD k 0) (p.getD ((l + r) / 2) 0) = true from decide_eq_true c2]
        dsimp only
        rw [if_pos rfl]
        refine place_good hp hk hu f l ((l + r) / 2) hmid2 (by lia) (by lia) hl (fun i hi hik => ?_)
        by_cases e : i = (l + r) / 2
        · rw [e]; exact c2
        · exact Nat.lt_trans c2 (hu _ _ (by lia) hik)
      · rw [show ltP pos (p.getD k 0) (p.getD ((l + r) / 2) 0) = false from decide_eq_false c2]
        dsimp only
        rw [if_neg Bool.false_ne_true]
        have ne := At.ne hinj hp (k := k) (l := (l + r) / 2) hk (by lia) (by lia)
        have c3 : At pos p ((l + r) / 2) < At pos p k := by lia
        refine place_good hp hk hu f ((l + r) / 2 + 1) r (by lia) h2 (by lia) (fun i hi => ?_) hr
        by_cases e : i = (l + r) / 2
        · rw [e]; exact c3
        · exact Nat.lt_trans (hu _ _ (by lia) (by lia)) c3
omit hinj in
theorem OkP.bub {p : Array Nat} (hp : OkP n p) (k d : Nat) : OkP n (bubble p k d) := by
  refine ⟨by rw [bubble_size]; exact hp.1, ?_⟩
  exact (Array.perm_iff_toList_perm.mp (bubble_perm p k d)).trans hp.2
omit hinj in
theorem At.bub {p : Array Nat} (hp : OkP n p) {k l i : Nat} (hk : k < n) (hl : l ≤ k) : At pos (bubble p k (k - l)) i = if i = l then At pos p k else if l < i ∧ i ≤ k then At pos p (i - 1) else At pos p i := by
  have e := getElem?_bubble (xs := p) (src := k) (by rw [hp.1]; exact hk) (k - l) (by lia) i
  rw [show k - (k - l) = l by lia] at e
  have g : ∀ (q : Array Nat) (i : Nat), q.getD i 0 = (q[i]?).getD 0 := fun q i => by simp [Array.getD_eq_getD_getElem?]
  unfold At
  rw [g, e]
  by_cases h : i = l
  · rw [if_pos h, if_pos h, g]
  · rw [if_neg h, if_neg h]
    by_cases h2 : l < i ∧ i ≤ k
    · rw [if_pos h2, if_pos h2, g]
    · rw [if_neg h2, if_neg h2, g]
theorem bin_good : ∀ (f k : Nat) (p : Array Nat), OkP n p → 1 ≤ k → k + f = n → Up pos p k → KasT.good n (ltP pos) (fun q => OkP n q ∧ Up pos q n) (kas_bin f p k)
  | 0, k, p, hp, h1, h2, hu => ⟨hp, by rw [← h2]; exact hu⟩
  | f + 1, k, p, hp, h1, h2, hu => by
    unfold kas_bin
    refine KasT.good_bind (KasT.good_mono (fun l q => ?_) (place_good hinj hp (by lia) hu k 0 k (Nat.zero_le _) (Nat.le_refl _) (by lia) (fun i hi => by lia) (fun i hi hik => by lia)))
    obtain ⟨q1, q2, q3⟩ := q
    refine bin_good f (k + 1) _ (hp.bub _ _) (by lia) (by lia) ?_
    intro i j hij hj
    rw [At.bub hp (by lia) q1, At.bub hp (by lia) q1]
    by_cases e1 : i = l
    · rw [if_pos e1, if_neg (by lia), if_pos ⟨by lia, by lia⟩]
      exact q3 _ (by lia) (by lia)
    · rw [if_neg e1]
      by_cases e2 : l < i ∧ i ≤ k
      · rw [if_pos e2, if_neg (by lia), if_pos ⟨by lia, by lia⟩]
        exact hu _ _ (by lia) (by lia)
      · rw [if_neg e2]
        by_cases e3 : j = l
        · rw [if_pos e3]; exact q2 _ (by lia)
        · rw [if_neg e3]
          by_cases e4 : l < j ∧ j ≤ k
          · rw [if_pos e4]
            by_cases e5 : i = j - 1
            · lia
            · exact hu _ _ (by lia) (by lia)
          · rw [if_neg e4]
            exact hu _ _ hij (by lia)
theorem sort_good (h2 : 2 ≤ n) : KasT.good n (ltP pos) (fun q => OkP n q ∧ Up pos q n) (kas_sort n) := by
  unfold kas_sort
  have hp : OkP n (List.toArray (List.range n)) := ⟨by simp, by simp⟩
  refine KasT.good_bind (KasT.good_mono (fun r q => ?_) (count_good hinj hp h2))
  obtain ⟨q1, q2, q3, q4⟩ := q
  by_cases c : r.1 < n
  · rw [if_pos c]
    have e : max r.1 1 = r.1 := Nat.max_eq_left q2
    rw [e]
    exact bin_good hinj (n - r.1) r.1 _ q1 q2 (by lia) q4
  · rw [if_neg c]
    have : r.1 = n := by lia
    exact ⟨q1, by rw [← this]; exact q4⟩
end
end Mine
set_option Elab.async false
set_option maxRecDepth 100000
set_option linter.unusedVariables false
namespace Mine
open PySem PySem.W PyProof.Rows PySem.Calls SeqAt
set_option maxHeartbeats 2000000

/-! ## sorted(.., key=K) -/
structure KCtx (prog : Program) (w : World) (S : Heap) (mg mb : Str → Option Value) (g : Vw) (F : Frag) (ka md fI fL cI cL cc : Addr) (oI oL oc : Obj) (ctI ctL dI dL pm fr : Value) (ok : Str → Prop) (f : Str → Str → Int) (d : Nat) : Prop where
  st : Stat S mg mb
  ans : KAns w F ka md fI fL
  frag : ∀ p ∈ F, g p.1 = some p.2
  fi : g fI = some (fnMade "__init__" ("cmp_to_key.<locals>.K." ++ "__init__") (fArgs (mStmt 2)) (fBody (mStmt 2)) (fScope (mStmt 2)) [] dI pm cI ctI)
  ci : g cI = some oI
  di : ∃ vs t, oI.data = .fields vs ∧ vs[1]? = some (.str ("cmp_to_key.<locals>.K." ++ "__init__") t)
  fl : g fL = some (fnMade "__lt__" ("cmp_to_key.<locals>.K." ++ "__lt__") (fArgs (mStmt 3)) (fBody (mStmt 3)) (fScope (mStmt 3)) [("mycmp", cc)] dL pm cL ctL)
  cl : g cL = some oL
  dl : ∃ vs t, oL.data = .fields vs ∧ vs[1]? = some (.str ("cmp_to_key.<locals>.K." ++ "__lt__") t)
  cc : g cc = some oc
  dc : oc.data = .cell (some fr)
  rule : RuleFn prog w g fr ok f d
theorem RuleFn.up {prog : Program} {w : World} {g g' : Vw} {fr : Value} {ok : Str → Prop} {f : Str → Str → Int} {d : Nat} (R : RuleFn prog w g fr ok f d) (le : Le g g') : RuleFn prog w g' fr ok f d :=
  ⟨by obtain ⟨fa, o, fd, e, ho, hd⟩ := R.fn; exact ⟨fa, o, fd, e, le _ _ ho, hd⟩, fun hs hl r a b h => R.run hs (le.trans hl) r a b h⟩
theorem InstV.up {g g' : Vw} {ka x : Addr} {v : Value} (h : InstV g ka x v) (le : Le g g') : InstV g' ka x v := by
  obtain ⟨dx, a, b⟩ := h; exact ⟨dx, le _ _ a, le _ _ b⟩
theorem KCtx.up {prog : Program} {w : World} {S : Heap} {mg mb : Str → Option Value} {g g' : Vw} {F : Frag} {ka md fI fL cI cL cc : Addr} {oI oL oc : Obj} {ctI ctL dI dL pm fr : Value} {ok : Str → Prop} {f : Str → Str → Int} {d : Nat}
    (X : KCtx prog w S mg mb g F ka md fI fL cI cL cc oI oL oc ctI ctL dI dL pm fr ok f d) (le : Le g g') : KCtx prog w S mg mb g' F ka md fI fL cI cL cc oI oL oc ctI ctL dI dL pm fr ok f d :=
  ⟨X.st, X.ans, fun p hp => le _ _ (X.frag p hp), le _ _ X.fi, le _ _ X.ci, X.di, le _ _ X.fl, le _ _ X.cl, X.dl, le _ _ X.cc, X.dc, X.rule.up le⟩

section
variable {prog : Program} {w : World} {A : Around} {E : Value → Shared → Prop} {s : Shared} {g : Vw} {S : Heap} {mg mb : Str → Option Value} {F : Frag} {ka md fI fL cI cL cc : Addr} {oI oL oc : Obj} {ctI ctL dI dL pm fr : Value} {ok : Str → Prop} {f : Str → Str → Int} {d : Nat}
theorem k_lt {x y : Addr} {a b : Str} {u v : Tok} {Q : Bool → Shared → Prop} (X : KCtx prog w S mg mb g F ka md fI fL cI cL cc oI oL oc ctI ctL dI dL pm fr ok f d) (hg : Sub g s.heap) (hTg : Le S.get? g) (r : Room A (d + 1))
    (hx : InstV g ka x (.str a u)) (hy : InstV g ka y (.str b v)) (oa : ok a) (ob : ok b) (h : ∀ g' s', After g s g' s' → Q (decide (f a b < 0)) s') : wpAny (model prog w) A (keyLt' oneType' (.ref x) (.ref y)) Q E s := by
  obtain ⟨vs, t, e1, e2⟩ := X.dl
  have hF : F.In s.heap := fragIn hg X.frag
  obtain ⟨dx, i1, i2⟩ := id hx
  have IA : InstAt s.heap x { instObj ka dx with slots := #[some (.str a u)] } ka (some emptyDict) := ⟨hg _ _ i1, rfl, rfl, hg _ _ i2⟩
  rw [keyLt'_oneType, oneLt'_eq]
  simp only [if_true]
  refine wpAny_bind (wpAny_cRoomFor r.line ?_)
  refine wpAny_bind (ifBound_K hF IA X.ans.lt X.ans.tL (k_ltCall hg hTg X.st r X.ans X.frag X.fl X.cl e1 e2 X.cc X.dc X.rule hx hy oa ob fun g' s' af => ?_))
  exact wpAny_truthy_bool (h g' s' af)

theorem sortTree {B : Base} {mu : List (Addr × Obj)} {L : Addr} {m : Str → Option Value} {cs : List (Str × Addr)} {cm : Str → Option Value} {a : Addr} {vs : List Value} {n : Nat} {xs : List Str} {pos : Nat → Nat} {P : PySem.Fin → Shared → Prop}
    (X : KCtx prog w S mg mb g F ka md fI fL cI cL cc oI oL oc ctI ctL dI dL pm fr ok f d) (I : IF B g ((a, lo vs n) :: mu) L m cs cm s) (hT : B.T = S.get?) (r : Room A (d + 2)) (r2 : Room A (d + 1))
    (hvs : All₂ StrV vs xs) (h2 : 2 ≤ xs.length) (h64 : xs.length < 64) (hok : ∀ x ∈ xs, ok x) (hinj : ∀ i j, i < xs.length → j < xs.length → pos i = pos j → i = j)
    (hlt : ∀ i j x y, xs[i]? = some x → xs[j]? = some y → decide (f x y < 0) = ltP pos i j)
    (h : ∀ p g' s' n', OkP xs.length p → Up pos p xs.length → IF B g' ((a, lo (p.toList.map fun i => vs.getD i .none) n') :: mu) L m cs cm s' → Le g g' → P (.done (.ret .none)) s') :
    wpAny (model prog w) A (ksk_tree a (.ref ka) false) P E s := by
  have hlen : vs.length = xs.length := hvs.length
  obtain ⟨hp, gg, dd, t, os⟩ := s
  have ho := (I.muH _ (.head _)).1
  obtain ⟨e1, ho1⟩ : ∃ e1, (hp.update a (Obj.mapSeq fun _ => (#[] : Array Value))).get? a = some (lo [] e1) := ⟨_, get?_update_seq (c := "list") (xs := vs.toArray) (n := n) ho fun _ => #[]⟩
  have I := I.turn (t := t) ho1 (Heap.SameBut.update ..)
  unfold ksk_tree
  refine wpAny_bind (listItems_at ho rfl ?_)
  refine wpAny_bind (listUpdate_at ho rfl ?_ (by rw [List.size_toArray, sizeLine_eq]; lia) (Nat.zero_le _))
  refine wpAny_bind (seqEpoch_at ho1 rfl ?_)
  refine wpAny_bind (wpAny_newTuple ?_ (by show vs.length ≤ _; rw [sizeLine_eq]; lia))
  have I := I.kept (t := t) (h' := (hp.update a (Obj.mapSeq fun _ => (#[] : Array Value))).push { cls := .type "tuple", data := .seq vs.toArray.toList.toArray }) (fun b o e => Heap.get?_push_of_some _ e)
  refine wpAny_bind (wpAny_newList ?_ (Nat.zero_le _))
  have I := I.newMu (o := lo [] 0) (t := t)
  show wpAny _ _ (holding _ _) _ _ ⟨((hp.update a (Obj.mapSeq fun _ => (#[] : Array Value))).push { cls := .type "tuple", data := .seq vs.toArray.toList.toArray }).push (lo [] 0), gg, dd, t, os⟩
  refine wpAny_holding ?_
  show wpAny _ _ (ksk_rest a (.ref ka) false vs.toArray e1 (.ref ((hp.update a (Obj.mapSeq fun _ => (#[] : Array Value))).push { cls := .type "tuple", data := .seq vs.toArray.toList.toArray }).objs.size)) _ _ _
  generalize ((hp.update a (Obj.mapSeq fun _ => (#[] : Array Value))).push { cls := .type "tuple", data := .seq vs.toArray.toList.toArray }).push (lo [] 0) = h2' at I ⊢
  generalize ((hp.update a (Obj.mapSeq fun _ => (#[] : Array Value))).push { cls := .type "tuple", data := .seq vs.toArray.toList.toArray }).objs.size = kS at I ⊢
  unfold ksk_rest
  refine wpAny_bind (wpAny_rule ?_)
  rw [← Array.forIn_toList]
  refine wpAny_bind (ksk_fold (fun j s' => E3 fun g' ks e => C4 (IF B g' ((kS, lo ks e) :: (a, lo [] e1) :: mu) L m cs cm s') (Le g g') (ks.length = j) (∀ i v, i < j → vs[i]? = some v → ∃ x, ks[i]? = some (.ref x) ∧ InstV g' ka x v)) vs.toArray.toList 0 _
    ⟨g, [], 0, I, Le.refl g, rfl, fun i v hi => absurd hi (Nat.not_lt_zero _)⟩ ?step ?done)
  case step =>
    rintro j v s' hx ⟨g', ks, e, I, le, hks, hall⟩
    simp only [Nat.zero_add] at hks hall ⊢
    have hx' : vs[j]? = some v := by simpa using hx
    obtain ⟨x, hxj, u, rfl⟩ := hvs.get' hx'
    have X' := X.up le
    obtain ⟨vsI, tI, d1, d2⟩ := X'.di
    refine wpAny_bind (wpAny_attempt (k_new I X'.st hT r X'.ans X'.frag X'.fi X'.ci d1 d2 ?_))
    intro k g2 s2 I le2 hk
    have hj : j < vs.length := (List.getElem?_eq_some_iff.mp hx').1
    have nk := (I.muH _ (.head _)).1
    obtain ⟨c2, hc2⟩ : ∃ c2, (s2.heap.update kS (Obj.mapSeq (·.push (.ref k)))).get? kS = some (lo (ks ++ [.ref k]) c2) := by
      have q := get?_update_seq (c := "list") nk (·.push (.ref k))
      rw [show ks.toArray.push (Value.ref k) = (ks ++ [Value.ref k]).toArray from by simp] at q
      exact ⟨_, q⟩
    refine wpAny_bind (listUpdate_at nk rfl ?_ (by rw [List.size_toArray, sizeLine_eq]; lia) (Nat.le_trans (Nat.le_of_eq (Array.size_push ..)) (by rw [List.size_toArray, sizeLine_eq]; lia)))
    refine wpAny_pure ⟨rfl, g2, ks ++ [.ref k], c2, I.turn (t := s2.toks) hc2 (Heap.SameBut.update ..), le.trans le2, by rw [List.length_append, hks]; rfl, fun i v hi hv => ?_⟩
    by_cases q : i < j
    · obtain ⟨x', a1, a2⟩ := hall i v q hv
      exact ⟨x', by rw [List.getElem?_append_left (by lia)]; exact a1, a2.up le2⟩
    · have : i = j := by lia
      subst this
      rw [hx'] at hv
      cases hv
      exact ⟨k, by rw [List.getElem?_append_right (by lia), hks]; simp, hk⟩
  case done =>
    rintro s' ⟨g', ks, e, I, le, hks, hall⟩
    have X' := X.up le
    have nk := (I.muH _ (.head _)).1
    refine wpAny_bind (listItems_at nk rfl ?_)
    have hkl : ks.length = xs.length := by rw [hks]; simp [hlen]
    have hall' : ∀ (i : Nat) (y : Str), xs[i]? = some y → ∃ x u, ks[i]? = some (.ref x) ∧ InstV g' ka x (.str y u) := fun i y hy => by
      have hi := (List.getElem?_eq_some_iff.mp hy).1
      obtain ⟨v, hv, u, rfl⟩ := hvs.get hy
      obtain ⟨x, a1, a2⟩ := hall i _ (by simp; lia) hv
      exact ⟨x, u, a1, a2⟩
    obtain ⟨it, hit⟩ : ∃ it, it = ks.toArray.zip vs.toArray := ⟨_, rfl⟩
    have hsz : it.size = xs.length := by rw [hit, Array.size_zip, List.size_toArray, List.size_toArray]; lia
    have hitem : ∀ i, i < xs.length → kas_item it i = (ks.getD i .none, vs.getD i .none) := fun i hi => by
      have h1 : i < ks.length := by lia
      have h2' : i < vs.length := by lia
      unfold kas_item
      rw [hit]
      simp [Array.getD, h1, h2']
      rw [dif_pos (Nat.lt_min.mpr ⟨h1, h2'⟩)]
    unfold ksk_end
    dsimp only
    rw [if_neg Bool.false_ne_true]
    have hn2 : ¬ vs.toArray.size < 2 := by rw [List.size_toArray]; lia
    rw [if_neg hn2, if_neg hn2]
    refine wpAny_bind (kas_kind (vs := ks) (T := .ref ka) (by lia) (fun v hv => ?_) rfl (beq_self_eq_true _) ?_)
    · obtain ⟨i, hi, he⟩ := List.mem_iff_getElem.mp hv
      have hi' : i < xs.length := by lia
      obtain ⟨x, u, a1, dx, a2, a3⟩ := hall' i xs[i] (List.getElem?_eq_getElem hi')
      rw [List.getElem?_eq_getElem hi] at a1
      cases (Option.some.inj a1).symm.trans he
      exact (Looks.ld (part := none) (I.sub _ _ a2)).andThen .now
    rw [if_neg Bool.false_ne_true]
    have est : SortSt.mk' oneType' (ks.toArray.zip vs.toArray) #[] 7 none = kas_st oneType' it (List.toArray (List.range xs.length)) := by
      have e := kas_range it
      rw [hsz] at e
      show SortSt.mk' oneType' (ks.toArray.zip vs.toArray) #[] 7 none = SortSt.mk' oneType' ((List.toArray (List.range xs.length)).map (kas_item it)) #[] 7 none
      rw [e, hit]
    rw [est]
    have ask : (kas_sort xs.length).kasWp (kas_cmp prog w A oneType' it) (fun p s2 => (OkP xs.length p ∧ Up pos p xs.length) ∧ ∃ g2, IF B g2 ((kS, lo ks e) :: (a, lo [] e1) :: mu) L m cs cm s2 ∧ Le g' g2) s' := by
      refine KasT.good_wp (lt := ltP pos) (Inv := fun s2 => ∃ g2, IF B g2 ((kS, lo ks e) :: (a, lo [] e1) :: mu) L m cs cm s2 ∧ Le g' g2) (fun i j C s2 hi hj hI hC => ?_) (fun p s2 hp hI => ⟨hp, hI⟩) ⟨g', I, Le.refl _⟩ (sort_good hinj h2)
      obtain ⟨g2, I2, le2⟩ := hI
      obtain ⟨x1, u1, b1, c1⟩ := hall' i xs[i] (List.getElem?_eq_getElem hi)
      obtain ⟨x2, u2, b2, c2⟩ := hall' j xs[j] (List.getElem?_eq_getElem hj)
      unfold kas_cmp
      rw [hitem i hi, hitem j hj]
      have g1 : ks.getD i .none = .ref x1 := by rw [List.getD_eq_getElem?_getD, b1]; rfl
      have g2' : ks.getD j .none = .ref x2 := by rw [List.getD_eq_getElem?_getD, b2]; rfl
      rw [g1, g2']
      refine k_lt (X'.up le2) I2.sub (by have q := I2.stat; rw [hT] at q; exact q) r2 (c1.up le2) (c2.up le2) (hok _ (List.getElem_mem hi)) (hok _ (List.getElem_mem hj)) (fun g3 s3 af => ?_)
      rw [hlt i j _ _ (List.getElem?_eq_getElem hi) (List.getElem?_eq_getElem hj)]
      exact hC s3 ⟨g3, I2.after af, le2.trans af.le⟩
    have run := kas_runs (E := E) (Q := fun _ st' s2 => ∃ p : Array Nat, p.size = xs.length ∧ arrOf st' = p.map (kas_item it) ∧ failedOf st' = none ∧ (OkP xs.length p ∧ Up pos p xs.length) ∧ ∃ g2, IF B g2 ((kS, lo ks e) :: (a, lo [] e1) :: mu) L m cs cm s2 ∧ Le g' g2)
      h2 h64 (fun p' st' s' a1 a2 a3 a4 => ⟨p', a1, a2, a3, a4⟩) ask
    refine wpAny_bind (wpAny_mono run ?_ fun _ _ e => e)
    rintro ⟨⟨⟩, st'⟩ s2 ⟨p, hps, har, hf, ⟨hp1, hp2⟩, g2, I2, le2⟩
    dsimp only
    unfold ksk_tail
    dsimp only
    have nk2 := (I2.muH _ (.head _)).1
    obtain ⟨c3, hc3⟩ : ∃ c3, (s2.heap.update kS (Obj.mapSeq fun _ => (#[] : Array Value))).get? kS = some (lo [] c3) := ⟨_, get?_update_seq (c := "list") (xs := ks.toArray) nk2 fun _ => #[]⟩
    refine wpAny_bind (listUpdate_at nk2 rfl ?_ (by rw [List.size_toArray, sizeLine_eq]; lia) (Nat.zero_le _))
    have I3 := I2.turn (t := s2.toks) hc3 (Heap.SameBut.update ..)
    refine wpAny_bind (wpAny_letGo ?_)
    have na3 := (I3.muH _ (.tail _ (.head _))).1
    refine wpAny_bind (seqEpoch_at na3 rfl ?_)
    have hout : (arrOf st').map (·.2) = (p.toList.map fun i => vs.getD i .none).toArray := by
      apply Array.toList_inj.mp
      rw [har, Array.map_map, Array.toList_map]
      refine List.map_congr_left fun i hi => ?_
      have hi' : i < xs.length := List.mem_range.mp (hp1.2.mem_iff.mp hi)
      show (kas_item it i).2 = _
      rw [hitem i hi']
    have hosz : ((p.toList.map fun i => vs.getD i .none).toArray).size = xs.length := by rw [List.size_toArray, List.length_map, Array.length_toList, hps]
    rw [if_neg Bool.false_ne_true, hout]
    obtain ⟨c4, hc4⟩ : ∃ c4, ((s2.heap.update kS (Obj.mapSeq fun _ => (#[] : Array Value))).update a (Obj.mapSeq fun _ => (p.toList.map fun i => vs.getD i .none).toArray)).get? a = some (lo (p.toList.map fun i => vs.getD i .none) c4) := ⟨_, get?_update_seq (c := "list") (xs := #[]) na3 fun _ => (p.toList.map fun i => vs.getD i .none).toArray⟩
    refine wpAny_bind (listUpdate_at na3 rfl ?_ (Nat.zero_le _) (Nat.le_trans (Nat.le_of_eq hosz) (by rw [sizeLine_eq]; lia)))
    rw [hf]
    simp only [bne_self_eq_false, Bool.false_eq_true, if_false]
    have nd3 := I3.nd
    simp only [List.map_cons, List.nodup_cons, List.mem_cons, not_or] at nd3
    have I4 := I3.weaken (mu' := (a, lo [] e1) :: mu) (fun p hp => .tail _ hp) (by
      rw [List.map_cons, List.nodup_cons]
      exact ⟨nd3.2.1, nd3.2.2⟩)
    exact wpAny_pure (h p g2 _ c4 hp1 hp2 (I4.turn (t := s2.toks) hc4 (Heap.SameBut.update ..)) (le.trans le2))
end
end Mine
set_option Elab.async false
set_option maxRecDepth 100000
set_option linter.unusedVariables false
namespace Mine
open PySem PySem.W PyProof.Rows PySem.Calls SeqAt
set_option maxHeartbeats 2000000

/-! ## sorted(book, key=K) -/
section
variable {prog : Program} {w : World} {A : Around} {E : Value → Shared → Prop} {s : Shared} {g : Vw} {S : Heap} {mg mb : Str → Option Value} {F : Frag} {ka md fI fL cI cL cc : Addr} {oI oL oc : Obj} {ctI ctL dI dL pm fr : Value} {ok : Str → Prop} {f : Str → Str → Int} {d : Nat}
variable {B : Base} {mu : List (Addr × Obj)} {L : Addr} {m : Str → Option Value} {cs : List (Str × Addr)} {cm : Str → Option Value}
theorem keysAll {kvs : List (Str × Value)} {acc : Array Value} (h : ItemsOf (fun (i : Nat) (v : Value) => ∃ (k : Str) (x : Value), kvs[i]? = some (k, x) ∧ (strKind prog w).is k v = true) acc kvs.length) : All₂ StrV acc.toList (kvs.map (·.1)) := by
  have aux : ∀ (vs : List Value) (xs : List Str), vs.length = xs.length → (∀ (i : Nat) (v : Value), vs[i]? = some v → ∃ k, xs[i]? = some k ∧ StrV v k) → All₂ StrV vs xs := by
    intro vs
    induction vs with
    | nil => intro xs hl _; cases xs with | nil => exact .nil | cons _ _ => simp at hl
    | cons v vs ih =>
      intro xs hl hv
      cases xs with
      | nil => simp at hl
      | cons x xs =>
        obtain ⟨k, hk, hs⟩ := hv 0 v rfl
        cases hk
        exact .cons hs (ih xs (by simpa using hl) fun i u hu => hv (i + 1) u hu)
  refine aux _ _ (by rw [Array.length_toList, h.1, List.length_map]) fun i v hv => ?_
  obtain ⟨k, x, hk, hs⟩ := h.2 i v (by rw [← Array.getElem?_toList]; exact hv)
  refine ⟨k, by rw [List.getElem?_map, hk]; rfl, ?_⟩
  obtain ⟨t, rfl⟩ := Value.isStrOf_shape hs
  exact ⟨t, rfl⟩

theorem b_sortedK {a : Addr} {o : Obj} {kvs : List (Str × Value)} {pos : Nat → Nat} {Q : Value → Shared → Prop}
    (X : KCtx prog w S mg mb g F ka md fI fL cI cL cc oI oL oc ctI ctL dI dL pm fr ok f d) (I : IF B g mu L m cs cm s) (hT : B.T = S.get?) (r : Room A (d + 3))
    (hsys : (a == sysModules) = false) (ho : s.heap.get? a = some o) (hd : o.IsDictOf (strKind prog w) kvs)
    (h2 : 2 ≤ kvs.length) (h64 : kvs.length < 64) (hok : ∀ x ∈ kvs.map (·.1), ok x) (hinj : ∀ i j, i < kvs.length → j < kvs.length → pos i = pos j → i = j)
    (hlt : ∀ i j x y, (kvs.map (·.1))[i]? = some x → (kvs.map (·.1))[j]? = some y → decide (f x y < 0) = ltP pos i j)
    (h : ∀ D p vs g' s' n', OkP kvs.length p → Up pos p kvs.length → All₂ StrV vs (kvs.map (·.1)) → IF B g' ((D, lo (p.toList.map fun i => vs.getD i .none) n') :: mu) L m cs cm s' → Le g g' → ¬ B.off D → Q (.ref D) s') :
    wpAny (model prog w) A (call (.builtin "sorted") [.ref a] [(Str.ofString "key", .ref ka)]) Q E s := by
  obtain ⟨ep, hat⟩ := (Heap.dictOf_iff.mpr ⟨o, ho, hd⟩ : s.heap.DictOf (strKind prog w) a kvs).dictAt
  have r1 : Room A.in1 (d + 2) := ⟨r.handled, by have := r.depth; show A.depth + _ ≤ _; lia, by have := r.units; show A.units + 1 + _ ≤ _; lia⟩
  refine call_function_entry_kw kind_sorted plain_sorted entry_sorted (ksk_s1 _ _) ?_
  unfold Builtin.«sorted»
  refine wpAny_bind (m := checkCount "sorted" 1 1 _) (wpAny_pure ?_)
  refine wpAny_bind (kdu_collect (A := A.in1) (kdl_dict (knd := strKind prog w) (kvs := kvs) (ep := ep) hsys) r.handled hat (by rw [sizeLine_eq]; lia) fun h' tk acc hk hacc => ?_)
  have hs := keysAll hacc
  have hlen : acc.toList.length = kvs.length := by rw [Array.length_toList]; exact hacc.1
  have I := I.kept (t := tk) hk
  refine wpAny_bind (wpAny_newList ?_ (by rw [hlen, sizeLine_eq]; lia))
  have nD : ¬ B.off h'.objs.size := I.newOff
  have I := I.newMu (o := lo acc.toList 0) (t := tk)
  refine wpAny_bind (wpAny_holding ?_)
  have ho := (I.muH _ (.head _)).1
  refine wpAny_call_entry_kw PyProof.Rows.slot_list_sort ⟨_, ho, rfl⟩ PyProof.Rows.entry_list_sort ?_ (ksk_l1 _ _)
  rw [ksk_t1]
  have r2 : Room A.in1.in1 (d + 2) := ⟨r.handled, by have := r.depth; show A.depth + _ ≤ _; lia, by have := r.units; show A.units + 1 + 1 + _ ≤ _; lia⟩
  refine sortTree (pos := pos) (xs := kvs.map (·.1)) X I hT r2 (r2.le (Nat.le_succ _)) hs (by rw [List.length_map]; lia) (by rw [List.length_map]; lia) hok (by rw [List.length_map]; exact hinj) hlt ?_
  intro p g' s' n' hp1 hp2 I le
  refine ⟨_, rfl, ?_⟩
  refine wpAny_pure ⟨_, rfl, ?_⟩
  rw [List.length_map] at hp1 hp2
  exact h _ p _ g' s' n' hp1 hp2 hs I le nD
end
end Mine
set_option Elab.async false
set_option maxRecDepth 100000
set_option linter.unusedVariables false
namespace Mine
open PySem PySem.W PyProof.Rows PySem.Calls SeqAt
set_option maxHeartbeats 2000000

/-! ## The class K over the rule; sorted(book, key=..) in an expression -/
section
variable {prog : Program} {w : World} {A : Around} {E : Value → Shared → Prop} {s : Shared} {g : Vw} {S : Heap} {mg mb : Str → Option Value}
theorem rule_fn {v : Value} {ab fcp : Addr} {pmc cdc docc : Value} {f : Str → Option Int} {ob : Obj} {kvs : List (Str × Value)} {N : Str → List (List Nat)} (hTg : Le S.get? g) (G : Globs S mg mb)
    (hcp : mg (Str.ofString "commonpath") = some (.ref fcp)) (Fcp : FnAt S fcp 21 pmc cdc docc .none)
    (hv : RuleV prog w g v ab f) (hab : g ab = some ob) (hsys : (ab == sysModules) = false) (hob : ob.IsDictOf (strKind prog w) kvs) :
    RuleFn prog w g v (fun x => PathAt kvs N x ∧ (f x).isSome = true) (ruleL N f) 5 := by
  refine ⟨?_, fun {A E s g' x y tx ty Q} hs hl r a b h => ?_⟩
  · obtain ⟨fa, c', oc, ctv, doc, pm, cb, cl, D, od, dk, vs, t, rfl, hfa, rest⟩ := hv
    exact ⟨fa, _, _, rfl, hfa, rfl⟩
  · have hv' : RuleV prog w g' v ab f := by
      obtain ⟨fa, c', oc, ctv, doc, pm, cb, cl, D, od, dk, vs, t, e, h1, h2, h3, h4, ⟨o1, e1, d1⟩, ⟨o2, e2, d2⟩, h5, h6, h7, h8⟩ := hv
      exact ⟨fa, c', oc, ctv, doc, pm, cb, cl, D, od, dk, vs, t, e, hl _ _ h1, hl _ _ h2, h3, h4, ⟨o1, hl _ _ e1, d1⟩, ⟨o2, hl _ _ e2, d2⟩, h5, hl _ _ h6, h7, h8⟩
    exact rule_call (d := 0) hs (hTg.trans hl) G r hcp Fcp hv' (hl _ _ hab) hsys hob a.1 b.1 a.2 b.2 h
theorem kctx_of {v fr : Value} {ok : Str → Prop} {f : Str → Str → Int} {d : Nat} (ST : Stat S mg mb) (hK : KV w g v fr) (R : RuleFn prog w g fr ok f d) :
    E16 fun ka F md fI fL cI cL cc oI oL oc ctI ctL dI dL pm => (v = .ref ka) ∧ (KCtx prog w S mg mb g F ka md fI fL cI cL cc oI oL oc ctI ctL dI dL pm fr ok f d) := by
  obtain ⟨ka, F, pm, cc, oc, rfl, hF, hM, hcc, hcd⟩ := hK
  obtain ⟨md, fI, fL, cI, cL, oI, oL, ctI, ctL, dI, dL, KA, a1, a2, a3, a4, a5, a6⟩ := hM.ans fun a o o' h1 h2 => Option.some.inj ((hF _ h1).symm.trans (hF _ h2))
  exact ⟨ka, F, md, fI, fL, cI, cL, cc, oI, oL, oc, ctI, ctL, dI, dL, pm, rfl, ST, KA, hF, hF _ a1, hF _ a2, a3, hF _ a4, hF _ a5, a6, hcc, hcd, R⟩

variable {env : Env} {B : Base} {mu : List (Addr × Obj)} {L : Addr} {m : Str → Option Value} {cs : List (Str × Addr)} {cm : Str → Option Value}
theorem r_sorted {p kp pos : Pos} {e k : Expr} {Q : Value → Shared → Prop} (I : IF B g mu L m cs cm s) (ST : Stat S mg mb) (hT : B.T = S.get?) (hk : env.scope.kind = .function) (hg : env.globals = mainGlobals) (hb : env.builtins = builtinsNs) (hl : env.kindOf "sorted" = some .globalImplicit)
    (hm : mg (Str.ofString "sorted") = none)
    (h : wpAny (model prog w) A (eval e env) (fun v s₁ => wpAny (model prog w) A (eval k env) (fun u s₂ => wpAny (model prog w) A (call (.builtin "sorted") [v] [(Str.ofString "key", u)]) Q E s₂) E s₁) E s)
    (he : starEach [e] env = [(false, eval e env)] := by rfl) :
    wpAny (model prog w) A (eval (.Call (.Name "sorted" p) [e] [⟨some "key", k, kp⟩] pos) env) Q E s := by
  rw [arm_eval_Call_Name']
  refine wpAny_bind (r_builtin I ST hT hk hg hb hl hm (by rfl) (by decide) (by decide) (callWith_kw ?_ (by rw [he]; rfl) (by rw [he]; rfl)))
  rw [he]
  refine Calls.spliced_cons (wpAny_mono h (fun v s₁ h₁ => Calls.spliced_nil ?_) fun _ _ q => q)
  refine kws_cons (wpAny_mono h₁ (fun u s₂ h₂ => kws_nil ?_) fun _ _ q => q)
  exact h₂
end
end Mine
set_option Elab.async false
set_option maxRecDepth 100000
set_option linter.unusedVariables false
namespace Mine
open PySem PySem.W PyProof.Rows PySem.Calls SeqAt

/-! ## Comprehensions with two clauses -/
noncomputable def emit2 (e i2 : Expr) (acc : Value) (env : Env) : Sem Unit := do
  let x ← eval i2 env
  standAt i2.pos
  let x ← foldedSetIterable i2 env x
  let _ ← runOwn (.compStart e 1 (← holding [x] (pyIter x)) acc env) env
theorem turn2_list {elt t1 i1 t2 i2 : Expr} {ifs1 ifs2 : List Expr} {scope : Scope} {pos : Pos} {it acc : Value} {env : Env} :
    compTurn (.ListComp elt [⟨t1, i1, ifs1, 0⟩, ⟨t2, i2, ifs2, 0⟩] scope pos) 0 it acc env = lastTurn t1 i1 ifs1 (again (.compLoop (.ListComp elt [⟨t1, i1, ifs1, 0⟩, ⟨t2, i2, ifs2, 0⟩] scope pos) 0 it acc env)) it env (emit2 (.ListComp elt [⟨t1, i1, ifs1, 0⟩, ⟨t2, i2, ifs2, 0⟩] scope pos) i2 acc env) := by
  unfold lastTurn emit2
  simp only [bind_assoc]
  rfl
theorem turn2_dict {kx vx t1 i1 t2 i2 : Expr} {ifs1 ifs2 : List Expr} {scope : Scope} {pos : Pos} {it acc : Value} {env : Env} :
    compTurn (.DictComp kx vx [⟨t1, i1, ifs1, 0⟩, ⟨t2, i2, ifs2, 0⟩] scope pos) 0 it acc env = lastTurn t1 i1 ifs1 (again (.compLoop (.DictComp kx vx [⟨t1, i1, ifs1, 0⟩, ⟨t2, i2, ifs2, 0⟩] scope pos) 0 it acc env)) it env (emit2 (.DictComp kx vx [⟨t1, i1, ifs1, 0⟩, ⟨t2, i2, ifs2, 0⟩] scope pos) i2 acc env) := by
  unfold lastTurn emit2
  simp only [bind_assoc]
  rfl
section
variable {prog : Program} {w : World} {A : Around} {E : Value → Shared → Prop} {s : Shared} {env : Env}
variable {B : Base} {g g' : Vw} {mu nu own : List (Addr × Obj)} {L C D : Addr} {oD : Obj} {m mC : Str → Option Value} {cs : List (Str × Addr)} {cm : Str → Option Value}
theorem wp_emit2 {e i2 : Expr} {acc : Value} {Q : Unit → Shared → Prop} (hs : ∀ x, foldedSetIterable i2 env x = pure x)
    (h : wpAny (model prog w) A (eval i2 env) (fun x s1 => wpAny (model prog w) A (pyIter x) (fun it s2 => codeAny (model prog w) A (.compStart e 1 it acc env) (fun r s3 => (∃ f, r = .ok f) ∧ Q () s3) s2) NoE s1) NoE s) :
    wpAny (model prog w) A (emit2 e i2 acc env) Q NoE s := by
  unfold emit2
  refine wpAny_bind (wpAny_mono h (fun x s1 h1 => ?_) fun _ _ q => q)
  refine wpAny_bind (wpAny_standAt ?_)
  rw [hs]
  refine wpAny_bind (wpAny_pure ?_)
  refine wpAny_bind (wpAny_holding (wpAny_mono h1 (fun it s2 h2 => ?_) fun _ _ q => q))
  refine wpAny_bind (wpAny_runOwn (codeAny_mono h2 fun r s3 h3 => ?_))
  obtain ⟨⟨f, rfl⟩, h3⟩ := h3
  exact wpAny_pure h3

/-- both loops, over items told by lists -/
theorem cs_pairs {α β : Type} {e t1 i1 t2 i2 : Expr} {it : Value} {emit : Sem Unit} {R : Result → Shared → Prop} {P : Nat → Value → Heap → Prop}
    (hu : ∀ d it, A.under (.compLoop e d it (.ref D) env) = A) (hd : ∀ d it, (model prog w).den (.compLoop e d it (.ref D) env) = (compTurn e d it (.ref D) env).onRaise (fun x => do noteFrame x env; theTreesLotGoes x))
    (hu' : ∀ it, A.under (.compStart e 1 it (.ref D) env) = A) (hd' : ∀ it, (model prog w).den (.compStart e 1 it (.ref D) env) = (compStart e 1 it (.ref D) env).onRaise (fun x => do noteFrame x env; standAt theWindowsPlace))
    (hc : (clausesOf e)[1]? = some ⟨t2, i2, [], 0⟩)
    (ht : ∀ it, compTurn e 0 it (.ref D) env = lastTurn t1 i1 [] (again (.compLoop e 0 it (.ref D) env)) it env (emit2 e i2 (.ref D) env))
    (ht' : ∀ it, compTurn e 1 it (.ref D) env = lastTurn t2 i2 [] (again (.compLoop e 1 it (.ref D) env)) it env emit)
    (hs : ∀ x, foldedSetIterable i2 env x = pure x)
    (xs : List α) (ys : α → List β) (JD : Vw → Obj → List (α × β) → Prop) (hJ : ∀ g g' o l, Le g g' → JD g o l → JD g' o l)
    (X : CSrc prog w A t1 B L cs it xs.length P 0 g [] mu m cm C D oD mC s) (h0 : JD g oD [])
    (turn1 : ∀ B' g' oD mC s i v x, Pin B B' g' L cs → Le g g' → xs[i]? = some x → P i v s.heap → CS B' g' [] mu L m cs cm C D oD mC s →
      wpAny (model prog w) A (assign t1 env v) (fun _ s₂ => wpAny (model prog w) A (eval i2 env) (fun u s₃ => wpAny (model prog w) A (pyIter u) (fun it2 s₄ =>
        E4 fun (P2 : Nat → Value → Heap → Prop) (g2 : Vw) (mC2 : Str → Option Value) (KM : (Str → Option Value) → Prop) => C4 (Le g' g2) (CSrc prog w A t2 B' L cs it2 (ys x).length P2 0 g2 [] mu m cm C D oD mC2 s₄) (KM mC2) (∀ B'' g3 oD' mC' s' j v' y l, Pin B' B'' g3 L cs → Le g2 g3 → (ys x)[j]? = some y → P2 j v' s'.heap → KM mC' → JD g3 oD' l → l.length ≤ (xs.flatMap fun x => (ys x).map (x, ·)).length → CS B'' g3 [] mu L m cs cm C D oD' mC' s' → wpAny (model prog w) A (assign t2 env v') (fun _ s5 => wpAny (model prog w) A emit (fun _ s6 => E3 fun g4 oD4 mC4 => C4 (CS B'' g4 [] mu L m cs cm C D oD4 mC4 s6) (Le g3 g4) (KM mC4) (JD g4 oD4 (l ++ [(x, y)]))) NoE s5) NoE s')) NoE s₃) NoE s₂) NoE s)
    (hend : ∀ g' oD mC s, Le g g' → CS B g' [] mu L m cs cm C D oD mC s → JD g' oD (xs.flatMap fun x => (ys x).map (x, ·)) → R (.ok .next) s) :
    codeAny (model prog w) A (.compLoop e 0 it (.ref D) env) R s := by
  have sub : ∀ i, ((xs.take i).flatMap fun x => (ys x).map (x, ·)).length ≤ (xs.flatMap fun x => (ys x).map (x, ·)).length := fun i => by
    conv => rhs; rw [← List.take_append_drop i xs, List.flatMap_append, List.length_append]
    exact Nat.le_add_right _ _
  refine cs_loop (hu 0 it) (hd 0 it) (ht it) (fun i g' nu oD _ => nu = [] ∧ Le g g' ∧ JD g' oD ((xs.take i).flatMap fun x => (ys x).map (x, ·))) X ⟨rfl, Le.refl g, h0⟩ ?_ ?_
  · rintro B' g' nu oD mC s i v hp hi hP ⟨rfl, le, hJD⟩ CSt
    have hx : xs[i]? = some xs[i] := List.getElem?_eq_getElem hi
    refine wpAny_mono (turn1 B' g' oD mC s i v _ hp le hx hP CSt) (fun _ s₂ h₂ => tests0 ?_) fun _ _ q => q.elim
    rw [if_pos rfl]
    refine wp_emit2 hs (wpAny_mono h₂ (fun u s₃ h₃ => wpAny_mono h₃ (fun it2 s₄ h₄ => ?_) fun _ _ q => q.elim) fun _ _ q => q.elim)
    obtain ⟨P2, g2, mC2, KM, le2, X2, hKM, turn2⟩ := h₄
    have go : ∀ s₄, CSrc prog w A t2 B' L cs it2 (ys xs[i]).length P2 0 g2 [] mu m cm C D oD mC2 s₄ → codeAny (model prog w) A (.compLoop e 1 it2 (.ref D) env) (fun r s3 => (∃ f, r = .ok f) ∧ E4 fun g' nu' oD' mC' => CS B' g' nu' mu L m cs cm C D oD' mC' s3 ∧ nu' = [] ∧ Le g g' ∧ JD g' oD' ((xs.take (i + 1)).flatMap fun x => (ys x).map (x, ·))) s₄ := by
      intro s₄ X2
      refine cs_loop (hu 1 it2) (hd 1 it2) (ht' it2) (fun j g' nu oD mC => nu = [] ∧ Le g2 g' ∧ KM mC ∧ JD g' oD (((xs.take i).flatMap fun x => (ys x).map (x, ·)) ++ ((ys xs[i]).take j).map (xs[i], ·))) X2 ⟨rfl, Le.refl g2, hKM, by simpa using hJ _ _ _ _ le2 hJD⟩ ?_ ?_
      · rintro B'' g3 nu oD' mC' s' j v' hp' hj hP' ⟨rfl, le3, hKM, hJD'⟩ CSt'
        have hy : (ys xs[i])[j]? = some (ys xs[i])[j] := List.getElem?_eq_getElem hj
        have hlen : (((xs.take i).flatMap fun x => (ys x).map (x, ·)) ++ ((ys xs[i]).take j).map (xs[i], ·)).length ≤ (xs.flatMap fun x => (ys x).map (x, ·)).length := by
          refine Nat.le_trans ?_ (sub (i + 1))
          rw [List.take_add_one, hx, Option.toList_some, List.flatMap_append, List.length_append, List.length_append, List.flatMap_singleton, List.length_map, List.length_map, List.length_take]
          lia
        refine wpAny_mono (turn2 B'' g3 oD' mC' s' j v' _ _ hp' le3 hy hP' hKM hJD' hlen CSt') (fun _ s5 h5 => tests0 ?_) fun _ _ q => q.elim
        rw [if_pos rfl]
        refine wpAny_mono h5 (fun _ s6 h6 => ?_) fun _ _ q => q.elim
        obtain ⟨g4, oD4, mC4, K4, le4, hK4, hJ4⟩ := h6
        refine ⟨g4, [], oD4, mC4, K4, rfl, le3.trans le4, hK4, ?_⟩
        rw [List.take_add_one, hy, Option.toList_some, List.map_append, ← List.append_assoc]
        exact hJ4
      · rintro g3 nu oD' mC' s' CSt' ⟨rfl, le3, hKM, hJD'⟩
        refine ⟨⟨_, rfl⟩, g3, [], oD', mC', CSt', rfl, (le.trans le2).trans le3, ?_⟩
        rw [List.take_add_one, hx, Option.toList_some, List.flatMap_append, List.flatMap_singleton]
        rw [List.take_length] at hJD'
        exact hJD'
    refine compStart_any (hu' it2) (hd' it2) hc (go s₄ X2) ?_
    obtain ⟨oC, ⟨I, fp, wr, St, own, rfl, S, st, hw, IF₀, hfp, hof⟩, hns⟩ := id X2
    exact S.self 0 _ _ st (go s₄ X2)
  · rintro g' nu oD mC s CSt ⟨rfl, le, hJD⟩
    rw [List.take_length] at hJD
    exact hend g' oD mC s le CSt hJD
end
end Mine
set_option Elab.async false
set_option maxRecDepth 100000
set_option linter.unusedVariables false
namespace Mine
open PySem PySem.W PyProof.Rows PySem.Calls SeqAt

section
variable {prog : Program} {w : World} {A : Around} {E : Value → Shared → Prop} {s : Shared} {env : Env}
variable {B : Base} {g g' : Vw} {mu nu own : List (Addr × Obj)} {L C D : Addr} {oD : Obj} {m mC : Str → Option Value} {cs : List (Str × Addr)} {cm : Str → Option Value}
theorem emit_list {elt : Expr} {cenv : Env} {ys : List Value} {k : Nat} {B' : Base} {Z : Vw → (Str → Option Value) → Value → Prop} {Q : Unit → Shared → Prop}
    (close : ∀ {g' nu' mC' s'}, IF B' g' nu' C mC' [] (fun _ => none) s' → CS B g' (nu' ++ nu) mu L m cs cm C D (lo ys k) mC' s') (hl : ys.length < 100000)
    (h : wpAny (model prog w) A (eval elt cenv) (fun y s4 => ∃ g' mC', IF B' g' [] C mC' [] (fun _ => none) s4 ∧ Z g' mC' y) NoE s)
    (hq : ∀ g4 mC4 y k' s6, CS B g4 nu mu L m cs cm C D (lo (ys ++ [y]) k') mC4 s6 → Z g4 mC4 y → Q () s6) :
    wpAny (model prog w) A (do let _ ← call (.builtin "list.append") [.ref D, ← eval elt cenv]) Q NoE s := by
  refine wpAny_bind (wpAny_mono h (fun y s₄ h₄ => wpAny_bind ?_) fun _ _ q => q)
  obtain ⟨g', mC', I', hz⟩ := h₄
  have K := close I'
  refine wpAny_list_append_plain (items := ys.toArray) ⟨k, K.headD⟩ (fun h' hpl hs => wpAny_pure ?_) (by rw [List.size_toArray, sizeLine_eq]; lia)
  obtain ⟨k', hpl⟩ := hpl
  refine hq g' mC' y k' _ (K.turnD (t := s₄.toks) ?_ hs) hz
  rw [hpl, List.push_toArray]
theorem emit_dict {kx vx : Expr} {cenv : Env} {kvs : List (Str × Value)} {B' : Base} {x : Str} {Z : Vw → (Str → Option Value) → Value → Prop} {Q : Unit → Shared → Prop} {pos : Pos}
    (close : ∀ {g' nu' mC' s'}, IF B' g' nu' C mC' [] (fun _ => none) s' → CS B g' (nu' ++ nu) mu L m cs cm C D oD mC' s') (hl : kvs.length < 100000) (hd : oD.IsDictOf (strKind prog w) kvs)
    (h : wpAny (model prog w) A (eval kx cenv) (fun u s3 => wpAny (model prog w) A (eval vx cenv) (fun y s4 => (∃ t, u = .str x t) ∧ ∃ g' mC', IF B' g' [] C mC' [] (fun _ => none) s4 ∧ Z g' mC' y) NoE s3) NoE s)
    (hq : ∀ g4 mC4 y oD' s6, CS B g4 nu mu L m cs cm C D oD' mC4 s6 → oD'.IsDictOf (strKind prog w) (stored kvs x y) → Z g4 mC4 y → Q () s6) :
    wpAny (model prog w) A (do
            let kv ← eval kx cenv
            let vv ← holding [kv] (eval vx cenv)
            standAt pos
            holding [kv, vv] (dictSet D kv vv)) Q NoE s := by
  refine wpAny_bind (wpAny_mono h (fun u s3 h3 => wpAny_bind (wpAny_holding (wpAny_mono h3 (fun y s4 h4 => ?_) fun _ _ q => q))) fun _ _ q => q)
  obtain ⟨⟨t, rfl⟩, g', mC', I', hz⟩ := h4
  have K := close I'
  refine wpAny_bind (wpAny_standAt (wpAny_holding ?_))
  refine wpAny_dictSet_pairs (knd := strKind prog w) (strKind_is prog w x t) (Heap.dictOf_iff.mpr ⟨oD, K.headD, hd⟩) (fun h' hd' hs => ?_) (by rw [sizeLine_eq]; lia)
  obtain ⟨oD', e', hd'⟩ := Heap.dictOf_iff.mp hd'
  exact hq g' mC' y oD' _ (K.turnD (t := s4.toks + 1) e' hs) hd' hz

/-- a list comprehension with two clauses, over items told by lists -/
theorem r_comp2 {α β : Type} {elt t1 i1 t2 i2 : Expr} {scope : Scope} {pos : Pos} {cl : List (Str × Addr)} {Q : Value → Shared → Prop}
    (hclos : closureFor scope env = pure cl) (hkind : scope.kind = .function) (hsc : (scope.names.all fun y => y.2 != .cell && (y.2 != .local || scope.names.lookup y.1 == some .local)) = true)
    (xs : List α) (ys : α → List β) (Pv : Vw → Value → α × β → Prop) (hPv : ∀ g g' v b, Le g g' → Pv g v b → Pv g' v b) (hn : (xs.flatMap fun x => (ys x).map (x, ·)).length < 100000)
    (h : wpAny (model prog w) A (eval i1 env) (fun v s₁ => wpAny (model prog w) A (pyIter v) (fun it s₂ => E8 fun B L cs m cm mu g P => C3 (SrcAt prog w A t1 B L cs it xs.length P 0 g mu m cm s₂) (∀ C D B' g' oD mC s i v x, Pin B B' g' L cs → Le g g' → xs[i]? = some x → P i v s.heap → CS B' g' [] mu L m cs cm C D oD mC s → wpAny (model prog w) A (assign t1 (compEnvC scope cl C env) v) (fun _ s₂ => wpAny (model prog w) A (eval i2 (compEnvC scope cl C env)) (fun u s₃ => wpAny (model prog w) A (pyIter u) (fun it2 s₄ => E4 fun (P2 : Nat → Value → Heap → Prop) (g2 : Vw) (mC2 : Str → Option Value) (KM : (Str → Option Value) → Prop) => C4 (Le g' g2) (CSrc prog w A t2 B' L cs it2 (ys x).length P2 0 g2 [] mu m cm C D oD mC2 s₄) (KM mC2) (∀ B3 g3 mC' s' j v' y, Inn B' B3 g3 cs cm mu → Le g2 g3 → (ys x)[j]? = some y → P2 j v' s'.heap → KM mC' → IF B3 g3 [] C mC' [] (fun _ => none) s' → wpAny (model prog w) A (assign t2 (compEnvC scope cl C env) v') (fun _ s5 => wpAny (model prog w) A (eval elt (compEnvC scope cl C env)) (fun z s6 => E2 fun g4 mC4 => C3 (IF B3 g4 [] C mC4 [] (fun _ => none) s6) (KM mC4) (Pv g4 z (x, y))) NoE s5) NoE s')) NoE s₃) NoE s₂) NoE s) (∀ D g' zs k s, Le g g' → IF B g' ((D, lo zs k) :: mu) L m cs cm s → ¬ B.off D → All₂ (Pv g') zs (xs.flatMap fun x => (ys x).map (x, ·)) → Q (.ref D) s)) NoE s₁) NoE s)
    (hs1 : ∀ x, foldedSetIterable i1 env x = pure x := by intro _; rfl) (hs2 : ∀ C x, foldedSetIterable i2 (compEnvC scope cl C env) x = pure x := by intro _ _; rfl) :
    wpAny (model prog w) A (eval (.ListComp elt [⟨t1, i1, [], 0⟩, ⟨t2, i2, [], 0⟩] scope pos) env) Q NoE s := by
  obtain ⟨hcell, hnames⟩ := sc_cell hsc
  rw [eval_ListComp]
  refine wpAny_comprehension_free (use := none) rfl hs1 hclos hkind hnames (wpAny_mono h (fun v s₁ h₁ => wpAny_mono h₁ (fun it s₂ h₂ => ?_) fun _ _ e => e) fun _ _ e => e)
  obtain ⟨B, L, cs, m, cm, mu, g, P, X, turn, hend⟩ := h₂
  refine comp_frame (RR := fun acc C r s' => compPost (model prog w) A NoE none Q acc C r s') (lo [] 0) rfl (fun s Q h => wpAny_newObj_type h) hcell hkind (fun _ _ _ => rfl) (fun _ _ _ => rfl) rfl X fun C D s₄ hC hD XX => ?_
  refine cs_pairs (emit := do let _ ← call (.builtin "list.append") [.ref D, ← eval elt (compEnvC scope cl C env)]) (fun _ _ => rfl) (fun _ _ => rfl) (fun _ => rfl) (fun _ => rfl) rfl (fun _ => turn2_list) (fun _ => rfl) (hs2 C) xs ys
    (fun g o l => ∃ zs k, o = lo zs k ∧ All₂ (Pv g) zs l) (fun g g' o l le => ?_) XX ⟨[], 0, rfl, .nil⟩ ?_ ?_
  · rintro ⟨zs, k, rfl, hz⟩
    exact ⟨zs, k, rfl, hz.mono fun _ _ q => hPv _ _ _ _ le q⟩
  · intro B' g' oD mC s i v x hp le hx hP CSt
    refine wpAny_mono (turn C D B' g' oD mC s i v x hp le hx hP CSt) (fun _ s2 h2 => wpAny_mono h2 (fun u s3 h3 => wpAny_mono h3 (fun it2 s4 h4 => ?_) fun _ _ q => q) fun _ _ q => q) fun _ _ q => q
    obtain ⟨P2, g2, mC2, KM, le2, X2, hKM, turn2⟩ := h4
    refine ⟨P2, g2, mC2, KM, le2, X2, hKM, ?_⟩
    rintro B'' g3 oD' mC' s' j v' y l hp' le3 hy hP' hKM' ⟨zs, k, rfl, hz⟩ hl CSt'
    obtain ⟨B3, inn, I, close⟩ := CSt'.open_
    refine wpAny_mono (turn2 B3 g3 mC' s' j v' y (inn.pin hp') le3 hy hP' hKM' I) (fun _ s5 h5 => ?_) fun _ _ q => q
    refine emit_list (Z := fun g4 mC4 z => KM mC4 ∧ Pv g4 z (x, y) ∧ Le g3 g4) close (by have := hz.length; lia) (wpAny_mono h5 (fun z s6 h6 => ?_) fun _ _ q => q) ?_
    · obtain ⟨g4, mC4, I4, a, b⟩ := h6
      exact ⟨g4, mC4, I4, a, b, inn.g ▸ I4.ge⟩
    · rintro g4 mC4 z k' s6 K ⟨a, b, c⟩
      exact ⟨g4, _, mC4, K, c, a, _, k', rfl, (hz.mono fun _ _ q => hPv _ _ _ _ c q).append (.cons b .nil)⟩
  · rintro g' oD mC s le ⟨oC, I, hns⟩ ⟨zs, k, rfl, hz⟩
    exact ⟨mC, hns, fun h' hs' => hend D g' zs k _ le (IF.drop (t := s.toks) (own := [(C, oC)]) I (fun p hp => by rw [List.mem_singleton.mp hp]; exact hC) fun b o hb e => hs'.extBut b o (fun q => hb (by rw [q]; exact .head _)) e) hD hz⟩

/-- a dict comprehension with two clauses -/
theorem r_dictComp2 {α β : Type} {kx vx t1 i1 t2 i2 : Expr} {scope : Scope} {pos : Pos} {cl : List (Str × Addr)} {S : Heap} {Q : Value → Shared → Prop}
    (hclos : closureFor scope env = pure cl) (hkind : scope.kind = .function) (hsc : (scope.names.all fun y => y.2 != .cell && (y.2 != .local || scope.names.lookup y.1 == some .local)) = true)
    (xs : List α) (ys : α → List β) (key : α × β → Str) (Pv : Value → α × β → Prop) (hn : (xs.flatMap fun x => (ys x).map (x, ·)).length < 100000) (hsys : S.get? sysModules ≠ none)
    (h : wpAny (model prog w) A (eval i1 env) (fun v s₁ => wpAny (model prog w) A (pyIter v) (fun it s₂ => E8 fun B L cs m cm mu g P => C4 (B.T = S.get?) (SrcAt prog w A t1 B L cs it xs.length P 0 g mu m cm s₂) (∀ C D B' g' oD mC s i v x, Pin B B' g' L cs → Le g g' → xs[i]? = some x → P i v s.heap → CS B' g' [] mu L m cs cm C D oD mC s → wpAny (model prog w) A (assign t1 (compEnvC scope cl C env) v) (fun _ s₂ => wpAny (model prog w) A (eval i2 (compEnvC scope cl C env)) (fun u s₃ => wpAny (model prog w) A (pyIter u) (fun it2 s₄ => E4 fun (P2 : Nat → Value → Heap → Prop) (g2 : Vw) (mC2 : Str → Option Value) (KM : (Str → Option Value) → Prop) => C4 (Le g' g2) (CSrc prog w A t2 B' L cs it2 (ys x).length P2 0 g2 [] mu m cm C D oD mC2 s₄) (KM mC2) (∀ B3 g3 mC' s' j v' y, Inn B' B3 g3 cs cm mu → Le g2 g3 → (ys x)[j]? = some y → P2 j v' s'.heap → KM mC' → IF B3 g3 [] C mC' [] (fun _ => none) s' → wpAny (model prog w) A (assign t2 (compEnvC scope cl C env) v') (fun _ s5 => wpAny (model prog w) A (eval kx (compEnvC scope cl C env)) (fun u s6 => wpAny (model prog w) A (eval vx (compEnvC scope cl C env)) (fun z s7 => (∃ t, u = .str (key (x, y)) t) ∧ E2 fun g4 mC4 => C3 (IF B3 g4 [] C mC4 [] (fun _ => none) s7) (KM mC4) (Pv z (x, y))) NoE s6) NoE s5) NoE s')) NoE s₃) NoE s₂) NoE s) (∀ D g' o zs s, Le g g' → IF B g' ((D, o) :: mu) L m cs cm s → ¬ B.off D → (D == sysModules) = false → All₂ Pv zs (xs.flatMap fun x => (ys x).map (x, ·)) → o.IsDictOf (strKind prog w) (((xs.flatMap fun x => (ys x).map (x, ·)).zip zs).foldl (fun kvs p => stored kvs (key p.1) p.2) []) → Q (.ref D) s)) NoE s₁) NoE s)
    (hs1 : ∀ x, foldedSetIterable i1 env x = pure x := by intro _; rfl) (hs2 : ∀ C x, foldedSetIterable i2 (compEnvC scope cl C env) x = pure x := by intro _ _; rfl) :
    wpAny (model prog w) A (eval (.DictComp kx vx [⟨t1, i1, [], 0⟩, ⟨t2, i2, [], 0⟩] scope pos) env) Q NoE s := by
  obtain ⟨hcell, hnames⟩ := sc_cell hsc
  rw [arm_eval_DictComp]
  refine wpAny_comprehension_free (use := none) rfl hs1 hclos hkind hnames (wpAny_mono h (fun v s₁ h₁ => wpAny_mono h₁ (fun it s₂ h₂ => ?_) fun _ _ e => e) fun _ _ e => e)
  obtain ⟨B, L, cs, m, cm, mu, g, P, hT, X, turn, hend⟩ := h₂
  refine comp_frame (RR := fun acc C r s' => compPost (model prog w) A NoE none Q acc C r s') { cls := .type "dict", data := .dict #[] } rfl (fun s Q h => wpAny_newObj_type h) hcell hkind (fun _ _ _ => rfl) (fun _ _ _ => rfl) rfl X fun C D s₄ hC hD XX => ?_
  have len_ : ∀ (ps : List ((α × β) × Value)) (kvs : List (Str × Value)), (ps.foldl (fun kvs p => stored kvs (key p.1) p.2) kvs).length ≤ kvs.length + ps.length := by
    intro ps
    induction ps with
    | nil => intro kvs; exact Nat.le_refl _
    | cons p r ih =>
      intro kvs
      have := ih (stored kvs (key p.1) p.2)
      have l2 := stored_len (kvs := kvs) (x := key p.1) (v := p.2)
      rw [List.foldl_cons, List.length_cons]; lia
  refine cs_pairs (fun _ _ => rfl) (fun _ _ => rfl) (fun _ => rfl) (fun _ => rfl) rfl (fun _ => turn2_dict) (fun _ => rfl) (hs2 C) xs ys
    (fun g o l => ∃ zs, All₂ Pv zs l ∧ o.IsDictOf (strKind prog w) ((l.zip zs).foldl (fun (kvs : List (Str × Value)) (p : (α × β) × Value) => stored kvs (key p.1) p.2) ([] : List (Str × Value)))) (fun g g' o l le q => q) XX ⟨[], .nil, ?_⟩ ?_ ?_
  · exact ⟨#[], 0, ⟨rfl, rfl, rfl⟩, rfl, fun _ he => by simp at he, Pairs.nil, List.nodup_nil⟩
  · intro B' g' oD mC s i v x hp le hx hP CSt
    refine wpAny_mono (turn C D B' g' oD mC s i v x hp le hx hP CSt) (fun _ s2 h2 => wpAny_mono h2 (fun u s3 h3 => wpAny_mono h3 (fun it2 s4 h4 => ?_) fun _ _ q => q) fun _ _ q => q) fun _ _ q => q
    obtain ⟨P2, g2, mC2, KM, le2, X2, hKM, turn2⟩ := h4
    refine ⟨P2, g2, mC2, KM, le2, X2, hKM, ?_⟩
    rintro B'' g3 oD' mC' s' j v' y l hp' le3 hy hP' hKM' ⟨zs, hz, hd⟩ hl CSt'
    obtain ⟨B3, inn, I, close⟩ := CSt'.open_
    refine wpAny_mono (turn2 B3 g3 mC' s' j v' y (inn.pin hp') le3 hy hP' hKM' I) (fun _ s5 h5 => ?_) fun _ _ q => q
    have hzl := hz.length
    refine emit_dict (x := key (x, y)) (Z := fun g4 mC4 z => KM mC4 ∧ Pv z (x, y) ∧ Le g3 g4) close (Nat.lt_of_le_of_lt (len_ _ _) (by rw [List.length_zip, List.length_nil]; lia)) hd (wpAny_mono h5 (fun u s6 h6 => wpAny_mono h6 (fun z s7 h7 => ?_) fun _ _ q => q) fun _ _ q => q) ?_
    · obtain ⟨hu, g4, mC4, I4, a, b⟩ := h7
      exact ⟨hu, g4, mC4, I4, a, b, inn.g ▸ I4.ge⟩
    · rintro g4 mC4 z oD4 s6 K hd4 ⟨a, b, c⟩
      refine ⟨g4, _, mC4, K, c, a, zs ++ [z], hz.append (.cons b .nil), ?_⟩
      rw [List.zip_append hzl.symm, List.foldl_append]
      exact hd4
  · rintro g' oD mC s le ⟨oC, I, hns⟩ ⟨zs, hz, hd⟩
    refine ⟨mC, hns, fun h' hs' => ?_⟩
    have I2 := IF.drop (t := s.toks) (own := [(C, oC)]) I (fun p hp => by rw [List.mem_singleton.mp hp]; exact hC) fun b o hb e => hs'.extBut b o (fun q => hb (by rw [q]; exact .head _)) e
    refine hend D g' oD zs _ le I2 hD ?_ hz hd
    rw [beq_eq_false_iff_ne]
    intro e
    have gn := (I2.muH _ (.head _)).2.1
    dsimp only at gn
    rw [e] at gn
    cases q : S.get? sysModules with
    | none => exact hsys q
    | some o =>
      have := I2.stat sysModules o (by rw [hT]; exact q)
      rw [gn] at this
      cases this
end
end Mine
set_option Elab.async false
set_option maxRecDepth 100000
set_option linter.unusedVariables false
namespace Mine
open PySem PySem.W PyProof.Rows PySem.Calls SeqAt

/-! ## zip of two lists, sources inside a comprehension -/
section
variable {prog : Program} {w : World} {A : Around} {E : Value → Shared → Prop} {s : Shared} {env : Env}
variable {B : Base} {g g' : Vw} {mu nu own : List (Addr × Obj)} {L C D : Addr} {oD oC : Obj} {m mC : Str → Option Value} {cs : List (Str × Addr)} {cm : Str → Option Value}
noncomputable def ZipV (prog : Program) (w : World) (A : Around) (B : Base) (L : Addr) (cs : List (Str × Addr)) (vs us : List Value) (g : Vw) (mu : List (Addr × Obj)) (m cm : Str → Option Value) (v : Value) (s : Shared) : Prop :=
  ∀ (E Q : Value → Shared → Prop), (∀ it s', (∀ elts k pos, SrcAt prog w A (.Tuple elts k pos) B L cs it vs.length (fun i v h => E3 fun T x y => C4 (v = .ref T) (h.IsTuple T #[x, y]) (vs[i]? = some x) (us[i]? = some y)) 0 g mu m cm s') → Q it s') → wpAny (model prog w) A (pyIter v) Q E s
theorem b_zip {l1 l2 : Addr} {vs us : List Value} {k1 k2 : Nat} {Q : Value → Shared → Prop} (I : IF B g mu L m cs cm s) (hh : A.handled = none) (hl1 : g l1 = some (lo vs k1)) (hl2 : g l2 = some (lo us k2)) (hlen : vs.length = us.length) (h : ∀ v g' s', Le g g' → ZipV prog w A B L cs vs us g' mu m cm v s' → Q v s') :
    wpAny (model prog w) A (call (.type "zip") [.ref l1, .ref l2]) Q E s := by
  obtain ⟨hp, gg, dd, tt, os⟩ := s
  refine call_zip_2 (xs := vs.toArray) (ys := us.toArray) (isList_lo (I.sub _ _ hl1)) (isList_lo (I.sub _ _ hl2)) fun h' hz hTI hTO hi1 hi2 hsz hk => ?_
  obtain ⟨o1, ho1, hc1, hd1⟩ := id hi1
  obtain ⟨o2, ho2, hc2, hd2⟩ := id hi2
  have lt1 : @LT.lt Nat _ l1 hp.objs.size := Heap.lt_size (I.sub _ _ hl1)
  have lt2 : @LT.lt Nat _ l2 hp.objs.size := Heap.lt_size (I.sub _ _ hl2)
  have N : ∀ a, hp.objs.size ≤ a → ¬ B.off a := fun a ha => I.fresh ha
  have gl : ∀ a, hp.objs.size ≤ a → g a = none := fun a ha => none_of_size I.sub ha
  generalize hn : hp.objs.size = n at *
  have J := IF.gain (t := tt) (own := [(n + 2, _), (n + 4, _), (n + 3, _), (n, o1), (n + 1, o2)]) I (by simp) (fun p hpp => by
    simp only [List.mem_cons, List.not_mem_nil, or_false] at hpp
    rcases hpp with rfl | rfl | rfl | rfl | rfl
    · exact ⟨by show hp.objs.size ≤ n + 2; lia, hTI⟩
    · exact ⟨by show hp.objs.size ≤ n + 4; lia, hz⟩
    · exact ⟨by show hp.objs.size ≤ n + 3; lia, hTO⟩
    · exact ⟨by show hp.objs.size ≤ n; lia, ho1⟩
    · exact ⟨by show hp.objs.size ≤ n + 1; lia, ho2⟩) hk
  have J := IF.freeze J (N _ (by lia))
  refine h _ (put g (n + 2) { cls := .type "tuple", data := .seq #[.ref n, .ref (n + 1)] }) _ (le_put (gl (n + 2) (Nat.le_add_right _ _))) fun E' Q' hQ => ?_
  refine wpAny_pyIter_zip hz (hQ _ _ fun elts kk pos => ?_)
  have D : ZipApart (n + 4) (n + 2) (n + 3) n (n + 1) l1 l2 := by constructor <;> (refine @id ((_ : Nat) ≠ (_ : Nat)) ?_; lia)
  have W := WalksT.zip2 (prog := prog) (w := w) (A := A) hh (n + 4) (n + 2) (n + 3) n (n + 1) l1 l2 D vs.toArray us.toArray
  have R := Src.ofT W (fun i h st b hb => by
    obtain ⟨a1, a2, ⟨_, _, a3⟩, ⟨_, a4, _⟩, ⟨_, a5, _⟩, _, _⟩ := st
    simp only [List.mem_cons, List.not_mem_nil, or_false] at hb
    rcases hb with rfl | rfl | rfl | rfl
    · exact alive a1
    · exact alive a3
    · exact alive a4
    · exact alive a5) elts kk pos
  rw [List.size_toArray, List.size_toArray, hlen, Nat.min_self, ← hlen] at R
  have R' := R.mono (P' := fun i v h => E3 fun T x y => C4 (v = Value.ref T) (h.IsTuple T #[x, y]) (vs[i]? = some x) (us[i]? = some y)) fun i v h hP => by
    obtain ⟨T, vals, rfl, hT, x, y, hx, hy, rfl⟩ := hP
    exact ⟨T, x, y, rfl, hT, by simpa using hx, by simpa using hy⟩
  refine ⟨_, _, _, _, _, rfl, R', ⟨hz, hTI, ⟨_, _, hTO⟩, hi1, hi2, (isList_lo (I.sub _ _ hl1)).at fun o e => hk _ o e, (isList_lo (I.sub _ _ hl2)).at fun o e => hk _ o e⟩, rfl, J, fun b hb => ?_, fun p hpp => ?_⟩
  · simp only [List.mem_cons, List.not_mem_nil, or_false] at hb
    rcases hb with rfl | rfl | rfl | rfl | rfl | rfl | rfl
    · exact .inl (.head _)
    · exact .inr ⟨_, put_self ..⟩
    · exact .inl (.tail _ (.head _))
    · exact .inl (.tail _ (.tail _ (.head _)))
    · exact .inl (.tail _ (.tail _ (.tail _ (.head _))))
    · exact .inr ⟨_, by rw [put_ne (by refine @id ((_ : Nat) ≠ (_ : Nat)) ?_; lia)]; exact hl1⟩
    · exact .inr ⟨_, by rw [put_ne (by refine @id ((_ : Nat) ≠ (_ : Nat)) ?_; lia)]; exact hl2⟩
  · simp only [List.mem_cons, List.not_mem_nil, or_false] at hpp
    rcases hpp with rfl | rfl | rfl | rfl
    · exact N _ (by show n ≤ n + 4; lia)
    · exact N _ (by show n ≤ n + 3; lia)
    · exact N _ (by show n ≤ n; lia)
    · exact N _ (by show n ≤ n + 1; lia)
/-- a source made inside a comprehension's frame, told of the outer frame -/
theorem csrc_of {target : Expr} {it : Value} {n : Nat} {P : Nat → Value → Heap → Prop} {s' : Shared} (I : IF B g ((C, oC) :: (D, oD) :: (nu ++ mu)) L m cs cm s) (hC : s.heap.Ns C mC)
    (X : SrcAt prog w A target B L cs it n P 0 g' ((C, oC) :: (D, oD) :: (nu ++ mu)) m cm s') : CSrc prog w A target B L cs it n P 0 g' nu mu m cm C D oD mC s' := by
  obtain ⟨_, fp, wr, St, own, rfl, S, st, hw, IF₀, hfp, hof⟩ := id X
  have e0 := (I.muH _ (.head _)).1
  have e1 := (IF₀.muH (C, oC) (List.mem_append_right _ (.head _))).1
  exact ⟨oC, X, hC.at' fun o e => by rw [e0] at e; cases e; exact e1⟩
end
end Mine
set_option Elab.async false
set_option maxRecDepth 100000
set_option linter.unusedVariables false
namespace Mine
open PySem PySem.W PyProof.Rows PySem.Calls SeqAt

/-! ## Plain law: texts, names, rows -/
noncomputable def ofL (l : List Nat) : Str := ⟨l.toArray⟩
theorem tl_ofL (l : List Nat) : tl (ofL l) = l := by simp [tl, ofL]
theorem ofL_tl (x : Str) : ofL (tl x) = x := str_ext (tl_ofL _)
theorem ofL_inj {a b : List Nat} (h : ofL a = ofL b) : a = b := by rw [← tl_ofL a, h, tl_ofL]
noncomputable def tx (t : Trip) : Str := ofL (qText t.1 (tl t.2.1) t.2.2)
noncomputable def nm (t : Trip) : List (List Nat) := namesL t.1 (tl t.2.1) t.2.2
noncomputable def pt (t : Trip) : Str := ofL (pathL (nm t))
noncomputable def rowT (t : Trip) : List Trip := toldL t.2.1 (t.1, t.2.2)

/-! finite tables -/
noncomputable abbrev Core := List Nat
noncomputable def nx (c : Core) (p : Nat × Nat) : Nat × Nat := if c ≠ [] then (p.1 - 1, p.2 - 1) else (p.1 + p.2 - 2, 0)
noncomputable def rowF (c : Core) : Nat → Nat × Nat → List (Nat × Nat)
  | 0, p => [p]
  | k + 1, p => if p.1 + p.2 = 0 then [p] else p :: rowF c k (nx c p)
theorem rowF_eq {core : Str} : ∀ (k : Nat) (p : Nat × Nat), p.1 + p.2 ≤ k → toldL core p = (rowF (tl core) k p).map fun q => (q.1, core, q.2)
  | 0, p, h => toldL_end (by lia)
  | k + 1, p, h => by
    unfold rowF
    by_cases e : p.1 + p.2 = 0
    · rw [if_pos e, toldL_end e]; rfl
    · rw [if_neg e, toldL_step e, List.map_cons]
      have hn : nextT core p = nx (tl core) p := rfl
      have := nextT_lt (core := core) e
      rw [hn, rowF_eq k _ (by rw [hn] at this; lia)]
noncomputable def chainF : Nat → List Nat → List (List Nat)
  | 0, l => [l]
  | k + 1, l => if stripL l = l then [l] else l :: chainF k (stripL l)
theorem stripL_nil : stripL [] = [] := rfl
theorem chainF_eq : ∀ (k : Nat) (l : List Nat), l.length ≤ k → chainL l = chainF k l
  | 0, l, h => by
    obtain rfl : l = [] := List.length_eq_zero_iff.mp (by lia)
    exact chainL_end rfl
  | k + 1, l, h => by
    unfold chainF
    by_cases e : stripL l = l
    · rw [if_pos e, chainL_end e]
    · rw [if_neg e, chainL_step e]
      have := stripL_lt e
      rw [chainF_eq k _ (by lia)]
noncomputable def coreL : List Core := [[120], [121], [120, 34, 122], []]
noncomputable def codes : List (Core × Nat × Nat) := coreL.flatMap fun c => (List.range 7).flatMap fun a => (List.range 5).map fun b => (c, a, b)
noncomputable def starts : List (Core × Nat × Nat) := coreL.flatMap fun c => (List.range 5).flatMap fun a => (List.range 5).map fun b => (c, a, b)
noncomputable def qT (u : Core × Nat × Nat) : List Nat := qText u.2.1 u.1 u.2.2
noncomputable def nT (u : Core × Nat × Nat) : List (List Nat) := namesL u.2.1 u.1 u.2.2
noncomputable def rT (u : Core × Nat × Nat) : List (Core × Nat × Nat) := (rowF u.1 8 u.2).map fun p => (u.1, p)
noncomputable def prefs (ns : List (List Nat)) : List (List (List Nat)) := (List.range ns.length).map fun k => ns.take (ns.length - k)
/-- names of a text, text of names -/
noncomputable def namesOf (l : List Nat) : List (List Nat) :=
  if l.all (· == 34) then namesL l.length [] 0 else
    namesL (l.takeWhile (· == 34)).length (((l.dropWhile (· == 34)).reverse.dropWhile (· == 34)).reverse) (l.reverse.takeWhile (· == 34)).length
noncomputable def textOf : List (List Nat) → List Nat
  | c :: r => if c = [122] then List.replicate (if r.head? = some [111] then 2 * (r.length - 1) + 1 else 2 * r.length) 34 else
      qText (r.count [97] + r.count [98]) c (r.count [99] + r.count [98])
  | [] => []
noncomputable def splitF : List Nat → List (List Nat)
  | [] => [[]]
  | x :: r => if x = 47 then [] :: splitF r else match splitF r with | a :: b => (x :: a) :: b | [] => [[x]]
theorem fin_NL : codes.all (fun u => decide (namesOf (qT u) = nT u) && decide (textOf (nT u) = qT u)) = true := by decide +kernel
theorem fin_ok : codes.all (fun u => (nT u).all (fun p => decide (p ≠ []) && decide (47 ∉ p) && decide (p ≠ [46])) && decide (nT u ≠ []) && decide ((qT u).length ≤ 20) && decide ((pathL (nT u)).length ≤ 100) && decide ((nT u).length ≤ 100)) = true := by decide +kernel
theorem fin_row : starts.all (fun u => decide (chainF 11 (qT u) = (rT u).map qT) && decide (prefs (nT u) = (rT u).map nT) && (rT u).all (fun v => codes.contains v) && decide ((rT u).length ≤ 5)) = true := by decide +kernel

/-! what the tables say of a drawn triple -/
noncomputable def codeOf (t : Trip) : Core × Nat × Nat := (tl t.2.1, t.1, t.2.2)
noncomputable def CodeIn (t : Trip) : Prop := codeOf t ∈ codes
theorem tx_code (t : Trip) : tl (tx t) = qT (codeOf t) := tl_ofL _
theorem nm_code (t : Trip) : nm t = nT (codeOf t) := rfl
noncomputable def namesS (x : Str) : List (List Nat) := namesOf (tl x)
theorem code_NL {t : Trip} (h : CodeIn t) : namesS (tx t) = nm t ∧ textOf (nm t) = tl (tx t) := by
  have := List.all_eq_true.mp fin_NL _ h
  simp only [Bool.and_eq_true, decide_eq_true_eq] at this
  exact ⟨by rw [namesS, tx_code]; exact this.1, by rw [tx_code]; exact this.2⟩
structure TextOK (x : Str) : Prop where
  ok : OkN (namesS x)
  dot : NoDot (namesS x)
  ne : namesS x ≠ []
  len : x.length ≤ 20
  plen : (pathL (namesS x)).length ≤ 100
  nlen : (namesS x).length ≤ 100
  back : ofL (textOf (namesS x)) = x
theorem code_ok {t : Trip} (h : CodeIn t) : TextOK (tx t) := by
  have := List.all_eq_true.mp fin_ok _ h
  simp only [Bool.and_eq_true, decide_eq_true_eq, List.all_eq_true] at this
  obtain ⟨⟨⟨⟨a, b⟩, c⟩, d⟩, e⟩ := this
  obtain ⟨h1, h2⟩ := code_NL h
  refine ⟨?_, ?_, ?_, ?_, ?_, ?_, ?_⟩
  · intro p hp; rw [h1] at hp; exact (a p hp).1
  · intro p hp; rw [h1] at hp; exact (a p hp).2
  · rw [h1]; exact b
  · rw [← len_tl, tx_code]; exact c
  · rw [h1]; exact d
  · rw [h1]; exact e
  · rw [h1, h2, ofL_tl]
theorem mem_starts {c : Core} {a b : Nat} (hc : c ∈ coreL) (ha : a ≤ 4) (hb : b ≤ 4) : (c, a, b) ∈ starts :=
  List.mem_flatMap.mpr ⟨c, hc, List.mem_flatMap.mpr ⟨a, List.mem_range.mpr (by lia), List.mem_map.mpr ⟨b, List.mem_range.mpr (by lia), rfl⟩⟩⟩
theorem cores_tl : cores.map tl = coreL := by decide +kernel
theorem ok_start {t : Trip} (h : OkT t) : codeOf t ∈ starts :=
  mem_starts (by rw [← cores_tl]; exact List.mem_map_of_mem h.2.2) h.1 h.2.1
theorem rowT_code {t : Trip} (h : OkT t) : (rowT t).map codeOf = rT (codeOf t) ∧ ∀ u ∈ rowT t, u.2.1 = t.2.1 := by
  have e : rowT t = (rowF (tl t.2.1) 8 (t.1, t.2.2)).map fun q => (q.1, t.2.1, q.2) := rowF_eq 8 _ (by have := h.1; have := h.2.1; show t.1 + t.2.2 ≤ 8; lia)
  refine ⟨?_, fun u hu => ?_⟩
  · rw [e, List.map_map]; rfl
  · rw [e] at hu
    obtain ⟨q, _, rfl⟩ := List.mem_map.mp hu
    rfl
structure RowOK (t : Trip) : Prop where
  texts : (rowT t).map (fun u => tl (tx u)) = chainL (tl (tx t))
  names : (rowT t).map nm = prefs (nm t)
  codes : ∀ u ∈ rowT t, CodeIn u
  len : (rowT t).length ≤ 5
  head : ∃ r, rowT t = t :: r
  self : CodeIn t
theorem row_ok {t : Trip} (h : OkT t) : RowOK t := by
  have hs := ok_start h
  have := List.all_eq_true.mp fin_row _ hs
  simp only [Bool.and_eq_true, decide_eq_true_eq, List.all_eq_true] at this
  obtain ⟨⟨⟨a, b⟩, c⟩, d⟩ := this
  obtain ⟨e1, e2⟩ := rowT_code h
  have hd : ∃ r, rowT t = t :: r := by
    unfold rowT
    by_cases q : (t.1, t.2.2).1 + (t.1, t.2.2).2 = 0
    · exact ⟨[], toldL_end q⟩
    · exact ⟨_, toldL_step q⟩
  have hc : ∀ u ∈ rowT t, CodeIn u := fun u hu => by
    have : codeOf u ∈ rT (codeOf t) := by rw [← e1]; exact List.mem_map_of_mem hu
    exact List.contains_iff_mem.mp (c _ this)
  have hself : CodeIn t := by obtain ⟨r, hr⟩ := hd; exact hc t (by rw [hr]; exact List.mem_cons_self ..)
  refine ⟨?_, ?_, hc, ?_, hd, hself⟩
  · have ql : (tl (tx t)).length ≤ 11 := by
      rw [len_tl]
      have h4 : t.2.1.length ≤ 3 := by
        have : ∀ c ∈ cores, c.length ≤ 3 := by decide +kernel
        exact this _ h.2.2
      rw [← len_tl, tx_code]
      show (qText t.1 (tl t.2.1) t.2.2).length ≤ 11
      simp only [qText, List.length_append, List.length_replicate, len_tl]
      have := h.1; have := h.2.1
      lia
    rw [chainF_eq 11 _ ql, tx_code, a, ← e1, List.map_map]
    exact List.map_congr_left fun u _ => tx_code u
  · rw [nm_code, b, ← e1, List.map_map]; rfl
  · rw [← List.length_map (f := codeOf), e1]; exact d
/-- the chain of a text -/
noncomputable def chS (x : Str) : List Str := (chainL (tl x)).map ofL
theorem row_texts {t : Trip} (h : RowOK t) : (rowT t).map tx = chS (tx t) := by
  unfold chS
  rw [← h.texts, List.map_map]
  exact List.map_congr_left fun u _ => (ofL_tl _).symm
theorem chainL_cons (l : List Nat) : ∃ t, chainL l = l :: t := by
  by_cases e : stripL l = l
  · exact ⟨[], chainL_end e⟩
  · exact ⟨_, chainL_step e⟩
theorem chainL_suffix : ∀ (n : Nat) (l m : List Nat), l.length ≤ n → m ∈ chainL l → ∃ p, chainL l = p ++ chainL m
  | n, l, m, hn, hm => by
    by_cases e : stripL l = l
    · rw [chainL_end e, List.mem_singleton] at hm
      subst hm
      exact ⟨[], rfl⟩
    · rw [chainL_step e, List.mem_cons] at hm
      rcases hm with rfl | hm
      · exact ⟨[], rfl⟩
      · have lt := stripL_lt e
        cases n with
        | zero => lia
        | succ n =>
          obtain ⟨p, hp⟩ := chainL_suffix n _ m (by lia) hm
          exact ⟨l :: p, by rw [chainL_step e, hp]; rfl⟩
theorem chainL_le : ∀ (n : Nat) (l m : List Nat), l.length ≤ n → m ∈ chainL l → m.length ≤ l.length
  | n, l, m, hn, hm => by
    by_cases e : stripL l = l
    · rw [chainL_end e, List.mem_singleton] at hm
      subst hm; exact Nat.le_refl _
    · rw [chainL_step e, List.mem_cons] at hm
      rcases hm with rfl | hm
      · exact Nat.le_refl _
      · have lt := stripL_lt e
        cases n with
        | zero => lia
        | succ n => exact Nat.le_trans (chainL_le n _ m (by lia) hm) (Nat.le_of_lt lt)
theorem chainL_nodup : ∀ (n : Nat) (l : List Nat), l.length ≤ n → (chainL l).Nodup
  | n, l, hn => by
    by_cases e : stripL l = l
    · rw [chainL_end e]; simp
    · rw [chainL_step e, List.nodup_cons]
      have lt := stripL_lt e
      refine ⟨fun hm => ?_, ?_⟩
      · have := chainL_le _ _ _ (Nat.le_refl _) hm; lia
      · cases n with
        | zero => lia
        | succ n => exact chainL_nodup n _ (by lia)
end Mine
set_option Elab.async false
set_option maxRecDepth 100000
set_option linter.unusedVariables false
namespace Mine
open PySem PySem.W PyProof.Rows PySem.Calls SeqAt

/-! ## Plain law: the merge of chains -/
structure Chn (ch : Str → List Str) : Prop where
  cons : ∀ x, ∃ t, ch x = x :: t
  suf : ∀ x y, y ∈ ch x → ∃ p, ch x = p ++ ch y
  nd : ∀ x, (ch x).Nodup
noncomputable def Fam (ch : Str → List Str) (rows : List (List Str)) : Prop := ∀ r ∈ rows, ∃ x, r = ch x
section
variable {ch : Str → List Str} (H : Chn ch)
include H
theorem Chn.tail {c p : Str} {t : List Str} (h : ch c = c :: p :: t) : ch p = p :: t := by
  obtain ⟨q, hq⟩ := H.suf c p (by rw [h]; simp)
  obtain ⟨u, hu⟩ := H.cons p
  have nd := H.nd c
  rw [h, List.nodup_cons, List.nodup_cons] at nd
  rw [h, hu] at hq
  cases q with
  | nil => cases hq; simp at nd
  | cons a q =>
    simp only [List.cons_append, List.cons.injEq] at hq
    obtain ⟨rfl, hq⟩ := hq
    cases q with
    | nil => simp at hq; rw [hu, hq]
    | cons b q =>
      simp only [List.cons_append, List.cons.injEq] at hq
      obtain ⟨rfl, hq⟩ := hq
      exact absurd (by rw [hq]; simp) nd.2.1
theorem Chn.self (x : Str) : x ∈ ch x := by obtain ⟨t, h⟩ := H.cons x; rw [h]; simp
theorem Chn.inj {x y : Str} (h : ch x = ch y) : x = y := by
  obtain ⟨t, h1⟩ := H.cons x
  obtain ⟨u, h2⟩ := H.cons y
  rw [h1, h2] at h
  cases h; rfl
theorem Chn.sufT {x y : Str} (h : y ∈ (ch x).drop 1) : ∃ p, ch x = x :: p ++ ch y := by
  obtain ⟨t, ht⟩ := H.cons x
  rw [ht] at h
  obtain ⟨q, hq⟩ := H.suf x y (by rw [ht]; exact .tail _ h)
  cases q with
  | nil =>
    obtain ⟨u, hu⟩ := H.cons y
    rw [List.nil_append, ht, hu] at hq
    cases hq
    have nd := H.nd x
    rw [ht, List.nodup_cons] at nd
    exact absurd h nd.1
  | cons a q =>
    rw [ht, List.cons_append, List.cons.injEq] at hq
    obtain ⟨rfl, hq⟩ := hq
    exact ⟨q, by rw [ht, hq]; rfl⟩
end
noncomputable def mx (rows : List (List Str)) (r : List Str) : Bool := decide (rows.filter (isBelow r) = [])
theorem mx_iff {rows : List (List Str)} {r : List Str} : mx rows r = true ↔ ∀ o ∈ rows, isBelow r o = false := by
  unfold mx
  rw [decide_eq_true_eq, List.filter_eq_nil_iff]
  exact ⟨fun h o ho => by simpa using h o ho, fun h o ho => by simp [h o ho]⟩
noncomputable def ddF (acc l : List (List Str)) : List (List Str) := l.foldl (fun acc r => if r ∈ acc then acc else acc ++ [r]) acc
theorem endsL_dd (rows : List (List Str)) : endsL rows = ddF [] (rows.filter (mx rows)) := by
  have aux : ∀ (l acc : List (List Str)), l.foldl (endStep rows) acc = ddF acc (l.filter (mx rows)) := by
    intro l
    induction l with
    | nil => intro acc; rfl
    | cons r l ih =>
      intro acc
      rw [List.foldl_cons, ih]
      unfold endStep
      by_cases h : rows.filter (isBelow r) = []
      · have : mx rows r = true := by simp [mx, h]
        rw [List.filter_cons_of_pos this]
        show _ = ddF (if r ∈ acc then acc else acc ++ [r]) _
        by_cases q : r ∈ acc
        · rw [if_neg (fun z => z.2 q), if_pos q]
        · rw [if_pos ⟨h, q⟩, if_neg q]
      · have : ¬ mx rows r = true := by simp [mx, h]
        rw [List.filter_cons_of_neg this, if_neg (fun z => h z.1)]
  exact aux rows []
theorem ddF_acc : ∀ (n : Nat) (l acc : List (List Str)), l.length ≤ n → ddF acc l = acc ++ ddF [] (l.filter fun r => decide (r ∉ acc))
  | _, [], acc, _ => by simp [ddF]
  | 0, _ :: _, _, h => by simp at h
  | n + 1, a :: l, acc, h => by
    have hl : l.length ≤ n := by simpa using h
    show ddF (if a ∈ acc then acc else acc ++ [a]) l = _
    by_cases q : a ∈ acc
    · rw [if_pos q, List.filter_cons_of_neg (by simp [q])]
      exact ddF_acc n l acc hl
    · rw [if_neg q, List.filter_cons_of_pos (by simp [q]), ddF_acc n l _ hl]
      show _ = acc ++ ddF (if a ∈ ([] : List (List Str)) then [] else [] ++ [a]) _
      rw [if_neg (by simp), List.nil_append, ddF_acc n _ [a] (Nat.le_trans (List.length_filter_le ..) hl), List.append_assoc]
      congr 3
      rw [List.filter_filter]
      refine List.filter_congr fun r _ => ?_
      simp [and_comm]
theorem ddF_cons (a : List Str) (l : List (List Str)) : ddF [] (a :: l) = a :: ddF [] ((a :: l).filter fun r => decide (r ≠ a)) := by
  show ddF (if a ∈ ([] : List (List Str)) then [] else [] ++ [a]) l = _
  rw [if_neg (by simp), List.nil_append, ddF_acc _ l [a] (Nat.le_refl _), List.filter_cons_of_neg (by simp)]
  simp
theorem mem_ddF : ∀ (l acc : List (List Str)) (r : List Str), r ∈ ddF acc l ↔ r ∈ acc ∨ r ∈ l
  | [], acc, r => by simp [ddF]
  | a :: l, acc, r => by
    show r ∈ ddF (if a ∈ acc then acc else acc ++ [a]) l ↔ _
    rw [mem_ddF l]
    split
    · rename_i q
      constructor
      · rintro (h | h)
        · exact .inl h
        · exact .inr (.tail _ h)
      · rintro (h | h)
        · exact .inl h
        · rcases List.mem_cons.mp h with rfl | h
          · exact .inl q
          · exact .inr h
    · simp only [List.mem_append, List.mem_cons, List.not_mem_nil, or_false, or_assoc]
theorem longest : ∀ (rows : List (List Str)), rows ≠ [] → ∃ r ∈ rows, ∀ o ∈ rows, o.length ≤ r.length
  | [], h => absurd rfl h
  | [a], _ => ⟨a, by simp, by simp⟩
  | a :: b :: l, _ => by
    obtain ⟨r, hr, hm⟩ := longest (b :: l) (by simp)
    by_cases q : r.length ≤ a.length
    · exact ⟨a, by simp, fun o ho => by
        rcases List.mem_cons.mp ho with rfl | ho
        · exact Nat.le_refl _
        · exact Nat.le_trans (hm o ho) q⟩
    · exact ⟨r, .tail _ hr, fun o ho => by
        rcases List.mem_cons.mp ho with rfl | ho
        · lia
        · exact hm o ho⟩

section
variable {ch : Str → List Str} (H : Chn ch) {rows : List (List Str)} (F : Fam ch rows)
include H F
omit F in
theorem mx_ch {x : Str} : mx rows (ch x) = true ↔ ∀ o ∈ rows, x ∉ o.drop 1 := by
  rw [mx_iff]
  obtain ⟨t, ht⟩ := H.cons x
  rw [ht]
  simp only [isBelow, decide_eq_false_iff_not]
theorem dom {o : List Str} (ho : o ∈ rows) : ∃ r ∈ rows, mx rows r = true ∧ ∀ z ∈ o, z ∈ r := by
  obtain ⟨M, hM, hmax⟩ := longest rows (by intro e; rw [e] at ho; cases ho)
  have aux : ∀ (k : Nat) (o : List Str), o ∈ rows → M.length - o.length ≤ k → ∃ r ∈ rows, mx rows r = true ∧ ∀ z ∈ o, z ∈ r := by
    intro k
    induction k with
    | zero =>
      intro o ho hk
      refine ⟨o, ho, ?_, fun z hz => hz⟩
      obtain ⟨x, rfl⟩ := F o ho
      rw [mx_ch H]
      intro o2 ho2 hx
      obtain ⟨y, rfl⟩ := F o2 ho2
      obtain ⟨p, hp⟩ := H.sufT hx
      have := hmax _ ho2
      rw [hp] at this
      simp at this
      lia
    | succ k ih =>
      intro o ho hk
      by_cases q : mx rows o = true
      · exact ⟨o, ho, q, fun z hz => hz⟩
      · obtain ⟨x, rfl⟩ := F o ho
        rw [mx_ch H] at q
        simp only [Classical.not_forall, Classical.not_not] at q
        obtain ⟨o2, ho2, hx⟩ := q
        obtain ⟨y, rfl⟩ := F o2 ho2
        obtain ⟨p, hp⟩ := H.sufT hx
        have hl : (ch x).length < (ch y).length := by rw [hp]; simp; lia
        obtain ⟨r, hr, hm, hz⟩ := ih (ch y) ho2 (by lia)
        exact ⟨r, hr, hm, fun z hzo => hz z (by rw [hp]; simp [hzo])⟩
  exact aux _ o ho (Nat.le_refl _)
theorem first_mx (hne : rows ≠ []) : ∃ c l, rows.filter (mx rows) = ch c :: l ∧ rows.findSome? (okC rows) = some c := by
  have aux : ∀ (l : List (List Str)), (∀ r ∈ l, r ∈ rows) → l.filter (mx rows) ≠ [] → ∃ c l', l.filter (mx rows) = ch c :: l' ∧ l.findSome? (okC rows) = some c := by
    intro l
    induction l with
    | nil => intro _ h; exact absurd rfl h
    | cons r l ih =>
      intro hl h
      obtain ⟨x, rfl⟩ := F r (hl r (by simp))
      obtain ⟨t, ht⟩ := H.cons x
      by_cases q : mx rows (ch x) = true
      · refine ⟨x, _, List.filter_cons_of_pos q, ?_⟩
        rw [List.findSome?_cons]
        have : okC rows (ch x) = some x := by
          rw [mx_ch H] at q
          rw [ht]
          show (if _ = true then none else some x) = some x
          rw [if_neg]
          simp only [List.any_eq_true, decide_eq_true_eq, not_exists, not_and]
          exact q
        rw [this]
      · rw [List.filter_cons_of_neg q] at h ⊢
        obtain ⟨c, l', h1, h2⟩ := ih (fun r hr => hl r (.tail _ hr)) h
        refine ⟨c, l', h1, ?_⟩
        rw [List.findSome?_cons]
        have : okC rows (ch x) = none := by
          rw [mx_ch H] at q
          rw [ht]
          show (if _ = true then none else some x) = none
          rw [if_pos]
          simp only [List.any_eq_true, decide_eq_true_eq]
          simp only [Classical.not_forall, Classical.not_not] at q
          obtain ⟨o, ho, hx⟩ := q
          exact ⟨o, ho, hx⟩
        rw [this]
        exact h2
  refine aux rows (fun _ h => h) fun e => ?_
  cases rows with
  | nil => exact hne rfl
  | cons r l =>
    obtain ⟨r2, h1, h2, _⟩ := dom H F (o := r) (by simp)
    have : r2 ∈ (r :: l).filter (mx (r :: l)) := List.mem_filter.mpr ⟨h1, h2⟩
    rw [e] at this
    cases this
end
end Mine
set_option Elab.async false
set_option maxRecDepth 100000
set_option linter.unusedVariables false
namespace Mine
open PySem PySem.W PyProof.Rows PySem.Calls SeqAt
section
variable {ch : Str → List Str} (H : Chn ch) {rows : List (List Str)} (F : Fam ch rows)
include H F
theorem drop1_ch {c x : Str} : drop1 c (ch x) = if x = c then (ch c).drop 1 else ch x := by
  obtain ⟨t, ht⟩ := H.cons x
  rw [ht]
  show (if x = c then t else x :: t) = _
  by_cases q : x = c
  · subst q; rw [if_pos rfl, if_pos rfl, ht]; rfl
  · rw [if_neg q, if_neg q]
noncomputable def rows2 (c : Str) (rows : List (List Str)) : List (List Str) := (rows.map (drop1 c)).filter full
theorem full_iff {r : List Str} : full r = true ↔ r ≠ [] := by simp [full]
theorem ch_ne {x : Str} : ch x ≠ [] := by obtain ⟨t, ht⟩ := H.cons x; rw [ht]; simp
theorem mem_rows2 {c : Str} {r : List Str} : r ∈ rows2 c rows ↔ (r ∈ rows ∧ r ≠ ch c) ∨ (ch c ∈ rows ∧ r = (ch c).drop 1 ∧ r ≠ []) := by
  unfold rows2
  rw [List.mem_filter, List.mem_map, full_iff H F]
  constructor
  · rintro ⟨⟨o, ho, rfl⟩, hne⟩
    obtain ⟨x, rfl⟩ := F o ho
    rw [drop1_ch H F] at hne ⊢
    by_cases q : x = c
    · subst q; rw [if_pos rfl] at hne ⊢; exact .inr ⟨ho, rfl, hne⟩
    · rw [if_neg q]; exact .inl ⟨ho, fun e => q (H.inj e)⟩
  · rintro (⟨hr, hne⟩ | ⟨hc, rfl, hne⟩)
    · obtain ⟨x, rfl⟩ := F r hr
      refine ⟨⟨ch x, hr, ?_⟩, ch_ne H F⟩
      rw [drop1_ch H F, if_neg (fun e => hne (by rw [e]))]
    · exact ⟨⟨ch c, hc, by rw [drop1_ch H F, if_pos rfl]⟩, hne⟩
theorem tail_ch {c : Str} : (ch c).drop 1 = [] ∨ ∃ p, (ch c).drop 1 = ch p ∧ p ∈ (ch c).drop 1 := by
  obtain ⟨t, ht⟩ := H.cons c
  rw [ht]
  cases t with
  | nil => exact .inl rfl
  | cons p t => exact .inr ⟨p, (H.tail ht).symm, by simp⟩
theorem fam2 {c : Str} : Fam ch (rows2 c rows) := fun r hr => by
  rcases (mem_rows2 H F).mp hr with ⟨h, _⟩ | ⟨_, rfl, hne⟩
  · exact F r h
  · rcases tail_ch H F (c := c) with e | ⟨p, e, _⟩
    · exact absurd e hne
    · exact ⟨p, e⟩
theorem mx2_same {c : Str} (hc : ch c ∈ rows) {r : List Str} (hr : r ∈ rows) (h1 : r ≠ ch c) (h2 : r ≠ (ch c).drop 1) : mx (rows2 c rows) r = mx rows r := by
  obtain ⟨x, rfl⟩ := F r hr
  rw [Bool.eq_iff_iff, mx_ch H, mx_ch H]
  constructor
  · intro h o ho hx
    by_cases q : o = ch c
    · subst q
      rcases tail_ch H F (c := c) with e | ⟨p, e, hp⟩
      · rw [e] at hx; cases hx
      · have ht : (ch c).drop 1 ∈ rows2 c rows := (mem_rows2 H F).mpr (.inr ⟨hc, rfl, by rw [e]; exact ch_ne H F⟩)
        refine h _ ht ?_
        rw [e] at hx h2 ⊢
        obtain ⟨u, hu⟩ := H.cons p
        rw [hu] at hx ⊢
        rcases List.mem_cons.mp hx with rfl | hx
        · exact absurd rfl h2
        · exact hx
    · exact h _ ((mem_rows2 H F).mpr (.inl ⟨ho, q⟩)) hx
  · intro h o ho hx
    rcases (mem_rows2 H F).mp ho with ⟨h3, _⟩ | ⟨_, rfl, hne⟩
    · exact h o h3 hx
    · exact h _ hc (List.mem_of_mem_drop hx)
theorem mx_tail {c : Str} (hc : ch c ∈ rows) {p : Str} (hp : p ∈ (ch c).drop 1) : mx rows (ch p) = false := by
  rw [Bool.eq_false_iff, Ne, mx_ch H]
  exact fun h => h _ hc hp
noncomputable def restE (c : Str) (ch : Str → List Str) (rows : List (List Str)) : List (List Str) := ddF [] ((rows.filter (mx rows)).filter fun r => decide (r ≠ ch c))
theorem mem_restE {c : Str} {r : List Str} : r ∈ restE c ch rows ↔ r ∈ rows ∧ mx rows r = true ∧ r ≠ ch c := by
  unfold restE
  rw [mem_ddF, List.mem_filter, List.mem_filter]
  simp [and_assoc]
theorem inLater_iff {R : List (List Str)} {p : Str} : inLater R p = true ↔ ∃ r ∈ R, p ∈ r := by
  unfold inLater
  simp
theorem mx2_tail {c p : Str} (hc : ch c ∈ rows) (hmc : mx rows (ch c) = true) (hp : (ch c).drop 1 = ch p) : mx (rows2 c rows) (ch p) = !inLater (restE c ch rows) p := by
  have pin : p ∈ (ch c).drop 1 := by rw [hp]; exact H.self p
  have key : mx (rows2 c rows) (ch p) = true ↔ ¬ inLater (restE c ch rows) p = true := by
    rw [mx_ch H, inLater_iff H F]
    constructor
    · rintro h ⟨r, hr, hpr⟩
      obtain ⟨h1, h2, h3⟩ := (mem_restE H F).mp hr
      obtain ⟨y, rfl⟩ := F r h1
      obtain ⟨t, ht⟩ := H.cons y
      have hy : p ∈ (ch y).drop 1 := by
        rw [ht] at hpr ⊢
        rcases List.mem_cons.mp hpr with rfl | hpr
        · rw [mx_tail H F hc pin] at h2; cases h2
        · exact hpr
      exact h _ ((mem_rows2 H F).mpr (.inl ⟨h1, h3⟩)) hy
    · intro h o ho hx
      have notT : ∀ y, p ∈ (ch y).drop 1 → y ∉ ch p := fun y hy hyp => by
        obtain ⟨q, hq⟩ := H.suf p y hyp
        obtain ⟨q2, hq2⟩ := H.sufT hy
        have l1 := congrArg List.length hq
        have l2 := congrArg List.length hq2
        simp at l1 l2
        lia
      rcases (mem_rows2 H F).mp ho with ⟨h1, h2⟩ | ⟨_, rfl, _⟩
      · obtain ⟨r, hr, hm, hz⟩ := dom H F h1
        obtain ⟨y, rfl⟩ := F o h1
        by_cases q : r = ch c
        · subst q
          have hy := hz y (H.self y)
          obtain ⟨t, ht⟩ := H.cons c
          rw [ht] at hy hp
          rcases List.mem_cons.mp hy with rfl | hy
          · exact h2 rfl
          · have hp' : t = ch p := hp
            rw [hp'] at hy
            exact notT y hx hy
        · exact h ⟨r, (mem_restE H F).mpr ⟨hr, hm, q⟩, hz p (List.mem_of_mem_drop hx)⟩
      · rw [hp] at hx
        exact notT p hx (H.self p)
  rw [Bool.eq_iff_iff, key]
  simp
theorem filter2 {c : Str} (hc : ch c ∈ rows) (hmc : mx rows (ch c) = true) : ∀ l : List (List Str), (∀ r ∈ l, r ∈ rows) →
    (rows2 c l).filter (fun r => mx (rows2 c rows) r && decide (r ≠ (ch c).drop 1)) = l.filter (fun r => mx rows r && decide (r ≠ ch c))
  | [], _ => rfl
  | r :: l, h => by
    have ih := filter2 hc hmc l (fun r hr => h r (.tail _ hr))
    have hr := h r (by simp)
    obtain ⟨x, rfl⟩ := F r hr
    unfold rows2 at ih ⊢
    rw [List.map_cons, drop1_ch H F]
    by_cases q : x = c
    · subst q
      rw [if_pos rfl, List.filter_cons_of_neg (p := fun r => mx rows r && decide (r ≠ ch x)) (a := ch x) (by simp)]
      by_cases z : full ((ch x).drop 1) = true
      · rw [List.filter_cons_of_pos z, List.filter_cons_of_neg (by simp)]; exact ih
      · rw [List.filter_cons_of_neg z]; exact ih
    · have hne : ch x ≠ ch c := fun e => q (H.inj e)
      rw [if_neg q, List.filter_cons_of_pos ((full_iff H F).mpr (ch_ne H F))]
      by_cases z : ch x = (ch c).drop 1
      · have : mx rows (ch x) = false := mx_tail H F hc (by rw [← z]; exact H.self x)
        rw [List.filter_cons_of_neg (by simp [z]), List.filter_cons_of_neg (by simp [this])]; exact ih
      · have e := mx2_same H F hc hr hne z
        unfold rows2 at e
        by_cases y : mx rows (ch x) = true
        · rw [List.filter_cons_of_pos (by rw [e, y, decide_eq_true z]; rfl), List.filter_cons_of_pos (by rw [y]; simp [hne]), ih]
        · rw [List.filter_cons_of_neg (by rw [e]; simp [y]), List.filter_cons_of_neg (by simp [y]), ih]
theorem ends2 {c : Str} {l : List (List Str)} (hf : rows.filter (mx rows) = ch c :: l) :
    endsL rows = ch c :: restE c ch rows ∧ endsL (rows2 c rows) = if (ch c).drop 1 = [] ∨ inLater (restE c ch rows) (((ch c).drop 1).headD default) = true then restE c ch rows else (ch c).drop 1 :: restE c ch rows := by
  have hm : ch c ∈ rows.filter (mx rows) := by rw [hf]; simp
  obtain ⟨hc, hmc⟩ := List.mem_filter.mp hm
  refine ⟨?_, ?_⟩
  · rw [endsL_dd, hf, ddF_cons]
    unfold restE
    rw [hf]
  have eR : ddF [] ((rows2 c rows).filter (fun r => mx (rows2 c rows) r && decide (r ≠ (ch c).drop 1))) = restE c ch rows := by
    rw [filter2 H F hc hmc rows fun _ h => h]
    unfold restE
    rw [List.filter_filter]
    congr 1
    exact List.filter_congr fun r _ => Bool.and_comm ..
  rw [endsL_dd]
  rcases tail_ch H F (c := c) with e | ⟨p, e, hp⟩
  · rw [if_pos (.inl e), ← eR]
    congr 1
    refine List.filter_congr fun r hr => ?_
    have : r ≠ [] := by
      have := (List.mem_filter.mp hr).2
      exact (full_iff H F).mp this
    rw [e]; simp [this]
  · have hd : ((ch c).drop 1).headD default = p := by
      rw [e]; obtain ⟨u, hu⟩ := H.cons p; rw [hu]; rfl
    have ne : (ch c).drop 1 ≠ [] := by rw [e]; exact ch_ne H F
    have M := mx2_tail H F hc hmc e
    by_cases q : inLater (restE c ch rows) p = true
    · rw [if_pos (.inr (by rw [hd]; exact q)), ← eR]
      congr 1
      refine List.filter_congr fun r hr => ?_
      by_cases z : r = (ch c).drop 1
      · have : mx (rows2 c rows) r = false := by rw [z, e, M, q]; rfl
        rw [this]; rfl
      · rw [decide_eq_true z, Bool.and_true]
    · rw [if_neg (by rw [hd]; exact fun h => h.elim ne q)]
      have mt : mx (rows2 c rows) ((ch c).drop 1) = true := by rw [e, M]; simp [q]
      have first : ∃ l', (rows2 c rows).filter (mx (rows2 c rows)) = (ch c).drop 1 :: l' := by
        obtain ⟨pre, post, h1, h2, h3, h4⟩ := List.filter_eq_cons_iff.mp hf
        have aux : ∀ pre : List (List Str), (∀ r ∈ pre, r ∈ rows ∧ ¬ mx rows r = true) → ∃ l', (rows2 c (pre ++ ch c :: post)).filter (mx (rows2 c rows)) = (ch c).drop 1 :: l' := by
          intro pre
          induction pre with
          | nil =>
            intro _
            unfold rows2 at mt ⊢
            rw [List.nil_append, List.map_cons, drop1_ch H F, if_pos rfl, List.filter_cons_of_pos ((full_iff H F).mpr ne), List.filter_cons_of_pos mt]
            exact ⟨_, rfl⟩
          | cons r pre ih =>
            intro hp
            obtain ⟨l', hl'⟩ := ih fun r hr => hp r (.tail _ hr)
            obtain ⟨hr, hnm⟩ := hp r (by simp)
            obtain ⟨x, rfl⟩ := F r hr
            have hx : x ≠ c := fun e => hnm (by rw [e]; exact hmc)
            have hne : ch x ≠ ch c := fun e => hx (H.inj e)
            unfold rows2 at mt hl' ⊢
            rw [List.cons_append, List.map_cons, drop1_ch H F, if_neg hx, List.filter_cons_of_pos ((full_iff H F).mpr (ch_ne H F))]
            by_cases z : ch x = (ch c).drop 1
            · rw [z, List.filter_cons_of_pos mt]; exact ⟨_, rfl⟩
            · have e2 := mx2_same H F hc hr hne z
              unfold rows2 at e2
              rw [List.filter_cons_of_neg (by rw [e2]; exact hnm)]
              exact ⟨l', hl'⟩
        have := aux pre fun r hr => ⟨by rw [h1]; exact List.mem_append_left _ hr, h2 r hr⟩
        rwa [← h1] at this
      obtain ⟨l', hl'⟩ := first
      rw [hl', ddF_cons, ← hl', List.filter_filter, ← eR]
      congr 2
      exact List.filter_congr fun r _ => Bool.and_comm ..
theorem told2 {c : Str} {l : List (List Str)} (hf : rows.filter (mx rows) = ch c :: l) : toldE (endsL rows) = c :: toldE (endsL (rows2 c rows)) := by
  obtain ⟨e1, e2⟩ := ends2 H F hf
  have hm : ch c ∈ rows.filter (mx rows) := by rw [hf]; simp
  obtain ⟨hc, hmc⟩ := List.mem_filter.mp hm
  obtain ⟨t, ht⟩ := H.cons c
  have nc : inLater (restE c ch rows) c = false := by
    rw [Bool.eq_false_iff, Ne, inLater_iff H F]
    rintro ⟨r, hr, hcr⟩
    obtain ⟨h1, h2, h3⟩ := (mem_restE H F).mp hr
    obtain ⟨y, rfl⟩ := F r h1
    obtain ⟨u, hu⟩ := H.cons y
    rw [hu] at hcr
    rcases List.mem_cons.mp hcr with rfl | hcr
    · exact h3 rfl
    · exact (mx_ch H).mp hmc _ h1 (by rw [hu]; exact hcr)
  rw [e1, e2, ht]
  show (c :: t).takeWhile _ ++ _ = _
  rw [List.takeWhile_cons, nc]
  simp only [Bool.not_false, if_true, List.drop_succ_cons, List.drop_zero, List.cons_append]
  congr 1
  cases t with
  | nil => rw [if_pos (.inl rfl)]; rfl
  | cons p t =>
    simp only [List.headD_cons, reduceCtorEq, false_or]
    by_cases q : inLater (restE c ch rows) p = true
    · rw [if_pos q, List.takeWhile_cons, q]; rfl
    · rw [if_neg q]; rfl
end
noncomputable def total (rows : List (List Str)) : Nat := (rows.map List.length).sum
theorem total_filter : ∀ rows : List (List Str), total (rows.filter full) = total rows
  | [] => rfl
  | r :: l => by
    have ih := total_filter l
    by_cases q : full r = true
    · rw [List.filter_cons_of_pos q]
      simp only [total, List.map_cons, List.sum_cons] at ih ⊢
      rw [ih]
    · rw [List.filter_cons_of_neg q]
      have : r = [] := by simpa [full] using q
      subst this
      simpa [total] using ih
theorem total_drop {c : Str} : ∀ rows : List (List Str), total (rows.map (drop1 c)) ≤ total rows ∧ ((∃ r ∈ rows, r.head? = some c) → total (rows.map (drop1 c)) < total rows)
  | [] => ⟨Nat.le_refl _, fun ⟨_, h, _⟩ => nomatch h⟩
  | r :: l => by
    obtain ⟨h1, h2⟩ := total_drop (c := c) l
    simp only [total, List.map_cons, List.sum_cons] at h1 h2 ⊢
    have hr : (drop1 c r).length ≤ r.length ∧ (r.head? = some c → (drop1 c r).length < r.length) := by
      cases r with
      | nil => exact ⟨Nat.le_refl _, fun h => nomatch h⟩
      | cons a t =>
        show (if a = c then t else a :: t).length ≤ _ ∧ _
        by_cases q : a = c
        · rw [show drop1 c (a :: t) = t from if_pos q, if_pos q]; simp
        · rw [show drop1 c (a :: t) = a :: t from if_neg q, if_neg q]; simp [q]
    refine ⟨by lia, ?_⟩
    rintro ⟨r', hr', hh⟩
    rcases List.mem_cons.mp hr' with rfl | hr'
    · have := hr.2 hh; lia
    · have := h2 ⟨r', hr', hh⟩; lia
theorem c3_filter (n : Nat) (rows : List (List Str)) : c3 n (rows.filter full) = c3 n rows := by
  cases n with
  | zero => rfl
  | succ n =>
    unfold c3
    rw [List.filter_filter]
    simp only [Bool.and_self]
theorem c3_told {ch : Str → List Str} (H : Chn ch) : ∀ (n : Nat) (rows : List (List Str)), Fam ch rows → total rows < n → c3 n rows = some (toldE (endsL rows))
  | 0, rows, F, h => by lia
  | n + 1, rows, F, h => by
    have ef : rows.filter full = rows := List.filter_eq_self.mpr fun r hr => by
      obtain ⟨x, rfl⟩ := F r hr
      exact (full_iff H F).mpr (ch_ne H F)
    unfold c3
    rw [ef]
    by_cases q : rows = []
    · subst q; rfl
    · rw [if_neg q]
      obtain ⟨c, l, h1, h2⟩ := first_mx H F q
      rw [h2]
      have hm : ch c ∈ rows.filter (mx rows) := by rw [h1]; simp
      have hc := (List.mem_filter.mp hm).1
      obtain ⟨t, ht⟩ := H.cons c
      have lt : total (rows.map (drop1 c)) < total rows := (total_drop rows).2 ⟨ch c, hc, by rw [ht]; rfl⟩
      have ih := c3_told H n (rows2 c rows) (fam2 H F) (by unfold rows2; rw [total_filter]; lia)
      unfold rows2 at ih
      rw [c3_filter] at ih
      show (c3 n (rows.map (drop1 c))).map (c :: ·) = _
      rw [ih, told2 H F h1]
      rfl
end Mine
set_option Elab.async false
set_option maxRecDepth 100000
set_option linter.unusedVariables false
namespace Mine
open PySem PySem.W PyProof.Rows PySem.Calls SeqAt

/-! ## law: told, texts, paths -/
noncomputable def lawB (k : Nat) : List Stmt := (fBody (stmtAt 34)).drop k
noncomputable def lawEnv (L a : Addr) (cd : Value) : Env := envOfC (Str.ofString "law") (fScope (stmtAt 34)) L a cd
noncomputable def lawCs (L : Addr) : List (Str × Addr) := [(Str.ofString "size", L + 1 + 1 + 1 + 1), (Str.ofString "book", L + 1 + 1 + 1), (Str.ofString "climbed", L + 1 + 1), (Str.ofString "stripped", L + 1)]
structure LawG (S : Heap) (mg mb : Str → Option Value) : Prop where
  G : Globs S mg mb
  BM : BMain S mg
  drawn : ∃ a, DefAt S mg (Str.ofString "_law_drawn") 25 .none a
  told : ∃ a, DefAt S mg (Str.ofString "_law_told") 26 .none a
  text : ∃ a, DefAt S mg (Str.ofString "_law_text") 27 .none a
  names : ∃ a, DefAt S mg (Str.ofString "_law_names") 28 .none a
  stripped : ∃ a, DefAt S mg (Str.ofString "_law_stripped") 29 .none a
  climbed : ∃ a, DefAt S mg (Str.ofString "_law_climbed") 30 .none a
  merged : ∃ a, DefAt S mg (Str.ofString "_law_merged") 31 .none a
  meeting : ∃ a, DefAt S mg (Str.ofString "_law_meeting") 32 .none a
  common : ∃ a, DefAt S mg (Str.ofString "commonpath") 21 .none a
  merge : ∃ a, DefAt S mg (Str.ofString "_c3_merge") 5 .none a
  join : ∃ a, DefAt S mg (Str.ofString "join") 19 .none a
  reduce : E5 fun a dT dI od nd => C4 (DefAt S mg (Str.ofString "reduce") 4 (.ref dT) a) (S.get? dT = some od) (od.data = .seq #[.ref dI] nd) (mg (Str.ofString "_initial_missing") = some (.ref dI))
  sys : S.get? sysModules ≠ none
noncomputable def toldS (ts : List Trip) : List (List Trip) := ts.map rowT
noncomputable def textsS (ts : List Trip) : List (List Str) := ts.map fun t => (rowT t).map tx
noncomputable def pathsS (ts : List Trip) : List (List Str) := ts.map fun t => (rowT t).map pt
theorem path_mem {ns : List (List Nat)} {p : List Nat} (h : p ∈ ns) : p.length ≤ (pathL ns).length := by
  induction ns with
  | nil => cases h
  | cons a r ih =>
    have e : (pathL (a :: r)).length = a.length + 1 + (pathL r).length := by simp [pathL]; lia
    rcases List.mem_cons.mp h with rfl | h
    · lia
    · have := ih h; lia
theorem path_cons {ns : List (List Nat)} (h : ns ≠ []) : pathL ns = 47 :: joinL ns := by
  rw [pathL_join h]
  cases ns with
  | nil => exact absurd rfl h
  | cons a r => rfl
theorem core_len {t : Trip} (h : OkT t) : t.2.1.length ≤ 100 := by
  have : ∀ c ∈ cores, c.length ≤ 100 := by decide +kernel
  exact this _ h.2.2
theorem code_le {u : Trip} (h : CodeIn u) : u.1 ≤ 100 ∧ u.2.2 ≤ 100 := by
  have : codes.all (fun u => decide (u.2.1 ≤ 100) && decide (u.2.2 ≤ 100)) = true := by decide +kernel
  have := List.all_eq_true.mp this _ h
  simp only [Bool.and_eq_true, decide_eq_true_eq] at this
  exact this

section
variable {prog : Program} {w : World} {A : Around} {E : Value → Shared → Prop} {s : Shared} {g : Vw} {S : Heap} {mg mb : Str → Option Value} {B : Base} {L a : Addr} {cd : Value} {mu : List (Addr × Obj)} {m cm : Str → Option Value} {cs : List (Str × Addr)}
theorem t_listSliceI {cs : List (Str × Addr)} {value slice : Expr} {D : Addr} {vs : List Value} {vl vu vst : Value} {lo' hi' st : Option Int} {Q : Value → Shared → Prop} (I : IF B g mu L m cs cm s) (hl : s.heap.IsList D vs.toArray) (hn : vs.length ≤ 100000)
    (pl : IsPart vl lo') (pu : IsPart vu hi') (ps : IsPart vst st) (h0 : st ≠ some 0)
    (h : ∀ D' g' s', IF B g' mu L m cs cm s' → Le g g' → g' D' = some (lo (slicePick vs.toArray lo' hi' st).toList 0) → Q (.ref D') s')
    (hs : subscripted slice false (.ref D) (.ref s.heap.objs.size) = operate [.ref s.heap.objs.size, .ref D] (getItem (.ref D) (.ref s.heap.objs.size)) := by with_unfolding_all rfl) :
    wpAny (model prog w) A (subscriptTail value slice (.ref D) (.ref s.heap.objs.size)) Q E { s with heap := s.heap.push { cls := .type "slice", data := .fields #[vl, vu, vst] } } := by
  have hl' := hl.push { cls := .type "slice", data := .fields #[vl, vu, vst] }
  refine tail_any (hl'.typeIs (s := { s with heap := s.heap.push { cls := .type "slice", data := .fields #[vl, vu, vst] } })) slot_list_getitem.lookup ?_ hs
  have I1 := I.slice vl vu vst (t := s.toks)
  have a := After.push (t := s.toks) I1.sub (lo (slicePick vs.toArray lo' hi' st).toList 0)
  refine wpAny_getItem_list_slice hl' (Heap.IsSliceOf.new ..) pl pu ps h0 ?_ (by rw [List.size_toArray, sizeLine_eq]; lia)
  have := h _ _ _ (I1.after a) a.le (put_self ..)
  simpa using this
set_option maxHeartbeats 4000000 in
theorem law_1 {l : Addr} {vs : List Value} {d : Nat} {ns : List Int} {Q : Flow → Shared → Prop} (G : LawG S mg mb) (I : IF B g mu L m (lawCs L) cm s) (hT : B.T = S.get?) (r : Room A (d + 6)) (hm : m (Str.ofString "script") = some (.ref l))
    (hl : ∀ h, Sub g h → h.IsList l vs.toArray) (hi : All₂ IntV vs ns) (hn : vs.length ≤ 1000)
    (h : ∀ ts g' s' m' vt vx vp, IF B g' mu L m' (lawCs L) cm s' → Le g g' → m' (Str.ofString "told") = some vt → m' (Str.ofString "texts") = some vx → m' (Str.ofString "paths") = some vp → LstV g' (ToldV g') vt (toldS ts) → RowsV g' vx (textsS ts) → RowsV g' vp (pathsS ts) →
      ts.length ≤ 7 → (∀ t ∈ ts, OkT t) → tripOf 1 ∈ ts → wpAny (model prog w) A (execs (lawB 3) (lawEnv L a cd)) Q NoE s') :
    wpAny (model prog w) A (execs (lawB 0) (lawEnv L a cd)) Q NoE s := by
  have ST := G.G.st
  obtain ⟨ad, hdr, _, _, _, Fd⟩ := G.drawn
  obtain ⟨at_, hto, _, _, _, Ft⟩ := G.told
  obtain ⟨ax, hte, _, _, _, Fx⟩ := G.text
  obtain ⟨an, hna, _, _, _, Fn⟩ := G.names
  refine r_assignComp (cl := []) (by rfl) (by rfl) (by rfl) (by rfl) (by rfl) (by rfl) ?_
  refine r_call I ST hT (by rfl) (by rfl) (by rfl) hdr (by decide) Fd (by rfl) (by rfl) ?_
  refine r_items (by rfl) (Subscript_ ?_)
  refine r_local I (by rfl) (by rfl) hm (by decide) (slice_ns (r_int I ?_))
  intro t1 s2 I
  refine t_listSliceI I (hl _ I.sub) (by lia) .none (.int _ _) .none (by intro q; cases q) ?_
  intro D g2 s3 I l2 e2
  obtain ⟨ns2, hn2⟩ : ∃ ns2, All₂ IntV (slicePick vs.toArray none (some ((40 : Nat) : Int)) none).toList ns2 := ints_of_mem fun v hv => by
    obtain ⟨b, _, r⟩ := hi.memL v (pick_mem hv)
    exact ⟨b, r⟩
  have hlen2 : ((slicePick vs.toArray none (some ((40 : Nat) : Int)) none).toList).length ≤ 1000 := by
    rw [slicePick_upto']
    simp
    lia
  refine r_items0 ⟨I.st hT, ?_⟩
  refine drawn_call I.sub (hT ▸ I.stat) ST Fd (G.G.no "min" (.head _)) (G.G.no "len" (.tail _ (.tail _ (.head _)))) (G.G.no "range" (.tail _ (.tail _ (.tail _ (.head _))))) (G.G.no "abs" (.tail _ (.tail _ (.tail _ (.tail _ (.head _)))))) (G.G.no "sum" (.tail _ (.tail _ (.tail _ (.tail _ (.tail _ (.head _))))))) (r.le (show d + 1 ≤ d + 6 by lia)) e2 hn2 hlen2 ?_
  intro vd ts g3 s4 af hts h7 hok h1
  have I := I.after af
  obtain ⟨ld, wd, kd, rfl, ed, hwd⟩ := hts
  refine it_list I r.handled ed ?_
  intro it s5 X
  refine ⟨B, _, _, _, _, CompOK.map ts rowT (fun g v c => ToldV g v c) (fun _ _ _ _ a b => b.up a) (by lia) (hwd.length ▸ X _) ?_ ?_⟩
  · intro B' C g' mC s i v x inn le hP hx I
    obtain ⟨at1, k1, ta, tc, tb, rfl, e1⟩ := (hwd.at hP hx).up le
    have hox := hok x (List.mem_of_getElem? hx)
    refine a_tup3 I r.handled (by rfl) (by rfl) (by rfl) (by rfl) (I.sub _ _ e1) ?_
    intro s2 I
    refine r_call I ST (inn.T.trans hT) (by rfl) (by rfl) (by rfl) hto (by decide) Ft (by rfl) (by rfl) ?_
    refine r_items (by rfl) (r_local I (by rfl) (by rfl) (by rfl) (by decide) ?_)
    refine r_items (by rfl) (r_local I (by rfl) (by rfl) (by rfl) (by decide) ?_)
    refine r_items (by rfl) (r_local I (by rfl) (by rfl) (by rfl) (by decide) (r_items0 ⟨I.st (inn.T.trans hT), ?_⟩))
    refine told_call I.sub ((inn.T.trans hT) ▸ I.stat) ST Ft (G.G.no "max" (.tail _ (.head _))) (r.le (show d + 1 ≤ d + 6 by lia)) (by have := hox.1; lia) (by have := hox.2.1; lia) (core_len hox) ?_
    intro v2 g4 s3 af hv2
    exact ⟨_, _, I.after af, hv2⟩
  intro D1 g4 ys ky s6 le4 I oD1 hys
  have hcode : ∀ t ∈ ts, ∀ u ∈ rowT t, CodeIn u := fun t ht u hu => (row_ok (hok t ht)).codes u hu
  have hrl : ∀ t ∈ ts, (rowT t).length ≤ 5 := fun t ht => (row_ok (hok t ht)).len
  have hcl : ∀ t ∈ ts, ∀ u ∈ rowT t, u.2.1.length ≤ 100 := fun t ht u hu => by rw [(rowT_code (hok t ht)).2 u hu]; exact core_len (hok t ht)
  have lf := le_put (o := lo ys ky) (I.muH _ (.head _)).2.1
  have J := I.freeze oD1
  have e4 := put_self g4 D1 (lo ys ky)
  have hys := hys.mono (R' := ToldV (put g4 D1 (lo ys ky))) fun _ _ q => q.up lf
  have le5 := (l2.trans af.le).trans (le4.trans lf)
  clear I
  have I := J
  generalize put g4 D1 (lo ys ky) = g5 at *
  -- texts
  refine r_assignComp (cl := []) (by rfl) (by rfl) (by rfl) (by rfl) (by rfl) (by rfl) ?_
  refine r_local I (by rfl) (by rfl) (by rfl) (by decide) ?_
  refine it_list I r.handled e4 ?_
  intro it s7 X
  refine ⟨B, _, _, _, _, CompOK.map (toldS ts) (fun row => row.map tx) (fun g v c => StrsV g v c) (fun _ _ _ _ a b => b.up a) (by simp [toldS]; lia) (hys.length ▸ X _) ?_ ?_⟩
  · intro B' C g' mC s i v x inn le hP hx I
    obtain ⟨lr, wr, kr, rfl, er, hwr⟩ := (hys.at hP hx).up le
    obtain ⟨t0, ht0, rfl⟩ := List.mem_map.mp (List.mem_of_getElem? hx)
    have hT' := inn.T.trans hT
    refine a_name (r_storeLocal I (by rfl) (by rfl) ?_)
    intro s2 I
    refine r_comp (cl := []) (by rfl) (by rfl) (by rfl) ?_
    refine r_local I (by rfl) (by rfl) (by rfl) (by decide) ?_
    refine it_list I r.handled er ?_
    intro it s3 X
    refine ⟨B', C, _, _, _, [], CompOK.map (rowT t0) tx (fun _ v c => StrV v c) (fun _ _ _ _ _ b => b) (by have := hrl t0 ht0; lia) (hwr.length ▸ X _) ?_ ?_⟩
    · intro B2 C2 g2 mC2 s4 j v2 u inn2 le2 hP2 hu I
      obtain ⟨at1, k1, ta, tc, tb, rfl, e1⟩ := (hwr.at hP2 hu).up le2
      have hum := List.mem_of_getElem? hu
      have hcu := hcode t0 ht0 u hum
      have hcle := code_le hcu
      refine a_tup3 I r.handled (by rfl) (by rfl) (by rfl) (by rfl) (I.sub _ _ e1) ?_
      intro s5 I
      have hT2 := inn2.T.trans hT'
      refine r_call I ST hT2 (by rfl) (by rfl) (by rfl) hte (by decide) Fx (by rfl) (by rfl) ?_
      refine r_items (by rfl) (r_local I (by rfl) (by rfl) (by rfl) (by decide) ?_)
      refine r_items (by rfl) (r_local I (by rfl) (by rfl) (by rfl) (by decide) ?_)
      refine r_items (by rfl) (r_local I (by rfl) (by rfl) (by rfl) (by decide) (r_items0 ⟨I.st hT2, ?_⟩))
      refine text_call I.sub (hT2 ▸ I.stat) ST Fx (r.le (show d + 1 ≤ d + 6 by lia)) hcle.1 hcle.2 (hcl t0 ht0 u hum) ?_
      intro y t' s6 af hy
      exact ⟨_, _, I.after af, t', by rw [show y = tx u from str_ext (hy.trans (tl_ofL _).symm)]⟩
    · intro D2 g2 zs kz s4 le2 I oD hzs
      have I2 := I.freeze oD
      exact ⟨_, _, I2, D2, zs, kz, rfl, put_self .., hzs⟩
  intro D2 g6 zs kz s8 le6 I oD2 hzs
  have lf := le_put (o := lo zs kz) (I.muH _ (.head _)).2.1
  have J := I.freeze oD2
  have e6 := put_self g6 D2 (lo zs kz)
  have hzs := hzs.mono (R' := StrsV (put g6 D2 (lo zs kz))) fun _ _ q => q.up lf
  have le7 := le6.trans lf
  clear I
  have I := J
  generalize put g6 D2 (lo zs kz) = g7 at *
  have e4 := le7 _ _ e4
  have hys := hys.mono (R' := ToldV g7) fun _ _ q => q.up le7
  have le5 := le5.trans le7
  -- paths
  refine r_assignComp (cl := []) (by rfl) (by rfl) (by rfl) (by rfl) (by rfl) (by rfl) ?_
  refine r_local I (by rfl) (by rfl) (by rfl) (by decide) ?_
  refine it_list I r.handled e4 ?_
  intro it s9 X
  refine ⟨B, _, _, _, _, CompOK.map (toldS ts) (fun row => row.map pt) (fun g v c => StrsV g v c) (fun _ _ _ _ a b => b.up a) (by simp [toldS]; lia) (hys.length ▸ X _) ?_ ?_⟩
  · intro B' C g' mC s i v x inn le hP hx I
    obtain ⟨lr, wr, kr, rfl, er, hwr⟩ := (hys.at hP hx).up le
    obtain ⟨t0, ht0, rfl⟩ := List.mem_map.mp (List.mem_of_getElem? hx)
    have hT' := inn.T.trans hT
    refine a_name (r_storeLocal I (by rfl) (by rfl) ?_)
    intro s2 I
    refine r_comp (cl := []) (by rfl) (by rfl) (by rfl) ?_
    refine r_local I (by rfl) (by rfl) (by rfl) (by decide) ?_
    refine it_list I r.handled er ?_
    intro it s3 X
    refine ⟨B', C, _, _, _, [], CompOK.map (rowT t0) pt (fun _ v c => StrV v c) (fun _ _ _ _ _ b => b) (by have := hrl t0 ht0; lia) (hwr.length ▸ X _) ?_ ?_⟩
    · intro B2 C2 g2 mC2 s4 j v2 u inn2 le2 hP2 hu I
      obtain ⟨at1, k1, ta, tc, tb, rfl, e1⟩ := (hwr.at hP2 hu).up le2
      have hum := List.mem_of_getElem? hu
      have hcu := hcode t0 ht0 u hum
      have hcle := code_le hcu
      have hkt := code_ok hcu
      have hN := (code_NL hcu).1
      refine a_tup3 I r.handled (by rfl) (by rfl) (by rfl) (by rfl) (I.sub _ _ e1) ?_
      intro s5 I
      have hT2 := inn2.T.trans hT'
      refine r_bin (r_str I ?_)
      intro t5 s6 I
      refine r_joinM (by rfl) (by rfl) (by rfl) ?_
      refine r_str I ?_
      intro t6 s7 I
      refine ⟨_, by rfl, ?_⟩
      refine r_call I ST hT2 (by rfl) (by rfl) (by rfl) hna (by decide) Fn (by rfl) (by rfl) ?_
      refine r_items (by rfl) (r_local I (by rfl) (by rfl) (by rfl) (by decide) ?_)
      refine r_items (by rfl) (r_local I (by rfl) (by rfl) (by rfl) (by decide) ?_)
      refine r_items (by rfl) (r_local I (by rfl) (by rfl) (by rfl) (by decide) (r_items0 ⟨I.st hT2, ?_⟩))
      refine names_call I.sub (hT2 ▸ I.stat) ST Fn (G.G.no "min" (.head _)) (r.le (show d + 1 ≤ d + 6 by lia)) hcle.1 hcle.2 (hcl t0 ht0 u hum) ?_
      intro v3 xs g3 s8 af hxs hnm
      have I := I.after af
      obtain ⟨D3, w3, k3, rfl, e3, hw3⟩ := hxs
      have hpl := hkt.plen
      rw [hN] at hpl
      have hnl := hkt.nlen
      rw [hN] at hnl
      have hxl : xs.length ≤ 100 := by rw [← List.length_map (f := tl), hnm]; exact hnl
      refine ⟨D3, w3, k3, xs, rfl, I.sub _ _ e3, hw3, by lia, fun y hy => ?_, fun y t' k hy => ?_⟩
      · have : tl y ∈ namesL u.1 (tl u.2.1) u.2.2 := by rw [← hnm]; exact List.mem_map_of_mem hy
        have := path_mem this
        rw [← len_tl]
        have e : (pathL (namesL u.1 (tl u.2.1) u.2.2)).length ≤ 100 := hpl
        lia
      · have hne := hkt.ne
        rw [hN] at hne
        have hpy : tl y = joinL (nm u) := by rw [hy, hnm]; rfl
        have pc := path_cons hne
        have yl : y.length ≤ 100 := by
          rw [← len_tl, hpy]
          rw [pc] at hpl
          simp at hpl
          lia
        have I := I.tok k
        refine o_addStr I (by have : (Str.ofString "/").length = 1 := by decide +kernel
                              lia) ?_
        intro t7 s9 I
        refine ⟨_, _, I, t7, ?_⟩
        rw [show Str.ofString "/" ++ y = pt u from str_ext (by rw [tl_append, hpy, pt, tl_ofL, pc]; rfl)]
    · intro D2 g2 zs kz s4 le2 I oD hzs
      have I2 := I.freeze oD
      exact ⟨_, _, I2, D2, zs, kz, rfl, put_self .., hzs⟩
  intro D3 g8 us ku s10 le8 I oD3 hus
  have lf := le_put (o := lo us ku) (I.muH _ (.head _)).2.1
  have J := I.freeze oD3
  have e8 := put_self g8 D3 (lo us ku)
  have hus := hus.mono (R' := StrsV (put g8 D3 (lo us ku))) fun _ _ q => q.up lf
  have le9 := le8.trans lf
  clear I
  have I := J
  generalize put g8 D3 (lo us ku) = g9 at *
  refine h ts g9 s10 _ (.ref D1) (.ref D2) (.ref D3) I (le5.trans le9) (by rfl) (by rfl) (by rfl) ⟨D1, ys, ky, rfl, le9 _ _ e4, hys.mono fun _ _ q => q.up le9⟩ ⟨D2, zs, kz, rfl, le9 _ _ e6, ?_⟩ ⟨D3, us, ku, rfl, e8, ?_⟩ h7 hok h1
  · rw [toldS, List.map_map] at hzs
    exact hzs.mono fun _ _ q => q.up le9
  · rw [toldS, List.map_map] at hus
    exact hus
end
end Mine
set_option Elab.async false
set_option maxRecDepth 100000
set_option linter.unusedVariables false
namespace Mine
open PySem PySem.W PyProof.Rows PySem.Calls SeqAt

/-! ## Copies of rows, owned -/
noncomputable def CopyP (p : Addr × Obj) (row : List Str) : Prop := ∃ vs n, p.2 = lo vs n ∧ All₂ StrV vs row
theorem exists_cont {ps : List (Addr × Obj)} {rows : List (List Str)} (x : All₂ CopyP ps rows) : (ps.map (·.1)).Nodup → ∃ cont : Addr → List Str, (ps.map (·.1)).map cont = rows ∧ HasRows ps (ps.map (·.1)) cont := by
  induction x with
  | nil => exact fun _ => ⟨fun _ => [], rfl, fun _ h => nomatch h⟩
  | @cons p row ps rows h t ih =>
    intro nd
    rw [List.map_cons, List.nodup_cons] at nd
    obtain ⟨cont, h1, h2⟩ := ih nd.2
    have hne : ∀ a ∈ ps.map (·.1), a ≠ p.1 := fun a ha e => nd.1 (e ▸ ha)
    refine ⟨fun a => if a = p.1 then row else cont a, ?_, fun a ha => ?_⟩
    · rw [List.map_cons, List.map_cons]
      rw [if_pos rfl]
      congr 1
      rw [← h1]
      exact List.map_congr_left fun a ha => if_neg (hne a ha)
    · rcases List.mem_cons.mp ha with rfl | ha
      · obtain ⟨vs, n, e, hv⟩ := h
        refine ⟨vs, n, ?_, by show All₂ StrV vs (if p.1 = p.1 then row else cont p.1); rw [if_pos rfl]; exact hv⟩
        rw [← e]; exact .head _
      · obtain ⟨vs, n, hm, hv⟩ := h2 a ha
        exact ⟨vs, n, .tail _ hm, by show All₂ StrV vs (if a = p.1 then row else cont a); rw [if_neg (hne a ha)]; exact hv⟩
section
variable {prog : Program} {w : World} {A : Around} {E : Value → Shared → Prop} {s : Shared} {env : Env}
variable {B : Base} {g g' : Vw} {mu nu own : List (Addr × Obj)} {L C D : Addr} {oD oC : Obj} {m mC : Str → Option Value} {cs : List (Str × Addr)} {cm : Str → Option Value} {S : Heap} {mg mb : Str → Option Value}
theorem IF.freezeAll : ∀ {nu : List (Addr × Obj)} {g : Vw}, IF B g (nu ++ mu) L m cs cm s → (∀ p ∈ nu, ¬ B.off p.1) → ∃ g', IF B g' mu L m cs cm s ∧ Le g g' ∧ ∀ p ∈ nu, g' p.1 = some p.2
  | [], g, I, _ => ⟨g, I, Le.refl g, fun _ h => nomatch h⟩
  | (a, o) :: nu, g, I, h => by
    have lf := le_put (o := o) (I.muH (a, o) (.head _)).2.1
    have J := IF.freeze I (h _ (.head _))
    obtain ⟨g', K, le, hp⟩ := IF.freezeAll J fun p hp => h p (.tail _ hp)
    refine ⟨g', K, lf.trans le, fun p hpp => ?_⟩
    rcases List.mem_cons.mp hpp with rfl | hpp
    · exact le _ _ (put_self ..)
    · exact hp p hpp
theorem b_listOf {l : Addr} {vs : List Value} {n : Nat} {Q : Value → Shared → Prop} (I : IF B g mu L m cs cm s) (hl : s.heap.get? l = some (lo vs n)) (hn : vs.length ≤ 100000)
    (h : ∀ D k s', IF B g ((D, lo vs k) :: mu) L m cs cm s' → ¬ B.off D → Q (.ref D) s') : wpAny (model prog w) A (call (.type "list") [.ref l]) Q E s := by
  refine PySem.call_list_seq (hsz := by rw [List.size_toArray, sizeLine_eq]; lia) l (.inl rfl) hl rfl rfl fun h' c' hk hD => ?_
  exact h _ c' _ (IF.gain (t := s.toks) (own := [(s.heap.objs.size, lo vs c')]) I (by simp) (fun p hp => by rw [List.mem_singleton.mp hp]; exact ⟨Nat.le_refl _, hD⟩) hk) I.newOff

/-- [list(row) for row in ..] -/
theorem CompOK.copies {px pos pc pe : Pos} {scope : Scope} {cl : List (Str × Addr)} {mm : Addr → Str → Option Value} {K : Addr → Shared → Prop} {it : Value} {vr : List Value} {rows : List (List Str)}
    (hk : (relabel scope env).kind = .function) (hg : env.globals = mainGlobals) (hb : env.builtins = builtinsNs) (hl : ∀ C, (compEnvC scope cl C env).kindOf (Str.ofString "list") = some .globalImplicit) (hrow : ∀ C, (compEnvC scope cl C env).kindOf (Str.ofString "row") = some .local)
    (G : Globs S mg mb) (hT : B.T = S.get?) (hv : All₂ (StrsV g) vr rows) (hn : vr.length ≤ 1000) (hn2 : ∀ row ∈ rows, row.length ≤ 1000)
    (X : SrcAt prog w A (.Name "row" px) B L cs it vr.length (fun i v _ => vr[i]? = some v) 0 g mu m cm s)
    (hs : ∀ C, starEach [.Name "row" pe] (compEnvC scope cl C env) = [(false, eval (.Name "row" pe) (compEnvC scope cl C env))])
    (hend : ∀ D g' ps k s', Le g g' → IF B g' ((D, lo (ps.map fun p => .ref p.1) k) :: (ps ++ mu)) L (mm D) cs cm s' → ¬ B.off D → (∀ p ∈ ps, ¬ B.off p.1) → All₂ CopyP ps rows → K D s') :
    CompOK prog w A env (.Name "row" px) [] (.Call (.Name "list" pc) [.Name "row" pe] [] pos) scope cl B L cs m mm cm mu K it s := by
  refine ⟨vr.length, _, g, fun i g' nu ys => Le g g' ∧ ys = nu.reverse.map (fun p => .ref p.1) ∧ All₂ CopyP nu.reverse (rows.take i) ∧ ∀ p ∈ nu, ¬ B.off p.1, by lia, X, ⟨Le.refl g, rfl, .nil, fun _ h => nomatch h⟩, ?_, ?_⟩
  · rintro B' C g1 nu ys mC s i v inn hi hP ⟨le, rfl, hc, hoff⟩ I
    obtain ⟨row, hrow', hv'⟩ := hv.get' hP
    obtain ⟨lr, wr, kr, rfl, er, hwr⟩ := hv'
    refine a_name (r_storeLocal I hk (hrow C) ?_)
    intro s2 I
    refine tests0 ?_
    rw [if_pos rfl]
    refine r_callT I G.st (inn.T.trans hT) hk hg hb (hl C) (G.no "list" (.tail _ (.tail _ (.tail _ (.tail _ (.tail _ (.tail _ (.tail _ (.tail _ (.tail _ (.tail _ (.tail _ (.tail _ (.head _)))))))))))))) (by rfl) (by decide) (by decide) (by rw [hs C]; rfl) (by rfl) (by rw [hs C]; rfl) ?_
    rw [hs C]
    refine r_items (by rfl) (r_local I hk (hrow C) (by rfl) (by decide) (r_items0 ?_))
    have hrm := hn2 row (List.mem_of_getElem? hrow')
    refine b_listOf I (I.sub _ _ (le _ _ er)) (by rw [hwr.length]; lia) ?_
    intro D k s3 I hD
    have le1 : Le g1 g1 := Le.refl _
    refine ⟨g1, [(D, lo wr k)], _, I, le, ?_, ?_, fun p hp => ?_⟩
    · simp
    · rw [List.take_add_one, hrow']
      simp only [List.singleton_append, List.reverse_cons, Option.toList_some]
      exact hc.append (.cons ⟨wr, k, rfl, hwr⟩ .nil)
    · rcases List.mem_append.mp hp with hp | hp
      · rw [List.mem_singleton.mp hp]
        exact fun q => hD (inn.off _ q)
      · exact hoff p hp
  · rintro D g1 nu ys k s I hD ⟨le, rfl, hc, hoff⟩
    rw [show vr.length = rows.length from hv.length, List.take_length] at hc
    refine hend D g1 nu.reverse k s le (I.perm ?_) hD (fun p hp => hoff p (List.mem_reverse.mp hp)) hc
    exact ((List.reverse_perm nu).symm.append_right mu).cons _
end
end Mine
set_option Elab.async false
set_option maxRecDepth 100000
set_option linter.unusedVariables false
namespace Mine
open PySem PySem.W PyProof.Rows PySem.Calls SeqAt

/-! ## plain facts -/
theorem climb_range (ns : List (List Nat)) : ∀ k, climbN ns k = (List.range k).map fun j => pathL (ns.take (k - j))
  | 0 => rfl
  | k + 1 => by
    rw [List.range_succ_eq_map, List.map_cons, List.map_map]
    show pathL (ns.take (k + 1)) :: climbN ns k = _
    rw [climb_range ns k]
    congr 1
    exact List.map_congr_left fun j _ => by simp
theorem climb_prefs (ns : List (List Nat)) : climbN ns ns.length = (prefs ns).map pathL := by
  rw [climb_range, prefs, List.map_map]; rfl
noncomputable def pathX (x : Str) : Str := ofL (pathL (namesS x))
theorem pt_path {u : Trip} (h : CodeIn u) : pt u = pathX (tx u) := by rw [pt, pathX, (code_NL h).1]
theorem chnS : Chn chS := by
  have hN : ∀ l : List (List Nat), l.Nodup → (l.map ofL).Nodup := fun l h => by
    induction l with
    | nil => simp
    | cons a r ih =>
      rw [List.nodup_cons] at h
      rw [List.map_cons, List.nodup_cons]
      refine ⟨fun hm => ?_, ih h.2⟩
      obtain ⟨b, hb, e⟩ := List.mem_map.mp hm
      rw [ofL_inj e] at hb
      exact h.1 hb
  refine ⟨fun x => ?_, fun x y hy => ?_, fun x => hN _ (chainL_nodup _ _ (Nat.le_refl _))⟩
  · obtain ⟨t, ht⟩ := chainL_cons (tl x)
    exact ⟨t.map ofL, by rw [chS, ht, List.map_cons, ofL_tl]⟩
  · obtain ⟨l, hl, rfl⟩ := List.mem_map.mp hy
    obtain ⟨p, hp⟩ := chainL_suffix _ _ _ (Nat.le_refl _) hl
    exact ⟨p.map ofL, by rw [chS, hp, List.map_append, chS, tl_ofL]⟩
theorem famS {ts : List Trip} (hok : ∀ t ∈ ts, OkT t) : Fam chS (textsS ts) := fun r hr => by
  obtain ⟨t, ht, rfl⟩ := List.mem_map.mp hr
  exact ⟨tx t, row_texts (row_ok (hok t ht))⟩
theorem total_le : ∀ {ts : List Trip}, (∀ t ∈ ts, OkT t) → total (textsS ts) ≤ 5 * ts.length
  | [], _ => Nat.le_refl _
  | t :: ts, h => by
    have ih := total_le (ts := ts) fun t ht => h t (.tail _ ht)
    have h1 := (row_ok (h t (.head _))).len
    simp only [textsS, total, List.map_cons, List.sum_cons, List.length_map, List.length_cons] at ih ⊢
    lia
/-- what the book holds -/
structure BookOK (kvs : List (Str × Value)) (rows : List (List Str)) : Prop where
  val : ∀ y v, valueAt kvs y = some v → StrV v (pathX y)
  dom : ∀ y, (valueAt kvs y).isSome = true ↔ ∃ r ∈ rows, y ∈ r
  len : kvs.length ≤ 35
theorem book_fold : ∀ (ps : List ((Trip × Trip) × Value)) (kvs : List (Str × Value)), (∀ p ∈ ps, StrV p.2 (pathX (tx p.1.2))) → (∀ y v, valueAt kvs y = some v → StrV v (pathX y)) →
    (∀ y v, valueAt (ps.foldl (fun kvs p => stored kvs (tx p.1.2) p.2) kvs) y = some v → StrV v (pathX y)) ∧
    (∀ y, (valueAt (ps.foldl (fun kvs p => stored kvs (tx p.1.2) p.2) kvs) y).isSome = true ↔ (valueAt kvs y).isSome = true ∨ ∃ p ∈ ps, tx p.1.2 = y) ∧
    (ps.foldl (fun kvs p => stored kvs (tx p.1.2) p.2) kvs).length ≤ kvs.length + ps.length
  | [], kvs, _, h => ⟨h, fun y => by simp, Nat.le_refl _⟩
  | p :: ps, kvs, hp, h => by
    obtain ⟨a, b, c⟩ := book_fold ps (stored kvs (tx p.1.2) p.2) (fun q hq => hp q (.tail _ hq)) fun y v e => by
      rw [valueAt_stored] at e
      by_cases q : y = tx p.1.2
      · rw [if_pos q] at e
        cases e
        rw [q]; exact hp p (.head _)
      · rw [if_neg q] at e
        exact h y v e
    refine ⟨a, fun y => ?_, ?_⟩
    · rw [List.foldl_cons, b, valueAt_stored]
      by_cases q : y = tx p.1.2
      · rw [if_pos q]; simp [q]
      · rw [if_neg q]
        have : ¬ tx p.1.2 = y := fun e => q e.symm
        simp [this]
    · rw [List.foldl_cons]
      have := stored_len (kvs := kvs) (x := tx p.1.2) (v := p.2)
      rw [List.length_cons]; lia
theorem All₂.zipR {α β : Type} {R : α → β → Prop} {as : List α} {bs : List β} (x : All₂ R as bs) : ∀ p ∈ bs.zip as, R p.2 p.1 := by
  induction x with
  | nil => exact fun _ h => nomatch h
  | cons h _ ih =>
    intro p hp
    rw [List.zip_cons_cons] at hp
    rcases List.mem_cons.mp hp with rfl | hp
    · exact h
    · exact ih p hp
theorem book_ok {ts : List Trip} {zs : List Value} (hok : ∀ t ∈ ts, OkT t) (h7 : ts.length ≤ 7) (h : All₂ (fun z (p : Trip × Trip) => StrV z (pt p.2)) zs (ts.flatMap fun t => (rowT t).map (t, ·))) :
    BookOK (((ts.flatMap fun t => (rowT t).map (t, ·)).zip zs).foldl (fun (kvs : List (Str × Value)) (p : (Trip × Trip) × Value) => stored kvs (tx p.1.2) p.2) []) (textsS ts) := by
  have hmem : ∀ p ∈ (ts.flatMap fun t => (rowT t).map (t, ·)), p.1 ∈ ts ∧ p.2 ∈ rowT p.1 := fun p hp => by
    obtain ⟨t, ht, hp⟩ := List.mem_flatMap.mp hp
    obtain ⟨u, hu, rfl⟩ := List.mem_map.mp hp
    exact ⟨ht, hu⟩
  have hl := h.length
  obtain ⟨a, b, c⟩ := book_fold ((ts.flatMap fun t => (rowT t).map (t, ·)).zip zs) [] (fun p hp => by
    have h1 := h.zipR p hp
    obtain ⟨m1, m2⟩ := hmem p.1 (List.of_mem_zip hp).1
    rw [← pt_path ((row_ok (hok _ m1)).codes _ m2)]
    exact h1) fun y v e => by cases e
  refine ⟨a, fun y => ?_, Nat.le_trans c ?_⟩
  · rw [b]
    constructor
    · rintro (h0 | ⟨p, hp, rfl⟩)
      · cases h0
      · obtain ⟨m1, m2⟩ := hmem p.1 (List.of_mem_zip hp).1
        exact ⟨_, List.mem_map_of_mem m1, List.mem_map_of_mem m2⟩
    · rintro ⟨r, hr, hy⟩
      obtain ⟨t, ht, rfl⟩ := List.mem_map.mp hr
      obtain ⟨u, hu, rfl⟩ := List.mem_map.mp hy
      have hm : (t, u) ∈ (ts.flatMap fun t => (rowT t).map (t, ·)) := List.mem_flatMap.mpr ⟨t, ht, List.mem_map_of_mem hu⟩
      obtain ⟨i, hi, e⟩ := List.mem_iff_getElem.mp hm
      refine .inr ⟨((t, u), zs[i]), ?_, rfl⟩
      rw [List.mem_iff_getElem]
      exact ⟨i, by rw [List.length_zip]; lia, by rw [List.getElem_zip, e]⟩
  · rw [List.length_nil, List.length_zip]
    have : (ts.flatMap fun t => (rowT t).map (t, ·)).length ≤ 5 * ts.length := by
      clear h hl a b c hmem h7
      induction ts with
      | nil => exact Nat.le_refl _
      | cons t ts ih =>
        rw [List.flatMap_cons, List.length_append, List.length_map, List.length_cons]
        have h1 := (row_ok (hok t (.head _))).len
        have := ih fun t ht => hok t (.tail _ ht)
        lia
    lia
end Mine
set_option Elab.async false
set_option maxRecDepth 100000
set_option linter.unusedVariables false
namespace Mine
open PySem PySem.W PyProof.Rows PySem.Calls SeqAt

/-! ## law: stripped, climbed -/
theorem lawCs_nodup (L : Addr) : ((lawCs L).map (·.1)).Nodup := by show List.Nodup [Str.ofString "size", Str.ofString "book", Str.ofString "climbed", Str.ofString "stripped"]; decide +kernel
section
variable {prog : Program} {w : World} {A : Around} {E : Value → Shared → Prop} {s : Shared} {g : Vw} {S : Heap} {mg mb : Str → Option Value} {B : Base} {L a : Addr} {cd : Value} {mu : List (Addr × Obj)} {m cm : Str → Option Value}
set_option maxHeartbeats 4000000 in
theorem law_2 {d : Nat} {Q : Flow → Shared → Prop} {ts : List Trip} {vt vx : Value} (G : LawG S mg mb) (I : IF B g mu L m (lawCs L) cm s) (hT : B.T = S.get?) (r : Room A (d + 6))
    (m1 : m (Str.ofString "told") = some vt) (m2 : m (Str.ofString "texts") = some vx) (ht : LstV g (ToldV g) vt (toldS ts)) (hx : RowsV g vx (textsS ts)) (h7 : ts.length ≤ 7) (hok : ∀ t ∈ ts, OkT t)
    (h : ∀ g' s' vs vc, IF B g' mu L m (lawCs L) (upd (upd cm (Str.ofString "stripped") vs) (Str.ofString "climbed") vc) s' → Le g g' → RowsV g' vs (textsS ts) → RowsV g' vc (pathsS ts) → wpAny (model prog w) A (execs (lawB 5) (lawEnv L a cd)) Q NoE s') :
    wpAny (model prog w) A (execs (lawB 3) (lawEnv L a cd)) Q NoE s := by
  have ST := G.G.st
  obtain ⟨as_, hst, _, _, _, Fs⟩ := G.stripped
  obtain ⟨aq, hsq⟩ := G.G.strip
  obtain ⟨ac, hcl, _, _, _, Fc⟩ := G.climbed
  obtain ⟨an, hna, _, _, _, Fn⟩ := G.names
  obtain ⟨aj, hjo, _, _, _, Fj⟩ := G.join
  obtain ⟨ar, dT, dI, od, nd, ⟨hre, _, _, _, Fr_⟩, hdT, hod, hmiss⟩ := G.reduce
  obtain ⟨l1, w1, k1, rfl, e1, hw1⟩ := hx
  obtain ⟨l2, w2, k2, rfl, e2, hw2⟩ := ht
  have hrow : ∀ t ∈ ts, RowOK t := fun t ht => row_ok (hok t ht)
  -- stripped
  refine r_assign (by rfl) (r_comp (cl := []) (by rfl) (by rfl) (by rfl) ?_)
  refine r_local I (by rfl) (by rfl) m2 (by decide) ?_
  refine it_list I r.handled e1 ?_
  intro it s1 X
  refine ⟨B, L, _, _, _, _, CompOK.map (textsS ts) id (fun g v c => StrsV g v c) (fun _ _ _ _ a b => b.up a) (by simp [textsS]; lia) (hw1.length ▸ X _) ?_ ?_⟩
  · intro B' C g' mC s i v x inn le hP hx I
    obtain ⟨lr, wr, kr, rfl, er, hwr⟩ := (hw1.at hP hx).up le
    obtain ⟨t0, ht0, rfl⟩ := List.mem_map.mp (List.mem_of_getElem? hx)
    have hT' := inn.T.trans hT
    have R0 := hrow t0 ht0
    obtain ⟨rr, hrr⟩ := R0.head
    refine a_name (r_storeLocal I (by rfl) (by rfl) ?_)
    intro s2 I
    refine r_call I ST hT' (by rfl) (by rfl) (by rfl) hst (by decide) Fs (by rfl) (by rfl) ?_
    refine r_items (by rfl) (Subscript_ (r_local I (by rfl) (by rfl) (by rfl) (by decide) (r_int I ?_)))
    intro t1 s3 I
    obtain ⟨v0, hv0, t2, rfl⟩ := hwr.get (i := 0) (b := tx t0) (by rw [hrr]; rfl)
    refine t_list (k := 0) (I.sub _ _ er) hv0 (by decide) ?_
    refine r_items0 ⟨I.st hT', ?_⟩
    refine stripped_call I.sub (hT' ▸ I.stat) ST Fs hsq (r.le (show d + 2 ≤ d + 6 by lia)) (by have := (code_ok R0.self).len; lia) ?_
    intro v xs g2 s4 af hxs hch
    refine ⟨_, _, I.after af, ?_⟩
    have : xs = (rowT t0).map tx := by
      rw [row_texts R0, chS, ← hch, List.map_map]
      conv => lhs; rw [← List.map_id xs]
      exact List.map_congr_left fun x _ => (ofL_tl x).symm
    rw [id, ← this]; exact hxs
  intro D1 g2 ys ky s2 le2 I oD1 hys
  rw [List.map_id] at hys
  have lf := le_put (o := lo ys ky) (I.muH _ (.head _)).2.1
  have J := I.freeze oD1
  have e3 := put_self g2 D1 (lo ys ky)
  have hys := hys.mono (R' := StrsV (put g2 D1 (lo ys ky))) fun _ _ q => q.up lf
  have le3 := le2.trans lf
  clear I
  have I := J
  generalize put g2 D1 (lo ys ky) = g3 at *
  refine r_storeC I (lawCs_nodup L) (by rfl) (by rfl) (by rfl) (.tail _ (.tail _ (.tail _ (.head _)))) ?_
  intro s3 I
  -- climbed
  refine r_assign (by rfl) (r_comp (cl := []) (by rfl) (by rfl) (by rfl) ?_)
  refine r_local I (by rfl) (by rfl) m1 (by decide) ?_
  refine it_list I r.handled (le3 _ _ e2) ?_
  intro it s4 X
  refine ⟨B, L, _, _, _, _, CompOK.map (toldS ts) (fun row => row.map pt) (fun g v c => StrsV g v c) (fun _ _ _ _ a b => b.up a) (by simp [toldS]; lia) (hw2.length ▸ X _) ?_ ?_⟩
  · intro B' C g' mC s i v x inn le hP hx I
    obtain ⟨lr, wr, kr, rfl, er, hwr⟩ := (hw2.at hP hx).up (le3.trans le)
    obtain ⟨t0, ht0, rfl⟩ := List.mem_map.mp (List.mem_of_getElem? hx)
    have hT' := inn.T.trans hT
    have R0 := hrow t0 ht0
    have K0 := code_ok R0.self
    have N0 := (code_NL R0.self).1
    have hc0 := code_le R0.self
    obtain ⟨rr, hrr⟩ := R0.head
    obtain ⟨v0, hv0, at1, kt, ta, tc, tb, rfl, et⟩ := hwr.get (i := 0) (b := t0) (by rw [hrr]; rfl)
    refine a_name (r_storeLocal I (by rfl) (by rfl) ?_)
    intro s2 I
    refine r_call I ST hT' (by rfl) (by rfl) (by rfl) hcl (by decide) Fc (by rfl) (by rfl) ?_
    refine r_items (by rfl) (gq fun K1 hK1 => ?_)
    refine r_call I ST hT' (by rfl) (by rfl) (by rfl) hre (by decide) Fr_ (by rfl) (by rfl) ?_
    refine r_items (by rfl) (r_global I ST hT' (by rfl) (by rfl) (by rfl) hjo (by decide) ?_)
    refine r_items (by rfl) (gq fun K2 hK2 => ?_)
    refine r_call I ST hT' (by rfl) (by rfl) (by rfl) hna (by decide) Fn (by rfl) (by rfl) ?_
    refine r_items (by rfl) (Subscript_ (Subscript_ (r_local I (by rfl) (by rfl) (by rfl) (by decide) (r_int I ?_))))
    intro t1 s3 I
    refine t_list (k := 0) (I.sub _ _ er) hv0 (by decide) (r_int I ?_)
    intro t2 s4 I
    refine t_tup (k := 0) (I.sub _ _ et) (by rfl) (by decide) ?_
    refine r_items (by rfl) (Subscript_ (Subscript_ (r_local I (by rfl) (by rfl) (by rfl) (by decide) (r_int I ?_))))
    intro t3 s5 I
    refine t_list (k := 0) (I.sub _ _ er) hv0 (by decide) (r_int I ?_)
    intro t4 s6 I
    refine t_tup (k := 1) (I.sub _ _ et) (by rfl) (by decide) ?_
    refine r_items (by rfl) (Subscript_ (Subscript_ (r_local I (by rfl) (by rfl) (by rfl) (by decide) (r_int I ?_))))
    intro t5 s7 I
    refine t_list (k := 0) (I.sub _ _ er) hv0 (by decide) (r_int I ?_)
    intro t6 s8 I
    refine t_tup (k := 2) (I.sub _ _ et) (by rfl) (by decide) (r_items0 ⟨I.st hT', ?_⟩)
    refine names_call I.sub (hT' ▸ I.stat) ST Fn (G.G.no "min" (.head _)) (r.le (show d + 1 ≤ d + 6 by lia)) hc0.1 hc0.2 (core_len (hok t0 ht0)) ?_
    intro v3 xs g3 s9 af hxs hnm
    have I := I.after af
    obtain ⟨D3, w3, k3, rfl, e3, hw3⟩ := hxs
    have hnm' : xs.map tl = nm t0 := hnm
    refine hK2 _ _ (r_items (by rfl) (r_str I ?_))
    intro t7 s10 I
    refine r_items0 ⟨I.st hT', ?_⟩
    rw [show Str.ofString "/" = (⟨#[47]⟩ : Str) by decide +kernel]
    have ok0 := K0.ok
    have ne0 := K0.ne
    have pl0 := K0.plen
    have nl0 := K0.nlen
    rw [N0] at ok0 ne0 pl0 nl0
    refine reduce_call I.sub (hT' ▸ I.stat) G.G Fr_ hdT hod hmiss Fj (r.le (show d + 3 ≤ d + 6 by lia)) e3 hw3 (by rw [hnm']; exact ok0) (by intro e; rw [e] at hnm'; exact ne0 hnm'.symm) (by rw [hnm']; lia) ?_
    intro z t8 g4 s11 af hz
    have I := I.after af
    refine hK1 _ _ (r_items0 ⟨I.st hT', ?_⟩)
    rw [hnm'] at hz
    refine climbed_call I.sub (hT' ▸ I.stat) G.G Fc (r.le (show d + 3 ≤ d + 6 by lia)) (by rw [← len_tl, hz]; lia) hz ne0 ok0 (by lia) ?_
    intro v xs2 g5 s12 af hxs2 hcl2
    refine ⟨_, _, I.after af, ?_⟩
    have : xs2 = (rowT t0).map pt := by
      have e : xs2.map tl = ((rowT t0).map pt).map tl := by
        rw [hcl2, climb_prefs, ← R0.names, List.map_map, List.map_map]
        exact List.map_congr_left fun u _ => (tl_ofL _).symm
      have e' := congrArg (List.map ofL) e
      rw [List.map_map, List.map_map] at e'
      have id1 : ∀ l : List Str, l.map (ofL ∘ tl) = l := fun l => by
        conv => rhs; rw [← List.map_id l]
        exact List.map_congr_left fun x _ => ofL_tl x
      rw [id1, id1] at e'
      exact e'
    rw [← this]; exact hxs2
  intro D2 g4 zs kz s5 le4 I oD2 hzs
  have lf := le_put (o := lo zs kz) (I.muH _ (.head _)).2.1
  have J := I.freeze oD2
  have e5 := put_self g4 D2 (lo zs kz)
  have hzs := hzs.mono (R' := StrsV (put g4 D2 (lo zs kz))) fun _ _ q => q.up lf
  have le5 := le4.trans lf
  clear I
  have I := J
  generalize put g4 D2 (lo zs kz) = g5 at *
  refine r_storeC I (lawCs_nodup L) (by rfl) (by rfl) (by rfl) (.tail _ (.tail _ (.head _))) ?_
  intro s6 I
  refine h g5 s6 (.ref D1) (.ref D2) I (le3.trans le5) ⟨D1, ys, ky, rfl, le5 _ _ e3, hys.mono fun _ _ q => q.up le5⟩ ⟨D2, zs, kz, rfl, e5, ?_⟩
  rw [toldS, List.map_map] at hzs
  exact hzs
end
end Mine
set_option Elab.async false
set_option maxRecDepth 100000
set_option linter.unusedVariables false
namespace Mine
open PySem PySem.W PyProof.Rows PySem.Calls SeqAt

/-! ## law: book, size, handed, merged -/
section
variable {prog : Program} {w : World} {A : Around} {E : Value → Shared → Prop} {s : Shared} {g : Vw} {S : Heap} {mg mb : Str → Option Value} {B : Base} {L a : Addr} {cd : Value} {mu : List (Addr × Obj)} {m cm : Str → Option Value}
set_option maxHeartbeats 4000000 in
theorem law_3 {d : Nat} {Q : Flow → Shared → Prop} {ts : List Trip} {vx vp : Value} (G : LawG S mg mb) (I : IF B g mu L m (lawCs L) cm s) (hT : B.T = S.get?) (r : Room A (d + 6))
    (m2 : m (Str.ofString "texts") = some vx) (m3 : m (Str.ofString "paths") = some vp) (hx : RowsV g vx (textsS ts)) (hp : RowsV g vp (pathsS ts)) (h7 : ts.length ≤ 7) (hok : ∀ t ∈ ts, OkT t)
    (h : ∀ g' s' ab o kvs t, IF B g' mu L m (lawCs L) (upd (upd cm (Str.ofString "book") (.ref ab)) (Str.ofString "size") (.int (ts.length : Nat) t)) s' → Le g g' → (ab == sysModules) = false → g' ab = some o → o.IsDictOf (strKind prog w) kvs → BookOK kvs (textsS ts) → wpAny (model prog w) A (execs (lawB 7) (lawEnv L a cd)) Q NoE s') :
    wpAny (model prog w) A (execs (lawB 5) (lawEnv L a cd)) Q NoE s := by
  have ST := G.G.st
  obtain ⟨l1, w1, k1, rfl, e1, hw1⟩ := hx
  obtain ⟨l2, w2, k2, rfl, e2, hw2⟩ := hp
  have hrow : ∀ t ∈ ts, RowOK t := fun t ht => row_ok (hok t ht)
  have flat_len : (ts.flatMap fun t => (rowT t).map (t, ·)).length < 100000 := by
    have : ∀ ts : List Trip, (∀ t ∈ ts, OkT t) → (ts.flatMap fun t => (rowT t).map (t, ·)).length ≤ 5 * ts.length := by
      intro ts
      induction ts with
      | nil => intro _; exact Nat.le_refl _
      | cons t ts ih =>
        intro hok
        rw [List.flatMap_cons, List.length_append, List.length_map, List.length_cons]
        have h1 := (row_ok (hok t (.head _))).len
        have := ih fun t ht => hok t (.tail _ ht)
        lia
    have := this ts hok
    lia
  refine r_assign (by rfl) ?_
  refine r_dictComp2 (S := S) (cl := []) (by rfl) (by rfl) (by rfl) ts rowT (fun p => tx p.2) (fun z p => StrV z (pt p.2)) flat_len G.sys ?_
  refine r_callT I ST hT (by rfl) (by rfl) (by rfl) (by rfl) (G.G.no "zip" (.tail _ (.tail _ (.tail _ (.tail _ (.tail _ (.tail _ (.tail _ (.tail _ (.tail _ (.tail _ (.tail _ (.tail _ (.tail _ (.tail _ (.head _)))))))))))))))) (by rfl) (by decide) (by decide) (by rfl) (by rfl) (by rfl) ?_
  refine r_items (by rfl) (r_local I (by rfl) (by rfl) m2 (by decide) ?_)
  refine r_items (by rfl) (r_local I (by rfl) (by rfl) m3 (by decide) (r_items0 ?_))
  refine b_zip I r.handled e1 e2 (by rw [hw1.length, hw2.length]; simp [textsS, pathsS]) ?_
  intro v g1 s1 le1 hv
  refine hv _ _ fun it s2 X => ⟨B, L, _, _, _, _, g1, _, hT, by
    have q := X; rw [show w1.length = ts.length by rw [hw1.length]; simp [textsS]] at q; exact q _ _ _, ?_, ?_⟩
  · intro C D B' g' oD mC s i v t0 hpin le ht0 hP CSt
    refine gq fun K0 hK0 => ?_
    obtain ⟨T, x, y, rfl, hTt, hxi, hyi⟩ := hP
    have htm := List.mem_of_getElem? ht0
    have R0 := hrow t0 htm
    obtain ⟨xr, hxr, lr, wr, kr, rfl, er, hwr⟩ := hw1.get' hxi
    have hxe : xr = (rowT t0).map tx := by
      rw [textsS, List.getElem?_map, ht0] at hxr; exact (Option.some.inj hxr).symm
    subst hxe
    obtain ⟨yr, hyr, ly, wy, ky, rfl, ey, hwy⟩ := hw2.get' hyi
    have hye : yr = (rowT t0).map pt := by
      rw [pathsS, List.getElem?_map, ht0] at hyr; exact (Option.some.inj hyr).symm
    subst hye
    have lg := le1.trans le
    obtain ⟨B2, inn, I, close⟩ := CSt.open_
    refine a_tup2T I r.handled (by rfl) (by rfl) (by rfl) hTt ?_
    intro s3 I
    refine hK0 _ _ (gq fun K1 hK1 => ?_)
    have hT2 : B2.T = S.get? := inn.T.trans (hpin.T.trans hT)
    refine r_callT I ST hT2 (by rfl) (by rfl) (by rfl) (by rfl) (G.G.no "zip" (.tail _ (.tail _ (.tail _ (.tail _ (.tail _ (.tail _ (.tail _ (.tail _ (.tail _ (.tail _ (.tail _ (.tail _ (.tail _ (.tail _ (.head _)))))))))))))))) (by rfl) (by decide) (by decide) (by rfl) (by rfl) (by rfl) ?_
    refine r_items (by rfl) (r_local I (by rfl) (by rfl) (by rfl) (by decide) ?_)
    refine r_items (by rfl) (r_local I (by rfl) (by rfl) (by rfl) (by decide) (r_items0 ?_))
    obtain ⟨oC, IC, hns⟩ := close I
    refine b_zip IC r.handled (lg _ _ er) (lg _ _ ey) (by rw [hwr.length, hwy.length]; simp) ?_
    intro v2 g2 s4 le2 hv2
    have IC' := IC
    refine hK1 _ _ (hv2 _ _ fun it2 s5 X2 => ⟨_, g2, _, fun _ => True, le2, by
      have q := fun e k p => csrc_of (nu := []) IC hns (X2 e k p)
      rw [show wr.length = (rowT t0).length by rw [hwr.length]; simp] at q
      exact q _ _ _, trivial, ?_⟩)
    intro B3 g3 mC' s' j v' u inn3 le3 hu hP' _ I
    obtain ⟨T', x', y', rfl, hT', hx', hy'⟩ := hP'
    obtain ⟨tv1, hx1, t1, rfl⟩ := hwr.get' hx'
    obtain ⟨tv2, hy1, t2, rfl⟩ := hwy.get' hy'
    have e1' : tv1 = tx u := by rw [List.getElem?_map, hu] at hx1; exact (Option.some.inj hx1).symm
    have e2' : tv2 = pt u := by rw [List.getElem?_map, hu] at hy1; exact (Option.some.inj hy1).symm
    subst e1' e2'
    refine a_tup2T I r.handled (by rfl) (by rfl) (by rfl) hT' ?_
    intro s6 I
    refine r_local I (by rfl) (by rfl) (by rfl) (by decide) ?_
    exact r_local I (by rfl) (by rfl) (by rfl) (by decide) ⟨⟨_, rfl⟩, _, _, I, trivial, _, rfl⟩
  intro D g2 o zs s3 le2 I oD sysD hzs hdict
  have hbook := book_ok hok h7 hzs
  have lf := le_put (o := o) (I.muH _ (.head _)).2.1
  have J := I.freeze oD
  have eD := put_self g2 D o
  have le3 := (le1.trans le2).trans lf
  clear I
  have I := J
  generalize put g2 D o = g3 at *
  refine r_storeC I (lawCs_nodup L) (by rfl) (by rfl) (by rfl) (.tail _ (.head _)) ?_
  intro s4 I
  refine r_assign (by rfl) ?_
  refine r_callB I ST hT (by rfl) (by rfl) (by rfl) (by rfl) (G.G.no "len" (.tail _ (.tail _ (.head _)))) (by rfl) (by decide) (by decide) (by rfl) (by rfl) (by rfl) ?_
  refine r_items (by rfl) (r_local I (by rfl) (by rfl) m2 (by decide) (r_items0 ?_))
  have wl : w1.length = ts.length := by rw [hw1.length]; simp [textsS]
  refine b_len I (I.sub _ _ (le3 _ _ e1)) (by lia) ?_
  intro t1 s5 I
  rw [wl]
  refine r_storeC I (lawCs_nodup L) (by rfl) (by rfl) (by rfl) (.head _) ?_
  intro s6 I
  exact h g3 s6 D o _ t1 I le3 sysD eD hdict hbook
end
end Mine
set_option Elab.async false
set_option maxRecDepth 100000
set_option linter.unusedVariables false
namespace Mine
open PySem PySem.W PyProof.Rows PySem.Calls SeqAt

/-! ## law: handed, merged -/
theorem all_empty {g : Vw} : ∀ {ps : List (Addr × Obj)}, (∀ p ∈ ps, g p.1 = some p.2 ∧ ∃ n, p.2 = lo [] n) → All₂ (StrsV g) (ps.map fun p => .ref p.1) (ps.map fun _ => ([] : List Str))
  | [], _ => .nil
  | p :: ps, h => by
    obtain ⟨e, n, hn⟩ := h p (.head _)
    exact .cons ⟨p.1, [], n, rfl, by rw [e, hn], .nil⟩ (all_empty fun q hq => h q (.tail _ hq))
section
variable {prog : Program} {w : World} {A : Around} {E : Value → Shared → Prop} {s : Shared} {g : Vw} {S : Heap} {mg mb : Str → Option Value} {B : Base} {L a : Addr} {cd : Value} {mu : List (Addr × Obj)} {m cm : Str → Option Value}
set_option maxHeartbeats 4000000 in
theorem law_4 {d : Nat} {Q : Flow → Shared → Prop} {ts : List Trip} {vs : Value} (G : LawG S mg mb) (I : IF B g mu L m (lawCs L) cm s) (hT : B.T = S.get?) (r : Room A (d + 6))
    (c1 : cm (Str.ofString "stripped") = some vs) (hx : RowsV g vs (textsS ts)) (h7 : ts.length ≤ 7) (hok : ∀ t ∈ ts, OkT t)
    (h : ∀ g' s' vh vm, IF B g' mu L (upd (upd m (Str.ofString "handed") vh) (Str.ofString "merged") vm) (lawCs L) cm s' → Le g g' → RowsV g' vh (ts.map fun _ => []) → StrsV g' vm (toldE (endsL (textsS ts))) → wpAny (model prog w) A (execs (lawB 9) (lawEnv L a cd)) Q NoE s') :
    wpAny (model prog w) A (execs (lawB 7) (lawEnv L a cd)) Q NoE s := by
  have ST := G.G.st
  obtain ⟨am, hme, _, _, _, Fm⟩ := G.merge
  obtain ⟨l1, w1, k1, rfl, e1, hw1⟩ := hx
  have wl : w1.length = ts.length := by rw [hw1.length]; simp [textsS]
  have hrl : ∀ row ∈ textsS ts, row.length ≤ 5 := fun row hr => by
    obtain ⟨t, ht, rfl⟩ := List.mem_map.mp hr
    rw [List.length_map]
    exact (row_ok (hok t ht)).len
  refine r_assignComp (cl := []) (by rfl) (by rfl) (by rfl) (by rfl) (by rfl) (by rfl) ?_
  refine r_cell (by rfl) (by rfl) (by rfl) (I.rd (.tail _ (.tail _ (.tail _ (.head _)))) (by exact c1)) (by decide) ?_
  refine it_list I r.handled e1 ?_
  intro it s1 X
  refine ⟨B, _, _, _, _, CompOK.copies (rows := textsS ts) (by rfl) (by rfl) (by rfl) (fun _ => by rfl) (fun _ => by rfl) G.G hT hw1 (by lia) (fun row hr => by have := hrl row hr; lia) (X _) (fun _ => by rfl) ?_⟩
  intro D g2 ps k s2 le2 I oD hoff hcp
  have nd := I.nd
  rw [List.map_cons, List.nodup_cons, List.map_append, List.nodup_append] at nd
  obtain ⟨cont, hc1, hc2⟩ := exists_cont hcp nd.2.1
  have lf := le_put (o := lo (ps.map fun p => .ref p.1) k) (I.muH _ (.head _)).2.1
  have J := I.freeze oD
  have eD := put_self g2 D (lo (ps.map fun p => .ref p.1) k)
  have le3 := le2.trans lf
  clear I
  have I := J
  generalize put g2 D (lo (ps.map fun p => .ref p.1) k) = g3 at *
  have pl : ps.length = ts.length := by rw [hcp.length]; simp [textsS]
  refine r_assign (by rfl) ?_
  refine r_call I ST hT (by rfl) (by rfl) (by rfl) hme (by decide) Fm (by rfl) (by rfl) ?_
  refine r_items (by rfl) (r_local I (by rfl) (by rfl) (by rfl) (by decide) (r_items0 ⟨I.st hT, ?_⟩))
  have hc3 : c3 36 ((ps.map (·.1)).map cont) = some (toldE (endsL (textsS ts))) := by
    rw [hc1]
    refine c3_told chnS 36 _ (famS hok) ?_
    have := total_le hok
    lia
  refine merge_call (as := ps.map (·.1)) (mu0 := ps) I.sub (hT ▸ I.stat) G.G Fm (r.le (show d + 1 ≤ d + 6 by lia)) (by rw [List.map_map]; exact eD) (fun p hp => by
    have q := I.muH p (List.mem_append_left _ hp); exact ⟨q.1, q.2.1⟩) rfl nd.2.1 hc2 hc3 (by decide) (by rw [List.length_map]; lia) (fun b hb => ?_) ?_
  · have : cont b ∈ textsS ts := by rw [← hc1]; exact List.mem_map_of_mem hb
    have := hrl _ this
    lia
  intro v g4 s3 mu' Z hfst hemp hv
  have I := I.afterM (mu0' := mu') Z hfst (fun p hp => (hemp p hp).1)
  refine r_storeLocal I (by rfl) (by rfl) ?_
  intro s4 I
  have hoff' : ∀ p ∈ mu', ¬ B.off p.1 := fun p hp => by
    have : p.1 ∈ ps.map (·.1) := by rw [← hfst]; exact List.mem_map_of_mem hp
    obtain ⟨q, hq, e⟩ := List.mem_map.mp this
    rw [← e]; exact hoff q hq
  obtain ⟨g5, I, le5, hg5⟩ := IF.freezeAll I hoff'
  have e3 : ps.map (fun p => Value.ref p.1) = mu'.map fun p => .ref p.1 := by
    have := congrArg (List.map Value.ref) hfst
    rw [List.map_map, List.map_map] at this
    exact this.symm
  have ml : mu'.length = ts.length := by rw [← List.length_map (f := (·.1)), hfst, List.length_map, pl]
  refine h g5 s4 (.ref D) v I ((le3.trans Z.le).trans le5) ⟨D, _, k, rfl, le5 _ _ (Z.le _ _ eD), ?_⟩ (hv.up le5)
  rw [e3, show (ts.map fun _ => ([] : List Str)) = mu'.map fun _ => [] by rw [List.map_const', List.map_const', ml]]
  exact all_empty fun p hp => ⟨hg5 p hp, (hemp p hp).2⟩
end
end Mine
set_option Elab.async false
set_option maxRecDepth 100000
set_option linter.unusedVariables false
namespace Mine
open PySem PySem.W PyProof.Rows PySem.Calls SeqAt

/-! ## law: the pairs -/
noncomputable def pairsOf (n : Nat) : List (Nat × Nat) := (List.range n).flatMap fun i => (List.range' i (n - i)).map (i, ·)
theorem pairs_lt {n : Nat} {p : Nat × Nat} (h : p ∈ pairsOf n) : p.1 < n ∧ p.2 < n := by
  obtain ⟨i, hi, hp⟩ := List.mem_flatMap.mp h
  obtain ⟨j, hj, rfl⟩ := List.mem_map.mp hp
  rw [List.mem_range'] at hj
  obtain ⟨k, hk, rfl⟩ := hj
  have := List.mem_range.mp hi
  exact ⟨this, by show i + 1 * k < n; lia⟩
theorem pairs_len {n : Nat} (h : n ≤ 7) : (pairsOf n).length < 100000 := by
  have : ∀ n, n < 8 → (pairsOf n).length < 100000 := by decide +kernel
  exact this n (by lia)
section
variable {prog : Program} {w : World} {A : Around} {E : Value → Shared → Prop} {s : Shared} {g : Vw} {S : Heap} {mg mb : Str → Option Value} {B : Base} {L a : Addr} {cd : Value} {mu : List (Addr × Obj)} {m cm : Str → Option Value}
set_option maxHeartbeats 4000000 in
theorem r_pairs {d n : Nat} {elt : Expr} {pi pj p1 p2 p3 p4 p5 p6 p7 : Pos} {scope : Scope} {pos : Pos} {cl : List (Str × Addr)} {tn : Tok} {Q : Value → Shared → Prop} (G : LawG S mg mb) (I : IF B g mu L m (lawCs L) cm s) (hT : B.T = S.get?) (r : Room A (d + 6)) (h7 : n ≤ 7) (hsz : cm (Str.ofString "size") = some (.int (n : Nat) tn))
    (hclos : closureFor scope (lawEnv L a cd) = pure cl) (hkind : scope.kind = .function) (hsc : (scope.names.all fun y => y.2 != .cell && (y.2 != .local || scope.names.lookup y.1 == some .local)) = true)
    (ki : ∀ C, (compEnvC scope cl C (lawEnv L a cd)).kindOf (Str.ofString "i") = some .local) (kj : ∀ C, (compEnvC scope cl C (lawEnv L a cd)).kindOf (Str.ofString "j") = some .local)
    (kr : ∀ C, (compEnvC scope cl C (lawEnv L a cd)).kindOf (Str.ofString "range") = some .globalImplicit) (ks : ∀ C, (compEnvC scope cl C (lawEnv L a cd)).kindOf (Str.ofString "size") = some .cell)
    (kc : cl.lookup (Str.ofString "size") = some (L + 1 + 1 + 1 + 1)) (f : Nat × Nat → Str)
    (helt : ∀ B' C g' mC s' i j ti tj, Inn B B' g' (lawCs L) cm mu → Le g g' → IF B' g' [] C mC [] (fun _ => none) s' → mC (Str.ofString "i") = some (.int (i : Nat) ti) → mC (Str.ofString "j") = some (.int (j : Nat) tj) → i < n → j < n →
      wpAny (model prog w) A (eval elt (compEnvC scope cl C (lawEnv L a cd))) (fun z s6 => ∃ g4, IF B' g4 [] C mC [] (fun _ => none) s6 ∧ StrV z (f (i, j))) NoE s')
    (h : ∀ v g' s', IF B g' mu L m (lawCs L) cm s' → Le g g' → StrsV g' v ((pairsOf n).map f) → Q v s') :
    wpAny (model prog w) A (eval (.ListComp elt [⟨.Name "i" pi, .Call (.Name "range" p1) [.Name "size" p2] [] p3, [], 0⟩, ⟨.Name "j" pj, .Call (.Name "range" p4) [.Name "i" p5, .Name "size" p6] [] p7, [], 0⟩] scope pos) (lawEnv L a cd)) Q NoE s := by
  have ST := G.G.st
  refine r_comp2 hclos hkind hsc (List.range n) (fun i => List.range' i (n - i)) (fun _ v p => StrV v (f p)) (fun _ _ _ _ _ q => q) (pairs_len h7) ?_
  refine r_callT I ST hT (by rfl) (by rfl) (by rfl) (by rfl) (G.G.no "range" (.tail _ (.tail _ (.tail _ (.head _))))) (by rfl) (by decide) (by decide) (by rfl) (by rfl) (by rfl) ?_
  refine r_items (by rfl) (r_cell (by rfl) (by rfl) (by rfl) (I.rd (.head _) (by exact hsz)) (by decide) (r_items0 ?_))
  refine b_range1 I r.handled (by lia) ?_
  intro v s1 hv
  refine hv _ _ _ fun it s2 X => ⟨B, L, _, _, _, _, g, _, by
    have q := X; rw [show n = (List.range n).length by simp] at q; exact q, ?_, ?_⟩
  · intro C D B' g' oD mC s i v i0 hpin le hi0 hP CSt
    obtain ⟨ti, rfl⟩ := hP
    have hi : i0 = i ∧ i < n := by
      have := List.getElem?_eq_some_iff.mp hi0
      obtain ⟨h1, h2⟩ := this
      rw [List.getElem_range] at h2
      exact ⟨h2.symm, by simpa using h1⟩
    obtain ⟨rfl, hin⟩ := hi
    rw [Nat.zero_add]
    obtain ⟨B2, inn, I, close⟩ := CSt.open_
    have hT2 : B2.T = S.get? := inn.T.trans (hpin.T.trans hT)
    refine a_name (r_storeLocal I (by exact hkind) (ki C) ?_)
    intro s3 I
    refine r_callT I ST hT2 (by exact hkind) (by rfl) (by rfl) (kr C) (G.G.no "range" (.tail _ (.tail _ (.tail _ (.head _))))) (by rfl) (by decide) (by decide) (by rfl) (by rfl) (by rfl) ?_
    refine r_items (by rfl) (r_local I (by exact hkind) (ki C) (by rfl) (by decide) ?_)
    refine r_items (by rfl) (r_cell (by exact hkind) (ks C) (by exact kc) (inn.rd I (.head _) (by exact hsz)) (by decide) (r_items0 ?_))
    obtain ⟨oC, IC, hns⟩ := close I
    refine b_range2 IC r.handled (by lia) (by lia) ?_
    intro v2 s4 hv2
    refine hv2 _ _ _ fun it2 s5 X2 => ⟨_, g', _, fun mC => mC (Str.ofString "i") = some (.int (i0 : Nat) ti), Le.refl _, by
      have q := csrc_of (nu := []) IC hns X2
      rw [show n - i0 = (List.range' i0 (n - i0)).length by simp] at q
      exact q, by rfl, ?_⟩
    intro B3 g3 mC' s' j v' j0 inn3 le3 hj hP' hKM I
    obtain ⟨tj, rfl⟩ := hP'
    have hj' : j0 = i0 + j ∧ i0 + j < n := by
      obtain ⟨h1, h2⟩ := List.getElem?_eq_some_iff.mp hj
      rw [List.length_range'] at h1
      rw [List.getElem_range'] at h2
      exact ⟨by lia, by lia⟩
    obtain ⟨rfl, hjn⟩ := hj'
    refine a_name (r_storeLocal I (by exact hkind) (kj C) ?_)
    intro s6 I
    refine wpAny_mono (helt B3 C g3 _ s6 i0 (i0 + j) ti tj (inn3.pin hpin) (le.trans le3) I (by show (if _ then _ else _) = _; rw [if_neg (by decide)]; exact hKM) (by rfl) hin hjn) (fun z s7 hz => ?_) fun _ _ q => q
    obtain ⟨g4, I4, hz⟩ := hz
    exact ⟨g4, _, I4, by show (if _ then _ else _) = _; rw [if_neg (by decide)]; exact hKM, hz⟩
  intro D g2 zs k s3 le2 I oD hzs
  have lf := le_put (o := lo zs k) (I.muH _ (.head _)).2.1
  have J := I.freeze oD
  have eD := put_self g2 D (lo zs k)
  refine h (.ref D) _ s3 J (le2.trans lf) ⟨D, zs, k, rfl, eD, ?_⟩
  have : ∀ {vs : List Value} {ps : List (Nat × Nat)}, All₂ (fun v p => StrV v (f p)) vs ps → All₂ StrV vs (ps.map f) := by
    intro vs ps hh
    induction hh with
    | nil => exact .nil
    | cons h _ ih => exact .cons h ih
  exact this hzs
end
end Mine
set_option Elab.async false
set_option maxRecDepth 100000
set_option linter.unusedVariables false
namespace Mine
open PySem PySem.W PyProof.Rows PySem.Calls SeqAt

/-! ## Plain law: paths of a chain -/
structure XOK (x : Str) : Prop where
  names : (chS x).map namesS = prefs (namesS x)
  ok : ∀ z ∈ chS x, TextOK z
theorem XOK.self {x : Str} (h : XOK x) : TextOK x := h.ok x (chnS.self x)
theorem row_x {t : Trip} (h : RowOK t) {z : Str} (hz : z ∈ (rowT t).map tx) : TextOK z := by
  obtain ⟨u, hu, rfl⟩ := List.mem_map.mp hz
  exact code_ok (h.codes u hu)
theorem prefs_get {ns : List (List Nat)} {i : Nat} (hi : i < ns.length) : (prefs ns)[i]? = some (ns.take (ns.length - i)) := by
  unfold prefs
  rw [List.getElem?_map, List.getElem?_range hi]; rfl
theorem prefs_len (ns : List (List Nat)) : (prefs ns).length = ns.length := by simp [prefs]
theorem mem_prefs {ns q : List (List Nat)} : q ∈ prefs ns ↔ ∃ k, 1 ≤ k ∧ k ≤ ns.length ∧ q = ns.take k := by
  unfold prefs
  rw [List.mem_map]
  constructor
  · rintro ⟨j, hj, rfl⟩
    have := List.mem_range.mp hj
    exact ⟨ns.length - j, by lia, by lia, rfl⟩
  · rintro ⟨k, h1, h2, rfl⟩
    exact ⟨ns.length - k, List.mem_range.mpr (by lia), by congr 1; lia⟩
theorem xok_start {t : Trip} (h : RowOK t) : XOK (tx t) := by
  have e := row_texts h
  refine ⟨?_, fun z hz => row_x h (by rw [e]; exact hz)⟩
  rw [← e, List.map_map, (code_NL h.self).1, ← h.names]
  exact List.map_congr_left fun u hu => (code_NL (h.codes u hu)).1
/-- a text further up the chain is well too -/
theorem XOK.up {x z : Str} (h : XOK x) (hz : z ∈ chS x) : XOK z := by
  obtain ⟨p, hp⟩ := chnS.suf x z hz
  obtain ⟨t, ht⟩ := chnS.cons z
  refine ⟨?_, fun w hw => h.ok w (by rw [hp]; exact List.mem_append_right _ hw)⟩
  have e := h.names
  rw [hp, List.map_append] at e
  have hl := congrArg List.length e
  rw [List.length_append, List.length_map, List.length_map, prefs_len] at hl
  have hlen : (chS z).length ≥ 1 := by rw [ht]; simp
  have hz0 : namesS z = (namesS x).take ((namesS x).length - p.length) := by
    have g1 : ((p.map namesS) ++ (chS z).map namesS)[p.length]? = some (namesS z) := by
      rw [List.getElem?_append_right (by simp), List.length_map, Nat.sub_self, ht]; rfl
    rw [e, prefs_get (by lia)] at g1
    exact (Option.some.inj g1).symm
  have hzl : (namesS z).length = (namesS x).length - p.length := by rw [hz0, List.length_take]; lia
  refine List.ext_getElem? fun i => ?_
  by_cases hi : i < (chS z).length
  · have g1 : ((p.map namesS) ++ (chS z).map namesS)[p.length + i]? = ((chS z).map namesS)[i]? := by
      rw [List.getElem?_append_right (by simp), List.length_map, Nat.add_sub_cancel_left]
    rw [← g1, e, prefs_get (by lia), prefs_get (by lia), hz0, List.take_take]
    congr 2
    rw [List.length_take]
    lia
  · rw [List.getElem?_eq_none (by rw [List.length_map]; lia), List.getElem?_eq_none (by rw [prefs_len]; lia)]
theorem names_inj {x y : Str} (hx : TextOK x) (hy : TextOK y) (h : namesS x = namesS y) : x = y := by rw [← hx.back, ← hy.back, h]
theorem chain_take {x z : Str} (h : XOK x) (hz : z ∈ chS x) : ∃ k, 1 ≤ k ∧ k ≤ (namesS x).length ∧ namesS z = (namesS x).take k := by
  have : namesS z ∈ prefs (namesS x) := by rw [← h.names]; exact List.mem_map_of_mem hz
  exact mem_prefs.mp this
theorem take_chain {x : Str} (h : XOK x) {k : Nat} (h1 : 1 ≤ k) (h2 : k ≤ (namesS x).length) : ∃ z ∈ chS x, namesS z = (namesS x).take k := by
  have : (namesS x).take k ∈ (chS x).map namesS := by rw [h.names]; exact mem_prefs.mpr ⟨k, h1, h2, rfl⟩
  obtain ⟨z, hz, e⟩ := List.mem_map.mp this
  exact ⟨z, hz, e⟩
theorem cpre_max {α : Type} [DecidableEq α] : ∀ (a b : List α) (k : Nat), a.take k = b.take k → k ≤ a.length → k ≤ b.length → k ≤ (cpre a b).length
  | _, _, 0, _, _, _ => Nat.zero_le _
  | [], _, k + 1, _, h, _ => by simp at h
  | _ :: _, [], k + 1, _, _, h => by simp at h
  | x :: xs, y :: ys, k + 1, h, h1, h2 => by
    simp only [List.take_succ_cons, List.cons.injEq] at h
    simp only [cpre, if_pos h.1, List.length_cons] at h1 h2 ⊢
    have := cpre_max xs ys k h.2 (by lia) (by lia)
    lia
theorem cpre_len {α : Type} [DecidableEq α] (a b : List α) : cpre a b = a.take (cpre a b).length ∧ (cpre a b).length ≤ a.length ∧ cpre a b = b.take (cpre a b).length ∧ (cpre a b).length ≤ b.length := by
  have one : ∀ a b : List α, cpre a b = a.take (cpre a b).length ∧ (cpre a b).length ≤ a.length := fun a b => by
    obtain ⟨k, hk⟩ := cpre_take a b
    have hl := congrArg List.length hk
    rw [List.length_take] at hl
    refine ⟨?_, by lia⟩
    conv => lhs; rw [hk]
    rw [hl, ← List.take_take, List.take_length]
  obtain ⟨h1, h2⟩ := one a b
  obtain ⟨h3, h4⟩ := one b a
  rw [cpre_comm b a] at h3 h4
  exact ⟨h1, h2, h3, h4⟩
theorem prefs_desc (ns : List (List Nat)) : (prefs ns).Pairwise fun p q => q.length < p.length := by
  rw [List.pairwise_iff_getElem]
  intro i j hi hj hij
  rw [prefs_len] at hi hj
  have e1 := prefs_get hi
  have e2 := prefs_get hj
  rw [List.getElem?_eq_some_iff] at e1 e2
  obtain ⟨_, e1⟩ := e1
  obtain ⟨_, e2⟩ := e2
  rw [e1, e2, List.length_take, List.length_take]
  lia
theorem meet_law {x y : Str} (hx : XOK x) (hy : XOK y) : 47 :: joinL (cpre (namesS x) (namesS y)) = meetL (fun z => pathL (namesS z)) (chS x) (chS y) := by
  obtain ⟨q1, q2, q3, q4⟩ := cpre_len (namesS x) (namesS y)
  generalize hq : cpre (namesS x) (namesS y) = q at *
  have both : q ≠ [] → ∃ z ∈ chS x, z ∈ chS y ∧ namesS z = q := fun hne => by
    have h1 : 1 ≤ q.length := List.length_pos_iff.mpr hne
    obtain ⟨z, hz, e⟩ := take_chain hx h1 q2
    obtain ⟨z', hz', e'⟩ := take_chain hy h1 q4
    rw [← q1] at e
    rw [← q3] at e'
    have : z = z' := names_inj (hx.ok z hz) (hy.ok z' hz') (e.trans e'.symm)
    exact ⟨z, hz, this ▸ hz', e⟩
  unfold meetL
  cases hf : (chS x).find? (fun z => decide (z ∈ chS y)) with
  | none =>
    rw [List.find?_eq_none] at hf
    have : q = [] := by
      by_cases hne : q = []
      · exact hne
      · obtain ⟨z, hz, hz', _⟩ := both hne
        exact absurd (decide_eq_true hz') (hf z hz)
    rw [this]; rfl
  | some w =>
    obtain ⟨hw, as, bs, hs, hb⟩ := List.find?_eq_some_iff_append.mp hf
    have hwx : w ∈ chS x := by rw [hs]; simp
    have hwy : w ∈ chS y := of_decide_eq_true hw
    obtain ⟨j, j1, j2, ej⟩ := chain_take hx hwx
    obtain ⟨j', j1', j2', ej'⟩ := chain_take hy hwy
    have jj : j = j' := by
      have := congrArg List.length (ej.symm.trans ej')
      rw [List.length_take, List.length_take] at this
      lia
    subst jj
    have hj : j ≤ q.length := by rw [← hq]; exact cpre_max _ _ j (ej.symm.trans ej') j2 j2'
    have hne : q ≠ [] := by intro e; rw [e] at hj; simp at hj; lia
    obtain ⟨z, hz, hz', ez⟩ := both hne
    have hd := prefs_desc (namesS x)
    rw [← hx.names, hs, List.map_append, List.map_cons] at hd
    have hzs := hz
    rw [hs] at hzs
    have : namesS w = q := by
      rcases List.mem_append.mp hzs with h | h
      · have := hb z h
        simp [hz'] at this
      · rcases List.mem_cons.mp h with rfl | h
        · exact ez
        · have hd2 := (List.pairwise_append.mp hd).2.1
          rw [List.pairwise_cons] at hd2
          have := hd2.1 _ (List.mem_map_of_mem h)
          rw [ez, ej, List.length_take] at this
          lia
    show _ = pathL (namesS w)
    rw [this, path_cons hne]
theorem path_take_lt : ∀ (ns : List (List Nat)) (k : Nat), k < ns.length → (pathL (ns.take k)).length < (pathL ns).length
  | [], k, h => by simp at h
  | a :: r, 0, _ => by simp [pathL]
  | a :: r, k + 1, h => by
    have := path_take_lt r k (by simpa using h)
    have e : ∀ (a : List Nat) (r : List (List Nat)), (pathL (a :: r)).length = a.length + 1 + (pathL r).length := fun a r => by simp [pathL]; lia
    rw [List.take_succ_cons, e, e]
    lia
theorem rule_cond {x y : Str} (hx : XOK x) (hy : XOK y) : 47 :: joinL (cpre (namesS x) (namesS y)) = pathL (namesS x) ↔ x ∈ chS y := by
  obtain ⟨q1, q2, q3, q4⟩ := cpre_len (namesS x) (namesS y)
  constructor
  · intro h
    have hne : cpre (namesS x) (namesS y) ≠ [] := by
      intro e
      rw [e] at h
      have hl := congrArg List.length h
      have ne := hx.self.ne
      have ok := hx.self.ok
      cases hn : namesS x with
      | nil => exact ne hn
      | cons a r =>
        rw [hn] at hl ok
        have := (ok a (.head _)).1
        have : a.length ≥ 1 := List.length_pos_iff.mpr this
        have e : (pathL (a :: r)).length = a.length + 1 + (pathL r).length := by simp [pathL]; lia
        have hl' : 1 = (pathL (a :: r)).length := hl
        lia
    rw [← path_cons hne] at h
    have hk : (cpre (namesS x) (namesS y)).length = (namesS x).length := by
      by_cases lt : (cpre (namesS x) (namesS y)).length < (namesS x).length
      · have := path_take_lt _ _ lt
        rw [← q1, h] at this
        lia
      · lia
    have h1 : 1 ≤ (cpre (namesS x) (namesS y)).length := List.length_pos_iff.mpr hne
    obtain ⟨z, hz, ez⟩ := take_chain hy h1 q4
    rw [← q3] at ez
    have e2 : namesS x = cpre (namesS x) (namesS y) := by
      conv => rhs; rw [q1, hk, List.take_length]
    have : z = x := names_inj (hy.ok z hz) hx.self (ez.trans e2.symm)
    rw [← this]; exact hz
  · intro h
    obtain ⟨k, k1, k2, ek⟩ := chain_take hy h
    have : cpre (namesS x) (namesS y) = namesS x := cpre_all _ _ (by
      have hl : (namesS x).length = k := by rw [ek, List.length_take]; lia
      rw [hl]; exact ek)
    rw [this, path_cons hx.self.ne]
theorem depth_lt {x y : Str} (hx : XOK x) (h : y ∈ chS x) (hne : y ≠ x) : (pathL (namesS y)).length < (pathL (namesS x)).length := by
  obtain ⟨k, k1, k2, ek⟩ := chain_take hx h
  have : k < (namesS x).length := by
    by_cases e : k = (namesS x).length
    · rw [e, List.take_length] at ek
      exact absurd (names_inj (hx.ok y h) hx.self ek) hne
    · lia
  rw [ek]
  exact path_take_lt _ _ this
end Mine
set_option Elab.async false
set_option maxRecDepth 100000
set_option linter.unusedVariables false
namespace Mine
open PySem PySem.W PyProof.Rows PySem.Calls SeqAt

/-! ## Plain law: the order of the merged texts -/
theorem since_at {rows : List (List Str)} {row : List Str} {r : List Str} (hr : r ∈ rows) (h : row.headD default ∈ r) :
    ∃ (hk : sinceL rows row < rows.length), row.headD default ∈ rows[sinceL rows row] ∧ ∀ (i : Nat) (hi : i < rows.length), row.headD default ∈ rows[i] → sinceL rows row ≤ i := by
  unfold sinceL
  obtain ⟨k, hk⟩ : ∃ k, (rows.map fun o => decide (row.headD default ∈ o)).findIdx? id = some k := by
    have : ((rows.map fun o => decide (row.headD default ∈ o)).findIdx? id).isSome = true := by
      rw [List.findIdx?_isSome, List.any_eq_true]
      exact ⟨true, List.mem_map.mpr ⟨r, hr, decide_eq_true h⟩, rfl⟩
    exact Option.isSome_iff_exists.mp this
  rw [hk]
  obtain ⟨h1, h2, h3⟩ := List.findIdx?_eq_some_iff_getElem.mp hk
  rw [List.length_map] at h1
  refine ⟨h1, by simpa using h2, fun i hi hm => ?_⟩
  show k ≤ i
  by_cases q : i < k
  · have := h3 i q
    rw [List.getElem_map] at this
    exact absurd (decide_eq_true hm) this
  · lia
theorem lateRow_at (n : Int) : ∀ (row : List Str) (f : Str → Option Int) (y : Str), lateRow n f row y = if y ∈ row then some (max ((f y).getD 0) n) else f y
  | [], f, y => by simp [lateRow]
  | x :: row, f, y => by
    show lateRow n (lateStep n f x) row y = _
    rw [lateRow_at n row]
    unfold lateStep
    by_cases q : y = x
    · subst q
      simp only [if_true, List.mem_cons, true_or]
      split
      · simp
      · rfl
    · simp only [List.mem_cons, q, false_or, if_false]
theorem late_at (all : List (List Str)) : ∀ (l : List (List Str)) (y : Str) ,
    ((∀ r ∈ l, y ∉ r) → lateL all l y = none) ∧ ((∃ r ∈ l, y ∈ r) → ∃ r ∈ l, y ∈ r ∧ lateL all l y = some ((sinceL all r : Nat) : Int) ∧ ∀ r' ∈ l, y ∈ r' → sinceL all r' ≤ sinceL all r) := by
  intro l y
  have key : ∀ n, ∀ l : List (List Str), l.length = n → ((∀ r ∈ l, y ∉ r) → lateL all l y = none) ∧ ((∃ r ∈ l, y ∈ r) → ∃ r ∈ l, y ∈ r ∧ lateL all l y = some ((sinceL all r : Nat) : Int) ∧ ∀ r' ∈ l, y ∈ r' → sinceL all r' ≤ sinceL all r) := by
    intro n
    induction n with
    | zero =>
      intro l hl
      obtain rfl := List.length_eq_zero_iff.mp hl
      exact ⟨fun _ => rfl, fun ⟨_, h, _⟩ => nomatch h⟩
    | succ n ih =>
      intro l hl
      rcases List.eq_nil_or_concat l with rfl | ⟨l, r, rfl⟩
      · simp at hl
      · rw [List.concat_eq_append] at hl ⊢
        have hl' : l.length = n := by simpa using hl
        obtain ⟨i1, i2⟩ := ih l hl'
        have e : lateL all (l ++ [r]) y = if y ∈ r then some (max ((lateL all l y).getD 0) ((sinceL all r : Nat) : Int)) else lateL all l y := by
          unfold lateL
          rw [List.foldl_append]
          exact lateRow_at _ _ _ _
        rw [e]
        refine ⟨fun h => ?_, fun _ => ?_⟩
        · rw [if_neg (h r (by simp))]
          exact i1 fun r' hr' => h r' (List.mem_append_left _ hr')
        · rename_i hex
          by_cases q : y ∈ r
          · rw [if_pos q]
            by_cases z : ∃ r ∈ l, y ∈ r
            · obtain ⟨r0, h0, hy0, hv, hm⟩ := i2 z
              rw [hv]
              by_cases c : sinceL all r0 ≤ sinceL all r
              · refine ⟨r, by simp, q, by simp only [Option.getD_some]; congr 1; try lia, fun r' hr' hy' => ?_⟩
                rcases List.mem_append.mp hr' with hr' | hr'
                · exact Nat.le_trans (hm r' hr' hy') c
                · rw [List.mem_singleton.mp hr']; exact Nat.le_refl _
              · refine ⟨r0, List.mem_append_left _ h0, hy0, by simp only [Option.getD_some]; congr 1; try lia, fun r' hr' hy' => ?_⟩
                rcases List.mem_append.mp hr' with hr' | hr'
                · exact hm r' hr' hy'
                · rw [List.mem_singleton.mp hr']; lia
            · have := i1 fun r' hr' hy' => z ⟨r', hr', hy'⟩
              rw [this]
              refine ⟨r, by simp, q, by simp only [Option.getD_none]; congr 1; try lia, fun r' hr' hy' => ?_⟩
              rcases List.mem_append.mp hr' with hr' | hr'
              · exact absurd ⟨r', hr', hy'⟩ z
              · rw [List.mem_singleton.mp hr']; exact Nat.le_refl _
          · rw [if_neg q]
            have z : ∃ r ∈ l, y ∈ r := by
              obtain ⟨r', hr', hy'⟩ := hex
              rcases List.mem_append.mp hr' with hr' | hr'
              · exact ⟨r', hr', hy'⟩
              · rw [List.mem_singleton.mp hr'] at hy'; exact absurd hy' q
            obtain ⟨r0, h0, hy0, hv, hm⟩ := i2 z
            refine ⟨r0, List.mem_append_left _ h0, hy0, hv, fun r' hr' hy' => ?_⟩
            rcases List.mem_append.mp hr' with hr' | hr'
            · exact hm r' hr' hy'
            · rw [List.mem_singleton.mp hr'] at hy'; exact absurd hy' q
  exact key _ l rfl
theorem since_le {all : List (List Str)} : True := trivial

section
variable {ch : Str → List Str} (H : Chn ch) {rows : List (List Str)} (F : Fam ch rows)
include H
theorem head_ch (x : Str) : (ch x).headD default = x := by obtain ⟨t, ht⟩ := H.cons x; rw [ht]; rfl
theorem chain_pair : ∀ (n : Nat) (z : Str), (ch z).length ≤ n → (ch z).Pairwise fun x y => y ∈ ch x ∧ y ≠ x
  | n, z, hn => by
    obtain ⟨t, ht⟩ := H.cons z
    have nd := H.nd z
    rw [ht] at nd hn ⊢
    rw [List.nodup_cons] at nd
    rw [List.pairwise_cons]
    refine ⟨fun y hy => ⟨by rw [ht]; exact .tail _ hy, fun e => nd.1 (e ▸ hy)⟩, ?_⟩
    cases t with
    | nil => exact .nil
    | cons p t =>
      have := H.tail ht
      rw [← this]
      cases n with
      | zero => simp at hn
      | succ n => exact chain_pair n p (by rw [this]; simp at hn ⊢; lia)
theorem mem_takeWhile (rest : List (List Str)) (hrest : Fam ch rest) (x : Str) (hx : inLater rest x = false) : ∀ (n : Nat) (z : Str), (ch z).length ≤ n → x ∈ ch z → x ∈ (ch z).takeWhile fun t => !inLater rest t
  | n, z, hn, hxz => by
    obtain ⟨t, ht⟩ := H.cons z
    have hz : inLater rest z = false := by
      rw [Bool.eq_false_iff]
      intro q
      unfold inLater at q hx
      rw [List.any_eq_true] at q
      rw [List.any_eq_false] at hx
      obtain ⟨l, hl, hzl⟩ := q
      obtain ⟨h', rfl⟩ := hrest l hl
      obtain ⟨p, hp⟩ := H.suf h' z (of_decide_eq_true hzl)
      exact hx _ hl (decide_eq_true (by rw [hp]; exact List.mem_append_right _ hxz))
    rw [ht] at hxz hn ⊢
    rw [List.takeWhile_cons, hz]
    simp only [Bool.not_false, if_true]
    rcases List.mem_cons.mp hxz with rfl | hxt
    · exact .head _
    · cases t with
      | nil => cases hxt
      | cons p t =>
        have e := H.tail ht
        cases n with
        | zero => simp at hn
        | succ n =>
          have := mem_takeWhile rest hrest x hx n p (by rw [e]; simp at hn ⊢; lia) (by rw [e]; exact hxt)
          rw [e] at this
          exact .tail _ this
theorem mem_told : ∀ (Es : List (List Str)), Fam ch Es → ∀ x, x ∈ toldE Es ↔ ∃ e ∈ Es, x ∈ e
  | [], _, x => by simp [toldE]
  | e :: rest, hF, x => by
    have hr : Fam ch rest := fun r hr => hF r (.tail _ hr)
    have ih := mem_told rest hr x
    show x ∈ e.takeWhile _ ++ toldE rest ↔ _
    rw [List.mem_append, ih]
    constructor
    · rintro (h | ⟨e', he', hx⟩)
      · exact ⟨e, .head _, (List.takeWhile_sublist _).mem h⟩
      · exact ⟨e', .tail _ he', hx⟩
    · rintro ⟨e', he', hx⟩
      rcases List.mem_cons.mp he' with rfl | he'
      · by_cases q : inLater rest x = true
        · unfold inLater at q
          rw [List.any_eq_true] at q
          obtain ⟨l, hl, hxl⟩ := q
          exact .inr ⟨l, hl, of_decide_eq_true hxl⟩
        · obtain ⟨z, rfl⟩ := hF e' (.head _)
          exact .inl (mem_takeWhile H rest hr x (by simpa using q) _ z (Nat.le_refl _) hx)
      · exact .inr ⟨e', he', hx⟩
include F
theorem ends_mem {e : List Str} (he : e ∈ endsL rows) : e ∈ rows ∧ mx rows e = true := by
  rw [endsL_dd, mem_ddF, List.mem_filter] at he
  rcases he with h | h
  · cases h
  · exact h
theorem mem_ends {e : List Str} (h1 : e ∈ rows) (h2 : mx rows e = true) : e ∈ endsL rows := by
  rw [endsL_dd, mem_ddF, List.mem_filter]
  exact .inr ⟨h1, h2⟩
/-- the first row that holds an end's head is that end -/
theorem since_end {e : List Str} (h1 : e ∈ rows) (h2 : mx rows e = true) : ∃ (hk : sinceL rows e < rows.length), rows[sinceL rows e] = e ∧ ∀ (i : Nat) (hi : i < rows.length), rows[i] = e → sinceL rows e ≤ i := by
  obtain ⟨x, rfl⟩ := F e h1
  obtain ⟨hk, a, b⟩ := since_at (row := ch x) h1 (by rw [head_ch H]; exact H.self x)
  rw [head_ch H] at a b
  refine ⟨hk, ?_, fun i hi he => b i hi (by rw [he]; exact H.self x)⟩
  obtain ⟨y, hy⟩ := F _ (List.getElem_mem hk)
  rw [hy] at a ⊢
  obtain ⟨t, ht⟩ := H.cons y
  rw [ht] at a
  rcases List.mem_cons.mp a with rfl | a
  · rfl
  · have := (mx_ch H).mp h2 _ (List.getElem_mem hk)
    rw [hy, ht] at this
    exact absurd a this
theorem ends_up : (endsL rows).Pairwise fun a b => sinceL rows a < sinceL rows b := by
  have aux : ∀ (n : Nat), n ≤ rows.length → (∀ e ∈ (rows.take n).foldl (endStep rows) [], e ∈ rows ∧ mx rows e = true ∧ sinceL rows e < n) ∧ (∀ (i : Nat) (hi : i < rows.length), i < n → mx rows rows[i] = true → rows[i] ∈ (rows.take n).foldl (endStep rows) []) ∧
      ((rows.take n).foldl (endStep rows) []).Pairwise fun a b => sinceL rows a < sinceL rows b := by
    intro n
    induction n with
    | zero => intro _; exact ⟨fun e he => (nomatch he), fun i _ h => (by lia), .nil⟩
    | succ n ih =>
      intro hn
      obtain ⟨i1, i2, i3⟩ := ih (by lia)
      have hx : rows[n]? = some rows[n] := List.getElem?_eq_getElem (by lia)
      rw [List.take_add_one, hx, Option.toList_some, List.foldl_append]
      show (∀ e ∈ endStep rows ((rows.take n).foldl (endStep rows) []) rows[n], _) ∧ (∀ (i : Nat) (hi : i < rows.length), i < n + 1 → mx rows rows[i] = true → rows[i] ∈ endStep rows ((rows.take n).foldl (endStep rows) []) rows[n]) ∧ (endStep rows ((rows.take n).foldl (endStep rows) []) rows[n]).Pairwise _
      generalize (rows.take n).foldl (endStep rows) [] = es at i1 i2 i3 ⊢
      have hm : rows[n] ∈ rows := List.getElem_mem _
      unfold endStep
      by_cases q : rows.filter (isBelow rows[n]) = [] ∧ rows[n] ∉ es
      · rw [if_pos q]
        have hmx : mx rows rows[n] = true := by simp [mx, q.1]
        obtain ⟨hk, a, b⟩ := since_end H F hm hmx
        have hs : sinceL rows rows[n] = n := by
          have le := b n (by lia) rfl
          by_cases lt : sinceL rows rows[n] < n
          · exact absurd (by have := i2 (sinceL rows rows[n]) hk lt (by rw [a]; exact hmx); rw [a] at this; exact this) q.2
          · lia
        refine ⟨fun e he => ?_, fun i hi hin hmi => ?_, ?_⟩
        · rcases List.mem_append.mp he with he | he
          · obtain ⟨h1, h2, h3⟩ := i1 e he; exact ⟨h1, h2, by lia⟩
          · rw [List.mem_singleton.mp he]; exact ⟨hm, hmx, by lia⟩
        · by_cases e : i = n
          · subst e; simp
          · exact List.mem_append_left _ (i2 i hi (by lia) hmi)
        · rw [List.pairwise_append]
          refine ⟨i3, List.pairwise_singleton _ _, fun a ha b hb => ?_⟩
          rw [List.mem_singleton.mp hb, hs]
          exact (i1 a ha).2.2
      · rw [if_neg q]
        refine ⟨fun e he => ?_, fun i hi hin hmi => ?_, i3⟩
        · obtain ⟨h1, h2, h3⟩ := i1 e he; exact ⟨h1, h2, by lia⟩
        · by_cases e : i = n
          · subst e
            have h1 : rows.filter (isBelow rows[i]) = [] := by simpa [mx] using hmi
            exact Classical.byContradiction fun hn => q ⟨h1, hn⟩
          · exact i2 i hi (by lia) hmi
  have := (aux rows.length (Nat.le_refl _)).2.2
  rw [List.take_length] at this
  exact this
theorem told_dom {x : Str} : x ∈ toldE (endsL rows) ↔ ∃ r ∈ rows, x ∈ r := by
  rw [mem_told H (endsL rows) fun e he => F e (ends_mem H F he).1]
  constructor
  · rintro ⟨e, he, hx⟩; exact ⟨e, (ends_mem H F he).1, hx⟩
  · rintro ⟨r, hr, hx⟩
    obtain ⟨e, h1, h2, h3⟩ := dom H F hr
    exact ⟨e, mem_ends H F h1 h2, h3 x hx⟩
/-- merged texts stand in the order of a rule that puts what lies deeper first, then the earlier end -/
theorem told_pair {R : Str → Str → Prop} (deep : ∀ x y, (∃ r ∈ rows, x ∈ r) → y ∈ ch x → y ≠ x → R x y)
    (apart : ∀ x y a b, (∃ r ∈ rows, x ∈ r) → (∃ r ∈ rows, y ∈ r) → x ∉ ch y → y ∉ ch x → lateL rows rows x = some a → lateL rows rows y = some b → a < b → R x y) : (toldE (endsL rows)).Pairwise R := by
  have aux : ∀ (Es pre : List (List Str)), endsL rows = pre ++ Es → (toldE Es).Pairwise R := by
    intro Es
    induction Es with
    | nil => intro _ _; exact .nil
    | cons e rest ih =>
      intro pre hpre
      have hin : ∀ e' ∈ e :: rest, e' ∈ rows ∧ mx rows e' = true := fun e' he' => ends_mem H F (by rw [hpre]; exact List.mem_append_right _ he')
      obtain ⟨h1, h2⟩ := hin e (.head _)
      obtain ⟨z, hz⟩ := F e h1
      show (e.takeWhile _ ++ toldE rest).Pairwise R
      rw [List.pairwise_append]
      refine ⟨?_, ih (pre ++ [e]) (by rw [hpre]; simp), fun x hx y hy => ?_⟩
      · have hp := (chain_pair H _ z (Nat.le_refl _))
        rw [← hz] at hp
        have hp2 := hp.sublist (List.takeWhile_sublist fun t => !inLater rest t)
        refine hp2.imp_of_mem fun {x y} hx hy h => ?_
        exact deep x y ⟨e, h1, (List.takeWhile_sublist _).mem hx⟩ h.1 h.2
      · have hxe : x ∈ e := (List.takeWhile_sublist _).mem hx
        have hxl : inLater rest x = false := by
          have : ∀ (l : List Str), x ∈ l.takeWhile (fun t => !inLater rest t) → inLater rest x = false := by
            intro l
            induction l with
            | nil => intro h; cases h
            | cons a l ih =>
              intro h
              rw [List.takeWhile_cons] at h
              by_cases q : inLater rest a = true
              · rw [q] at h; cases h
              · have q' : inLater rest a = false := by simpa using q
                rw [q'] at h
                simp only [Bool.not_false, if_true] at h
                rcases List.mem_cons.mp h with rfl | h
                · exact q'
                · exact ih h
          exact this e hx
        have notin : ∀ l ∈ rest, x ∉ l := fun l hl hxl' => by
          unfold inLater at hxl
          rw [List.any_eq_false] at hxl
          exact hxl l hl (decide_eq_true hxl')
        obtain ⟨ek, hek, hyk⟩ := (mem_told H rest (fun r hr => F r (hin r (.tail _ hr)).1) y).mp hy
        obtain ⟨hk1, hk2⟩ := hin ek (.tail _ hek)
        obtain ⟨u, hu⟩ := F ek hk1
        have nxy : x ∉ ch y := fun q => by
          rw [hu] at hyk
          obtain ⟨p, hp⟩ := H.suf u y hyk
          exact notin ek hek (by rw [hu, hp]; exact List.mem_append_right _ q)
        have hne : y ≠ x := fun q => nxy (by rw [q]; exact H.self x)
        by_cases q : y ∈ ch x
        · exact deep x y ⟨e, h1, hxe⟩ q hne
        · obtain ⟨r, hr, hxr, hlx, hmx⟩ := (late_at rows rows x).2 ⟨e, h1, hxe⟩
          obtain ⟨r2, hr2, hyr2, hly, hmy⟩ := (late_at rows rows y).2 ⟨ek, hk1, hyk⟩
          refine apart x y _ _ ⟨e, h1, hxe⟩ ⟨ek, hk1, hyk⟩ nxy q hlx hly ?_
          have g1 := hmy ek hk1 hyk
          obtain ⟨e', he1, he2, he3⟩ := dom H F hr
          have up := ends_up H F
          rw [hpre] at up
          have g2 : sinceL rows e < sinceL rows ek := by
            have := (List.pairwise_append.mp up).2.1
            rw [List.pairwise_cons] at this
            exact this.1 ek hek
          have g3 : sinceL rows e' ≤ sinceL rows e := by
            have hm := mem_ends H F he1 he2
            rw [hpre] at hm
            rcases List.mem_append.mp hm with hm | hm
            · exact Nat.le_of_lt ((List.pairwise_append.mp up).2.2 e' hm e (.head _))
            · rcases List.mem_cons.mp hm with rfl | hm
              · exact Nat.le_refl _
              · exact absurd (he3 x hxr) (notin e' hm)
          have g4 : sinceL rows r ≤ sinceL rows e' := by
            obtain ⟨v, rfl⟩ := F r hr
            obtain ⟨hk, ha, _⟩ := since_end H F he1 he2
            obtain ⟨_, _, hb⟩ := since_at (row := ch v) hr (by rw [head_ch H]; exact H.self v)
            refine hb _ hk ?_
            rw [head_ch H, ha]
            exact he3 v (H.self v)
          have : sinceL rows r < sinceL rows r2 := by lia
          exact Int.ofNat_lt.mpr this
  exact aux _ [] rfl
end
end Mine
set_option Elab.async false
set_option maxRecDepth 100000
set_option linter.unusedVariables false
namespace Mine
open PySem PySem.W PyProof.Rows PySem.Calls SeqAt

/-! ## Plain law: the merge of mapped rows, the sort -/
theorem okC_map {f : Str → Str} {U : Str → Prop} (hf : ∀ x y, U x → U y → f x = f y → x = y) {rs : List (List Str)} (hU : ∀ r ∈ rs, ∀ x ∈ r, U x) {r : List Str} (hr : r ∈ rs) : okC (rs.map (List.map f)) (r.map f) = (okC rs r).map f := by
  cases r with
  | nil => rfl
  | cons h t =>
    show (if _ = true then none else some (f h)) = (if _ = true then none else some h).map f
    have e : (rs.map (List.map f)).any (fun s2 => decide (f h ∈ s2.drop 1)) = rs.any (fun s2 => decide (h ∈ s2.drop 1)) := by
      rw [List.any_map]
      rw [Bool.eq_iff_iff, List.any_eq_true, List.any_eq_true]
      constructor
      · rintro ⟨s2, h2, hm⟩
        have hm' : f h ∈ (s2.map f).drop 1 := of_decide_eq_true hm
        rw [← List.map_drop] at hm'
        obtain ⟨y, hy, e⟩ := List.mem_map.mp hm'
        have : y = h := hf y h (hU s2 h2 y (List.mem_of_mem_drop hy)) (hU _ hr h (.head _)) e
        exact ⟨s2, h2, decide_eq_true (this ▸ hy)⟩
      · rintro ⟨s2, h2, hm⟩
        have hm' := of_decide_eq_true hm
        refine ⟨s2, h2, decide_eq_true ?_⟩
        show f h ∈ (s2.map f).drop 1
        rw [← List.map_drop]
        exact List.mem_map_of_mem hm'
    rw [e]
    split <;> rfl
theorem drop1_map {f : Str → Str} {U : Str → Prop} (hf : ∀ x y, U x → U y → f x = f y → x = y) {c : Str} (hc : U c) {r : List Str} (hr : ∀ x ∈ r, U x) : drop1 (f c) (r.map f) = (drop1 c r).map f := by
  cases r with
  | nil => rfl
  | cons h t =>
    show (if f h = f c then t.map f else f h :: t.map f) = (if h = c then t else h :: t).map f
    by_cases q : h = c
    · rw [if_pos q, if_pos (by rw [q])]
    · rw [if_neg q, if_neg (fun e => q (hf _ _ (hr h (.head _)) hc e))]; rfl
theorem findSome_map {α β γ δ : Type} (g : α → β) (k : γ → δ) (p : α → Option γ) (q : β → Option δ) : ∀ l : List α, (∀ a ∈ l, q (g a) = (p a).map k) → (l.map g).findSome? q = (l.findSome? p).map k
  | [], _ => rfl
  | a :: l, h => by
    rw [List.map_cons, List.findSome?_cons, List.findSome?_cons, h a (.head _)]
    cases p a with
    | none => exact findSome_map g k p q l fun a ha => h a (.tail _ ha)
    | some c => rfl
theorem drop1_sub {c : Str} {r : List Str} {x : Str} (h : x ∈ drop1 c r) : x ∈ r := by
  cases r with
  | nil => cases h
  | cons a t =>
    have : x ∈ (if a = c then t else a :: t) := h
    split at this
    · exact .tail _ this
    · exact this
theorem okC_mem {rs : List (List Str)} {r : List Str} {c : Str} (h : okC rs r = some c) : c ∈ r := by
  cases r with
  | nil => cases h
  | cons a t =>
    have : (if _ = true then none else some a) = some c := h
    split at this
    · cases this
    · cases this; exact .head _
theorem c3_map {f : Str → Str} {U : Str → Prop} (hf : ∀ x y, U x → U y → f x = f y → x = y) : ∀ (n : Nat) (rows : List (List Str)), (∀ r ∈ rows, ∀ x ∈ r, U x) → c3 n (rows.map (List.map f)) = (c3 n rows).map (List.map f)
  | 0, _, _ => rfl
  | n + 1, rows, hU => by
    have e1 : (rows.map (List.map f)).filter full = (rows.filter full).map (List.map f) := by
      rw [List.filter_map]
      congr 1
      exact List.filter_congr fun r _ => by simp [full]
    have hU' : ∀ r ∈ rows.filter full, ∀ x ∈ r, U x := fun r hr => hU r (List.mem_filter.mp hr).1
    unfold c3
    rw [e1]
    generalize rows.filter full = rs at hU' ⊢
    by_cases q : rs = []
    · subst q; rfl
    · rw [if_neg q, if_neg (by simpa using q), findSome_map (List.map f) f (okC rs) (okC (rs.map (List.map f))) rs fun r hr => okC_map hf hU' hr]
      cases hc : rs.findSome? (okC rs) with
      | none => rfl
      | some c =>
        obtain ⟨r0, hr0, hc0⟩ := List.exists_of_findSome?_eq_some hc
        have hcU : U c := hU' r0 hr0 c (okC_mem hc0)
        show (c3 n ((rs.map (List.map f)).map (drop1 (f c)))).map (f c :: ·) = ((c3 n (rs.map (drop1 c))).map (c :: ·)).map (List.map f)
        have e2 : (rs.map (List.map f)).map (drop1 (f c)) = (rs.map (drop1 c)).map (List.map f) := by
          rw [List.map_map, List.map_map]
          exact List.map_congr_left fun r hr => drop1_map hf hcU (hU' r hr)
        rw [e2, c3_map hf n _ fun r hr x hx => by
          obtain ⟨r', hr', rfl⟩ := List.mem_map.mp hr
          exact hU' r' hr' x (drop1_sub hx)]
        cases c3 n (rs.map (drop1 c)) <;> rfl
theorem pathX_inj {x y : Str} (hx : TextOK x) (hy : TextOK y) (h : pathX x = pathX y) : x = y := by
  have e1 := split_names (x := pathX x) (ns := namesS x) (tl_ofL _) hx.ne hx.ok hx.dot
  have e2 := split_names (x := pathX y) (ns := namesS y) (tl_ofL _) hy.ne hy.ok hy.dot
  rw [h] at e1
  exact names_inj hx hy (e1.symm.trans e2)
theorem rows_x {ts : List Trip} (hok : ∀ t ∈ ts, OkT t) {r : List Str} (hr : r ∈ textsS ts) {x : Str} (hx : x ∈ r) : XOK x := by
  obtain ⟨t, ht, rfl⟩ := List.mem_map.mp hr
  have R := row_ok (hok t ht)
  rw [row_texts R] at hx
  exact (xok_start R).up hx
theorem paths_eq {ts : List Trip} (hok : ∀ t ∈ ts, OkT t) : pathsS ts = (textsS ts).map (List.map pathX) := by
  rw [textsS, pathsS, List.map_map]
  refine List.map_congr_left fun t ht => ?_
  show _ = ((rowT t).map tx).map pathX
  rw [List.map_map]
  exact List.map_congr_left fun u hu => pt_path ((row_ok (hok t ht)).codes u hu)
theorem c3_paths {ts : List Trip} (hok : ∀ t ∈ ts, OkT t) (h7 : ts.length ≤ 7) : c3 36 (pathsS ts) = some ((toldE (endsL (textsS ts))).map pathX) := by
  rw [paths_eq hok, c3_map (U := TextOK) (fun x y hx hy h => pathX_inj hx hy h) 36 _ fun r hr x hx => (rows_x hok hr hx).self,
    c3_told chnS 36 _ (famS hok) (by have := total_le hok; lia)]
  rfl

/-! ### the rule -/
theorem rule_neg (N : Str → List (List Nat)) (f : Str → Option Int) (x y : Str) : ruleL N f y x = - ruleL N f x y := by
  unfold ruleL
  rw [cpre_comm (N y) (N x)]
  by_cases c : 47 :: joinL (cpre (N x) (N y)) = pathL (N x) ∨ 47 :: joinL (cpre (N x) (N y)) = pathL (N y)
  · rw [if_pos c, if_pos (Or.comm.mp c)]; lia
  · rw [if_neg c, if_neg (fun q => c (Or.comm.mp q))]; lia
theorem rule_deep {f : Str → Option Int} {x y : Str} (hx : XOK x) (hy : XOK y) (h : y ∈ chS x) (hne : y ≠ x) : ruleL namesS f x y < 0 := by
  unfold ruleL
  have c : 47 :: joinL (cpre (namesS x) (namesS y)) = pathL (namesS y) := by rw [cpre_comm]; exact (rule_cond hy hx).mpr h
  rw [if_pos (.inr c)]
  have := depth_lt hx h hne
  lia
theorem rule_apart {f : Str → Option Int} {x y : Str} {a b : Int} (hx : XOK x) (hy : XOK y) (h1 : x ∉ chS y) (h2 : y ∉ chS x) (ha : f x = some a) (hb : f y = some b) (hab : a < b) : ruleL namesS f x y < 0 := by
  unfold ruleL
  rw [if_neg (fun q => q.elim (fun q => h1 ((rule_cond hx hy).mp q)) fun q => h2 ((rule_cond hy hx).mp (by rw [cpre_comm]; exact q))), ha, hb]
  show a - b < 0
  lia
section
variable {ts : List Trip} (hok : ∀ t ∈ ts, OkT t)
include hok
theorem merged_pair : (toldE (endsL (textsS ts))).Pairwise fun x y => ruleL namesS (lateL (textsS ts) (textsS ts)) x y < 0 := by
  refine told_pair chnS (famS hok) (fun x y hx h hne => ?_) (fun x y a b hx hy h1 h2 ha hb hab => ?_)
  · obtain ⟨r, hr, hx⟩ := hx
    have X := rows_x hok hr hx
    exact rule_deep X (X.up h) h hne
  · obtain ⟨r, hr, hx⟩ := hx
    obtain ⟨r2, hr2, hy⟩ := hy
    exact rule_apart (rows_x hok hr hx) (rows_x hok hr2 hy) h1 h2 ha hb hab
omit hok in
theorem rule_self (N : Str → List (List Nat)) (f : Str → Option Int) (x : Str) : ruleL N f x x = 0 := by
  have := rule_neg N f x x
  lia
theorem merged_nodup : (toldE (endsL (textsS ts))).Nodup := (merged_pair hok).imp fun {x y} h e => by
  subst e
  rw [rule_self] at h
  lia
noncomputable def posK (M ks : List Str) (i : Nat) : Nat := M.idxOf (ks.getD i default)
theorem idx_getElem {M : List Str} {x : Str} (h : x ∈ M) : ∃ (hi : M.idxOf x < M.length), M[M.idxOf x] = x := ⟨List.idxOf_lt_length_iff.mpr h, List.getElem_idxOf _⟩
theorem rule_idx {x y : Str} (hx : x ∈ toldE (endsL (textsS ts))) (hy : y ∈ toldE (endsL (textsS ts))) :
    decide (ruleL namesS (lateL (textsS ts) (textsS ts)) x y < 0) = decide ((toldE (endsL (textsS ts))).idxOf x < (toldE (endsL (textsS ts))).idxOf y) := by
  have hp := List.pairwise_iff_getElem.mp (merged_pair hok)
  obtain ⟨h1, e1⟩ := idx_getElem hok hx
  obtain ⟨h2, e2⟩ := idx_getElem hok hy
  generalize (toldE (endsL (textsS ts))).idxOf x = i at h1 e1 ⊢
  generalize (toldE (endsL (textsS ts))).idxOf y = j at h2 e2 ⊢
  rcases Nat.lt_trichotomy i j with q | q | q
  · have := hp i j h1 h2 q
    rw [e1, e2] at this
    rw [decide_eq_true this, decide_eq_true q]
  · subst q
    rw [e1] at e2
    subst e2
    rw [rule_self]
    simp
  · have := hp j i h2 h1 q
    rw [e1, e2, rule_neg] at this
    rw [decide_eq_false (by lia), decide_eq_false (by lia)]
theorem sort_eq {ks : List Str} (hnd : ks.Nodup) (hdom : ∀ y, y ∈ ks ↔ ∃ r ∈ textsS ts, y ∈ r) {p : Array Nat} (h1 : OkP ks.length p) (h2 : Up (posK (toldE (endsL (textsS ts))) ks) p ks.length) :
    p.toList.map (fun i => ks.getD i default) = toldE (endsL (textsS ts)) := by
  have hM := merged_nodup hok
  have hmem : ∀ y, y ∈ ks ↔ y ∈ toldE (endsL (textsS ts)) := fun y => (hdom y).trans (told_dom chnS (famS hok)).symm
  have pk : (p.toList.map fun i => ks.getD i default).Perm (toldE (endsL (textsS ts))) := by
    have e : (List.range ks.length).map (fun i => ks.getD i default) = ks := by
      refine List.ext_getElem? fun i => ?_
      rw [List.getElem?_map]
      by_cases hi : i < ks.length
      · rw [List.getElem?_range hi, List.getElem?_eq_getElem hi]
        show some (ks.getD i default) = _
        rw [List.getD_eq_getElem?_getD, List.getElem?_eq_getElem hi]; rfl
      · rw [List.getElem?_eq_none (by simpa using hi), List.getElem?_eq_none (by lia)]; rfl
    have := h1.2.map fun i => ks.getD i default
    rw [e] at this
    exact this.trans ((List.perm_ext_iff_of_nodup hnd hM).mpr hmem)
  refine List.Perm.eq_of_pairwise (le := fun a b => (toldE (endsL (textsS ts))).idxOf a < (toldE (endsL (textsS ts))).idxOf b) (fun a b _ _ x y => by lia) ?_ ?_ pk
  · rw [List.pairwise_map, List.pairwise_iff_getElem]
    intro i j hi hj hij
    have hs : p.toList.length = ks.length := by rw [Array.length_toList, h1.1]
    have := h2 i j hij (by lia)
    unfold At posK at this
    have g : ∀ k (hk : k < p.toList.length), p.getD k 0 = p.toList[k] := fun k hk => by
      have : k < p.size := by simpa using hk
      simp [Array.getD, this]
    rw [g i hi, g j hj] at this
    exact this
  · rw [List.pairwise_iff_getElem]
    intro i j hi hj hij
    rw [hM.idxOf_getElem i hi, hM.idxOf_getElem j hj]
    exact hij
theorem pos_inj {ks : List Str} (hnd : ks.Nodup) (hdom : ∀ y, y ∈ ks ↔ ∃ r ∈ textsS ts, y ∈ r) : ∀ i j, i < ks.length → j < ks.length → posK (toldE (endsL (textsS ts))) ks i = posK (toldE (endsL (textsS ts))) ks j → i = j := by
  intro i j hi hj e
  have hmem : ∀ y, y ∈ ks → y ∈ toldE (endsL (textsS ts)) := fun y h => (told_dom chnS (famS hok)).mpr ((hdom y).mp h)
  have gi : ks.getD i default = ks[i] := by rw [List.getD_eq_getElem?_getD, List.getElem?_eq_getElem hi]; rfl
  have gj : ks.getD j default = ks[j] := by rw [List.getD_eq_getElem?_getD, List.getElem?_eq_getElem hj]; rfl
  unfold posK at e
  rw [gi, gj] at e
  obtain ⟨h1, e1⟩ := idx_getElem hok (hmem _ (List.getElem_mem hi))
  obtain ⟨h2, e2⟩ := idx_getElem hok (hmem _ (List.getElem_mem hj))
  have : ks[i] = ks[j] := by
    rw [← e1, ← e2]
    simp only [e]
  have a := hnd.idxOf_getElem i hi
  have b := hnd.idxOf_getElem j hj
  rw [this] at a
  lia
theorem late_some {x : Str} (h : ∃ r ∈ textsS ts, x ∈ r) : (lateL (textsS ts) (textsS ts) x).isSome = true := by
  obtain ⟨r, _, _, e, _⟩ := (late_at (textsS ts) (textsS ts) x).2 h
  rw [e]; rfl
end
end Mine
set_option Elab.async false
set_option maxRecDepth 100000
set_option linter.unusedVariables false
namespace Mine
open PySem PySem.W PyProof.Rows PySem.Calls SeqAt

/-! ## law: the answer -/
noncomputable def retV : List Expr := match lawB 9 with | .Return (some (.BoolOp _ vs _)) _ :: _ => vs | _ => []
noncomputable def retP : Pos := match lawB 9 with | .Return (some (.BoolOp _ _ p)) _ :: _ => p | _ => default
noncomputable def dT : Trip := (0, Str.empty, 0)
noncomputable def comS (ts : List Trip) (p : Nat × Nat) : Str := ofL (47 :: joinL (cpre (nm (ts.getD p.1 dT)) (nm (ts.getD p.2 dT))))
noncomputable def metS (ts : List Trip) (p : Nat × Nat) : Str := ofL (meetL (fun z => pathL (namesS z)) ((rowT (ts.getD p.1 dT)).map tx) ((rowT (ts.getD p.2 dT)).map tx))
theorem pairs_eq {ts : List Trip} (hok : ∀ t ∈ ts, OkT t) : (pairsOf ts.length).map (comS ts) = (pairsOf ts.length).map (metS ts) := by
  refine List.map_congr_left fun p hp => ?_
  obtain ⟨h1, h2⟩ := pairs_lt hp
  have g : ∀ i, i < ts.length → ts.getD i dT ∈ ts := fun i hi => by
    rw [List.getD_eq_getElem?_getD, List.getElem?_eq_getElem hi]; exact List.getElem_mem hi
  have R1 := row_ok (hok _ (g _ h1))
  have R2 := row_ok (hok _ (g _ h2))
  unfold comS metS
  rw [row_texts R1, row_texts R2, ← meet_law (xok_start R1) (xok_start R2), (code_NL R1.self).1, (code_NL R2.self).1]
section
variable {prog : Program} {w : World} {A : Around} {E : Value → Shared → Prop} {s : Shared} {g : Vw} {S : Heap} {mg mb : Str → Option Value} {B : Base} {L a : Addr} {cd : Value} {mu : List (Addr × Obj)} {m cm : Str → Option Value}
set_option maxHeartbeats 4000000 in
theorem law_5 {d : Nat} {Q : Value → Shared → Prop} {ts : List Trip} {vx vp vs vc : Value} {ab : Addr} {ob : Obj} {kvs : List (Str × Value)} {tn : Tok} (G : LawG S mg mb) (I : IF B g mu L m (lawCs L) cm s) (hT : B.T = S.get?) (r : Room A (d + 6))
    (m2 : m (Str.ofString "texts") = some vx) (m3 : m (Str.ofString "paths") = some vp) (c1 : cm (Str.ofString "stripped") = some vs) (c2 : cm (Str.ofString "climbed") = some vc) (c3' : cm (Str.ofString "book") = some (.ref ab)) (c4 : cm (Str.ofString "size") = some (.int (ts.length : Nat) tn))
    (hx : RowsV g vx (textsS ts)) (hp : RowsV g vp (pathsS ts)) (hs : RowsV g vs (textsS ts)) (hc : RowsV g vc (pathsS ts)) (hsys : (ab == sysModules) = false) (hab : g ab = some ob) (hob : ob.IsDictOf (strKind prog w) kvs) (hB : BookOK kvs (textsS ts))
    (h7 : ts.length ≤ 7) (hok : ∀ t ∈ ts, OkT t)
    (h : ∀ g' s', IF B g' mu L m (lawCs L) cm s' → Le g g' → wpAny (model prog w) A (eval (.BoolOp .And (retV.drop 3) retP) (lawEnv L a cd)) Q NoE s') :
    wpAny (model prog w) A (eval (.BoolOp .And (retV.drop 0) retP) (lawEnv L a cd)) Q NoE s := by
  have ST := G.G.st
  have hu : A.units + 1 < cLine := by have := r.units; unfold cLine; lia
  obtain ⟨acp, hcp, _, _, _, Fcp⟩ := G.common
  obtain ⟨amt, hmt, _, _, _, Fmt⟩ := G.meeting
  -- stripped == texts
  refine BoolOp_and (r_cmp (by rfl) ?_)
  refine r_cell (by rfl) (by rfl) (by rfl) (I.rd (.tail _ (.tail _ (.tail _ (.head _)))) (by exact c1)) (by decide) ?_
  refine r_local I (by rfl) (by rfl) m2 (by decide) ?_
  refine c_eqRows I.sub hu hs hx ?_
  rw [decide_eq_true rfl]
  refine wpAny_truthy_bool ?_
  rw [if_pos rfl]
  -- climbed == paths
  refine BoolOp_and (r_cmp (by rfl) ?_)
  refine r_cell (by rfl) (by rfl) (by rfl) (I.rd (.tail _ (.tail _ (.head _))) (by exact c2)) (by decide) ?_
  refine r_local I (by rfl) (by rfl) m3 (by decide) ?_
  refine c_eqRows I.sub hu hc hp ?_
  rw [decide_eq_true rfl]
  refine wpAny_truthy_bool ?_
  rw [if_pos rfl]
  -- the pairs
  obtain ⟨lc, wc, kc, rfl, ec, hwc⟩ := hc
  obtain ⟨ls, ws, ks, rfl, es, hws⟩ := hs
  have getT : ∀ i, i < ts.length → ts[i]? = some (ts.getD i dT) ∧ ts.getD i dT ∈ ts := fun i hi => by
    rw [List.getD_eq_getElem?_getD, List.getElem?_eq_getElem hi]; exact ⟨rfl, List.getElem_mem hi⟩
  refine BoolOp_and (r_cmp (by rfl) ?_)
  refine r_pairs (d := d) (cl := [(Str.ofString "size", L + 1 + 1 + 1 + 1), (Str.ofString "climbed", L + 1 + 1)]) G I hT r h7 c4 (by rfl) (by rfl) (by rfl) (fun _ => by rfl) (fun _ => by rfl) (fun _ => by rfl) (fun _ => by rfl) (by rfl) (comS ts) ?_ ?_
  · intro B' C g' mC s' i j ti tj inn le I mi mj hi hj
    obtain ⟨gi, mi'⟩ := getT i hi
    obtain ⟨gj, mj'⟩ := getT j hj
    have Ri := row_ok (hok _ mi')
    have Rj := row_ok (hok _ mj')
    have hT' := inn.T.trans hT
    obtain ⟨vi, hvi, li, wi, ki, rfl, ei, hwi⟩ := hwc.get (i := i) (b := (rowT (ts.getD i dT)).map pt) (by rw [pathsS, List.getElem?_map, gi]; rfl)
    obtain ⟨vj, hvj, lj, wj, kj, rfl, ej, hwj⟩ := hwc.get (i := j) (b := (rowT (ts.getD j dT)).map pt) (by rw [pathsS, List.getElem?_map, gj]; rfl)
    obtain ⟨ri, hri⟩ := Ri.head
    obtain ⟨rj, hrj⟩ := Rj.head
    obtain ⟨pi, hpi, upi, rfl⟩ := hwi.get (i := 0) (b := pt (ts.getD i dT)) (by rw [hri]; rfl)
    obtain ⟨pj, hpj, upj, rfl⟩ := hwj.get (i := 0) (b := pt (ts.getD j dT)) (by rw [hrj]; rfl)
    refine r_call I ST hT' (by rfl) (by rfl) (by rfl) hcp (by decide) Fcp (by rfl) (by rfl) ?_
    refine r_items (by rfl) (r_list (r_items (by rfl) (Subscript_ (Subscript_ ?_))))
    refine r_cell (by rfl) (by rfl) (by rfl) (inn.rd I (.tail _ (.tail _ (.head _))) (by exact c2)) (by decide) ?_
    refine r_local I (by rfl) (by rfl) mi (by decide) ?_
    refine t_list (k := i) (I.sub _ _ (le _ _ ec)) hvi (by lia) (r_int I ?_)
    intro t1 s2 I
    refine t_list (k := 0) (I.sub _ _ (le _ _ ei)) hpi (by decide) ?_
    refine r_items (by rfl) (Subscript_ (Subscript_ ?_))
    refine r_cell (by rfl) (by rfl) (by rfl) (inn.rd I (.tail _ (.tail _ (.head _))) (by exact c2)) (by decide) ?_
    refine r_local I (by rfl) (by rfl) mj (by decide) ?_
    refine t_list (k := j) (I.sub _ _ (le _ _ ec)) hvj (by lia) (r_int I ?_)
    intro t2 s3 I
    refine t_list (k := 0) (I.sub _ _ (le _ _ ej)) hpj (by decide) ?_
    refine r_items0 (t_fz I (Nat.le_of_ble_eq_true rfl) (by rfl) ?_)
    intro D2 g2 s4 I le2 eD2
    refine r_items0 ⟨I.st hT', ?_⟩
    have Ki := code_ok Ri.self
    have Kj := code_ok Rj.self
    have Ni := (code_NL Ri.self).1
    have Nj := (code_NL Rj.self).1
    have plen : ∀ t, CodeIn t → (pt t).length ≤ 900 := fun t ht => by
      have := (code_ok ht).plen
      rw [(code_NL ht).1] at this
      rw [← len_tl, pt, tl_ofL]; lia
    refine common_call I.sub (hT' ▸ I.stat) G.G Fcp (r.le (show d + 4 ≤ d + 6 by lia)) eD2 (tl_ofL _) (tl_ofL _) (Ni ▸ Ki.ne) (Nj ▸ Kj.ne) (Ni ▸ Ki.ok) (Nj ▸ Kj.ok) (Ni ▸ Ki.dot) (Nj ▸ Kj.dot) (plen _ Ri.self) (plen _ Rj.self) ?_
    intro y t3 g3 s5 af hy
    exact ⟨g3, I.after af, t3, by rw [show y = comS ts (i, j) from str_ext (hy.trans (tl_ofL _).symm)]⟩
  intro v1 g1 s1 I le1 h1
  refine r_pairs (d := d) (cl := [(Str.ofString "stripped", L + 1), (Str.ofString "size", L + 1 + 1 + 1 + 1), (Str.ofString "book", L + 1 + 1 + 1)]) G I hT r h7 c4 (by rfl) (by rfl) (by rfl) (fun _ => by rfl) (fun _ => by rfl) (fun _ => by rfl) (fun _ => by rfl) (by rfl) (metS ts) ?_ ?_
  · intro B' C g' mC s' i j ti tj inn le I mi mj hi hj
    obtain ⟨gi, mi'⟩ := getT i hi
    obtain ⟨gj, mj'⟩ := getT j hj
    have hT' := inn.T.trans hT
    have lg := le1.trans le
    obtain ⟨vi, hvi, li, wi, ki, rfl, ei, hwi⟩ := hws.get (i := i) (b := (rowT (ts.getD i dT)).map tx) (by rw [textsS, List.getElem?_map, gi]; rfl)
    obtain ⟨vj, hvj, lj, wj, kj, rfl, ej, hwj⟩ := hws.get (i := j) (b := (rowT (ts.getD j dT)).map tx) (by rw [textsS, List.getElem?_map, gj]; rfl)
    refine r_call I ST hT' (by rfl) (by rfl) (by rfl) hmt (by decide) Fmt (by rfl) (by rfl) ?_
    refine r_items (by rfl) (Subscript_ ?_)
    refine r_cell (by rfl) (by rfl) (by rfl) (inn.rd I (.tail _ (.tail _ (.tail _ (.head _)))) (by exact c1)) (by decide) ?_
    refine r_local I (by rfl) (by rfl) mi (by decide) ?_
    refine t_list (k := i) (I.sub _ _ (lg _ _ es)) hvi (by lia) ?_
    refine r_items (by rfl) (Subscript_ ?_)
    refine r_cell (by rfl) (by rfl) (by rfl) (inn.rd I (.tail _ (.tail _ (.tail _ (.head _)))) (by exact c1)) (by decide) ?_
    refine r_local I (by rfl) (by rfl) mj (by decide) ?_
    refine t_list (k := j) (I.sub _ _ (lg _ _ es)) hvj (by lia) ?_
    refine r_items (by rfl) ?_
    refine r_cell (by rfl) (by rfl) (by rfl) (inn.rd I (.tail _ (.head _)) (by exact c3')) (by decide) (r_items0 ⟨I.st hT', ?_⟩)
    have Ri := row_ok (hok _ mi')
    refine meeting_call (P := fun z => pathL (namesS z)) I.sub (hT' ▸ I.stat) G.G Fmt (r.le (show d + 1 ≤ d + 6 by lia)) (lg _ _ ei) (lg _ _ ej) hwi hwj ⟨ab, ob, rfl, hsys, lg _ _ hab, hob⟩ (fun x hx => ?_) (by rw [List.length_map]; have := Ri.len; lia) ?_
    · have hrx : (rowT (ts.getD i dT)).map tx ∈ textsS ts := List.mem_map_of_mem mi'
      have hd := (hB.dom x).mpr ⟨_, hrx, hx⟩
      obtain ⟨v, hv⟩ := Option.isSome_iff_exists.mp hd
      obtain ⟨t, rfl⟩ := hB.val x v hv
      refine ⟨_, t, hv, tl_ofL _, ?_⟩
      have := (row_x Ri hx).plen
      rw [← len_tl, pathX, tl_ofL]; lia
    · intro y t3 g3 s5 af hy
      exact ⟨g3, I.after af, t3, by rw [show y = metS ts (i, j) from str_ext (hy.trans (tl_ofL _).symm)]⟩
  intro v2 g2 s2 I le2 h2
  refine c_eqStrs I.sub (by lia) (h1.up le2) h2 ?_
  rw [pairs_eq hok, decide_eq_true rfl]
  refine wpAny_truthy_bool ?_
  rw [if_pos rfl]
  exact h g2 s2 I (le1.trans le2)
end
end Mine
set_option Elab.async false
set_option maxRecDepth 100000
set_option linter.unusedVariables false
namespace Mine
open PySem PySem.W PyProof.Rows PySem.Calls SeqAt

section
variable {prog : Program} {w : World} {A : Around} {E : Value → Shared → Prop} {s : Shared} {g : Vw} {S : Heap} {mg mb : Str → Option Value} {B : Base} {L a : Addr} {cd : Value} {mu : List (Addr × Obj)} {m cm : Str → Option Value}
set_option maxHeartbeats 4000000 in
theorem law_6 {d : Nat} {Q : Value → Shared → Prop} {ts : List Trip} {vx vc vh vm : Value} {ab : Addr} {ob : Obj} {kvs : List (Str × Value)} (G : LawG S mg mb) (I : IF B g mu L m (lawCs L) cm s) (hT : B.T = S.get?) (r : Room A (d + 6))
    (m2 : m (Str.ofString "texts") = some vx) (m4 : m (Str.ofString "handed") = some vh) (m5 : m (Str.ofString "merged") = some vm) (c2 : cm (Str.ofString "climbed") = some vc) (c3' : cm (Str.ofString "book") = some (.ref ab))
    (hx : RowsV g vx (textsS ts)) (hc : RowsV g vc (pathsS ts)) (hh : RowsV g vh (ts.map fun _ => [])) (hm : StrsV g vm (toldE (endsL (textsS ts)))) (hab : g ab = some ob) (hob : ob.IsDictOf (strKind prog w) kvs) (hB : BookOK kvs (textsS ts))
    (h7 : ts.length ≤ 7) (hok : ∀ t ∈ ts, OkT t)
    (h : ∀ g' s', IF B g' mu L m (lawCs L) cm s' → Le g g' → wpAny (model prog w) A (eval (.BoolOp .And (retV.drop 6) retP) (lawEnv L a cd)) Q NoE s') :
    wpAny (model prog w) A (eval (.BoolOp .And (retV.drop 3) retP) (lawEnv L a cd)) Q NoE s := by
  have ST := G.G.st
  have hu : A.units + 1 < cLine := by have := r.units; unfold cLine; lia
  obtain ⟨amg, hmg, _, _, _, Fmg⟩ := G.merged
  obtain ⟨ame, hme, _, _, _, Fme⟩ := G.merge
  have hrl : ∀ row ∈ textsS ts, row ≠ [] ∧ row.length ≤ 5 := fun row hr => by
    obtain ⟨t, ht, rfl⟩ := List.mem_map.mp hr
    have R := row_ok (hok t ht)
    obtain ⟨rr, hrr⟩ := R.head
    refine ⟨by rw [hrr]; simp, ?_⟩
    rw [List.length_map]
    exact R.len
  have tl7 : (textsS ts).length ≤ 7 := by simp [textsS]; exact h7
  -- merged == _law_merged(texts)
  refine BoolOp_and (r_cmp (by rfl) ?_)
  refine r_local I (by rfl) (by rfl) m5 (by decide) ?_
  refine r_call I ST hT (by rfl) (by rfl) (by rfl) hmg (by decide) Fmg (by rfl) (by rfl) ?_
  refine r_items (by rfl) (r_local I (by rfl) (by rfl) m2 (by decide) (r_items0 ⟨I.st hT, ?_⟩))
  refine merged_call I.sub (hT ▸ I.stat) G.G Fmg (r.le (show d + 1 ≤ d + 6 by lia)) hx (fun row hr => (hrl row hr).1) (by lia) (fun row hr => by have := (hrl row hr).2; lia) ?_
  intro v1 g1 s1 af h1
  have I := I.after af
  have le1 := af.le
  refine c_eqStrs I.sub (by lia) (hm.up le1) h1 ?_
  rw [decide_eq_true rfl]
  refine wpAny_truthy_bool ?_
  rw [if_pos rfl]
  -- handed == [[] for row in texts]
  obtain ⟨l1, w1, k1, rfl, e1, hw1⟩ := hx
  refine BoolOp_and (r_cmp (by rfl) ?_)
  refine r_local I (by rfl) (by rfl) m4 (by decide) ?_
  refine r_comp (cl := []) (by rfl) (by rfl) (by rfl) ?_
  refine r_local I (by rfl) (by rfl) m2 (by decide) ?_
  refine it_list I r.handled (le1 _ _ e1) ?_
  intro it s2 X
  refine ⟨B, L, _, _, _, mu, CompOK.map (textsS ts) (fun _ => ([] : List Str)) (fun g v c => StrsV g v c) (fun _ _ _ _ a b => b.up a) (by lia) (hw1.length ▸ X _) ?_ ?_⟩
  · intro B' C g' mC s i v x inn le hP hx I
    refine a_name (r_storeLocal I (by rfl) (by rfl) ?_)
    intro s3 I
    refine r_list (r_items0 (t_fz I (Nat.le_of_ble_eq_true rfl) (by rfl) ?_))
    intro D g2 s4 I le2 eD
    exact ⟨g2, _, I, D, [], 0, rfl, eD, .nil⟩
  intro D g2 zs k s3 le2 I oD hzs
  have lf := le_put (o := lo zs k) (I.muH _ (.head _)).2.1
  have J := I.freeze oD
  have eD := put_self g2 D (lo zs k)
  have hzs := hzs.mono (R' := StrsV (put g2 D (lo zs k))) fun _ _ q => q.up lf
  have le3 := (le1.trans le2).trans lf
  clear I
  have I := J
  generalize put g2 D (lo zs k) = g3 at *
  have e0 : ((textsS ts).map fun _ => ([] : List Str)) = ts.map fun _ => [] := by rw [textsS, List.map_map]; rfl
  rw [e0] at hzs
  refine c_eqRows I.sub hu (hh.up le3) ⟨D, zs, k, rfl, eD, hzs⟩ ?_
  rw [decide_eq_true rfl]
  refine wpAny_truthy_bool ?_
  rw [if_pos rfl]
  -- _c3_merge([list(row) for row in climbed]) == [book[text] for text in merged]
  obtain ⟨lc, wc, kc, rfl, ec, hwc⟩ := hc
  have wcl : wc.length = ts.length := by rw [hwc.length]; simp [pathsS]
  have hpl : ∀ row ∈ pathsS ts, row.length ≤ 5 := fun row hr => by
    obtain ⟨t, ht, rfl⟩ := List.mem_map.mp hr
    rw [List.length_map]
    exact (row_ok (hok t ht)).len
  refine BoolOp_and (r_cmp (by rfl) ?_)
  refine r_call I ST hT (by rfl) (by rfl) (by rfl) hme (by decide) Fme (by rfl) (by rfl) ?_
  refine r_items (by rfl) (r_comp (cl := []) (by rfl) (by rfl) (by rfl) ?_)
  refine r_cell (by rfl) (by rfl) (by rfl) (I.rd (.tail _ (.tail _ (.head _))) (by exact c2)) (by decide) ?_
  refine it_list I r.handled (le3 _ _ ec) ?_
  intro it s4 X
  refine ⟨B, L, _, _, _, mu, CompOK.copies (rows := pathsS ts) (by rfl) (by rfl) (by rfl) (fun _ => by rfl) (fun _ => by rfl) G.G hT (hwc.mono fun _ _ q => q.up le3) (by lia) (fun row hr => by have := hpl row hr; lia) (X _) (fun _ => by rfl) ?_⟩
  intro D2 g4 ps k2 s5 le4 I oD2 hoff hcp
  have nd := I.nd
  rw [List.map_cons, List.nodup_cons, List.map_append, List.nodup_append] at nd
  obtain ⟨cont, hc1, hc2⟩ := exists_cont hcp nd.2.1
  have lf := le_put (o := lo (ps.map fun p => .ref p.1) k2) (I.muH _ (.head _)).2.1
  have J := I.freeze oD2
  have eD2 := put_self g4 D2 (lo (ps.map fun p => .ref p.1) k2)
  have le5 := (le3.trans le4).trans lf
  clear I
  have I := J
  generalize put g4 D2 (lo (ps.map fun p => .ref p.1) k2) = g5 at *
  have pl : ps.length = ts.length := by rw [hcp.length]; simp [pathsS]
  refine r_items0 ⟨I.st hT, ?_⟩
  have hc3 : c3 36 ((ps.map (·.1)).map cont) = some ((toldE (endsL (textsS ts))).map pathX) := by
    rw [hc1]; exact c3_paths hok h7
  refine merge_call (as := ps.map (·.1)) (mu0 := ps) I.sub (hT ▸ I.stat) G.G Fme (r.le (show d + 1 ≤ d + 6 by lia)) (by rw [List.map_map]; exact eD2) (fun p hp => by
    have q := I.muH p (List.mem_append_left _ hp); exact ⟨q.1, q.2.1⟩) rfl nd.2.1 hc2 hc3 (by decide) (by rw [List.length_map]; lia) (fun b hb => ?_) ?_
  · have : cont b ∈ pathsS ts := by rw [← hc1]; exact List.mem_map_of_mem hb
    have := hpl _ this
    lia
  intro v6 g6 s6 mu' Z hfst hemp hv6
  have I := I.afterM (mu0' := mu') Z hfst (fun p hp => (hemp p hp).1)
  have nd2 := I.nd
  rw [List.map_append, List.nodup_append] at nd2
  have I := I.weaken (mu' := mu) (fun p hp => List.mem_append_right _ hp) nd2.2.1
  have le6 := le5.trans Z.le
  obtain ⟨lm, wm, km, rfl, em, hwm⟩ := hm
  have ml : (toldE (endsL (textsS ts))).length ≤ 35 := by
    have hnd := merged_nodup hok
    have hsub : toldE (endsL (textsS ts)) ⊆ (textsS ts).flatten := fun x hx => by
      obtain ⟨r, hr, hx⟩ := (told_dom chnS (famS hok)).mp hx
      exact List.mem_flatten.mpr ⟨r, hr, hx⟩
    have := hnd.length_le_of_subset hsub
    have e : (textsS ts).flatten.length = total (textsS ts) := by rw [List.length_flatten]; rfl
    have := total_le hok
    lia
  refine r_comp (cl := [(Str.ofString "book", L + 1 + 1 + 1)]) (by rfl) (by rfl) (by rfl) ?_
  refine r_local I (by rfl) (by rfl) m5 (by decide) ?_
  refine it_list I r.handled (le6 _ _ em) ?_
  intro it s7 X
  refine ⟨B, L, _, _, _, mu, CompOK.map (toldE (endsL (textsS ts))) pathX (fun _ v c => StrV v c) (fun _ _ _ _ _ b => b) (by lia) (hwm.length ▸ X _) ?_ ?_⟩
  · intro B' C g' mC s i v x inn le hP hx I
    obtain ⟨tx', rfl⟩ := hwm.at hP hx
    have hxm := (told_dom chnS (famS hok)).mp (List.mem_of_getElem? hx)
    obtain ⟨v, hv⟩ := Option.isSome_iff_exists.mp ((hB.dom x).mpr hxm)
    obtain ⟨t, rfl⟩ := hB.val x v hv
    refine a_name (r_storeLocal I (by rfl) (by rfl) ?_)
    intro s8 I
    refine Subscript_ ?_
    refine r_cell (by rfl) (by rfl) (by rfl) (inn.rd I (.tail _ (.head _)) (by exact c3')) (by decide) ?_
    refine r_local I (by rfl) (by rfl) (by rfl) (by decide) (t_map I (I.sub _ _ (le _ _ (le6 _ _ hab))) hob hv ?_)
    intro s9 I
    exact ⟨_, _, I, t, rfl⟩
  intro D3 g7 us k3 s8 le7 I oD3 hus
  have lf := le_put (o := lo us k3) (I.muH _ (.head _)).2.1
  have J := I.freeze oD3
  have eD3 := put_self g7 D3 (lo us k3)
  have le8 := le7.trans lf
  clear I
  have I := J
  generalize put g7 D3 (lo us k3) = g8 at *
  refine c_eqStrs I.sub (by lia) (hv6.up le8) ⟨D3, us, k3, rfl, eD3, hus⟩ ?_
  rw [decide_eq_true rfl]
  refine wpAny_truthy_bool ?_
  rw [if_pos rfl]
  exact h g8 s8 I (le6.trans le8)
end
end Mine
set_option Elab.async false
set_option maxRecDepth 100000
set_option linter.unusedVariables false
namespace Mine
open PySem PySem.W PyProof.Rows PySem.Calls SeqAt

/-! ## law: the sort -/
structure LawK (prog : Program) (w : World) (S : Heap) (mg : Str → Option Value) (P1 P2 : Addr) : Prop where
  before : E5 fun a pm cd doc c => C4 (mg (Str.ofString "_law_before") = some (.ref a)) (FnAt S a 33 pm cd doc .none) (cd = .ref c) (CodeHd S c P1)
  cmpk : E5 fun a pm cd doc c => C4 (mg (Str.ofString "cmp_to_key") = some (.ref a)) (FnAt S a 2 pm cd doc .none) (cd = .ref c) (CodeHd S c P2)
  hop : ∀ C, Looks (model prog w) S (opaqueClassAbove (.ref C)) none
  hvn : ∃ vn, mg "__name__" = some vn
theorem all_pick {vs : List Value} {ks : List Str} (h : All₂ StrV vs ks) : ∀ l : List Nat, (∀ i ∈ l, i < ks.length) → All₂ StrV (l.map fun i => vs.getD i .none) (l.map fun i => ks.getD i default)
  | [], _ => .nil
  | i :: l, hl => by
    have hi := hl i (.head _)
    obtain ⟨v, hv, hs⟩ := h.get (i := i) (b := ks[i]) (List.getElem?_eq_getElem hi)
    refine .cons ?_ (all_pick h l fun j hj => hl j (.tail _ hj))
    show StrV (vs.getD i .none) (ks.getD i default)
    rw [List.getD_eq_getElem?_getD, List.getD_eq_getElem?_getD, hv, List.getElem?_eq_getElem hi]
    exact hs
theorem keys_dom {kvs : List (Str × Value)} {rows : List (List Str)} (hB : BookOK kvs rows) (y : Str) : y ∈ kvs.map (·.1) ↔ ∃ r ∈ rows, y ∈ r := by
  rw [← hB.dom, ← valueAt_any, List.any_eq_true, List.mem_map]
  constructor
  · rintro ⟨p, hp, e⟩; exact ⟨p, hp, decide_eq_true e⟩
  · rintro ⟨p, hp, e⟩; exact ⟨p, hp, of_decide_eq_true e⟩
theorem two_keys {kvs : List (Str × Value)} {ts : List Trip} (hB : BookOK kvs (textsS ts)) (h1 : tripOf 1 ∈ ts) : 2 ≤ kvs.length := by
  have hr : (rowT (tripOf 1)).map tx = [ofL [34, 120], ofL [120]] := by
    have e : rowT (tripOf 1) = (rowF (tl (tripOf 1).2.1) 8 ((tripOf 1).1, (tripOf 1).2.2)).map fun q => (q.1, (tripOf 1).2.1, q.2) := rowF_eq 8 _ (by decide)
    rw [e]
    decide +kernel
  have hm : (rowT (tripOf 1)).map tx ∈ textsS ts := List.mem_map_of_mem h1
  rw [hr] at hm
  have m1 := (keys_dom hB (ofL [34, 120])).mpr ⟨_, hm, by simp⟩
  have m2 := (keys_dom hB (ofL [120])).mpr ⟨_, hm, by simp⟩
  have hne : ofL [34, 120] ≠ ofL [120] := fun e => by have := ofL_inj e; simp at this
  have hl : (kvs.map (·.1)).length = kvs.length := List.length_map ..
  rw [← hl]
  generalize kvs.map (·.1) = l at m1 m2
  match l, m1, m2 with
  | [a], m1, m2 => rw [List.mem_singleton] at m1 m2; exact absurd (m1.trans m2.symm) hne
  | a :: b :: l, _, _ => simp
section
variable {prog : Program} {w : World} {A : Around} {E : Value → Shared → Prop} {s : Shared} {g : Vw} {S : Heap} {mg mb : Str → Option Value} {B : Base} {L a : Addr} {cd : Value} {m cm : Str → Option Value}
theorem RuleV.up {g g' : Vw} {v : Value} {ab : Addr} {f : Str → Option Int} (hv : RuleV prog w g v ab f) (hl : Le g g') : RuleV prog w g' v ab f := by
  obtain ⟨fa, c', oc, ctv, doc, pm, cb, cl, D, od, dk, vs, t, e, h1, h2, h3, h4, ⟨o1, e1, d1⟩, ⟨o2, e2, d2⟩, h5, h6, h7, h8⟩ := hv
  exact ⟨fa, c', oc, ctv, doc, pm, cb, cl, D, od, dk, vs, t, e, hl _ _ h1, hl _ _ h2, h3, h4, ⟨o1, hl _ _ e1, d1⟩, ⟨o2, hl _ _ e2, d2⟩, h5, hl _ _ h6, h7, h8⟩
set_option maxHeartbeats 4000000 in
theorem law_7 {d : Nat} {P1 P2 : Addr} {Q : Value → Shared → Prop} {ts : List Trip} {vx vm : Value} {ab : Addr} {ob : Obj} {kvs : List (Str × Value)} (G : LawG S mg mb) (GK : LawK prog w S mg P1 P2) (I : IF B g [(P1, tabObj #[]), (P2, tabObj #[])] L m (lawCs L) cm s) (hT : B.T = S.get?) (r : Room A (d + 8))
    (m2 : m (Str.ofString "texts") = some vx) (m5 : m (Str.ofString "merged") = some vm) (c3' : cm (Str.ofString "book") = some (.ref ab))
    (hx : RowsV g vx (textsS ts)) (hm : StrsV g vm (toldE (endsL (textsS ts)))) (hsys : (ab == sysModules) = false) (hab : g ab = some ob) (hob : ob.IsDictOf (strKind prog w) kvs) (hB : BookOK kvs (textsS ts))
    (h7 : ts.length ≤ 7) (hok : ∀ t ∈ ts, OkT t) (h1 : tripOf 1 ∈ ts)
    (h : ∀ g' s' ps1 ps2, IF B g' [(P1, tabObj ps1), (P2, tabObj ps2)] L m (lawCs L) cm s' → Q (.bool true) s') :
    wpAny (model prog w) A (eval (.BoolOp .And (retV.drop 6) retP) (lawEnv L a cd)) Q NoE s := by
  have ST := G.G.st
  have hu : A.units + 1 < cLine := by have := r.units; unfold cLine; lia
  obtain ⟨acp, hcp, _, _, _, Fcp⟩ := G.common
  obtain ⟨abf, pm1, cd1, doc1, cc1, hbf, Fbf, hcd1, CH1⟩ := GK.before
  obtain ⟨ack, pm2, cd2, doc2, cc2, hck, Fck, hcd2, CH2⟩ := GK.cmpk
  obtain ⟨vn, hvn⟩ := GK.hvn
  have hrl : ∀ row ∈ textsS ts, row ≠ [] ∧ row.length ≤ 5 := fun row hr => by
    obtain ⟨t, ht, rfl⟩ := List.mem_map.mp hr
    have R := row_ok (hok t ht)
    obtain ⟨rr, hrr⟩ := R.head
    refine ⟨by rw [hrr]; simp, ?_⟩
    rw [List.length_map]
    exact R.len
  have tl7 : (textsS ts).length ≤ 7 := by simp [textsS]; exact h7
  refine BoolOp_one (r_cmp (by rfl) (r_sorted I ST hT (by rfl) (by rfl) (by rfl) (by rfl) (G.G.no "sorted" (.tail _ (.tail _ (.tail _ (.tail _ (.tail _ (.tail _ (.tail _ (.tail _ (.tail _ (.tail _ (.tail _ (.tail _ (.tail _ (.tail _ (.tail _ (.tail _ (.tail _ (.tail _ (.head _)))))))))))))))))))) ?_))
  refine r_cell (by rfl) (by rfl) (by rfl) (I.rd (.tail _ (.head _)) (by exact c3')) (by decide) ?_
  refine r_call I ST hT (by rfl) (by rfl) (by rfl) hck (by decide) Fck (by rfl) (by rfl) ?_
  refine r_items (by rfl) ?_
  refine r_call I ST hT (by rfl) (by rfl) (by rfl) hbf (by decide) Fbf (by rfl) (by rfl) ?_
  refine r_items (by rfl) (r_local I (by rfl) (by rfl) m2 (by decide) ?_)
  refine r_items (by rfl) (r_cell (by rfl) (by rfl) (by rfl) (I.rd (.tail _ (.head _)) (by exact c3')) (by decide) (r_items0 ⟨I.st hT, ?_⟩))
  have M1 := I.muH _ (.head _)
  refine before_call I.sub (hT ▸ I.stat) G.G G.BM Fbf (r.le (show d + 1 ≤ d + 8 by lia)) CH1 hcd1 M1.1 M1.2.1 hx (fun row hr => (hrl row hr).1) (by lia) (fun row hr => by have := (hrl row hr).2; lia) ?_
  intro v1 g1 s1 Z1 hps hv1
  obtain ⟨ps1, hps1⟩ := hps
  have I := IF.afterM (mu0 := [(P1, tabObj #[])]) (mu0' := [(P1, tabObj ps1)]) I Z1 rfl (fun p hp => by rw [List.mem_singleton.mp hp]; exact hps1)
  have I := I.perm (mu' := [(P2, tabObj #[]), (P1, tabObj ps1)]) (.swap ..)
  have le1 := Z1.le
  refine r_items0 ⟨I.st hT, ?_⟩
  have M2 := I.muH _ (.head _)
  refine cmpkey_call I.sub (hT ▸ I.stat) G.G G.BM Fck (r.le (show d + 2 ≤ d + 8 by lia)) CH2 hcd2 M2.1 M2.2.1 G.sys GK.hop hvn ?_
  intro v2 g2 s2 Z2 hps hv2
  obtain ⟨ps2, hps2⟩ := hps
  have I := IF.afterM (mu0 := [(P2, tabObj #[])]) (mu0' := [(P2, tabObj ps2)]) I Z2 rfl (fun p hp => by rw [List.mem_singleton.mp hp]; exact hps2)
  have le2 := le1.trans Z2.le
  have RF := rule_fn (N := namesS) (hT ▸ I.stat) G.G hcp Fcp (hv1.up Z2.le) (le2 _ _ hab) hsys hob
  obtain ⟨ka, F, md, fI, fL, cI, cL, cc, oI, oL, oc, ctI, ctL, dI, dL, pm, rfl, X⟩ := kctx_of ST hv2 RF
  have hnd : (kvs.map (·.1)).Nodup := by obtain ⟨_, _, _, _, _, _, q⟩ := hob; exact q
  have hdom := fun y => keys_dom hB y
  have hkl : (kvs.map (·.1)).length = kvs.length := List.length_map ..
  refine b_sortedK (pos := posK (toldE (endsL (textsS ts))) (kvs.map (·.1))) X I hT (r.le (show 5 + 3 ≤ d + 8 by lia)) hsys (I.sub _ _ (le2 _ _ hab)) hob (two_keys hB h1) (by have := hB.len; lia) (fun x hx => ?_) (by rw [← hkl]; exact pos_inj hok hnd hdom) (fun i j x y hi hj => ?_) ?_
  · have hxr := (hdom x).mp hx
    obtain ⟨rw_, hrw, hxm⟩ := hxr
    have K := (rows_x hok hrw hxm).self
    obtain ⟨v, hv⟩ := Option.isSome_iff_exists.mp ((hB.dom x).mpr ⟨rw_, hrw, hxm⟩)
    obtain ⟨t, rfl⟩ := hB.val x v hv
    refine ⟨⟨⟨_, t, hv, tl_ofL _, ?_⟩, K.ne, K.ok, K.dot⟩, late_some hok ⟨rw_, hrw, hxm⟩⟩
    have := K.plen
    rw [← len_tl, pathX, tl_ofL]; lia
  · have hM : ∀ z, z ∈ kvs.map (·.1) → z ∈ toldE (endsL (textsS ts)) := fun z hz => (told_dom chnS (famS hok)).mpr ((hdom z).mp hz)
    rw [rule_idx hok (hM x (List.mem_of_getElem? hi)) (hM y (List.mem_of_getElem? hj))]
    unfold ltP posK
    rw [List.getD_eq_getElem?_getD, List.getD_eq_getElem?_getD, hi, hj]; rfl
  intro D p vs g3 s3 n' hp1 hp2 hvs I le3 oD
  have lf := le_put (o := lo (p.toList.map fun i => vs.getD i .none) n') (I.muH _ (.head _)).2.1
  have J := I.freeze oD
  have eD := put_self g3 D (lo (p.toList.map fun i => vs.getD i .none) n')
  clear I
  have I := J
  have le4 := (le2.trans le3).trans lf
  generalize put g3 D (lo (p.toList.map fun i => vs.getD i .none) n') = g4 at *
  refine r_local I (by rfl) (by rfl) m5 (by decide) ?_
  rw [← hkl] at hp1 hp2
  have hsort := sort_eq hok hnd hdom hp1 hp2
  have hv3 : StrsV g4 (.ref D) (toldE (endsL (textsS ts))) := by
    rw [← hsort]
    exact ⟨D, _, n', rfl, eD, all_pick hvs _ fun i hi => List.mem_range.mp (hp1.2.mem_iff.mp hi)⟩
  refine c_eqStrs I.sub (by lia) hv3 (hm.up le4) ?_
  rw [decide_eq_true rfl]
  exact h g4 s3 ps1 ps2 (I.perm (.swap ..))
end
end Mine
set_option Elab.async false
set_option maxRecDepth 100000
set_option linter.unusedVariables false
namespace Mine
open PySem PySem.W PyProof.Rows PySem.Calls SeqAt

/-! ## law: the whole body -/
section
variable {prog : Program} {w : World} {A : Around} {E : Value → Shared → Prop} {s : Shared} {g : Vw} {S : Heap} {mg mb : Str → Option Value} {B : Base} {L a : Addr} {cd : Value} {m cm : Str → Option Value}
theorem law_walk {d : Nat} {P1 P2 l : Addr} {vs : List Value} {ns : List Int} {Q : Flow → Shared → Prop} (G : LawG S mg mb) (GK : LawK prog w S mg P1 P2) (I : IF B g [(P1, tabObj #[]), (P2, tabObj #[])] L m (lawCs L) cm s) (hT : B.T = S.get?) (r : Room A (d + 8))
    (hm : m (Str.ofString "script") = some (.ref l)) (hl : ∀ h, Sub g h → h.IsList l vs.toArray) (hi : All₂ IntV vs ns) (hn : vs.length ≤ 1000)
    (h : ∀ g' s' m' cm' ps1 ps2, IF B g' [(P1, tabObj ps1), (P2, tabObj ps2)] L m' (lawCs L) cm' s' → Q (.ret (.bool true)) s') :
    wpAny (model prog w) A (execs (lawB 0) (lawEnv L a cd)) Q NoE s := by
  have r6 : Room A (d + 6) := r.le (by lia)
  refine law_1 G I hT r6 hm hl hi hn ?_
  intro ts g1 s1 m1 vt vx vp I le1 k1 k2 k3 ht hx hp h7 hok h1
  refine law_2 G I hT r6 k1 k2 ht hx h7 hok ?_
  intro g2 s2 vs2 vc I le2 hs hc
  refine law_3 G I hT r6 k2 k3 (hx.up le2) (hp.up le2) h7 hok ?_
  intro g3 s3 ab ob kvs tn I le3 hsys hab hob hB
  refine law_4 G I hT r6 (vs := vs2) (by rfl) (hs.up le3) h7 hok ?_
  intro g4 s4 vh vm I le4 hh hmg
  have le24 := le3.trans le4
  have le14 := le2.trans le24
  refine r_return ?_
  have n2 : upd (upd m1 (Str.ofString "handed") vh) (Str.ofString "merged") vm (Str.ofString "texts") = some vx := by
    show (if _ then _ else (if _ then _ else _)) = _
    rw [if_neg (by decide), if_neg (by decide)]; exact k2
  have n3 : upd (upd m1 (Str.ofString "handed") vh) (Str.ofString "merged") vm (Str.ofString "paths") = some vp := by
    show (if _ then _ else (if _ then _ else _)) = _
    rw [if_neg (by decide), if_neg (by decide)]; exact k3
  refine law_5 G I hT r6 n2 n3 (vs := vs2) (vc := vc) (ab := ab) (tn := tn) (by rfl) (by rfl) (by rfl) (by rfl) (hx.up le14) (hp.up le14) (hs.up le24) (hc.up le24) hsys (le4 _ _ hab) hob hB h7 hok ?_
  intro g5 s5 I le5
  refine law_6 G I hT r6 n2 (vh := vh) (vm := vm) (vc := vc) (ab := ab) (by rfl) (by rfl) (by rfl) (by rfl) (hx.up (le14.trans le5)) (hc.up (le24.trans le5)) (hh.up le5) (hmg.up le5) (le5 _ _ (le4 _ _ hab)) hob hB h7 hok ?_
  intro g6 s6 I le6
  refine law_7 G GK I hT r n2 (vm := vm) (ab := ab) (by rfl) (by rfl) (hx.up ((le14.trans le5).trans le6)) (hmg.up (le5.trans le6)) hsys (le6 _ _ (le5 _ _ (le4 _ _ hab))) hob hB h7 hok h1 ?_
  intro g7 s7 ps1 ps2 I
  exact h _ _ _ _ _ _ I
end
end Mine
set_option Elab.async false
set_option maxRecDepth 100000
set_option linter.unusedVariables false
namespace Mine
open PySem PySem.W PyProof.Rows PySem.Calls
/-! ## The heap after the module's run, as far as it is wanted -/
noncomputable def gE (P : Params) (x : String × Tok × Value) : DictEntry := ⟨PyData.keyHash P (Str.ofString x.1), .str (Str.ofString x.1) x.2.1, x.2.2⟩
noncomputable def codeO (n : String) (t : Tok) (line na fl : Int) (a b : Addr) (v13 v14 : Value) (e : Addr) (u : Int) (t2 : Tok) : Obj :=
  { cls := .type "code", data := .fields #[.str (Str.ofString n) t, .str (Str.ofString n) (t + 1), .str (Str.ofString "/claim/cut.py") (t + 2), .int line 0, .int na 0, .int 0 0, .int 0 0, .int fl 0, .ref a, .bool true, .int 181 0, .ref b, .none, v13, v14, .ref e, .int u 0, .int line 0, .str (Str.ofString "/claim/cut.py") t2] }
noncomputable def fnO (i : Nat) (m : String) (t : Tok) (c : Addr) (dV : Value) : Obj := { cls := .type "function", data := .func (fdOf i (.str (Str.ofString m) t) (.ref c) .none dV) }
noncomputable def mainRows : List (String × Tok × Value) := [("__name__", 165, .str (Str.ofString "law_il0064_01") 381), ("__doc__", 166, .none), ("__package__", 167, .none), ("__loader__", 168, .builtin "__main__.__loader__#opaque"), ("__spec__", 169, .none), ("__annotations__", 170, .ref 6), ("__builtins__", 171, .ref 4), ("__file__", 173, .str (Str.ofString "/claim/cut.py") 172), ("__cached__", 174, .none), ("_wall", 193, .ref 21), ("cmp_to_key", 204, .ref 28), ("_initial_missing", 205, .ref 29), ("reduce", 217, .ref 37), ("_c3_merge", 223, .ref 42), ("_plain_name", 234, .ref 49), ("ABCMeta", 260, .ref 66), ("_ABCLike", 303, .ref 99), ("_abc_plain_meta", 310, .ref 108), ("fspath", 322, .ref 115), ("_check_arg_types", 335, .ref 122), ("_get_sep", 344, .ref 129), ("join", 355, .ref 136), ("dirname", 365, .ref 143), ("commonpath", 371, .ref 148), ("strip_quotes", 380, .ref 155), ("_law_drawn", 388, .ref 160), ("_law_told", 401, .ref 167), ("_law_text", 410, .ref 174), ("_law_names", 420, .ref 181), ("_law_stripped", 428, .ref 188), ("_law_climbed", 436, .ref 195), ("_law_merged", 442, .ref 200), ("_law_meeting", 448, .ref 205), ("_law_before", 454, .ref 210), ("law", 460, .ref 215)]
noncomputable def KF (P : Params) : Frag := [(1, { cls := .type "dict", data := .dict #[gE P ("builtins", 162, .ref 4), gE P ("__main__", 163, .ref 5)] 2 }), (2, { cls := .none, data := .dict #[] }), (4, { cls := .type "module", dict := some 0 }), (3, { cls := .type "dict", data := .dict (mainRows.map (gE P)).toArray 35 }), (30, { cls := .type "tuple", data := .seq #[.ref 29] }), (27, codeO "cmp_to_key" 196 5 1 3 22 23 (.ref 24) (.ref 25) 26 202 203), (28, fnO 2 "cpy313.functools" 194 27 (.none)), (36, codeO "reduce" 206 31 3 3 31 32 (.ref 33) (.ref 34) 35 215 216), (37, fnO 4 "cpy313.functools" 194 36 (.ref 30)), (41, codeO "_c3_merge" 218 43 1 3 38 39 (.none) (.none) 40 221 222), (42, fnO 5 "cpy313.functools" 194 41 (.none)), (114, codeO "fspath" 313 94 1 3 109 110 (.ref 111) (.ref 112) 113 320 321), (115, fnO 14 "os" 311 114 (.none)), (128, codeO "_get_sep" 338 123 1 3 123 124 (.ref 125) (.ref 126) 127 342 343), (129, fnO 18 "cpy313.posixpath" 336 128 (.none)), (135, codeO "join" 345 128 1 7 130 131 (.ref 132) (.ref 133) 134 353 354), (136, fnO 19 "cpy313.posixpath" 336 135 (.none)), (142, codeO "dirname" 356 145 1 3 137 138 (.ref 139) (.ref 140) 141 363 364), (143, fnO 20 "cpy313.posixpath" 336 142 (.none)), (147, codeO "commonpath" 366 153 1 3 144 145 (.none) (.none) 146 369 370), (148, fnO 21 "cpy313.posixpath" 336 147 (.none)), (154, codeO "strip_quotes" 374 183 1 3 149 150 (.ref 151) (.ref 152) 153 378 379), (155, fnO 23 "cpy313.http.cookiejar" 372 154 (.none)), (159, codeO "_law_drawn" 383 190 1 3 156 157 (.none) (.none) 158 386 387), (160, fnO 25 "law_il0064_01" 381 159 (.none)), (166, codeO "_law_told" 389 194 3 3 161 162 (.ref 163) (.ref 164) 165 399 400), (167, fnO 26 "law_il0064_01" 381 166 (.none)), (173, codeO "_law_text" 402 203 3 3 168 169 (.ref 170) (.ref 171) 172 408 409), (174, fnO 27 "law_il0064_01" 381 173 (.none)), (180, codeO "_law_names" 411 205 3 3 175 176 (.ref 177) (.ref 178) 179 418 419), (181, fnO 28 "law_il0064_01" 381 180 (.none)), (187, codeO "_law_stripped" 421 210 1 3 182 183 (.ref 184) (.ref 185) 186 426 427), (188, fnO 29 "law_il0064_01" 381 187 (.none)), (194, codeO "_law_climbed" 429 215 1 3 189 190 (.ref 191) (.ref 192) 193 434 435), (195, fnO 30 "law_il0064_01" 381 194 (.none)), (199, codeO "_law_merged" 437 220 1 3 196 197 (.none) (.none) 198 440 441), (200, fnO 31 "law_il0064_01" 381 199 (.none)), (204, codeO "_law_meeting" 443 233 3 3 201 202 (.none) (.none) 203 446 447), (205, fnO 32 "law_il0064_01" 381 204 (.none)), (209, codeO "_law_before" 449 238 2 3 206 207 (.none) (.none) 208 452 453), (210, fnO 33 "law_il0064_01" 381 209 (.none)), (214, codeO "law" 455 251 1 3 211 212 (.none) (.none) 213 458 459), (215, fnO 34 "law_il0064_01" 381 214 (.none))]
noncomputable def KFa : List Addr := [1, 2, 4, 3, 30, 27, 28, 36, 37, 41, 42, 114, 115, 128, 129, 135, 136, 142, 143, 147, 148, 154, 155, 159, 160, 166, 167, 173, 174, 180, 181, 187, 188, 194, 195, 199, 200, 204, 205, 209, 210, 214, 215]
noncomputable abbrev pwP : Program := PySem.Challenge.pw_il0064_01
noncomputable def vwP : Program := view pwP [34]
noncomputable def looseP : List Str := ["_wall", "cmp_to_key", "_initial_missing", "reduce", "_c3_merge", "_plain_name", "ABCMeta", "_ABCLike", "_abc_plain_meta", "fspath", "_check_arg_types", "_get_sep", "join", "dirname", "commonpath", "strip_quotes", "_law_drawn", "_law_told", "_law_text", "_law_names", "_law_stripped", "_law_climbed", "_law_merged", "_law_meeting", "_law_before"].map Str.ofString
theorem kfa : ∀ P, KFa = (KF P).map (·.1) := fun _ => by kernel_rfl
set_option maxHeartbeats 0 in
theorem hlP : LeftO pwP vwP looseP (fun s => xlAt vwP [] s && recOk [] s) (kmHook KF KFa kfa [207, 23]).obs (kmHook KF KFa kfa [207, 23]).val 2746 := fun w => by kernel_rfl
end Mine
set_option Elab.async false
set_option maxRecDepth 100000
set_option linter.unusedVariables false
namespace Mine
open PySem PySem.W PyProof.Rows PySem.Calls SeqAt

/-! ## The join -/
noncomputable abbrev tbP : List (Addr × Addr) := [(209, 207), (27, 23)]
theorem defK {P : Params} {S : Heap} {mg : Str → Option Value} (X : (KF P).In S) (G : S.Ns mainGlobals mg) {x : Str} {i : Nat} {m n : String} {t t' t2 : Tok} {c a : Addr} {dV : Value} {line na fl : Int} {p q : Addr} {v13 v14 : Value} {e : Addr} {u : Int}
    (h1 : nsIn (KF P) mainGlobals x = some (some (.ref a))) (h2 : (KF P).lookup a = some (fnO i m t c dV)) (h3 : (KF P).lookup c = some (codeO n t' line na fl p q v13 v14 e u t2)) (h4 : Str.ofString n = fName (stmtAt i)) :
    mg x = some (.ref a) ∧ FnAt S a i (.str (Str.ofString m) t) (.ref c) .none dV :=
  ⟨mg_of X G h1, ⟨_, X _ _ h2, rfl⟩, c, _, _, t' + 1, rfl, X _ _ h3, rfl, by rw [← h4]; rfl⟩
theorem defK' {P : Params} {S : Heap} {mg : Str → Option Value} (X : (KF P).In S) (G : S.Ns mainGlobals mg) {x : Str} {i : Nat} {m n : String} {t t' t2 : Tok} {c a : Addr} {dV : Value} {line na fl : Int} {p q : Addr} {v13 v14 : Value} {e : Addr} {u : Int}
    (h1 : nsIn (KF P) mainGlobals x = some (some (.ref a))) (h2 : (KF P).lookup a = some (fnO i m t c dV)) (h3 : (KF P).lookup c = some (codeO n t' line na fl p q v13 v14 e u t2)) (h4 : Str.ofString n = fName (stmtAt i)) : ∃ a, DefAt S mg x i dV a :=
  let ⟨y, z⟩ := defK X G h1 h2 h3 h4; ⟨a, y, _, _, _, z⟩
theorem no_mg {P : Params} {S : Heap} {mg : Str → Option Value} (X : (KF P).In S) (G : S.Ns mainGlobals mg) : ∀ {l : List String}, (l.all fun x => match nsIn (KF P) mainGlobals (Str.ofString x) with | some none => true | _ => false) = true → ∀ x ∈ l, mg (Str.ofString x) = none := by
  intro l hl x hx
  have h := List.all_eq_true.mp hl x hx
  split at h
  · rename_i e
    exact mg_none_of X G e
  · cases h
theorem lawG_of {P : Params} {S : Heap} {mg mb : Str → Option Value} (X : (KF P).In S) (ST : Stat S mg mb) (BM : BMain S mg) : LawG S mg mb := by
  have g := ST.g
  refine ⟨⟨ST, no_mg X g (by kernel_rfl), defK' X g (a := 115) (c := 114) (by kernel_rfl) rfl rfl rfl, defK' X g (a := 129) (c := 128) (by kernel_rfl) rfl rfl rfl, defK' X g (a := 143) (c := 142) (by kernel_rfl) rfl rfl rfl, defK' X g (a := 155) (c := 154) (by kernel_rfl) rfl rfl rfl⟩, BM, defK' X g (a := 160) (c := 159) (by kernel_rfl) rfl rfl rfl, defK' X g (a := 167) (c := 166) (by kernel_rfl) rfl rfl rfl, defK' X g (a := 174) (c := 173) (by kernel_rfl) rfl rfl rfl, defK' X g (a := 181) (c := 180) (by kernel_rfl) rfl rfl rfl, defK' X g (a := 188) (c := 187) (by kernel_rfl) rfl rfl rfl, defK' X g (a := 195) (c := 194) (by kernel_rfl) rfl rfl rfl, defK' X g (a := 200) (c := 199) (by kernel_rfl) rfl rfl rfl, defK' X g (a := 205) (c := 204) (by kernel_rfl) rfl rfl rfl, defK' X g (a := 148) (c := 147) (by kernel_rfl) rfl rfl rfl, defK' X g (a := 42) (c := 41) (by kernel_rfl) rfl rfl rfl, defK' X g (a := 136) (c := 135) (by kernel_rfl) rfl rfl rfl, ?_, ?_⟩
  · obtain ⟨h1, h2⟩ := defK X g (x := Str.ofString "reduce") (i := 4) (a := 37) (c := 36) (by kernel_rfl) rfl rfl rfl
    exact ⟨37, 30, 29, { cls := .type "tuple", data := .seq #[.ref 29] }, 0, ⟨h1, _, _, _, h2⟩, X 30 _ (by kernel_rfl), rfl, mg_of X g (by kernel_rfl)⟩
  · exact alive (X 1 _ rfl)
theorem lawK_of {prog : Program} {w : World} {P : Params} {S : Heap} {mg : Str → Option Value} (X : (KF P).In S) (g : S.Ns mainGlobals mg) : LawK prog w S mg 207 23 := by
  obtain ⟨h1, h2⟩ := defK X g (x := Str.ofString "_law_before") (i := 33) (a := 210) (c := 209) (by kernel_rfl) rfl rfl rfl
  obtain ⟨h3, h4⟩ := defK X g (x := Str.ofString "cmp_to_key") (i := 2) (a := 28) (c := 27) (by kernel_rfl) rfl rfl rfl
  exact ⟨⟨_, _, _, _, _, h1, h2, rfl, codeHd_of_K (c := 209) (P := 207) X (by kernel_rfl)⟩, ⟨_, _, _, _, _, h3, h4, rfl, codeHd_of_K (c := 27) (P := 23) X (by kernel_rfl)⟩,
    fun C => looks_opaque X (by kernel_rfl), ⟨_, mg_of X g (n := Str.ofString "__name__") (v := .str (Str.ofString "law_il0064_01") 381) (by kernel_rfl)⟩⟩
theorem ints_all : ∀ {vs : List Value} {ns : List Int}, IntsAre vs ns → All₂ IntV vs ns
  | _, _, .nil => .nil
  | _, _, .cons n t r => .cons ⟨t, rfl⟩ (ints_all r)
theorem tabs_of {P : Params} {h : Heap} (X : (KF P).In h) (hT : ∀ Q ∈ [207, 23], h.get? Q = some (tabObj #[])) : TabsAt tbP h :=
  List.forall_mem_cons.mpr ⟨⟨codeHd_of_K X (by kernel_rfl), hT _ (.head _)⟩, List.forall_mem_cons.mpr ⟨⟨codeHd_of_K X (by kernel_rfl), hT _ (.tail _ (.head _))⟩, fun _ q => nomatch q⟩⟩
theorem old_of {h h' : Heap} {ps1 ps2 : Array Value} (hT : TabsAt tbP h) (k : ∀ b o, (ghostOf h tbP).get? b = some o → h'.get? b = some o) (h1 : h'.get? 207 = some (tabObj ps1)) (h2 : h'.get? 23 = some (tabObj ps2)) : OldK h h' := by
  have t1 := hT _ (.head _)
  have t2 := hT _ (.tail _ (.head _))
  have two : ∀ b o, h.get? b = some o → (b = 207 ∧ o = tabObj #[]) ∨ (b = 23 ∧ o = tabObj #[]) ∨ h'.get? b = some o := fun b o e => by
    by_cases q1 : b = 207
    · subst q1; exact .inl ⟨rfl, Option.some.inj (e.symm.trans t1.2)⟩
    · by_cases q2 : b = 23
      · subst q2; exact .inr (.inl ⟨rfl, Option.some.inj (e.symm.trans t2.2)⟩)
      · exact .inr (.inr (k b o (ghost_ne e (by simp [q1, q2]))))
  refine ⟨fun b o e => ?_, fun b o e => ?_⟩
  · rcases two b o e with ⟨rfl, rfl⟩ | ⟨rfl, rfl⟩ | q
    · exact .inr (.inl ⟨(t1.1.tab t1.2).isCodeTable, rfl, _, ps1, rfl, by rw [Array.empty_append]; exact h1⟩)
    · exact .inr (.inl ⟨(t2.1.tab t2.2).isCodeTable, rfl, _, ps2, rfl, by rw [Array.empty_append]; exact h2⟩)
    · exact .inl q
  · rcases two b o e with ⟨rfl, rfl⟩ | ⟨rfl, rfl⟩ | q
    · exact ⟨_, h1⟩
    · exact ⟨_, h2⟩
    · exact ⟨_, q⟩
/-- the call of law upon a script -/
theorem law_call {w : World} {s : Shared} {mg mb : Str → Option Value} {fa l : Addr} {pm cd doc : Value} {vs : List Value} {ns : List Int} {Q : Value → Shared → Prop} {E : Value → Shared → Prop} (X : (KF w.params).In s.heap) (hT : TabsAt tbP s.heap)
    (ST : Stat (ghostOf s.heap tbP) mg mb) (BM : BMain (ghostOf s.heap tbP) mg) (F : FnAt (ghostOf s.heap tbP) fa 34 pm cd doc .none) (hl : s.heap.IsList l vs.toArray) (hi : All₂ IntV vs ns) (hn : vs.length ≤ 1000)
    (h : ∀ h' t ps1 ps2, (∀ b o, (ghostOf s.heap tbP).get? b = some o → h'.get? b = some o) → h'.get? 207 = some (tabObj ps1) → h'.get? 23 = some (tabObj ps2) → Q (.bool true) { s with heap := h', toks := t }) :
    wpAny (model pwP w) callerA (call (.ref fa) [.ref l]) Q E s := by
  have XG : (KF w.params).In (ghostOf s.heap tbP) := ghost_K hT X (by kernel_rfl)
  refine call_cm (g := (ghostOf s.heap tbP).get?) (T := (ghostOf s.heap tbP).get?) (d := 8) (mu0 := [(207, tabObj #[]), (23, tabObj #[])]) (m0 := upd (fun _ => none) (Str.ofString "script") (.ref l)) (cm0 := fun _ => none) (cs0 := lawCs)
    (fun b o e => of_hideAll _ e) (fun _ _ e => e) ST rfl F ⟨rfl, by decide +kernel, by decide +kernel⟩ ?_ (by decide) (binds := [(Str.ofString "script", .ref l)]) (by rfl) (by rfl) (by decide +kernel) (fun _ => rfl) (fun _ => rfl) (fun _ => rfl) (by rfl) (by rfl) (by rfl) ?_
  · intro p hp
    rcases List.mem_cons.mp hp with rfl | hp
    · exact ⟨(hT _ (.head _)).2, hideAll_none _ (.head _)⟩
    · rcases List.mem_cons.mp hp with rfl | hp
      · exact ⟨(hT _ (.tail _ (.head _))).2, hideAll_none _ (.tail _ (.head _))⟩
      · cases hp
  intro B L s₁ O _ A1 r I
  have hl' := ghost_list hT hl
  refine law_walk (lawG_of XG ST BM) (lawK_of XG ST.g) I O.T r (by rfl) (fun h' hs => ?_) hi hn ?_
  · obtain ⟨o, e, q⟩ := hl'
    exact ⟨o, hs _ _ e, q⟩
  intro g' s' m' cm' ps1 ps2 I
  have k1 := (I.muH _ (.head _)).1
  have k2 := (I.muH _ (.tail _ (.head _))).1
  have af := O.fin I (fun a ha => by
    rcases List.mem_cons.mp ha with rfl | ha
    · exact alive k1
    · rcases List.mem_cons.mp ha with rfl | ha
      · exact alive k2
      · cases ha)
  obtain ⟨h', t', rfl⟩ := af.same
  exact h h' t' ps1 ps2 (fun b o e => af.sub _ _ (af.le _ _ e)) k1 k2
set_option maxHeartbeats 0 in
theorem ws1 : PySem.Challenge.rw_il0064_01.row.wellSaid = true := by kernel_rfl
set_option maxHeartbeats 0 in
theorem wsP : PySem.Challenge.rw_il0064_01.wellSaid = true := by
  unfold OpenLaw.wellSaid
  rw [ws1]
  kernel_rfl
noncomputable abbrev hkP : Hook := kmHook KF KFa kfa [207, 23]
end Mine
open PySem PySem.W PyProof.Rows PySem.Calls Mine
set_option maxHeartbeats 0 in
theorem PySem.Challenge.cw_il0064_01_holds : PySem.Challenge.rw_il0064_01.Holds := by
  w_on
  refine holds_law wsP fun said => ?_
  refine holds_open (q := vwP) (loose := looseP) (Xt := fun s => xlAt vwP [] s && recOk [] s) (XP := XL vwP []) (Yf := hkP.obs) (Ya := hkP.val) (YP := hkP.says) (N := 2746) hlP hkP.of hkP.keeps (fun s e => xl_of s (Bool.and_eq_true_iff.mp e).1) XL.keeps (by rfl) (by rfl) (by rfl) (fun s e => recFacts_of (Bool.and_eq_true_iff.mp e).2) (by rfl) (by first | assumption | decide +kernel) (by decide +kernel) ⟨rfl, rfl, rfl, rfl, rfl, by decide +kernel⟩ ?hw ?hc
  case hw => w_witness2
  intro w s₀ s₁ mg mb G Y fa o pm cd doc dV kV ho hd hcd hD hmg hg args vals as hpre hlay hrd hwl hlo
  have KX := km_in_of Y
  have hT := tabs_of KX (km_tabs_of Y)
  refine Ground.open G ?_
  intro T B D TE TW
  have hX : (KF w.params).In (ghostOf s₁.heap tbP) := ghost_K hT KX (by kernel_rfl)
  obtain ⟨hm1, F⟩ := defK hX (ghost_ns hT T.g) (x := Str.ofString "law") (i := 34) (a := 215) (c := 214) (by kernel_rfl) rfl rfl rfl
  obtain rfl : fa = 215 := Value.ref.inj (Option.some.inj (hmg.symm.trans hm1))
  clear hmg ho hd hcd hD hm1
  wrow_args hpre hlay hrd hwl hlo
  rename_i ns _ _ _ _ _ _ _ _ vs _ hL _ _ _ hI _ hlen _
  obtain ⟨bm, ob, b1, b2, b3, b4, b5, b6⟩ := (ghost_top hT T).bmain
  refine law_call KX hT ⟨ghost_ns hT T.g, ghost_ns hT T.b, T.builtins, (ghost_top hT T).nolimit⟩ ⟨bm, ob, b1, b2, b3, b4, b5, b6⟩ F hL (ints_all hI) ?_ ?_
  · have := (ints_all hI).length
    lia
  intro h' t ps1 ps2 hk h1 h2
  refine ⟨.inl ⟨_, .bool true, [], rfl, fun _ => rfl, .bool _, ?_, fun _ => ⟨List.nodup_nil, fun _ q => nomatch q⟩⟩, old_of hT hk h1 h2, rfl, .of_eq hg⟩
  first | rfl | kernel_rfl | simp [OpenLaw.row, ClaimW.post]
