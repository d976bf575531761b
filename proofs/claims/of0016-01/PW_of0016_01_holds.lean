import PyProof.Rows.All
import Wide.All
import OpenK.AllK
import Wide.FinOn
import PySem.Challenge.RW_of0016_01
open PySem PySem.W PyProof.Rows
set_option Elab.async false
set_option maxRecDepth 100000
set_option maxHeartbeats 8000000
set_option linter.unusedVariables false
namespace Mine
open_top hd for PySem.Challenge.rw_of0016_01
open PySem PySem.W PySem.Calls PyProof.Rows

theorem fillAll {w : World} {A : Around} {c : Code} {s : Shared} {R : Result → Shared → Prop} : (hd.heap_39 w.params).In s.heap → False → codeAny (model PySem.Challenge.rw_of0016_01.row.prog w) A c R s := by
  k_fill
  intro _ h; exact h.elim

section
abbrev lst (its : Array Value) (n : Nat) : Obj := { cls := .type "list", dict := none, data := .seq its n, slots := #[] }

/-- things at hand: where, and what is known of each -/
abbrev Led := List (Addr × (Obj → Prop))
abbrev isI (ns : List Int) : Obj → Prop := fun o => ∃ vs n, o = lst vs.toArray n ∧ IntsAre vs ns

/-- the frames of a stack: not in the ground, dicts -/
def FF (base h : Heap) (envs : List Env) : Prop :=
  ∀ env ∈ envs, env.scope.kind ≠ .module ∧ ∃ L o es ep, env.frame = some L ∧ base.get? L = none ∧ h.get? L = some o ∧ o.data = .dict es ep
abbrev frs (envs : List Env) : List Addr := envs.filterMap (·.frame)

/-- what a call keeps -/
structure Kp (fs mu : List Addr) (h h' : Heap) : Prop where
  keep : ∀ b o, h.get? b = some o → b ∉ mu → b ∉ fs → h'.get? b = some o
  slot : ∀ b o, h.get? b = some o → b ∈ fs → ∃ sl, h'.get? b = some { o with slots := sl }
  dom : ∀ b o, h.get? b = some o → ∃ o', h'.get? b = some o'

theorem Kp.refl (fs mu : List Addr) (h : Heap) : Kp fs mu h h := ⟨fun _ _ e _ _ => e, fun _ o e _ => ⟨o.slots, e⟩, fun _ o e => ⟨o, e⟩⟩
theorem Kp.ext {fs mu : List Addr} {h h' : Heap} (k : ∀ b o, h.get? b = some o → h'.get? b = some o) : Kp fs mu h h' :=
  ⟨fun b o e _ _ => k b o e, fun b o e _ => ⟨o.slots, k b o e⟩, fun b o e => ⟨o, k b o e⟩⟩
theorem Kp.push (fs mu : List Addr) (h : Heap) (o : Obj) : Kp fs mu h (h.push o) := .ext fun _ _ e => Heap.get?_push_of_some o e
theorem Kp.same {fs : List Addr} {a : Addr} {o' : Obj} {h h' : Heap} (k : Heap.SameBut a h h') (ho : h'.get? a = some o') (ha : a ∉ fs) : Kp fs [a] h h' :=
  ⟨fun b o e hb _ => (k.2 b fun q => hb (by rw [q]; exact .head _)).trans e, fun b o e hb => ⟨o.slots, (k.2 b fun q => ha (q ▸ hb)).trans e⟩, fun b o e => by
    by_cases q : b = a
    · exact ⟨o', q ▸ ho⟩
    · exact ⟨o, (k.2 b q).trans e⟩⟩
theorem Kp.trans {fs m₁ m₂ : List Addr} {h₁ h₂ h₃ : Heap} (x : Kp fs m₁ h₁ h₂) (y : Kp fs m₂ h₂ h₃) : Kp fs (m₁ ++ m₂) h₁ h₃ where
  keep b o e hm hf := y.keep b o (x.keep b o e (fun q => hm (List.mem_append_left _ q)) hf) (fun q => hm (List.mem_append_right _ q)) hf
  slot b o e hf := by
    obtain ⟨sl, e₁⟩ := x.slot b o e hf
    obtain ⟨sl', e₂⟩ := y.slot b _ e₁ hf
    exact ⟨sl', e₂⟩
  dom b o e := let ⟨_, e₁⟩ := x.dom b o e; y.dom b _ e₁
theorem Kp.less {fs m₁ m₂ : List Addr} {h h' : Heap} (x : Kp fs m₁ h h') (hm : ∀ a ∈ m₁, a ∈ m₂ ∨ h.get? a = none) : Kp fs m₂ h h' where
  keep b o e hb hf := x.keep b o e (fun q => (hm b q).elim hb fun z => by rw [z] at e; cases e) hf
  slot := x.slot
  dom := x.dom
theorem Kp.none {fs mu : List Addr} {h h' : Heap} (x : Kp fs mu h h') {a : Addr} (e : h'.get? a = none) : h.get? a = none := by
  cases q : h.get? a with
  | none => rfl
  | some o => obtain ⟨_, e'⟩ := x.dom a o q; rw [e] at e'; cases e'

theorem FF.frs_none {base h : Heap} {envs : List Env} (x : FF base h envs) {a : Addr} (ha : a ∈ frs envs) : base.get? a = none := by
  obtain ⟨env, he, hf⟩ := List.mem_filterMap.mp ha
  obtain ⟨_, L, _, _, _, hL, hn, _⟩ := x env he
  rw [hf] at hL; cases hL; exact hn
theorem FF.not_list {base h : Heap} {envs : List Env} (x : FF base h envs) {a : Addr} {its : Array Value} {n : Nat} (hl : h.get? a = some (lst its n)) : a ∉ frs envs := fun ha => by
  obtain ⟨env, he, hf⟩ := List.mem_filterMap.mp ha
  obtain ⟨_, L, o, es, ep, hL, _, ho, hd⟩ := x env he
  rw [hf] at hL; cases hL
  rw [hl] at ho; cases ho; cases hd
theorem FF.not_fields {base h : Heap} {envs : List Env} (x : FF base h envs) {a : Addr} {o : Obj} {vs : Array Value} (hl : h.get? a = some o) (hv : o.data = .fields vs) : a ∉ frs envs := fun ha => by
  obtain ⟨env, he, hf⟩ := List.mem_filterMap.mp ha
  obtain ⟨_, L, o, es, ep, hL, _, ho, hd⟩ := x env he
  rw [hf] at hL; cases hL
  rw [hl] at ho; cases ho; rw [hv] at hd; cases hd
theorem FF.kp {base h h' : Heap} {envs : List Env} {mu : List Addr} (x : FF base h envs) (k : Kp (frs envs) mu h h') : FF base h' envs := fun env he => by
  obtain ⟨hk, L, o, es, ep, hL, hn, ho, hd⟩ := x env he
  obtain ⟨sl, hs⟩ := k.slot L o ho (List.mem_filterMap.mpr ⟨env, he, hL⟩)
  exact ⟨hk, L, _, es, ep, hL, hn, hs, hd⟩
theorem FF.funFrames {base h B : Heap} : ∀ {envs : List Env}, FF base h envs → (∀ a ∈ frs envs, B.get? a = none) → h.FunFrames B envs
  | [], _, _ => trivial
  | env :: r, x, hB => by
    obtain ⟨hk, L, o, es, ep, hL, hn, ho, hd⟩ := x env (.head _)
    exact ⟨hk, ⟨L, o, hL, hB L (List.mem_filterMap.mpr ⟨env, .head _, hL⟩), ho, fun vs q => by rw [hd] at q; cases q⟩,
      FF.funFrames (fun e he => x e (.tail _ he)) fun a ha => hB a (by
        obtain ⟨e, he, hf⟩ := List.mem_filterMap.mp ha
        exact List.mem_filterMap.mpr ⟨e, .tail _ he, hf⟩)⟩

/-- within a call: hI is the heap ahead of it; ls: things at hand, each as it lies -/
structure St (base hI : Heap) (mu : List Addr) (outer : List Env) (env : Env) (L : Addr) (m : Str → Option Value) (ls : Led) (h : Heap) : Prop where
  fr : Fr base L h m
  ff : FF base h (env :: outer)
  kp : Kp (frs outer) mu hI h
  newL : hI.get? L = none
  hf : env.frame = some L
  hff : FF base hI outer
  own : ∀ p ∈ ls, (∃ o, h.get? p.1 = some o ∧ p.2 o) ∧ p.1 ∉ frs (env :: outer)

section
variable {base hI h h' : Heap} {mu : List Addr} {outer : List Env} {env : Env} {L : Addr} {m m' : Str → Option Value} {ls ls' : Led} {P P' : Obj → Prop}
theorem St.baseL (H : St base hI mu outer env L m ls h) : base.get? L = none := Heap.get?_none_of_le H.fr.above
theorem St.inL (H : St base hI mu outer env L m ls h) : L ∈ frs (env :: outer) := List.mem_filterMap.mpr ⟨env, .head _, H.hf⟩
theorem St.get (H : St base hI mu outer env L m ls h) {a : Addr} (hm : (a, P) ∈ ls) : ∃ o, h.get? a = some o ∧ P o := (H.own _ hm).1
theorem St.outerL (H : St base hI mu outer env L m ls h) : L ∉ frs outer := fun ha => by
  obtain ⟨env', he, hf⟩ := List.mem_filterMap.mp ha
  obtain ⟨_, L', o, _, _, hL, _, ho, _⟩ := H.hff env' he
  rw [hf] at hL; cases hL
  rw [H.newL] at ho; cases ho
theorem St.sub (H : St base hI mu outer env L m ls h) (k : ∀ p ∈ ls', p ∈ ls) : St base hI mu outer env L m ls' h := { H with own := fun p hp => H.own p (k p hp) }
theorem St.more (H : St base hI mu outer env L m ls h) {a : Addr} {o : Obj} (ho : h.get? a = some o) (hP : P o) (ha : a ∉ frs (env :: outer)) : St base hI mu outer env L m ((a, P) :: ls) h :=
  { H with own := fun p hp => by rcases List.mem_cons.mp hp with rfl | hp; exact ⟨⟨o, ho, hP⟩, ha⟩; exact H.own p hp }
/-- a callee's change -/
theorem St.call {mu' : List Addr} (H : St base hI mu outer env L m ls h) (k : Kp (frs (env :: outer)) mu' h h') (hb : ∀ a ∈ mu', base.get? a = none) (hm : ∀ a ∈ mu', a ∈ mu ∨ hI.get? a = none)
    (hs : ∀ p ∈ ls', p ∈ ls ∧ p.1 ∉ mu') : St base hI mu outer env L m ls' h' where
  fr := by
    refine ⟨?_, fun b o e => k.keep b o (H.fr.keep b o e) (fun q => by rw [hb b q] at e; cases e) (fun q => by rw [H.ff.frs_none q] at e; cases e), H.fr.above⟩
    obtain ⟨o, es, ep, ho, hd, r⟩ := H.fr.ns
    obtain ⟨sl, hs⟩ := k.slot L o ho H.inL
    exact ⟨_, es, ep, hs, hd, r⟩
  ff := H.ff.kp k
  kp := {
    keep := fun b o e hbm hf => k.keep b o (H.kp.keep b o e hbm hf) (fun q => (hm b q).elim hbm fun z => by rw [z] at e; cases e) fun q => by
      obtain ⟨e', he, hf'⟩ := List.mem_filterMap.mp q
      rcases List.mem_cons.mp he with rfl | he
      · rw [H.hf] at hf'; cases hf'; rw [H.newL] at e; cases e
      · exact hf (List.mem_filterMap.mpr ⟨e', he, hf'⟩)
    slot := fun b o e hf => by
      obtain ⟨sl, e₁⟩ := H.kp.slot b o e hf
      obtain ⟨e', he, hf'⟩ := List.mem_filterMap.mp hf
      obtain ⟨sl', e₂⟩ := k.slot b _ e₁ (List.mem_filterMap.mpr ⟨e', .tail _ he, hf'⟩)
      exact ⟨sl', e₂⟩
    dom := fun b o e => let ⟨_, e₁⟩ := H.kp.dom b o e; k.dom b _ e₁ }
  newL := H.newL
  hf := H.hf
  hff := H.hff
  own := fun p hp => let ⟨⟨o, ho, hP⟩, hf⟩ := H.own p (hs p hp).1; ⟨⟨o, k.keep p.1 o ho (hs p hp).2 hf, hP⟩, hf⟩
theorem St.ext (H : St base hI mu outer env L m ls h) (k : ∀ b o, h.get? b = some o → h'.get? b = some o) : St base hI mu outer env L m ls h' :=
  H.call (mu' := []) (.ext k) (fun _ q => nomatch q) (fun _ q => nomatch q) fun _ hp => ⟨hp, fun q => nomatch q⟩
theorem St.push0 (H : St base hI mu outer env L m ls h) (o : Obj) : St base hI mu outer env L m ls (h.push o) := H.ext fun _ _ e => Heap.get?_push_of_some o e
theorem St.fresh_frs (H : St base hI mu outer env L m ls h) : h.objs.size ∉ frs (env :: outer) := fun q => by
  obtain ⟨e, he, hf⟩ := List.mem_filterMap.mp q
  obtain ⟨_, L', o, _, _, hL, _, ho, _⟩ := H.ff e he
  rw [hf] at hL; cases hL
  exact absurd (Heap.lt_size ho) (Nat.lt_irrefl _)
theorem St.push (H : St base hI mu outer env L m ls h) (o : Obj) (hP : P o) (hf : o.isFreed = false := by rfl) : St base hI mu outer env L m ((h.objs.size, P) :: ls) (h.push o) :=
  (H.push0 o).more (Heap.get?_push_size _ hf) hP H.fresh_frs
theorem St.lt (H : St base hI mu outer env L m ls h) : ∀ p ∈ ls, p.1 < h.objs.size := fun p hp => let ⟨⟨_, ho, _⟩, _⟩ := H.own p hp; Heap.lt_size ho
theorem St.base_fresh (H : St base hI mu outer env L m ls h) : base.get? h.objs.size = none := by
  cases q : base.get? h.objs.size with
  | none => rfl
  | some o => exact absurd (Heap.lt_size (H.fr.keep _ _ q)) (Nat.lt_irrefl _)
theorem St.hI_fresh (H : St base hI mu outer env L m ls h) : hI.get? h.objs.size = none := H.kp.none (Heap.get?_none_of_le (Nat.le_refl _))
theorem St.same {a : Addr} {o' : Obj} (H : St base hI mu outer env L m ls h) (k : Heap.SameBut a h h') (ho : h'.get? a = some o') (ha : a ∉ frs (env :: outer)) (hb : base.get? a = none) (hm : a ∈ mu ∨ hI.get? a = none) (hs : ∀ p ∈ ls', p ∈ ls ∧ p.1 ≠ a) : St base hI mu outer env L m ls' h' :=
  H.call (Kp.same k ho ha) (fun b q => by rw [List.mem_singleton.mp q]; exact hb) (fun b q => by rw [List.mem_singleton.mp q]; exact hm) fun p hp => ⟨(hs p hp).1, fun q => (hs p hp).2 (List.mem_singleton.mp q)⟩
theorem St.put {a : Addr} {o' : Obj} (H : St base hI mu outer env L m ((a, P) :: ls) h) (k : Heap.SameBut a h h') (ho : h'.get? a = some o') (hP : P' o') (hb : base.get? a = none) (hm : a ∈ mu ∨ hI.get? a = none) (hs : ∀ p ∈ ls, p.1 ≠ a) :
    St base hI mu outer env L m ((a, P') :: ls) h' :=
  (H.same k ho (H.own _ (.head _)).2 hb hm fun p hp => ⟨.tail _ hp, hs p hp⟩).more ho hP (H.own _ (.head _)).2
theorem St.set (H : St base hI mu outer env L m ls h) (hn : h'.Ns L m') (k : Heap.SameBut L h h') : St base hI mu outer env L m' ls h' := by
  have hL := H.outerL
  refine ⟨H.fr.set hn k, fun e he => ?_, ?_, H.newL, H.hf, H.hff, fun p hp => let ⟨⟨o, ho, hP⟩, hf⟩ := H.own p hp; ⟨⟨o, (k.2 p.1 fun q => hf (q ▸ H.inL)).trans ho, hP⟩, hf⟩⟩
  · obtain ⟨hk, L', o, es, ep, hL', hn', ho, hd⟩ := H.ff e he
    by_cases q : L' = L
    · subst q
      obtain ⟨o', es', ep', ho', hd', _⟩ := hn
      exact ⟨hk, L', o', es', ep', hL', hn', ho', hd'⟩
    · exact ⟨hk, L', o, es, ep, hL', hn', (k.2 L' q).trans ho, hd⟩
  · refine ⟨fun b o e hbm hf => (k.2 b fun q => ?_).trans (H.kp.keep b o e hbm hf), fun b o e hf => ?_, fun b o e => ?_⟩
    · rw [q, H.newL] at e; cases e
    · obtain ⟨sl, e₁⟩ := H.kp.slot b o e hf
      exact ⟨sl, (k.2 b fun q => hL (q ▸ hf)).trans e₁⟩
    · obtain ⟨o', e₁⟩ := H.kp.dom b o e
      by_cases q : b = L
      · rw [q, H.newL] at e; cases e
      · exact ⟨o', (k.2 b q).trans e₁⟩

/-- everything that is not the ground's nor the frame's nor at D -/
def oth (base : Heap) (L D : Addr) (h : Heap) : List (Addr × Obj) :=
  (List.range h.objs.size).filterMap fun a => if a = L ∨ a = D ∨ (base.get? a).isSome then none else (h.get? a).map (a, ·)
theorem mem_oth {D : Addr} {p : Addr × Obj} : p ∈ oth base L D h ↔ (h.get? p.1 = some p.2 ∧ p.1 ≠ L ∧ p.1 ≠ D ∧ base.get? p.1 = none) := by
  obtain ⟨a, o⟩ := p
  simp only [oth, List.mem_filterMap, List.mem_range]
  constructor
  · rintro ⟨b, hb, e⟩
    split at e
    · cases e
    · rename_i hn
      cases q : h.get? b with
      | none => rw [q] at e; cases e
      | some o' =>
        rw [q] at e; cases e
        refine ⟨q, fun z => hn (.inl z), fun z => hn (.inr (.inl z)), ?_⟩
        cases z : base.get? a with
        | none => rfl
        | some x => exact absurd (.inr (.inr (by rw [z]; rfl))) hn
  · rintro ⟨e, h1, h2, h3⟩
    exact ⟨a, Heap.lt_size e, by rw [if_neg (by simp [h1, h2, h3]), e]; rfl⟩
theorem St.notL {a : Addr} (H : St base hI mu outer env L m ls h) (hm : (a, P) ∈ ls) : a ≠ L := fun q => (H.own _ hm).2 (q ▸ H.inL)
theorem St.news (H : St base hI mu outer env L m ls h) : News base L h (oth base L L h) := fun p hp => let ⟨a, b, _, d⟩ := mem_oth.mp hp; ⟨a, b, d⟩
theorem St.newsD {D : Addr} {o : Obj} (H : St base hI mu outer env L m ls h) (hm : (D, P) ∈ ls) (ho : h.get? D = some o) (hb : base.get? D = none) : News base L h ((D, o) :: oth base L D h) := fun p hp => by
  rcases List.mem_cons.mp hp with rfl | hp
  · exact ⟨ho, H.notL hm, hb⟩
  · obtain ⟨a, b, _, d⟩ := mem_oth.mp hp
    exact ⟨a, b, d⟩
theorem oth_ne {D : Addr} : ∀ p ∈ oth base L D h, p.1 ≠ D := fun p hp => (mem_oth.mp hp).2.2.1
theorem oth_upd {D : Addr} {o o' : Obj} : Upd D o o' ((D, o) :: oth base L D h) ((D, o') :: oth base L D h) := .head oth_ne
theorem keep_oth {D : Addr} {r : List (Addr × Obj)} (k : base.StaysIn h) (F' : Fr base L h' m') (N' : News base L h' r) (hr : ∀ p ∈ oth base L D h, p ∈ r) : ∀ b o, h.get? b = some o → b ≠ L → b ≠ D → h'.get? b = some o := fun b o e h1 h2 => by
  cases q : base.get? b with
  | none => exact (N' (b, o) (hr _ (mem_oth.mpr ⟨e, h1, h2, q⟩))).1
  | some x =>
    have := k b x q
    rw [e] at this
    cases this
    exact F'.keep b o q
theorem St.backK {D : Addr} {r : List (Addr × Obj)} {oD : Obj} (H : St base hI mu outer env L m ls h) (F' : Fr base L h' m') (N' : News base L h' r) (hr : ∀ p ∈ oth base L D h, p ∈ r) (hD : D = L ∨ (h'.get? D = some oD ∧ D ∉ frs (env :: outer) ∧ (D ∈ mu ∨ hI.get? D = none)))
    (hs : ∀ p ∈ ls', p ∈ ls ∧ p.1 ≠ D) : St base hI mu outer env L m' ls' h' := by
  have kk := keep_oth (D := D) H.fr.keep F' N' hr
  have hL := H.outerL
  have hDf : D ∈ frs (env :: outer) → D = L := fun q => hD.elim id fun z => absurd q z.2.1
  have hDo : D ∉ frs outer := fun q => by
    have : D ∈ frs (env :: outer) := by
      obtain ⟨e, he, hf⟩ := List.mem_filterMap.mp q
      exact List.mem_filterMap.mpr ⟨e, .tail _ he, hf⟩
    exact hL (hDf this ▸ q)
  have hdom : ∀ b o, h.get? b = some o → ∃ o', h'.get? b = some o' := fun b o e => by
    by_cases q : b = L
    · obtain ⟨o', _, _, ho', _⟩ := F'.ns
      exact ⟨o', q ▸ ho'⟩
    · by_cases q' : b = D
      · rcases hD with z | z
        · exact absurd (q'.trans z) q
        · exact ⟨oD, q' ▸ z.1⟩
      · exact ⟨o, kk b o e q q'⟩
  refine ⟨F', fun e he => ?_, ⟨fun b o e hbm hf => ?_, fun b o e hf => ?_, fun b o e => ?_⟩, H.newL, H.hf, H.hff, fun p hp => ⟨?_, (H.own p (hs p hp).1).2⟩⟩
  · obtain ⟨hk, L', o, es, ep, hL', hn', ho, hd⟩ := H.ff e he
    by_cases q : L' = L
    · subst q
      obtain ⟨o', es', ep', ho', hd', _⟩ := F'.ns
      exact ⟨hk, L', o', es', ep', hL', hn', ho', hd'⟩
    · exact ⟨hk, L', o, es, ep, hL', hn', kk L' o ho q (fun z => q ((z ▸ hDf (z ▸ List.mem_filterMap.mpr ⟨e, he, hL'⟩)))), hd⟩
  · have e₁ := H.kp.keep b o e hbm hf
    refine kk b o e₁ (fun q => ?_) fun q => ?_
    · rw [q, H.newL] at e; cases e
    · rcases hD with z | z
      · rw [q, z, H.newL] at e; cases e
      · exact z.2.2.elim (fun y => hbm (q ▸ y)) fun y => by rw [q, y] at e; cases e
  · obtain ⟨sl, e₁⟩ := H.kp.slot b o e hf
    exact ⟨sl, kk b _ e₁ (fun q => hL (q ▸ hf)) fun q => hDo (q ▸ hf)⟩
  · obtain ⟨o', e₁⟩ := H.kp.dom b o e
    exact hdom b o' e₁
  · obtain ⟨⟨o, ho, hP⟩, hf⟩ := H.own p (hs p hp).1
    exact ⟨o, kk p.1 o ho (fun q => hf (q ▸ H.inL)) (hs p hp).2, hP⟩
theorem St.back {r : List (Addr × Obj)} (H : St base hI mu outer env L m ls h) (F' : Fr base L h' m') (N' : News base L h' r) (hr : ∀ p ∈ oth base L L h, p ∈ r) : St base hI mu outer env L m' ls h' :=
  H.backK (D := L) (oD := default) F' N' hr (.inl rfl) fun p hp => ⟨hp, fun q => (H.own p hp).2 (q ▸ H.inL)⟩
theorem St.backN {l : Addr} {o : Obj} (H : St base hI mu outer env L m ls h) (F' : Fr base L h' m') (N' : News base L h' ((l, o) :: oth base L L h)) (hP : P o) (hl : ∀ p ∈ oth base L L h, p.1 < l) :
    St base hI mu outer env L m' ((l, P) :: ls) h' ∧ (∀ p ∈ ls, p.1 ≠ l) ∧ base.get? l = none ∧ hI.get? l = none ∧ h.get? l = none := by
  obtain ⟨e, hn, hb⟩ := N' (l, o) (.head _)
  have hh : h.get? l = none := by
    cases q : h.get? l with
    | none => rfl
    | some x => exact absurd (hl (l, x) (mem_oth.mpr ⟨q, hn, hn, hb⟩)) (Nat.lt_irrefl _)
  have hnf : l ∉ frs (env :: outer) := fun q => by
    obtain ⟨e', he, hf⟩ := List.mem_filterMap.mp q
    obtain ⟨_, L', o', _, _, hL', _, ho, _⟩ := H.ff e' he
    rw [hf] at hL'; cases hL'
    have ho' : h.get? l = some o' := ho
    rw [hh] at ho'; cases ho'
  refine ⟨(H.back F' N' fun p hp => .tail _ hp).more e hP hnf, fun p hp q => ?_, hb, H.kp.none hh, hh⟩
  obtain ⟨o, ho, _⟩ := (H.own p hp).1
  rw [q, hh] at ho; cases ho
/-- may be changed -/
def Mu (base hI : Heap) (mu : List Addr) (D : Addr) : Prop := base.get? D = none ∧ (D ∈ mu ∨ hI.get? D = none)
theorem St.backU {D : Addr} {o' : Obj} (H : St base hI mu outer env L m ((D, P) :: ls) h) (F' : Fr base L h' m') (N' : News base L h' ((D, o') :: oth base L D h)) (hP : P' o') (hm : Mu base hI mu D) (hs : ∀ p ∈ ls, p.1 ≠ D) :
    St base hI mu outer env L m' ((D, P') :: ls) h' :=
  (H.backK (D := D) F' N' (fun p hp => .tail _ hp) (.inr ⟨(N' _ (.head _)).1, (H.own _ (.head _)).2, hm.2⟩) fun p hp => ⟨.tail _ hp, hs p hp⟩).more (N' _ (.head _)).1 hP (H.own _ (.head _)).2
end

/-- what lies under a call -/
structure Gd (base h : Heap) (envs : List Env) : Prop where
  stays : base.StaysIn h
  ff : FF base h envs
  size : base.objs.size ≤ h.objs.size
section
variable {base hI h h' : Heap} {mu : List Addr} {outer : List Env} {env : Env} {L : Addr} {m m' : Str → Option Value} {ls ls' : Led} {P P' : Obj → Prop}
theorem St.gd (H : St base hI mu outer env L m ls h) : Gd base h (env :: outer) := ⟨H.fr.keep, H.ff, Nat.le_trans H.fr.above (Nat.le_of_lt H.fr.ns.lt)⟩
theorem St.start {h₁ : Heap} (G : Gd base h outer) (hls : ∀ p ∈ ls, (∃ o, h.get? p.1 = some o ∧ p.2 o) ∧ p.1 ∉ frs outer) (hf : env.frame = some h.objs.size) (hk : env.scope.kind ≠ .module)
    (hns : h₁.Ns h.objs.size m) (hk₁ : ∀ b o, h.get? b = some o → h₁.get? b = some o) : St base h mu outer env h.objs.size m ls h₁ where
  fr := ⟨hns, fun b o e => hk₁ b o (G.stays b o e), G.size⟩
  ff := fun e he => by
    rcases List.mem_cons.mp he with rfl | he
    · obtain ⟨o, es, ep, ho, hd, _⟩ := hns
      exact ⟨hk, _, o, es, ep, hf, G.stays.fresh, ho, hd⟩
    · obtain ⟨hk', L', o, es, ep, hL', hn', ho, hd⟩ := G.ff e he
      exact ⟨hk', L', o, es, ep, hL', hn', hk₁ _ _ ho, hd⟩
  kp := .ext hk₁
  newL := Heap.get?_none_of_le (Nat.le_refl _)
  hf := hf
  hff := G.ff
  own := fun p hp => let ⟨⟨o, ho, hP⟩, hf0⟩ := hls p hp; ⟨⟨o, hk₁ _ _ ho, hP⟩, fun q => by
    obtain ⟨e, he, hf'⟩ := List.mem_filterMap.mp q
    rcases List.mem_cons.mp he with rfl | he
    · rw [hf] at hf'
      have := Heap.lt_size ho
      rw [← Option.some.inj hf'] at this
      exact absurd this (Nat.lt_irrefl _)
    · exact hf0 (List.mem_filterMap.mpr ⟨e, he, hf'⟩)⟩
end

/-- the same call, elsewhere -/
abbrev Stx {base hI h : Heap} {mu : List Addr} {outer : List Env} {env : Env} {L : Addr} {m : Str → Option Value} {ls : Led} (H : St base hI mu outer env L m ls h) (m' : Str → Option Value) (ls' : Led) (h' : Heap) : Prop := St base hI mu outer env L m' ls' h'
/-- around a call -/
structure Cx (w : World) (mean : ExcName → Option Value) (mg mb : Str → Option Value) (base : Heap) (A : Around) (envs : List Env) (n : Nat) : Prop where
  stack : A.frames = some envs
  hnd : A.handled = none
  depth : A.depth + n < recursionLimit
  units : A.units + 10 * n + 50 < cLine
  X : (hd.heap_39 w.params).In base
  T : Top hd.view_39 (looseW hd.view_39 []) mean mg mb base
abbrev Md (w : World) : Model := model PySem.Challenge.rw_of0016_01.row.prog w


theorem Cx.deeper {w : World} {mean : ExcName → Option Value} {mg mb : Str → Option Value} {base : Heap} {A : Around} {envs : List Env} {n : Nat} (C : Cx w mean mg mb base A envs (n + 1)) (env : Env) : Cx w mean mg mb base (A.deeper env) (env :: envs) n :=
  ⟨by show A.frames.map (env :: ·) = _; rw [C.stack]; rfl, C.hnd, by have := C.depth; show A.depth + 1 + n < _; omega, by have := C.units; show A.units + 3 + 10 * n + 50 < _; omega, C.X, C.T⟩
theorem Cx.less {w : World} {mean : ExcName → Option Value} {mg mb : Str → Option Value} {base : Heap} {A : Around} {envs : List Env} {n : Nat} (C : Cx w mean mg mb base A envs (n + 1)) : Cx w mean mg mb base A envs n :=
  ⟨C.stack, C.hnd, by have := C.depth; omega, by have := C.units; omega, C.X, C.T⟩

section
variable {w : World} {mean : ExcName → Option Value} {mg mb : Str → Option Value} {base hI : Heap} {A : Around} {envs outer : List Env} {n : Nat} {s : Shared} {E : Value → Shared → Prop}
theorem enter {f : Addr} {vals : List Value} {Q : Value → Shared → Prop} {name qual : Str} {params : Arguments} {body : List Stmt} {scope : Scope} {dV kV doc pm cdv ct oc : Value} {an od : Option Addr} {osl : Array (Option Value)} {binds : List (Str × Value)}
    (mu : List Addr) (ls : Led)
    (C : Cx w mean mg mb base A envs (n + 1)) (G : Gd base s.heap envs) (hls : ∀ p ∈ ls, (∃ o, s.heap.get? p.1 = some o ∧ p.2 o) ∧ p.1 ∉ frs envs)
    (ho : (hd.heap_39 w.params).lookup f = some ⟨oc, od, .func (fnOf name qual params body scope dV kV doc pm an cdv ct), osl⟩) (hcd : codeIn (hd.heap_39 w.params) cdv qual = true)
    (hbind : bindArgs (fnOf name qual params body scope dV kV doc pm an cdv ct) ⟨vals, []⟩ = pure binds) (hloc : ∀ y ∈ binds, scope.names.lookup y.1 = some .local)
    (h : ∀ L h₁, St base s.heap mu envs (envX qual scope L f cdv []) L (fun y => binds.reverse.lookup y) ls h₁ → Cx w mean mg mb base (A.deeper (envX qual scope L f cdv [])) (envX qual scope L f cdv [] :: envs) n →
      wpAny (Md w) (A.deeper (envX qual scope L f cdv [])) (execs body (envX qual scope L f cdv [])) (fun fl s' => Q (match fl with | .ret v => v | _ => .none) s')
        (fun e s' => wpAny (Md w) (A.deeper (envX qual scope L f cdv [])) (leaving (envX qual scope L f cdv []) e) (fun _ s'' => E e s'') (fun e' s'' => E e' s'') s')
        { s with heap := h₁, toks := s.toks + binds.length })
    (hcell : ∀ x ∈ scope.names, x.2 ≠ .cell) (hco : scope.isCoroutine = false) (hgen : scope.isGenerator = false) (hk : scope.kind = .function) :
    wpAny (Md w) A (call (.ref f) vals) Q E s := by
  have X := C.X.keeps G.stays
  refine wpAny_call (codeAny_call_def (fd := fnOf name qual params body scope dV kV doc pm an cdv ct) (body := body) (binds := binds) (by have := C.depth; omega) (X _ _ ho) rfl (C.T.nolimit.keeps G.stays) (codeRec_of X hcd) rfl (BindsTo.of_eq hbind) hcell hloc (fun h₁ hns hk₁ => ?_) hco hgen hk)
  refine h s.heap.objs.size h₁ (St.start (env := envX qual scope s.heap.objs.size f cdv []) G hls rfl (by show scope.kind ≠ _; rw [hk]; decide) hns hk₁) (C.deeper _)
end

/-- a list of isI -/
def LI (h : Heap) (a : Addr) (ns : List Int) : Prop := ∃ o, h.get? a = some o ∧ isI ns o
theorem LI.isList {h : Heap} {a : Addr} {ns : List Int} (x : LI h a ns) : ∃ vs, h.IsList a vs.toArray ∧ IntsAre vs ns := let ⟨_, ho, vs, n, e, hi⟩ := x; ⟨vs, ⟨_, ho, by rw [e], n, by rw [e]⟩, hi⟩
theorem LI.frs {base h : Heap} {envs : List Env} {a : Addr} {ns : List Int} (x : LI h a ns) (f : FF base h envs) : a ∉ frs envs := by
  obtain ⟨o, ho, vs, n, e, hi⟩ := x
  subst e
  exact f.not_list ho
theorem St.li {base hI h : Heap} {mu : List Addr} {outer : List Env} {env : Env} {L : Addr} {m : Str → Option Value} {ls : Led} {a : Addr} {ns : List Int} (H : St base hI mu outer env L m ls h) (hm : (a, isI ns) ∈ ls) : LI h a ns := H.get hm
theorem LI.kp {fs mu : List Addr} {h h' : Heap} {a : Addr} {ns : List Int} (x : LI h a ns) (k : Kp fs mu h h') (h1 : a ∉ mu) (h2 : a ∉ fs) : LI h' a ns := let ⟨o, ho, r⟩ := x; ⟨o, k.keep a o ho h1 h2, r⟩
end
section
section
variable {w : World} {M : Model} {A : Around} {E : Value → Shared → Prop} {s : Shared} {name : Str} {scope : Scope} {a : Addr} {cd : Value} {cl : List (Str × Addr)}
  {base hI : Heap} {mu : List Addr} {outer : List Env} {env : Env} {L : Addr} {m : Str → Option Value} {ls : Led} {P : Obj → Prop}

theorem r_store {x : Str} {v : Value} {Q : Unit → Shared → Prop} (H : St base hI mu outer (envX name scope L a cd cl) L m ls s.heap)
    (hk : scope.kind = .function) (hl : (envX name scope L a cd cl).kindOf x = some .local)
    (h : ∀ h', St base hI mu outer (envX name scope L a cd cl) L (fun y => if y = x then some v else m y) ls h' → Q () { s with heap := h', toks := s.toks + 1 }) :
    wpAny M A (storeName (envX name scope L a cd cl) x v) Q E s :=
  wpAny_storeName_local hl H.fr.ns (fun h' hn hs => h h' (H.set hn hs))
    (by show (scope.kind == .class || (scope.kind == .module && L != mainGlobals)) = false; rw [hk]; rfl)

theorem r_name {x : Str} {pos : Pos} {v : Value} {Q : Value → Shared → Prop} (H : St base hI mu outer (envX name scope L a cd cl) L m ls s.heap) (hv : m x = some v)
    (hk : scope.kind = .function) (hl : (envX name scope L a cd cl).kindOf x = some .local) (hd : (x == ("__debug__" : Str)) = false) (h : Q v s) :
    wpAny M A (eval (.Name x pos) (envX name scope L a cd cl)) Q E s := wpAny_Name (wpAny_loadName_local hk hl H.fr.ns hv h) hd
theorem r_load {x : Str} {v : Value} {Q : Value → Shared → Prop} (H : St base hI mu outer (envX name scope L a cd cl) L m ls s.heap) (hv : m x = some v)
    (hk : scope.kind = .function) (hl : (envX name scope L a cd cl).kindOf x = some .local) (h : Q v s) :
    wpAny M A (loadName (envX name scope L a cd cl) x) Q E s := wpAny_loadName_local hk hl H.fr.ns hv h
/-- a def of the text, by its name -/
theorem r_def {mean : ExcName → Option Value} {mg mb : Str → Option Value} {envs : List Env} {n : Nat} {x : Str} {pos : Pos} {v : Value} {Q : Value → Shared → Prop} (C : Cx w mean mg mb base A envs n) (H : St base hI mu outer (envX name scope L a cd cl) L m ls s.heap)
    (e : nsIn (hd.heap_39 w.params) mainGlobals x = some (some v)) (hk : scope.kind = .function) (hx : (envX name scope L a cd cl).kindOf x = some .globalImplicit) (hd : (x == ("__debug__" : Str)) = false) (h : Q v s) :
    wpAny (Md w) A (eval (.Name x pos) (envX name scope L a cd cl)) Q E s := nameX_K H.fr C.X (topRead_of C.T) e h hk hx hd
theorem r_boot {mean : ExcName → Option Value} {mg mb : Str → Option Value} {envs : List Env} {n : Nat} {x : Str} {pos : Pos} {v : Value} {Q : Value → Shared → Prop} (C : Cx w mean mg mb base A envs n) (H : St base hI mu outer (envX name scope L a cd cl) L m ls s.heap)
    (e : nsIn (hd.heap_39 w.params) mainGlobals x = some none) (hv : bootBuiltins x = some v) (hn : x ≠ "__name__") (hk : scope.kind = .function) (hx : (envX name scope L a cd cl).kindOf x = some .globalImplicit) (hd : (x == ("__debug__" : Str)) = false) (h : Q v s) :
    wpAny (Md w) A (eval (.Name x pos) (envX name scope L a cd cl)) Q E s := nameX_B H.fr C.X (topRead_of C.T) e hv hn h hk hx hd

/-- a while by what holds of it -/
theorem r_while {α : Type} {test : Expr} {body : List Stmt} {pos : Pos} {env : Env} {Q : Flow → Shared → Prop} (I : α → Shared → Prop) (μ : α → Nat) (x : α) (hI : I x s)
    (turn : ∀ x s, I x s → wpAny (Md w) A (isTrue test env (eval test env)) (fun b s₂ =>
        if b then wpAny (Md w) A (execs body env) (fun f s₃ => match f with
            | .next | .cont => ∃ y, μ y < μ x ∧ I y s₃
            | .brk => Q .next s₃
            | .ret v => Q (.ret v) s₃) (notedBy (Md w) A env (cameBackBy (Md w) A env E)) s₂
        else Q .next s₂) (notedBy (Md w) A env (cameBackBy (Md w) A env E)) s) :
    wpAny (Md w) A (exec (.While test body [] pos) env) Q E s := by
  refine wpAny_While (codeAny_whileLoop (fun n s => ∃ x, μ x = n ∧ I x s) (fun n s ⟨x, hx, hI⟩ => ?_) (μ x) ⟨x, rfl, hI⟩)
  refine wpAny_mono (turn x s hI) (fun b s₂ h₂ => ?_) fun _ _ e => e
  cases b with
  | true =>
    simp only [if_true] at h₂ ⊢
    refine wpAny_mono h₂ (fun f s₃ h₃ => ?_) fun _ _ e => e
    cases f with
    | next => obtain ⟨y, hy, hIy⟩ := h₃; exact ⟨μ y, hx ▸ hy, y, rfl, hIy⟩
    | cont => obtain ⟨y, hy, hIy⟩ := h₃; exact ⟨μ y, hx ▸ hy, y, rfl, hIy⟩
    | brk => exact h₃
    | ret v => exact h₃
  | false =>
    simp only [Bool.false_eq_true, if_false] at h₂ ⊢
    exact wpAny_execs_nil h₂

theorem r_whileR {α : Type} {test : Expr} {body : List Stmt} {pos : Pos} {env : Env} {Q : Flow → Shared → Prop} (I : α → Shared → Prop) (μ : α → Nat) (R : Shared → Prop) (x : α) (hI : I x s)
    (turn : ∀ x s, I x s → wpAny (Md w) A (isTrue test env (eval test env)) (fun b s₂ =>
        if b then wpAny (Md w) A (execs body env) (fun f s₃ => match f with
            | .next | .cont => ∃ y, μ y < μ x ∧ I y s₃
            | .brk => R s₃
            | .ret v => Q (.ret v) s₃) (notedBy (Md w) A env (cameBackBy (Md w) A env E)) s₂
        else R s₂) (notedBy (Md w) A env (cameBackBy (Md w) A env E)) s) (fin : ∀ s, R s → Q .next s) :
    wpAny (Md w) A (exec (.While test body [] pos) env) Q E s := by
  refine r_while I μ x hI fun x s hI => wpAny_mono (turn x s hI) (fun b s₂ h₂ => ?_) fun _ _ e => e
  cases b with
  | true =>
    simp only [if_true] at h₂ ⊢
    refine wpAny_mono h₂ (fun f s₃ h₃ => ?_) fun _ _ e => e
    cases f with
    | brk => exact fin _ h₃
    | _ => exact h₃
  | false =>
    simp only [Bool.false_eq_true, if_false] at h₂ ⊢
    exact fin _ h₂
theorem r_whileA {α : Type} {test : Expr} {body : List Stmt} {pos : Pos} {env : Env} {Q : Flow → Shared → Prop} (I : α → Shared → Prop) (μ : α → Nat) (R : Shared → Prop) (x : α) (hI : I x s)
    (turn : ∀ (P : α → Shared → Prop) (R' : Shared → Prop), (∀ y s, I y s → P y s) → (∀ s, R s → R' s) → ∀ x s, I x s → wpAny (Md w) A (isTrue test env (eval test env)) (fun b s₂ =>
        if b then wpAny (Md w) A (execs body env) (fun f s₃ => match f with
            | .next | .cont => ∃ y, μ y < μ x ∧ P y s₃
            | .brk => R' s₃
            | .ret v => Q (.ret v) s₃) (notedBy (Md w) A env (cameBackBy (Md w) A env E)) s₂
        else R' s₂) (notedBy (Md w) A env (cameBackBy (Md w) A env E)) s) (fin : ∀ s, R s → Q .next s) :
    wpAny (Md w) A (exec (.While test body [] pos) env) Q E s := r_whileR I μ R x hI (turn I R (fun _ _ h => h) fun _ h => h) fin
theorem r_cutA {t : Sem Flow} {Q : Flow → Shared → Prop} (R : Shared → Prop) (h : ∀ R' : Shared → Prop, (∀ s, R s → R' s) → wpAny M A t (fun f s' => f = .next ∧ R' s') E s) (k : ∀ s', R s' → Q .next s') : wpAny M A t Q E s :=
  wpAny_mono (h R fun _ h => h) (fun f s' ⟨e, r⟩ => e ▸ k s' r) fun _ _ e => e
theorem r_cut {t : Sem Flow} {Q : Flow → Shared → Prop} (R : Shared → Prop) (h : wpAny M A t (fun f s' => f = .next ∧ R s') E s) (k : ∀ s', R s' → Q .next s') : wpAny M A t Q E s :=
  wpAny_mono h (fun f s' ⟨e, r⟩ => e ▸ k s' r) fun _ _ e => e
-- lists of ints
theorem r_item {value slice : Expr} {l : Addr} {ns : List Int} {k : Int} {u : Tok} {Q : Value → Shared → Prop} (x : LI s.heap l ns) (h0 : 0 ≤ k) (h1 : k < ns.length) (hfit : k < 2 ^ 63)
    (hs : subscripted slice false (.ref l) (.int k u) = operate [.ref l, .int k u] (getItem (.ref l) (.int k u))) (h : ∀ t, Q (.int (ns.getD k.toNat 0) t) s) :
    wpAny (Md w) A (subscriptTail value slice (.ref l) (.int k u)) Q E s := let ⟨_, hl, hi⟩ := x.isList; item_anyK hl hi h0 h1 hfit h hs
theorem r_len {l : Addr} {ns : List Int} {Q : Value → Shared → Prop} (x : LI s.heap l ns) (hfit : (ns.length : Int) < 2 ^ 63) (h : Q (.int ns.length (s.toks + 1)) { s with toks := s.toks + 1 + 1 }) :
    wpAny (Md w) A (call (.builtin "len") [.ref l]) Q E s := by
  obtain ⟨vs, hl, hi⟩ := x.isList
  have e : vs.toArray.size = ns.length := by rw [List.size_toArray]; exact hi.length
  exact len_list hl (by rw [e]; exact hfit) (by rw [e]; exact h)
theorem r_set {D : Addr} {ns : List Int} {k x : Int} {t u : Tok} {Q : Unit → Shared → Prop} (H : St base hI mu outer env L m ((D, isI ns) :: ls) s.heap) (hm : Mu base hI mu D) (hs : ∀ p ∈ ls, p.1 ≠ D) (h0 : 0 ≤ k) (h1 : k < ns.length) (hfit : k < 2 ^ 63)
    (h : ∀ h', St base hI mu outer env L m ((D, isI (ns.set k.toNat x)) :: ls) h' → Q () { s with heap := h' }) : wpAny (Md w) A (setItem (.ref D) (.int k t) (.int x u)) Q E s := by
  obtain ⟨o, ho, vs, n, rfl, hi⟩ := H.get (.head _)
  exact ksa_set H.fr (H.newsD (.head _) ho hm.1) oth_upd hi h0 h1 hfit fun h' F' N' hi' _ _ => h h' (H.backU F' N' ⟨_, _, rfl, hi'⟩ hm hs)
theorem r_append {D : Addr} {ns : List Int} {x : Int} {u : Tok} {Q : Value → Shared → Prop} (H : St base hI mu outer env L m ((D, isI ns) :: ls) s.heap) (hm : Mu base hI mu D) (hs : ∀ p ∈ ls, p.1 ≠ D) (hz : ns.length ≤ sizeLine)
    (h : ∀ h', St base hI mu outer env L m ((D, isI (ns ++ [x])) :: ls) h' → Q .none { s with heap := h' }) : wpAny (Md w) A (call (.builtin "list.append") [.ref D, .int x u]) Q E s := by
  obtain ⟨o, ho, vs, n, rfl, hi⟩ := H.get (.head _)
  refine append_K H.fr (H.newsD (.head _) ho hm.1) oth_upd (fun h' F' N' => h h' (H.backU F' N' ⟨vs ++ [.int x u], n + 1, by simp, hi.append (.cons x u .nil)⟩ hm hs)) ?_
  rw [List.size_toArray, hi.length]; exact hz
theorem r_pop {D : Addr} {ns : List Int} {Q : Value → Shared → Prop} (H : St base hI mu outer env L m ((D, isI ns) :: ls) s.heap) (hm : Mu base hI mu D) (hs : ∀ p ∈ ls, p.1 ≠ D) (hne : 0 < ns.length) (hz : ns.length ≤ sizeLine)
    (h : ∀ h' t, St base hI mu outer env L m ((D, isI ns.dropLast) :: ls) h' → Q (.int (ns.getLastD 0) t) { s with heap := h' }) : wpAny (Md w) A (call (.builtin "list.pop") [.ref D]) Q E s := by
  obtain ⟨o, ho, vs, n, rfl, hi⟩ := H.get (.head _)
  have e := hi.length
  exact kpa_pop H.fr (H.newsD (.head _) ho hm.1) oth_upd hi (by omega) (by omega) fun h' t F' N' hi' => h h' t (H.backU F' N' ⟨_, _, rfl, hi'⟩ hm hs)
theorem r_newInts {vs : List Value} {ns : List Int} {Q : Value → Shared → Prop} (H : St base hI mu outer env L m ls s.heap) (hi : IntsAre vs ns) (hz : ns.length ≤ sizeLine)
    (h : ∀ l h', St base hI mu outer env L m ((l, isI ns) :: ls) h' → (∀ p ∈ ls, p.1 ≠ l) → Mu base hI mu l → s.heap.get? l = none → Q (.ref l) { s with heap := h' }) : wpAny M A (newList vs) Q E s :=
  newList_K H.fr H.news (fun l h' F' N' hl => let ⟨a, b, c, d, e⟩ := H.backN F' N' (P := isI ns) ⟨_, _, rfl, hi⟩ hl; h l h' a b ⟨c, .inr d⟩ e) (by rw [hi.length]; exact hz)
theorem r_getM {nm : Str} {id : String} {pl : Sem Bool} {l : Addr} {ns : List Int} {Q : Value × List Value → Shared → Prop} (x : LI s.heap l ns) (slot : Slot "list" nm id) (hty : typeOf (.builtin id) = pure (.type "method_descriptor"))
    (h : Q (.builtin id, [.ref l]) s) : wpAny (Md w) A (getMethod (.ref l) nm pl) Q E s := by
  obtain ⟨o, ho, vs, n, rfl, hi⟩ := x
  exact getMethod_builtin ⟨_, ho, rfl⟩ PySem.F.plainAttrs_list slot hty (fun a e => by cases e; exact ⟨_, ho, rfl⟩) h
end
end
section
abbrev isV (vs : List Value) : Obj → Prop := fun o => ∃ n, o = lst vs.toArray n
abbrev isIt (l : Addr) (i : Nat) : Obj → Prop := fun o => o.cls = .type "list_iterator" ∧ o.data = .fields #[.ref l, .int i 0]

section
variable {w : World} {M : Model} {A : Around} {E : Value → Shared → Prop} {s : Shared} {name : Str} {scope : Scope} {a : Addr} {cd : Value} {cl : List (Str × Addr)}
  {base hI : Heap} {mu : List Addr} {outer : List Env} {env : Env} {L : Addr} {m : Str → Option Value} {ls : Led} {P : Obj → Prop}

theorem St.open {h : Heap} {ns : List Int} (H : St base hI mu outer env L m ((a, isI ns) :: ls) h) : ∃ vs, IntsAre vs ns ∧ St base hI mu outer env L m ((a, isV vs) :: ls) h := by
  obtain ⟨⟨o, ho, vs, n, e, hi⟩, hf⟩ := H.own _ (.head _)
  exact ⟨vs, hi, (H.sub fun p hp => .tail _ hp).more ho ⟨n, e⟩ hf⟩
theorem getD_mem {ns : List Int} {i : Nat} (h : i < ns.length) : ns.getD i 0 ∈ ns := by
  have : ns.getD i 0 = ns[i] := by simp [List.getD, h]
  rw [this]; exact List.getElem_mem h
theorem ints_at {vs : List Value} {ns : List Int} {i : Nat} {v : Value} (hi : IntsAre vs ns) (hv : vs[i]? = some v) : i < ns.length ∧ ∃ t, v = .int (ns.getD i 0) t := by
  have hl := hi.length
  have h1 : i < vs.length := (List.getElem?_eq_some_iff.mp hv).1
  have h2 : ns[i]? = some (ns.getD i 0) := by simp [List.getD, show i < ns.length by omega]
  obtain ⟨t, ht⟩ := hi.get i _ h2
  rw [hv] at ht
  exact ⟨by omega, t, Option.some.inj ht⟩
theorem St.close {vs : List Value} {ns : List Int} {h : Heap} (H : St base hI mu outer env L m ((a, isV vs) :: ls) h) (hi : IntsAre vs ns) : St base hI mu outer env L m ((a, isI ns) :: ls) h := by
  obtain ⟨⟨o, ho, n, e⟩, hf⟩ := H.own _ (.head _)
  exact (H.sub fun p hp => .tail _ hp).more ho ⟨vs, n, e, hi⟩ hf

theorem St.extBut {h h' : Heap} {ls' : Led} {b : Addr} (H : St base hI mu outer env L m ls h) (k : Heap.ExtBut b h h') (ha : b ∉ frs (env :: outer)) (hb : base.get? b = none) (hm : hI.get? b = none) (hs : ∀ p ∈ ls', p ∈ ls ∧ p.1 ≠ b) : St base hI mu outer env L m ls' h' := by
  have hLb : L ≠ b := fun q => ha (q ▸ H.inL)
  have ho : b ∉ frs outer := fun q => ha (by obtain ⟨e, he, hf⟩ := List.mem_filterMap.mp q; exact List.mem_filterMap.mpr ⟨e, .tail _ he, hf⟩)
  refine ⟨⟨H.fr.ns.extBut k hLb, fun c o e => k c o (fun q => by rw [q, hb] at e; cases e) (H.fr.keep c o e), H.fr.above⟩, fun e he => ?_, ⟨fun c o e h1 h2 => ?_, fun c o e h2 => ?_, fun c o e => ?_⟩, H.newL, H.hf, H.hff, fun p hp => ?_⟩
  · obtain ⟨hk, L', o, es, ep, hL', hn', ho, hd⟩ := H.ff e he
    exact ⟨hk, L', o, es, ep, hL', hn', k L' o (fun q => ha (q ▸ List.mem_filterMap.mpr ⟨e, he, hL'⟩)) ho, hd⟩
  · exact k c o (fun q => by rw [q, hm] at e; cases e) (H.kp.keep c o e h1 h2)
  · obtain ⟨sl, e₁⟩ := H.kp.slot c o e h2
    exact ⟨sl, k c _ (fun q => ho (q ▸ h2)) e₁⟩
  · obtain ⟨o', e₁⟩ := H.kp.dom c o e
    exact ⟨o', k c _ (fun q => by rw [q, hm] at e; cases e) e₁⟩
  · obtain ⟨⟨o, ho, hP⟩, hf⟩ := H.own p (hs p hp).1
    exact ⟨⟨o, k p.1 o (hs p hp).2 ho, hP⟩, hf⟩
theorem St.callU {h h' : Heap} {P P' : Obj → Prop} {D : Addr} (H : St base hI mu outer env L m ((D, P) :: ls) h) (k : Kp (frs (env :: outer)) [D] h h') (hD : ∃ o, h'.get? D = some o ∧ P' o) (hm : Mu base hI mu D) (hs : ∀ p ∈ ls, p.1 ≠ D) : St base hI mu outer env L m ((D, P') :: ls) h' := by
  obtain ⟨o, ho, hP⟩ := hD
  exact (H.call (ls' := ls) k (fun a ha => by rw [List.mem_singleton.mp ha]; exact hm.1) (fun a ha => by rw [List.mem_singleton.mp ha]; exact hm.2) fun p hp => ⟨.tail _ hp, fun q => hs p hp (List.mem_singleton.mp q)⟩).more ho hP (H.own _ (.head _)).2
theorem St.callN {h h' : Heap} (H : St base hI mu outer env L m ls h) (k : Kp (frs (env :: outer)) [] h h') : St base hI mu outer env L m ls h' :=
  H.call k (fun a ha => nomatch ha) (fun a ha => nomatch ha) fun p hp => ⟨hp, fun q => nomatch q⟩
/-- a callee's new thing -/
theorem St.callR {h h' : Heap} {P : Obj → Prop} {r : Addr} (H : St base hI mu outer env L m ls h) (k : Kp (frs (env :: outer)) [] h h') (hr : ∃ o, h'.get? r = some o ∧ P o) (hb : base.get? r = none) (hn : h.get? r = none) :
    St base hI mu outer env L m ((r, P) :: ls) h' ∧ (∀ p ∈ ls, p.1 ≠ r) ∧ Mu base hI mu r := by
  obtain ⟨o, ho, hP⟩ := hr
  refine ⟨(H.callN k).more ho hP fun q => ?_, fun p hp q => ?_, hb, .inr (H.kp.none hn)⟩
  · obtain ⟨e, he, hf⟩ := List.mem_filterMap.mp q
    obtain ⟨_, L', o', _, _, hL', _, ho', _⟩ := H.ff e he
    rw [hf] at hL'; cases hL'
    rw [hn] at ho'; cases ho'
  · obtain ⟨⟨o', ho', _⟩, _⟩ := H.own p hp
    rw [q, hn] at ho'; cases ho'
theorem r_truthy {l : Addr} {ns : List Int} {Q : Bool → Shared → Prop} (x : LI s.heap l ns) (hfit : (ns.length : Int) < 2 ^ 63) (h : Q (!ns.isEmpty) { s with toks := s.toks + 1 + 1 }) : wpAny (Md w) A (truthy (.ref l)) Q E s := by
  obtain ⟨vs, hl, hi⟩ := x.isList
  have e : vs.length = ns.length := hi.length
  refine wpAny_truthy_list hl (by rw [List.size_toArray, e]; exact hfit) ?_
  have : vs.toArray.isEmpty = ns.isEmpty := by
    cases hi <;> simp
  rw [this]; exact h

theorem r_for {x : Str} {px : Pos} {body : List Stmt} {vs : List Value} {l : Addr} {Q : Flow → Shared → Prop} (hnd : A.handled = none) (hk : scope.kind = .function) (hx : (envX name scope L a cd cl).kindOf x = some .local)
    (H : St base hI mu outer (envX name scope L a cd cl) L m ((l, isV vs) :: ls) s.heap) (J : Nat → (Str → Option Value) → Led → Prop) (R : Shared → Prop) (h0 : J 0 m ls)
    (turn : ∀ i v it h' tk' m' ls', s.heap.get? it = none → vs[i]? = some v → J i m' ls' → (∀ p ∈ ls', p.1 ≠ it) → it ≠ l →
      St base hI mu outer (envX name scope L a cd cl) L (fun y => if y = x then some v else m' y) ((it, isIt l (i + 1)) :: (l, isV vs) :: ls') h' →
      wpAny (Md w) A (execs body (envX name scope L a cd cl)) (fun f s₃ => match f with
        | .next | .cont => ∃ h' tk' m' ls', s₃ = { s with heap := h', toks := tk' } ∧ J (i + 1) m' ls' ∧ (∀ p ∈ ls', p.1 ≠ it) ∧ St base hI mu outer (envX name scope L a cd cl) L m' ((it, isIt l (i + 1)) :: (l, isV vs) :: ls') h'
        | .brk => R s₃
        | .ret v => Q (.ret v) s₃) (notedBy (Md w) A (envX name scope L a cd cl) (cameBackBy (Md w) A (envX name scope L a cd cl) E)) { s with heap := h', toks := tk' })
    (fin : ∀ h' tk' m' ls', J vs.length m' ls' → St base hI mu outer (envX name scope L a cd cl) L m' ((l, isV vs) :: ls') h' → Q .next { s with heap := h', toks := tk' })
    (finR : ∀ s', R s' → Q .next s') :
    wpAny (Md w) A (pyIter (.ref l)) (fun it s₂ => codeAny (Md w) A (.forLoop (.Name x px) it body [] (envX name scope L a cd cl)) (fun r s' => match r with | .ok f => Q f s' | .error e => cameBackBy (Md w) A (envX name scope L a cd cl) E e s') s₂) E s := by
  obtain ⟨⟨o, ho, n, rfl⟩, hf⟩ := H.own _ (.head _)
  refine wpAny_pyIter_list (items := vs.toArray) ⟨_, ho, rfl, n, rfl⟩ ?_
  have itn : s.heap.get? s.heap.objs.size = none := Heap.get?_none_of_le (Nat.le_refl _)
  have itb := H.base_fresh
  have itI := H.hI_fresh
  have H1 := H.push (P := isIt l 0) { cls := .type "list_iterator", data := .fields #[.ref l, .int 0 0] } ⟨rfl, rfl⟩
  have hne1 : ∀ p ∈ ((l, isV vs) :: ls : Led), p.1 ≠ s.heap.objs.size := fun p hp => Nat.ne_of_lt (H.lt p hp)
  generalize s.heap.objs.size = it at *
  have hil : it ≠ l := (hne1 _ (.head _)).symm
  refine codeAny_forLoop (fun k s' => ∃ i h' tk' m' ls', k = vs.length - i ∧ i ≤ vs.length ∧ s' = { s with heap := h', toks := tk' } ∧ J i m' ls' ∧ (∀ p ∈ ls', p.1 ≠ it) ∧ St base hI mu outer (envX name scope L a cd cl) L m' ((it, isIt l i) :: (l, isV vs) :: ls') h') ?_ vs.length ⟨0, _, _, m, ls, rfl, Nat.zero_le _, rfl, h0, fun p hp => hne1 p (.tail _ hp), H1⟩
  rintro k _ ⟨i, h', tk', m', ls', rfl, hi, rfl, hJ, hne, H'⟩
  obtain ⟨⟨oi, hoi, hc, hd⟩, hif⟩ := H'.own _ (.head _)
  obtain ⟨⟨ol, hol, n', el⟩, hlf⟩ := H'.own _ (.tail _ (.head _))
  have hl' : ({ s with heap := h', toks := tk' } : Shared).heap.IsList l vs.toArray := ⟨ol, hol, by rw [el], n', by rw [el]⟩
  have hne' : ∀ p ∈ ((l, isV vs) :: ls' : Led), p.1 ≠ it := fun p hp => by
    rcases List.mem_cons.mp hp with rfl | hp
    · exact hil.symm
    · exact hne p hp
  by_cases q : i < vs.length
  · refine wpAny_pyNext_list_item (i := i) (x := vs[i]) ⟨oi, hoi, hc, hd⟩ hl' (by simp [q]) fun h'' hit hs => ?_
    obtain ⟨oi', hoi', hc', hd'⟩ := hit
    have H2 : St base hI mu outer (envX name scope L a cd cl) L m' ((it, isIt l (i + 1)) :: (l, isV vs) :: ls') h'' := H'.put hs hoi' ⟨hc', hd'⟩ itb (.inr itI) hne'
    dsimp only
    refine wpAny_assign_Name (r_store H2 hk hx fun h3 H3 => ?_)
    refine wpAny_mono (turn i vs[i] it h3 _ m' ls' itn (by simp [q]) hJ hne hil H3) (fun f s₃ h₃ => ?_) fun _ _ e => e
    cases f with
    | next => obtain ⟨h4, tk4, m4, ls4, e1, e2, e3, e4⟩ := h₃; exact ⟨vs.length - (i + 1), by omega, i + 1, h4, tk4, m4, ls4, rfl, q, e1, e2, e3, e4⟩
    | cont => obtain ⟨h4, tk4, m4, ls4, e1, e2, e3, e4⟩ := h₃; exact ⟨vs.length - (i + 1), by omega, i + 1, h4, tk4, m4, ls4, rfl, q, e1, e2, e3, e4⟩
    | brk => exact finR _ h₃
    | ret v => exact h₃
  · have hil' : i = vs.length := by omega
    subst hil'
    refine wpAny_pyNext_list_end hnd ⟨oi, hoi, hc, hd⟩ hl' (by simp) fun h'' hext => ?_
    dsimp only
    refine wpAny_execs_nil (fin h'' _ m' ls' hJ ?_)
    exact H'.extBut hext hif itb itI fun p hp => ⟨.tail _ hp, hne' p hp⟩
theorem r_test {t : Sem Bool} {Q : Bool → Shared → Prop} (c : Prop) [Decidable c] (R : Shared → Prop) (h : wpAny M A t (fun b s' => b = decide c ∧ R s') E s) (ht : ∀ s', R s' → c → Q true s') (hf : ∀ s', R s' → ¬ c → Q false s') : wpAny M A t Q E s :=
  wpAny_mono h (fun b s' ⟨e, r⟩ => by
    subst e
    by_cases q : c
    · rw [decide_eq_true q]; exact ht s' r q
    · rw [decide_eq_false q]; exact hf s' r q) fun _ _ e => e
theorem r_min {x y : Int} {t u : Tok} {Q : Value → Shared → Prop} (hh : A.handled = none) (H : St base hI mu outer env L m ls s.heap)
    (h : ∀ h' tk t', St base hI mu outer env L m ls h' → Q (.int (if y < x then y else x) t') { s with heap := h', toks := tk }) : wpAny (Md w) A (call (.builtin "min") [.int x t, .int y u]) Q E s :=
  min_two_N hh H.fr H.news fun h' tk F' N' => h h' tk _ (H.back F' N' fun p hp => hp)
-- more of lists
theorem r_ne {l k : Addr} {ns ms : List Int} {Q : Value → Shared → Prop} (x : LI s.heap l ns) (y : LI s.heap k ms) (hu : A.units + 64 < cLine) (h : Q (.bool (!decide (ns = ms))) s) : wpAny (Md w) A (compareOp .NotEq (.ref l) (.ref k)) Q E s :=
  let ⟨_, hl, hi⟩ := x.isList; let ⟨_, hl', hi'⟩ := y.isList; ke_ne_ints hl hl' hi hi' hu h
theorem r_add {l k : Addr} {ns ms : List Int} {Q : Value → Shared → Prop} (H : St base hI mu outer env L m ls s.heap) (x : LI s.heap l ns) (y : LI s.heap k ms) (hz : ns.length + ms.length ≤ sizeLine)
    (h : ∀ d h', St base hI mu outer env L m ((d, isI (ns ++ ms)) :: ls) h' → (∀ p ∈ ls, p.1 ≠ d) → Mu base hI mu d → s.heap.get? d = none → Q (.ref d) { s with heap := h' }) : wpAny (Md w) A (binaryOp .Add (.ref l) (.ref k)) Q E s :=
  let ⟨_, hl, hi⟩ := x.isList; let ⟨_, hl', hi'⟩ := y.isList
  kmk_add_ints H.fr H.news hl hl' hi hi' (fun d us h' F' N' hlt hk => let ⟨a, b, c, d', e⟩ := H.backN F' N' (P := isI (ns ++ ms)) ⟨_, _, rfl, hk⟩ hlt; h d h' a b ⟨c, .inr d'⟩ e) hz
end
end
section
/-- a new exception, not yet noted by a frame -/
structure Fx (base hI : Heap) (e : Addr) (X : String) (c : Value) (h : Heap) : Prop where
  there : ∃ ob t, h.get? e = some ob ∧ ob.cls = .type X ∧ ob.data = .fields #[t, .none, c, .none, .bool false, .none]
  nb : base.get? e = none
  nI : hI.get? e = none
/-- an exception with its entry -/
structure Ex (base hI : Heap) (e : Addr) (X : String) (c fl : Value) (h : Heap) : Prop where
  there : ∃ oe vs T oT ts, h.get? e = some oe ∧ oe.cls = .type X ∧ oe.data = .fields vs ∧ vs[1]? = some (.ref T) ∧ vs[2]? = some c ∧ h.get? T = some oT ∧ oT.data = .fields ts ∧ ts[3]? = some fl ∧ T ≠ e ∧ base.get? T = none ∧ hI.get? T = none
  nb : base.get? e = none
  nI : hI.get? e = none

section
variable {w : World} {M : Model} {A : Around} {E : Value → Shared → Prop} {s : Shared} {base hI : Heap} {mu : List Addr} {outer : List Env} {env : Env} {L : Addr} {m : Str → Option Value} {ls : Led} {e : Addr} {X : String} {c fl : Value}

theorem St.exc {h h' : Heap} (H : St base hI mu outer env L m ls h) (hx : Heap.NewExc h h' e X) : St base hI mu outer env L m ls h' ∧ Fx base hI e X .none h' := by
  refine ⟨H.ext hx.keeps, ⟨hx.there, ?_, H.kp.none hx.new⟩⟩
  cases q : base.get? e with
  | none => rfl
  | some o => have := H.fr.keep _ _ q; rw [hx.new] at this; cases this
theorem Kp.slots {fs : List Addr} {h h' : Heap} (x : Heap.SlotsOnly fs h h') : Kp fs [] h h' :=
  ⟨fun b o e _ hf => (x.2.1 b hf).trans e, fun b o e _ => x.2.2 b o e, fun b o e => let ⟨_, e'⟩ := x.2.2 b o e; ⟨_, e'⟩⟩
theorem St.led_ne {h : Heap} {b : Addr} {o : Obj} {vs : Array Value} (H : St base hI mu outer env L m ls h) (hb : h.get? b = some o) (hd : o.data = .fields vs) : b ∉ frs (env :: outer) := H.ff.not_fields hb hd
/-- no thing at hand is a record -/
def noRec (ls : Led) : Prop := ∀ p ∈ ls, ∀ o vs, p.2 o → o.data ≠ .fields vs

theorem St.fields {h : Heap} {b : Addr} {o : Obj} {vs : Array Value} {i : Nat} {v : Value} (H : St base hI mu outer env L m ls h) (hn : noRec ls) (hb : h.get? b = some o) (hd : o.data = .fields vs) (nb : base.get? b = none) (nI : hI.get? b = none) :
    St base hI mu outer env L m ls (h.update b (Obj.mapFields (·.setIfInBounds i v))) := by
  have hd' := Obj.data_mapFields hd (·.setIfInBounds i v)
  refine H.same (Heap.SameBut.update ..) (Heap.get?_update_self _ hb (Obj.isFreed_of_fields hd')) (H.ff.not_fields hb hd) nb (.inr nI) fun p hp => ⟨hp, fun q => ?_⟩
  obtain ⟨⟨o', ho', hP⟩, _⟩ := H.own p hp
  rw [q, hb] at ho'; cases ho'
  exact hn p hp _ _ hP hd

theorem r_note {Q : Unit → Shared → Prop} (hfr : A.frames = some (env :: outer)) (H : St base hI mu outer env L m ls s.heap) (hn : noRec ls) (x : Fx base hI e X c s.heap)
    (h : ∀ h', St base hI mu outer env L m ls h' → Ex base hI e X c (rawInt L) h' → Q () { s with heap := h' }) : wpAny M A (noteFrame (.ref e) env) Q E s := by
  obtain ⟨⟨ob, t, he, hc, hd⟩, nb, nI⟩ := x
  unfold noteFrame
  simp only [H.hf]
  refine wpAny_bind (wpAny_field he hd (x := .none) rfl ?_)
  rw [if_neg (by decide)]
  have hene := H.ff.not_fields he hd
  refine wpAny_bind (wpAny_frameOf_fun hfr (H.ff.funFrames (B := base) fun a ha => H.ff.frs_none ha) H.hf fun h₁ hs₁ => ?_)
  refine wpAny_bind (wpAny_entryPlaceOf fun pl hpl => ?_)
  unfold EntryCells.newEntry newFields
  refine wpAny_bind (wpAny_newObj_type ?_ (hpl.sizeOk5 _ _ _ _ _))
  have H1 := H.callN (Kp.slots hs₁)
  have he₁ : h₁.get? e = some ob := (hs₁.2.1 e hene).trans he
  have hT3 : ([Value.none, .ref L, .none, rawInt L, .none] ++ (if pl.isEmpty then List.replicate 6 Value.none else pl)).toArray[3]? = some (rawInt L) := by simp
  generalize hq : ([Value.none, .ref L, .none, rawInt L, .none] ++ (if pl.isEmpty then List.replicate 6 Value.none else pl)).toArray = ts at *
  have he₂ := Heap.get?_push_of_some (h := h₁) { cls := .type "traceback", dict := none, data := .fields ts } he₁
  refine wpAny_setField he₂ hd (by simp) ?_
  have H2 := H1.push0 { cls := .type "traceback", dict := none, data := .fields ts }
  have H3 := H2.fields (i := 1) (v := .ref h₁.objs.size) hn he₂ hd nb nI
  have hTe : h₁.objs.size ≠ e := Nat.ne_of_gt (Heap.lt_size he₁)
  have hd₃ := Obj.data_mapFields hd (·.setIfInBounds 1 (Value.ref h₁.objs.size))
  refine h _ H3 ⟨⟨_, _, h₁.objs.size, _, ts, Heap.get?_update_self _ he₂ (Obj.isFreed_of_fields hd₃), (Obj.cls_mapFields _ _).trans hc, hd₃, by simp, by simp, (Heap.get?_update_other _ _ (Ne.symm hTe)).trans (Heap.get?_push_size h₁ rfl), rfl, hT3, hTe, H1.base_fresh, H1.hI_fresh⟩, nb, nI⟩

theorem r_note2 {Q : Unit → Shared → Prop} (hf : env.frame = some L) (x : Ex base hI e X c (rawInt L) s.heap) (h : Q () s) : wpAny M A (noteFrame (.ref e) env) Q E s := by
  obtain ⟨⟨oe, vs, T, oT, ts, he, hcls, hd, h1, h2, hT, hdT, h3, r⟩, nb, nI⟩ := x
  unfold noteFrame
  simp only [hf]
  refine wpAny_bind (wpAny_field he hd h1 ?_)
  rw [if_pos (show (Value.ref T != Value.none) = true from by simp)]
  refine wpAny_bind (wpAny_field hT hdT h3 ?_)
  rw [if_pos (show (rawInt L == rawInt L) = true from by simp)]
  exact wpAny_pure h

theorem r_flight {fr : Option Addr} {Q : Unit → Shared → Prop} (H : St base hI mu outer env L m ls s.heap) (hn : noRec ls) (x : Ex base hI e X c fl s.heap)
    (h : ∀ h', St base hI mu outer env L m ls h' → Ex base hI e X c (fr.elim .none fun f => rawInt f) h' → Q () { s with heap := h' }) : wpAny M A (setFlight (.ref e) fr) Q E s := by
  obtain ⟨⟨oe, vs, T, oT, ts, he, hcls, hd, h1, h2, hT, hdT, h3, hTe, hTb, hTI⟩, nb, nI⟩ := x
  unfold setFlight
  refine wpAny_bind (wpAny_field he hd h1 ?_)
  rw [if_pos (show (Value.ref T != Value.none) = true from by simp)]
  have hsz : 3 < ts.size := (Array.getElem?_eq_some_iff.mp h3).1
  refine wpAny_setField hT hdT hsz (h _ (H.fields hn hT hdT hTb hTI) ⟨⟨oe, vs, T, _, _, (Heap.get?_update_other _ _ hTe).trans he, hcls, hd, h1, h2, Heap.get?_update_self _ hT (Obj.isFreed_of_fields (Obj.data_mapFields hdT _)), Obj.data_mapFields hdT _, by simp [hsz], hTe, hTb, hTI⟩, nb, nI⟩)

theorem r_came (H : St base hI mu outer env L m ls s.heap) (hn : noRec ls) (x : Ex base hI e X c fl s.heap)
    (h : ∀ h', St base hI mu outer env L m ls h' → Ex base hI e X c (rawInt L) h' → E (.ref e) { s with heap := h' }) : cameBackBy M A env E (.ref e) s := by
  have x' := x
  obtain ⟨⟨oe, vs, T, oT, ts, he, hcls, hd, h1, h2, hT, hdT, h3, r⟩, nb, nI⟩ := x
  unfold cameBackBy
  refine wpAny_bind (wpAny_field he hd h1 ?_)
  rw [if_neg (show ¬ ((Value.ref T == Value.none) = true) from by simp)]
  rw [H.hf]
  exact r_flight H hn x' fun h' H' x' => h h' H' x'
end
end
section
theorem entry_unchain : entryFor table "proto.unchain" = some Builtin.«proto.unchain» := entryFor_of_tree (by kernel_rfl)
theorem plain_unchain : plainId "proto.unchain" = true := by decide +kernel
section
variable {α : Type} {w : World} {A : Around} {E : Value → Shared → Prop} {s : Shared}

theorem raise_two {cls msg : String} {e0 : Addr} {o0 : Obj} {vs0 : Array Value} {Q : α → Shared → Prop} (hp : PlainExc cls) (hh : A.handled = some (.ref e0)) (h0 : s.heap.get? e0 = some o0) (hd0 : o0.data = .fields vs0) (hc0 : vs0[2]? = some .none)
    (h : ∀ h' tk e, (∀ b o, s.heap.get? b = some o → h'.get? b = some o) → s.heap.get? e = none → (∃ ob t, h'.get? e = some ob ∧ ob.cls = .type cls ∧ ob.data = .fields #[t, .none, .ref e0, .none, .bool false, .none]) → E (.ref e) { s with heap := h', toks := tk }) :
    wpAny (Md w) A (raiseErrorWords cls msg : Sem α) Q E s := by
  unfold raiseErrorWords
  refine wpAny_bind (wpAny_mkText (wpAny_bind ?_))
  unfold newExc newTuple
  refine wpAny_bind (wpAny_newObj_type ?_)
  refine wpAny_bind (m := firstArgMember _ _) (wpAny_of_eq (a := Value.none) (by simp only [firstArgMember, hp.first]; rfl) ?_)
  rw [hp.own]
  refine wpAny_newObj_type ?_
  unfold raiseNew
  refine wpAny_bind (wpAny_handled ?_)
  rw [hh]
  generalize hh1 : s.heap.push _ = h1
  have k1 : ∀ b o, s.heap.get? b = some o → h1.get? b = some o := fun b o e => by rw [← hh1]; exact Heap.get?_push_of_some _ e
  have z1 : h1.objs.size = s.heap.objs.size + 1 := by rw [← hh1, Heap.size_push]
  have hne : (Value.ref e0 != Value.ref h1.objs.size) = true := by
    have h5 : e0 < s.heap.objs.size := Heap.lt_size h0
    have h6 : e0 ≠ h1.objs.size := by rw [z1]; exact Nat.ne_of_lt (Nat.lt_succ_of_lt h5)
    simp [h6]
  dsimp only
  rw [if_pos hne]
  have h02 := Heap.get?_push_of_some (h := h1) { cls := .type cls, dict := none, data := .fields (#[.ref s.heap.objs.size, .none, .none, .none, .bool false, .none] ++ #[]) } (k1 _ _ h0)
  refine wpAny_bind (wpAny_holding (wpAny_runValue (codeAny_builtin entry_unchain ?_)))
  rw [Around.under_plainId plain_unchain _]
  show wpAny _ _ (field (.ref e0) 2 >>= _) _ _ _
  refine wpAny_bind (wpAny_field h02 hd0 hc0 ?_)
  rw [if_pos (by rfl)]
  refine wpAny_bind (wpAny_pure (wpAny_pure ?_))
  dsimp only
  have he := Heap.get?_push_size h1 (o := { cls := .type cls, dict := none, data := .fields (#[.ref s.heap.objs.size, .none, .none, .none, .bool false, .none] ++ #[]) }) rfl
  unfold updateField
  refine wpAny_bind (wpAny_bind (wpAny_load he ?_))
  dsimp only
  rw [if_pos (by simp)]
  refine wpAny_update he (wpAny_throw ?_)
  have hd := Obj.data_mapFields (o := { cls := .type cls, dict := none, data := .fields (#[.ref s.heap.objs.size, .none, .none, .none, .bool false, .none] ++ #[]) }) rfl (·.setIfInBounds 2 (Value.ref e0))
  refine h _ _ _ (fun b o hb => ?_) (Heap.get?_none_of_le (by omega)) ⟨_, .ref s.heap.objs.size, Heap.get?_update_self _ he (Obj.isFreed_of_fields hd), Obj.cls_mapFields _ _, by rw [hd]; rfl⟩
  rw [Heap.get?_update_other]
  · exact Heap.get?_push_of_some _ (k1 b o hb)
  · have h8 : b < s.heap.objs.size := Heap.lt_size hb
    have h7 : h1.objs.size ≠ b := by rw [z1]; exact Ne.symm (Nat.ne_of_lt (Nat.lt_succ_of_lt h8))
    exact h7

theorem getItem_two {l : Addr} {items : Array Value} {k : Int} {t : Tok} {e0 : Addr} {o0 : Obj} {vs0 : Array Value} {Q : Value → Shared → Prop} (hl : s.heap.IsList l items) (hh : A.handled = some (.ref e0)) (h0 : s.heap.get? e0 = some o0) (hd0 : o0.data = .fields vs0) (hc0 : vs0[2]? = some .none)
    (h1 : 0 ≤ k) (hout : (items.size : Int) ≤ k) (hhi : k < 2 ^ 63)
    (h : ∀ h' tk e, (∀ b o, s.heap.get? b = some o → h'.get? b = some o) → s.heap.get? e = none → (∃ ob t, h'.get? e = some ob ∧ ob.cls = .type "IndexError" ∧ ob.data = .fields #[t, .none, .ref e0, .none, .bool false, .none]) → E (.ref e) { s with heap := h', toks := tk }) :
    wpAny (Md w) A (getItem (.ref l) (.int k t)) Q E s := by
  obtain ⟨o, ho, hc, ne, hd⟩ := id hl
  unfold getItem
  try with_reducible refine wpAny_holding ?_
  first | refine wpAny_bind (wpAny_pure ?_) | skip
  refine wpAny_bind (wpAny_sequenceKey hl.typeIs (by decide) ?_)
  refine wpAny_bind (wpAny_callSpecial?_slot (name := Str.ofString "__getitem__") hl.typeIs slot_list_getitem
    (wpAny_call_entry slot_list_getitem hl.typeIs entry_list_getitem ?_ (args_list_getitem _ _)))
  show wpAny _ _ (Builtin.List.listSubscript? (.int k t) >>= _) _ _ s
  refine wpAny_bind (wpAny_listSubscript_int (fitsIndex_of h1 hhi) ?_)
  clear hhi
  obtain ⟨k, rfl⟩ := Int.eq_ofNat_of_zero_le h1
  have hx : items[k]? = none := Array.getElem?_eq_none (by omega)
  show wpAny _ _ ((seqItemAt l k >>= fun r => pure (r.map (k, ·))) >>= _) _ _ s
  refine wpAny_bind (wpAny_bind (wpAny_seqItemAt ho hd (wpAny_pure ?_)))
  rw [hx]
  exact wpAny_bind (wpAny_rule (wpAny_bind (raise_two (A := A.in1) plainExc_IndexError hh h0 hd0 hc0 h)))
end
section
variable {w : World} {A : Around} {E : Value → Shared → Prop} {s : Shared} {name : Str} {scope : Scope} {a : Addr} {cd : Value} {cl : List (Str × Addr)} {base hI : Heap} {mu : List Addr} {outer : List Env} {env : Env} {L : Addr} {m : Str → Option Value} {ls : Led} {e : Addr} {X : String} {c fl : Value}
  {mean : ExcName → Option Value} {mg mb : Str → Option Value}
/-- an item beyond the list -/
theorem r_out {value slice : Expr} {l : Addr} {ns : List Int} {k : Int} {u : Tok} {Q : Value → Shared → Prop} (hA : A.handled = none) (H : St base hI mu outer env L m ls s.heap) (x : LI s.heap l ns) (h0 : 0 ≤ k) (h1 : (ns.length : Int) ≤ k) (hfit : k < 2 ^ 63)
    (hs : subscripted slice false (.ref l) (.int k u) = operate [.ref l, .int k u] (getItem (.ref l) (.int k u)))
    (h : ∀ h' tk e, St base hI mu outer env L m ls h' → Fx base hI e "IndexError" .none h' → E (.ref e) { s with heap := h', toks := tk }) :
    wpAny (Md w) A (subscriptTail value slice (.ref l) (.int k u)) Q E s := by
  obtain ⟨vs, hl, hi⟩ := x.isList
  have hz : vs.toArray.size = ns.length := by rw [List.size_toArray]; exact hi.length
  exact item_outK hA hl (.inr (by rw [hz]; exact h1)) (by omega) hfit (fun h' tk e hx => let ⟨a, b⟩ := H.exc hx; h h' tk e a b) hs
theorem r_out2 {value slice : Expr} {l : Addr} {ns : List Int} {k : Int} {u : Tok} {e0 : Addr} {fl0 : Value} {Q : Value → Shared → Prop} (hA : A.handled = some (.ref e0)) (y : Ex base hI e0 X .none fl0 s.heap) (H : St base hI mu outer env L m ls s.heap) (x : LI s.heap l ns) (h0 : 0 ≤ k) (h1 : (ns.length : Int) ≤ k) (hfit : k < 2 ^ 63)
    (hs : subscripted slice false (.ref l) (.int k u) = operate [.ref l, .int k u] (getItem (.ref l) (.int k u)))
    (h : ∀ h' tk e, St base hI mu outer env L m ls h' → Fx base hI e "IndexError" (.ref e0) h' → E (.ref e) { s with heap := h', toks := tk }) :
    wpAny (Md w) A (subscriptTail value slice (.ref l) (.int k u)) Q E s := by
  obtain ⟨vs, hl, hi⟩ := x.isList
  obtain ⟨⟨oe, vs0, T, oT, ts, he, hcls, hd, hv1, hv2, _⟩, nb, nI⟩ := y
  have hz : vs.toArray.size = ns.length := by rw [List.size_toArray]; exact hi.length
  refine tail_any hl.typeIs slot_list_getitem.lookup (getItem_two hl hA he hd hv2 h0 (by rw [hz]; exact h1) hfit fun h' tk e hk hn ht => ?_) hs
  refine h h' tk e (H.ext hk) ⟨ht, ?_, H.kp.none hn⟩
  cases q : base.get? e with
  | none => rfl
  | some o => have := H.fr.keep _ _ q; rw [hn] at this; cases this

/-- except X: -/
theorem r_except {x : Str} {np pos : Pos} {b₀ : Stmt} {suite : List Stmt} {rest : List ExceptHandler} {Q : Flow → Shared → Prop} (KX : (hd.heap_39 w.params).In base) (KT : Top hd.view_39 (looseW hd.view_39 []) mean mg mb base)
    (H : St base hI mu outer (envX name scope L a cd cl) L m ls s.heap) (hn : noRec ls) (y : Ex base hI e X c fl s.heap)
    (e1 : nsIn (hd.heap_39 w.params) mainGlobals x = some none) (hv : bootBuiltins x = some (.type X)) (hnn : x ≠ "__name__") (hk : scope.kind = .function) (hx : (envX name scope L a cd cl).kindOf x = some .globalImplicit) (hdb : (x == ("__debug__" : Str)) = false)
    (hexc : isSubtype (.type X) (.type "BaseException") = pure true) (hnt : isSubtype (.type ((Manifest.find? X).elim "type" fun x => x.metatype)) (.type "tuple") = pure false) (hsub : isSubtype (.type X) (.type X) = pure true)
    (h : ∀ h', St base hI mu outer (envX name scope L a cd cl) L m ls h' → wpAny (Md w) (A.mark (some (.ref e))) (execs (b₀ :: suite) (envX name scope L a cd cl)) Q (notedBy (Md w) (A.mark (some (.ref e))) (envX name scope L a cd cl) (cameBackBy (Md w) A (envX name scope L a cd cl) E)) { s with heap := h' }) :
    wpAny (Md w) A (handleBy (.ref e) (envX name scope L a cd cl) (.ExceptHandler (some (.Name x np)) none (b₀ :: suite) pos :: rest)) Q E s := by
  refine wpAny_handleBy_builtin (X := X) (T := X) (b := true) hexc hnt hsub (nameX_B H.fr KX (topRead_of KT) e1 hv hnn ⟨rfl, ?_, ?_⟩ hk hx hdb)
  · obtain ⟨⟨oe, vs0, T, oT, ts, he, hcls, _⟩, _, _⟩ := y
    exact ⟨oe, he, hcls⟩
  · rw [if_pos rfl]
    exact r_flight H hn y fun h' H' _ => h h' H'
/-- from the raise to the suite -/
theorem r_caught {x : Str} {np pos : Pos} {b₀ : Stmt} {suite : List Stmt} {rest : List ExceptHandler} {Q : Flow → Shared → Prop} (KX : (hd.heap_39 w.params).In base) (KT : Top hd.view_39 (looseW hd.view_39 []) mean mg mb base) (hfr : A.frames = some (envX name scope L a cd cl :: outer))
    (H : St base hI mu outer (envX name scope L a cd cl) L m ls s.heap) (hn : noRec ls) (y : Fx base hI e X c s.heap ∨ Ex base hI e X c (rawInt L) s.heap)
    (e1 : nsIn (hd.heap_39 w.params) mainGlobals x = some none) (hv : bootBuiltins x = some (.type X)) (hnn : x ≠ "__name__") (hk : scope.kind = .function) (hx : (envX name scope L a cd cl).kindOf x = some .globalImplicit) (hdb : (x == ("__debug__" : Str)) = false)
    (hexc : isSubtype (.type X) (.type "BaseException") = pure true) (hnt : isSubtype (.type ((Manifest.find? X).elim "type" fun x => x.metatype)) (.type "tuple") = pure false) (hsub : isSubtype (.type X) (.type X) = pure true)
    (h : ∀ h', St base hI mu outer (envX name scope L a cd cl) L m ls h' → wpAny (Md w) (A.mark (some (.ref e))) (execs (b₀ :: suite) (envX name scope L a cd cl)) Q (notedBy (Md w) (A.mark (some (.ref e))) (envX name scope L a cd cl) (cameBackBy (Md w) A (envX name scope L a cd cl) E)) { s with heap := h' }) :
    wpAny (Md w) A (noteFrame (.ref e) (envX name scope L a cd cl)) (fun _ s₂ => wpAny (Md w) A (setFlight (.ref e) none) (fun _ s₃ => wpAny (Md w) A (handleBy (.ref e) (envX name scope L a cd cl) (.ExceptHandler (some (.Name x np)) none (b₀ :: suite) pos :: rest)) Q E s₃) E s₂) E s := by
  have main : ∀ h', St base hI mu outer (envX name scope L a cd cl) L m ls h' → Ex base hI e X c (rawInt L) h' → wpAny (Md w) A (setFlight (.ref e) none) (fun _ s₃ => wpAny (Md w) A (handleBy (.ref e) (envX name scope L a cd cl) (.ExceptHandler (some (.Name x np)) none (b₀ :: suite) pos :: rest)) Q E s₃) E { s with heap := h' } := fun h' H' y' =>
    r_flight (s := { s with heap := h' }) H' hn y' fun h2 H2 y2 => r_except (s := { s with heap := h2 }) KX KT H2 hn y2 e1 hv hnn hk hx hdb hexc hnt hsub fun h3 H3 => h h3 H3
  rcases y with y | y
  · exact r_note hfr H hn y fun h' H' y' => main h' H' y'
  · exact r_note2 rfl y (main _ H y)
end
end
section
section
variable {w : World} {M : Model} {A : Around} {E : Value → Shared → Prop} {s : Shared} {base hI : Heap} {mu : List Addr} {outer : List Env} {env : Env} {L : Addr} {m : Str → Option Value} {ls : Led}
abbrev mOf {h : Heap} (H : St base hI mu outer env L m ls h) : Str → Option Value := m
theorem noRec_nil : noRec [] := fun p hp => nomatch hp
theorem noRec_I {a : Addr} {ns : List Int} (h : noRec ls) : noRec ((a, isI ns) :: ls) := fun p hp o vs hP q => by
  rcases List.mem_cons.mp hp with rfl | hp
  · obtain ⟨us, n, rfl, _⟩ := hP; cases q
  · exact h p hp o vs hP q
theorem r_noted {e : Addr} {X : String} {c : Value} (hfr : A.frames = some (env :: outer)) (H : St base hI mu outer env L m ls s.heap) (hn : noRec ls) (y : Fx base hI e X c s.heap ∨ Ex base hI e X c (rawInt L) s.heap) {A' : Around}
    (h : ∀ h', St base hI mu outer env L m ls h' → Ex base hI e X c (rawInt L) h' → E (.ref e) { s with heap := h' }) : notedBy M A env (cameBackBy M A' env E) (.ref e) s := by
  unfold notedBy
  rcases y with y | y
  · exact r_note hfr H hn y fun h' H' y' => r_came (s := { s with heap := h' }) H' hn y' h
  · exact r_note2 H.hf y (r_came H hn y h)
theorem r_passOn {e : Addr} {X : String} {c fl : Value} {Q : Flow → Shared → Prop} {what : String} (H : St base hI mu outer env L m ls s.heap) (hn : noRec ls) (y : Ex base hI e X c fl s.heap)
    (h : ∀ h', St base hI mu outer env L m ls h' → Ex base hI e X c (rawInt L) h' → E (.ref e) { s with heap := h' }) : wpAny M A (PySem.passOn what (.ref e) env : Sem Flow) Q E s := by
  have y' := y
  obtain ⟨⟨oe, vs, T, oT, ts, he, hcls, hd, h1, h2, hT, hdT, h3, r⟩, nb, nI⟩ := y
  unfold PySem.passOn
  refine wpAny_bind (wpAny_field he hd h1 ?_)
  rw [if_neg (show ¬ ((Value.ref T == Value.none) = true) from by simp)]
  rw [H.hf]
  exact wpAny_bind (r_flight H hn y' fun h' H' x' => wpAny_throw (h h' H' x'))
/-- a slice from a place on -/
theorem r_from {value : Expr} {lo : Expr} {sp : Pos} {l : Addr} {ns : List Int} {k : Int} {u : Tok} {Q : Value → Shared → Prop} (H : St base hI mu outer env L m ls s.heap) (x : LI s.heap l ns) (h0 : 0 ≤ k) (hz : ns.length ≤ sizeLine)
    (hs : subscripted (.Slice (some lo) none none sp) false (.ref l) (.ref s.heap.objs.size) = operate [.ref s.heap.objs.size, .ref l] (getItem (.ref l) (.ref s.heap.objs.size))) (ht : ∀ r, letTemporaryGo value (.ref l) r = pure ())
    (h : ∀ d h', St base hI mu outer env L m ((d, isI (ns.drop k.toNat)) :: ls) h' → (∀ p ∈ ls, p.1 ≠ d) → Mu base hI mu d → s.heap.get? d = none → Q (.ref d) { s with heap := h' }) :
    wpAny (Md w) A (subscriptTail value (.Slice (some lo) none none sp) (.ref l) (.ref s.heap.objs.size)) Q E { s with heap := s.heap.push { cls := .type "slice", data := .fields #[.int k u, .none, .none] } } := by
  obtain ⟨vs, hl, hi⟩ := x.isList
  exact kmk_slice_ints H.fr H.news hl (IsPart.int _ _) IsPart.none hi (kmk_from hi h0) rfl (fun d ws h' F' N' hlt hw _ _ => let ⟨a, b, c, d', e⟩ := H.backN F' N' (P := isI (ns.drop k.toNat)) ⟨_, _, rfl, hw⟩ hlt; h d h' a b ⟨c, .inr d'⟩ e) hs ht (kmk_sz hi hz)
theorem r_extend {D b : Addr} {ns ms : List Int} {Q : Value → Shared → Prop} (H : St base hI mu outer env L m ((D, isI ns) :: ls) s.heap) (hm : Mu base hI mu D) (hs : ∀ p ∈ ls, p.1 ≠ D) (hb : (b, isI ms) ∈ ls) (hbb : base.get? b = none) (hz : ns.length + ms.length < 100000)
    (h : ∀ h', St base hI mu outer env L m ((D, isI (ns ++ ms)) :: ls) h' → Q .none { s with heap := h' }) : wpAny (Md w) A (call (.builtin "list.extend") [.ref D, .ref b]) Q E s := by
  obtain ⟨o, ho, vs, n, rfl, hi⟩ := H.get (.head _)
  obtain ⟨o2, ho2, vs2, n2, rfl, hi2⟩ := H.get (.tail _ hb)
  have hl := hi.length
  have hl2 := hi2.length
  have hbD : b ≠ D := hs _ hb
  have hbm : (b, lst vs2.toArray n2) ∈ ((D, lst vs.toArray n) :: oth base L D s.heap) := .tail _ (mem_oth.mpr ⟨ho2, H.notL (.tail _ hb), hbD, hbb⟩)
  have hbig : ¬(!vs.toArray.isEmpty && Builtin.List.listTooLong (vs.toArray.size + vs2.toArray.size)) = true := by
    simp only [List.size_toArray, hl, hl2, Builtin.List.listTooLong]
    intro q
    simp [sizeLine] at q
    omega
  by_cases q : ms = []
  · have q2 : vs2 = [] := by subst q; cases hi2; rfl
    refine kxn_extend H.fr (H.newsD (.head _) ho hm.1) hbm q2 oth_upd hbig ?_ ?_ fun h' F' N' => h h' (H.backU F' N' ⟨vs, n, rfl, ?_⟩ hm hs)
    · show vs.length ≤ sizeLine; rw [sizeLine]; omega
    · rw [List.size_toArray, List.size_toArray, sizeLine]; omega
    · rw [q, List.append_nil]; exact hi
  · refine kl_extend H.fr (H.newsD (.head _) ho hm.1) hbm rfl ?_ oth_upd hbig ?_ ?_ fun h' F' N' => h h' (H.backU F' N' ⟨vs ++ vs2, n + 1, rfl, hi.append hi2⟩ hm hs)
    · intro z; rw [hl2] at z; exact q (List.eq_nil_of_length_eq_zero z)
    · show vs.length ≤ sizeLine; rw [sizeLine]; omega
    · rw [List.size_toArray, List.size_toArray, sizeLine]; omega
/-- an exception kept at hand -/
theorem Ex.led {h : Heap} {e : Addr} {X : String} {c fl : Value} (H : St base hI mu outer env L m ls h) (y : Ex base hI e X c fl h) :
    ∃ P₁ T P₂, St base hI mu outer env L m ((e, P₁) :: (T, P₂) :: ls) h ∧ ∀ m' ls' h', St base hI mu outer env L m' ((e, P₁) :: (T, P₂) :: ls') h' → Ex base hI e X c fl h' := by
  obtain ⟨⟨oe, vs, T, oT, ts, he, hcls, hd, h1, h2, hT, hdT, h3, hTe, hTb, hTI⟩, nb, nI⟩ := y
  refine ⟨(· = oe), T, (· = oT), (H.more (P := (· = oT)) hT rfl (H.ff.not_fields hT hdT)).more (P := (· = oe)) he rfl (H.ff.not_fields he hd), fun m' ls' h' H' => ?_⟩
  obtain ⟨⟨o1, ho1, rfl⟩, _⟩ := H'.own _ (.head _)
  obtain ⟨⟨o2, ho2, rfl⟩, _⟩ := H'.own _ (.tail _ (.head _))
  exact ⟨⟨_, vs, T, _, ts, ho1, hcls, hd, h1, h2, ho2, hdT, h3, hTe, hTb, hTI⟩, nb, nI⟩
theorem r_unpack {elts : List Expr} {k} {pos : Pos} {t : Addr} {o : Obj} {items : Array Value} {n : Nat} {Q : Unit → Shared → Prop} (hh : A.handled = none) (H : St base hI mu outer env L m ls s.heap) (ho : s.heap.get? t = some o) (hc : o.cls = .type "tuple") (hd : o.data = .seq items n)
    (hn : (assignEach elts env).length = items.size) (hstar : (assignEach elts env).findIdx? (·.1) = none)
    (h : ∀ h', St base hI mu outer env L m ls h' → wpAny (Md w) A (assignInOrder ((assignEach elts env).map (·.2)) items.toList) Q E { s with heap := h' }) : wpAny (Md w) A (assign (.Tuple elts k pos) env (.ref t)) Q E s :=
  unpackN_ H.fr H.news ⟨o, ho, hc, n, hd⟩ hh hn hstar fun h' F' N' => h h' (H.back F' N' fun p hp => hp)
theorem r_unpack2 {x y : Str} {px py : Pos} {k} {pos : Pos} {t : Addr} {u v : Value} {Q : Unit → Shared → Prop} (hh : A.handled = none) (H : St base hI mu outer env L m ls s.heap) (ho : s.heap.get? t = some { cls := .type "tuple", data := .seq [u, v].toArray })
    (h : ∀ h', St base hI mu outer env L m ls h' → wpAny (Md w) A (assign (.Name x px) env u) (fun _ s₂ => wpAny (Md w) A (assign (.Name y py) env v) Q E s₂) E { s with heap := h' }) : wpAny (Md w) A (assign (.Tuple [.Name x px, .Name y py] k pos) env (.ref t)) Q E s :=
  r_unpack hh H ho rfl rfl rfl rfl fun h' H' => assignInOrder_cons (wpAny_mono (h h' H') (fun _ s₂ h₂ => assignInOrder_cons (wpAny_mono h₂ (fun _ _ q => assignInOrder_nil q) fun _ _ q => q)) fun _ _ q => q)
theorem ints_erase {vs : List Value} {ns : List Int} (hi : IntsAre vs ns) : ∀ j : Nat, IntsAre (vs.eraseIdx j) (ns.eraseIdx j) := by
  induction hi with
  | nil => intro j; exact .nil
  | cons n t h ih =>
    intro j
    cases j with
    | zero => exact h
    | succ j => exact .cons n t (ih j)
theorem r_removeIn {D : Addr} {ns : List Int} {x : Int} {u : Tok} {Q : Value → Shared → Prop} (H : St base hI mu outer env L m ((D, isI ns) :: ls) s.heap) (hm : Mu base hI mu D) (hs : ∀ p ∈ ls, p.1 ≠ D) (hx : x ∈ ns) (hz : ns.length ≤ sizeLine)
    (h : ∀ h', St base hI mu outer env L m ((D, isI (ns.erase x)) :: ls) h' → Q .none { s with heap := h' }) : wpAny (Md w) A (call (.builtin "list.remove") [.ref D, .int x u]) Q E s := by
  obtain ⟨o, ho, vs, n, rfl, hi⟩ := H.get (.head _)
  have hl : vs.length = ns.length := hi.length
  have hj : ns.idxOf x < ns.length := List.idxOf_lt_length_iff.mpr hx
  have hjv : ns.idxOf x < vs.toArray.size := by rw [List.size_toArray, hl]; exact hj
  refine call_meets PySem.F.slot_list_remove ⟨_, ho, rfl⟩ PySem.F.entry_list_remove (PySem.F.args_list_remove_2 _ _) (PySem.MeetsSeq.list_remove D vs.toArray n (.int x u) (isInt x) (fun y hy => eq_isInt x u hi y (by simpa using hy)) (ns.idxOf x) hjv ?_ ?_ (by rw [List.size_toArray, hl]; exact hz)) ⟨ho, h _ ?_⟩
  · have := isInt_at x hi (ns.idxOf x) (by rw [hl]; exact hj) hj
    simp only [List.getElem_toArray]
    rw [this]
    simp
  · intro k hk hlt
    have hk2 : k < ns.length := by omega
    have := isInt_at x hi k (by rw [hl]; exact hk2) hk2
    simp only [List.getElem_toArray]
    rw [this]
    exact ne_of_lt_idxOf hlt hk2
  · refine H.put (Heap.SameBut.update ..) (IsL.update (l := D) (items := vs.toArray) (n := n) ho _) ⟨vs.eraseIdx (ns.idxOf x), (if (vs.toArray.eraseIdxIfInBounds (ns.idxOf x)).size == vs.toArray.size then n else n + 1), ?_, ?_⟩ hm.1 hm.2 hs
    · have e : vs.toArray.eraseIdxIfInBounds (ns.idxOf x) = (vs.eraseIdx (ns.idxOf x)).toArray := by
        simp [Array.eraseIdxIfInBounds, hl, hj]
      rw [e]
    · have e : ns.erase x = ns.eraseIdx (ns.idxOf x) := List.erase_eq_eraseIdx_of_idxOf rfl
      rw [e]
      exact ints_erase hi _
theorem r_removeOut {D : Addr} {ns : List Int} {x : Int} {u : Tok} {Q : Value → Shared → Prop} (hA : A.handled = none) (H : St base hI mu outer env L m ls s.heap) (y : LI s.heap D ns) (hx : x ∉ ns)
    (h : ∀ h' tk e, St base hI mu outer env L m ls h' → Fx base hI e "ValueError" .none h' → E (.ref e) { s with heap := h', toks := tk }) : wpAny (Md w) A (call (.builtin "list.remove") [.ref D, .int x u]) Q E s := by
  obtain ⟨o, ho, vs, n, rfl, hi⟩ := y
  have hl : vs.length = ns.length := hi.length
  refine call_meets PySem.F.slot_list_remove ⟨_, ho, rfl⟩ PySem.F.entry_list_remove (PySem.F.args_list_remove_2 _ _) (PySem.MeetsSeq.list_remove_none D vs.toArray n (.int x u) (isInt x) (fun y hy => eq_isInt x u hi y (by simpa using hy)) ?_) ⟨ho, hA, fun h' tk e hx => let ⟨a, b⟩ := H.exc hx; h h' tk e a b⟩
  intro k hk
  have hk2 : k < ns.length := by rw [List.size_toArray, hl] at hk; exact hk
  have := isInt_at x hi k (by rw [hl]; exact hk2) hk2
  simp only [List.getElem_toArray]
  rw [this]
  simp only [beq_eq_false_iff_ne, ne_eq]
  intro q
  exact hx (q ▸ List.getElem_mem hk2)
theorem r_newTup {vs : List Value} {Q : Value → Shared → Prop} (H : St base hI mu outer env L m ls s.heap) (hz : vs.length ≤ sizeLine)
    (h : ∀ l h', St base hI mu outer env L m ((l, fun o => o = { cls := .type "tuple", data := .seq vs.toArray }) :: ls) h' → (∀ p ∈ ls, p.1 ≠ l) → Mu base hI mu l → s.heap.get? l = none → Q (.ref l) { s with heap := h' }) : wpAny M A (newTuple vs) Q E s :=
  newTuple_N H.fr H.news (fun h' F' N' => let ⟨a, b, c, d, e⟩ := H.backN F' N' (P := fun o => o = { cls := .type "tuple", data := .seq vs.toArray }) rfl (fun p hp => Heap.lt_size (H.news p hp).1); h _ h' a b ⟨c, .inr d⟩ e) hz
end
end
local macro_rules | `(tactic| walk_at "m lk") => `(tactic| first | exact rfl | assumption)
local macro_rules | `(tactic| walk_at "m om") => `(tactic| first | omega | (simp only [List.length_append, List.length_cons, List.length_nil, List.length_set, List.length_dropLast] at *; omega))
local macro_rules | `(tactic| walk_at "m mem") => `(tactic| first | exact List.Mem.head _ | exact List.Mem.tail _ (List.Mem.head _) | exact List.Mem.tail _ (List.Mem.tail _ (List.Mem.head _)) | exact List.Mem.tail _ (List.Mem.tail _ (List.Mem.tail _ (List.Mem.head _))))
local macro_rules | `(tactic| walk_at "m li") => `(tactic| first | assumption | exact St.li (by assumption) (by walk_at "m mem"))
local macro_rules | `(tactic| walk_at "m ne") => `(tactic| first | assumption | exact List.forall_mem_nil _ | (simp only [List.mem_cons, List.not_mem_nil, forall_eq_or_imp, false_implies, implies_true, and_true, or_false, forall_eq]; first | done | assumption | (refine ⟨?_, ?_⟩ <;> assumption) | omega))
local macro_rules | `(tactic| walk_at "m name") => `(tactic| (refine' r_name ?H ?v ?k ?l ?d ?_; (case H => assumption); (case k => exact rfl); (case l => exact rfl); (case d => decide); (case v => walk_at "m lk")))
local macro_rules | `(tactic| walk_at "m def") => `(tactic| (refine' r_def ?C ?H ?e ?k ?l ?d ?_; (case C => assumption); (case H => assumption); (case k => exact rfl); (case l => exact rfl); (case d => decide); (case e => k_dflt k_is)))
local macro_rules | `(tactic| walk_at "m boot") => `(tactic| (refine' r_boot ?C ?H ?e ?b ?n ?k ?l ?d ?_; (case C => assumption); (case H => assumption); (case k => exact rfl); (case l => exact rfl); (case d => decide); (case n => decide); (case e => k_dflt k_is); (case b => boot_by_name)))
local macro_rules | `(tactic| walk_at "m store") => `(tactic| (refine' r_store ?H ?k ?l ?_; (case H => assumption); (case k => exact rfl); (case l => exact rfl)))
local macro_rules | `(tactic| walk_at "m go") => `(tactic| first
  | (with_reducible first
    | refine wpAny_execs_nil ?_
    | refine wpAny_execs_cons ?_
    | (refine' wpAny_Assign_Name ?_ ?hs; (case hs => with_unfolding_all rfl))
    | (refine' wpAny_Assign_Subscript ?_ ?hs; (case hs => with_unfolding_all rfl))
    | refine wpAny_AugAssign_Name ?_
    | refine wpAny_If ?_
    | refine wpAny_Break ?_
    | refine wpAny_Continue ?_
    | refine wpAny_Return_some ?_
    | refine wpAny_Return_none ?_
    | (refine' wpAny_Expr_any ?_ ?hi ?hs; (case hs => with_unfolding_all rfl); (case hi => with_unfolding_all rfl))
    | (refine' wpAny_isTrue_Compare1 ?_ ?hm; (case hm => with_unfolding_all rfl))
    | (refine' wpAny_Compare1 ?_ ?hm; (case hm => with_unfolding_all rfl))
    | refine wpAny_BinOp ?_
    | refine wpAny_Constant_int ?_
    | refine Subscript_ ?_
    | refine PyProof.Rows.List_ ?_
    | refine PyProof.Rows.Tuple_ ?_
    | refine wpAny_Slice ?_
    | refine evalPart_none_step ?_
    | refine evalPart_some_step ?_
    | refine wpAny_Constant_bool ?_
    | (refine' wpAny_Assign_two ?_ ?he ?hw; (case he => with_unfolding_all rfl); (case hw => with_unfolding_all rfl))
    | refine wpAny_assign_Name ?_
    | (refine' PyProof.Rows.Assign_Tuple ?_ ?hs ?hw; (case hs => with_unfolding_all rfl); (case hw => with_unfolding_all rfl))
    | refine PyProof.Rows.assignInOrder_cons ?_
    | refine PyProof.Rows.assignInOrder_nil ?_
    | refine wpAny_Try_except ?_
    | refine wpAny_Try_finally ?_
    | (refine' wpAny_For ?_ ?hs; (case hs => intro _; with_unfolding_all rfl))
    | refine wpAny_truthy_bool ?_
    | refine PyProof.Rows.lt_int ?_
    | refine PyProof.Rows.gt_int ?_
    | refine PyProof.Rows.eq_int ?_
    | refine PyProof.Rows.ne_int ?_
    | refine PyProof.Rows.le_int ?_
    | refine PyProof.Rows.add_int ?_
    | refine PyProof.Rows.sub_int ?_
    | refine PyProof.Rows.iadd_int ?_
    | (refine' PyProof.Rows.mod_int ?hb ?_; (case hb => decide))
    | (refine' PyProof.Rows.floordiv_int ?hb ?_ ?hp; (case hb => decide); (case hp => exact Or.inl (PyProof.noPylong_of_log2 (by decide +kernel))))
    | (refine' PyProof.Rows.mul_int ?_ ?hm; (case hm => k_dflt (exact .of_left (by decide))))
    | refine Eq.mpr (if_neg Bool.false_ne_true) ?_
    | refine Eq.mpr (if_pos rfl) ?_
    | refine wpAny_isTrue_BoolOp ?_
    | refine wpAny_allTrue_And_cons ?_
    | refine wpAny_allTrue_And_nil ?_
    | refine wpAny_allTrue_Or_cons ?_
    | refine wpAny_allTrue_Or_nil ?_
    | refine wpAny_isTrue_Not ?_
    | (refine' PyProof.Rows.MethodCall_ ?_ ?he; (case he => with_unfolding_all rfl))
    | (refine' PyProof.Rows.Call_ ?_ ?he; (case he => with_unfolding_all rfl))
    | refine PyProof.Rows.args_nil ?_
    | (refine' PyProof.Rows.args_cons ?_ ?he; (case he => with_unfolding_all rfl)))
  | ((with_reducible show wpAny _ _ (eval (Expr.Name _ _) _) _ _ _); first | (walk_at "m name") | (walk_at "m def") | (walk_at "m boot"))
  | ((with_reducible show wpAny _ _ (loadName _ _) _ _ _); refine' r_load ?H ?v ?k ?l ?_; (case H => assumption); (case k => exact rfl); (case l => exact rfl); (case v => walk_at "m lk"))
  | ((with_reducible show wpAny _ _ (callWith _ (Value.type _) [] (backTo _ (starEach (_ :: _) _)) _) _ _ _); refine' PyProof.Rows.callWith_type1 ?_ ?he ?hp; (case he => with_unfolding_all rfl); (case hp => with_unfolding_all rfl))
  | ((with_reducible show wpAny _ _ (callWith _ (Value.ref _) _ _ _) _ _ _); refine' callWith_K (Cx.X (by assumption)) ?hk ?_ ?he ?hp; (case hk => k_dflt k_is); (case he => with_unfolding_all rfl); (case hp => with_unfolding_all rfl))
  | (refine And.intro (Frag.In.keeps (Cx.X (by assumption)) (St.fr (by assumption)).keep) ?_; dsimp only [List.nil_append])
  | ((with_reducible show wpAny _ _ (callWith _ (Value.builtin _) [] (backTo _ (starEach (_ :: _) _)) _) _ _ _); refine' PyProof.Rows.callWith_builtin1 ?_ ?he ?hp; (case he => with_unfolding_all rfl); (case hp => with_unfolding_all rfl))
  | ((with_reducible show wpAny _ _ (callWith _ (Value.builtin _) (_ :: _) (backTo _ (starEach (_ :: _) _)) _) _ _ _); refine' PyProof.Rows.callWith_method1 ?_ ?he ?hp; (case he => with_unfolding_all rfl); (case hp => with_unfolding_all rfl))
  | ((with_reducible show wpAny _ _ (callWith _ (Value.builtin _) (_ :: _) (backTo _ (starEach [] _)) _) _ _ _); refine PyProof.Rows.callWith_method0 ?_)
  | ((with_reducible show wpAny _ _ (call (Value.builtin "len") [Value.ref _]) _ _ _); refine' r_len ?x ?f ?_; (case x => walk_at "m li"); (case f => walk_at "m om")))
local macro_rules | `(tactic| walk_at "m isName") => `(tactic| (refine' wpAny_isTrue_value ?_ ?he; (case he => with_unfolding_all rfl)))
local macro_rules | `(tactic| walk_at "m append") => `(tactic| (refine' r_getM (by walk_at "m li") PySem.F.slot_list_append PySem.F.type_list_append ?_; dsimp only))
local macro_rules | `(tactic| walk_at "m pop") => `(tactic| (refine' r_getM (by walk_at "m li") PySem.F.slot_list_pop PySem.F.type_list_pop ?_; dsimp only))
local macro_rules | `(tactic| walk_at "m remove") => `(tactic| (refine' r_getM (by walk_at "m li") PySem.F.slot_list_remove PySem.F.type_list_remove ?_; dsimp only))
local macro_rules | `(tactic| walk_at "m extend") => `(tactic| (refine' r_getM (by walk_at "m li") PySem.F.slot_list_extend PySem.F.type_list_extend ?_; dsimp only))
local macro_rules | `(tactic| walk_at "m norec") => `(tactic| first | exact noRec_nil | (refine noRec_I ?_; walk_at "m norec"))
local macro_rules | `(tactic| walk_at "m item") => `(tactic| (refine' r_item ?x ?a ?b ?c ?d ?_; (case x => walk_at "m li"); (case d => with_unfolding_all rfl); (case a => walk_at "m om"); (case b => walk_at "m om"); (case c => walk_at "m om")))
local macro_rules | `(tactic| walk_at "m enter") => `(tactic| (
  (case ho => k_dflt k_is)
  (case hcd => k_dflt k_is)
  (case hb => exact rfl)
  (case hl => exact locs rfl)
  (case c => decide)
  (case d => exact rfl)
  (case e => exact rfl)
  (case f => exact rfl)))

section
def sdGo (ns : List Int) (pos : Nat) (x : Int) : List Int :=
  if h : 0 < pos then (if x < ns.getD ((pos - 1) / 2) 0 then sdGo (ns.set pos (ns.getD ((pos - 1) / 2) 0)) ((pos - 1) / 2) x else ns.set pos x) else ns.set pos x
termination_by pos
decreasing_by omega

variable {w : World} {mean : ExcName → Option Value} {mg mb : Str → Option Value} {base : Heap} {A : Around} {envs : List Env} {n : Nat} {s : Shared} {E Q : Value → Shared → Prop}
theorem siftdown_spec {l : Addr} {ns : List Int} {j : Nat} {jj : Int} {ti tj : Tok} (hjj : jj = j) (C : Cx w mean mg mb base A envs (n + 1)) (G : Gd base s.heap envs) (hl : LI s.heap l ns) (hb : base.get? l = none)
   (hjn : j < ns.length) (hlen : ns.length < 1000)
   (hQ : ∀ (h' : Heap) (tk' : Nat), Kp (frs envs) [l] s.heap h' → LI h' l (sdGo ns j (ns.getD j 0)) → Q .none { s with heap := h', toks := tk' }) :
   wpAny (Md w) A (call (.ref 49) [.ref l, .int 0 ti, .int jj tj]) Q E s := by
  subst hjj
  have hls : ∀ p ∈ [(l, isI ns)], (∃ o, s.heap.get? p.1 = some o ∧ p.2 o) ∧ p.1 ∉ frs envs := fun p hp => by
    rw [List.mem_singleton.mp hp]; exact ⟨hl, hl.frs G.ff⟩
  refine' enter [l] _ C G hls ?ho ?hcd ?hb ?hl ?h ?c ?d ?e ?f
  walk_at "m enter"
  intro L h₁ H C'
  have hM : Mu base s.heap [l] l := ⟨hb, .inl (.head _)⟩
  generalize (fun e s' => wpAny (Md w) _ (leaving _ e) (fun _ s'' => E e s'') (fun e' s'' => E e' s'') s') = E'
  iterate 5 walk_at "m go"
  walk_at "m item"
  intro t
  walk_at "m store"
  intro h₂ H₂
  walk_at "m go"
  refine r_whileA (fun (x : List Int × Nat) s' => ∃ h' tk' m' t', s' = { s with heap := h', toks := tk' } ∧ Stx H m' [(l, isI x.1)] h' ∧ x.1.length = ns.length ∧ x.2 < ns.length ∧ sdGo x.1 x.2 (ns.getD j 0) = sdGo ns j (ns.getD j 0) ∧
     m' "heap" = some (.ref l) ∧ m' "startpos" = some (.int 0 ti) ∧ m' "pos" = some (.int x.2 t') ∧ m' "newitem" = some (.int (ns.getD j 0) t)) (fun x => x.2)
     (fun s' => ∃ ns' p h' tk' m' t', s' = { s with heap := h', toks := tk' } ∧ Stx H m' [(l, isI ns')] h' ∧ ns'.length = ns.length ∧ p < ns.length ∧ ns'.set p (ns.getD j 0) = sdGo ns j (ns.getD j 0) ∧
     m' "heap" = some (.ref l) ∧ m' "pos" = some (.int p t') ∧ m' "newitem" = some (.int (ns.getD j 0) t))
     (ns, j) ⟨h₂, _, _, tj, rfl, H₂, rfl, hjn, rfl, rfl, rfl, rfl, rfl⟩ ?_ ?_
  · rintro P R' hP hR ⟨ns', p⟩ _ ⟨h₃, tk₃, m₃, t₃, rfl, H₃, e1, e2, e3, v1, v2, v3, v4⟩
    dsimp only at H₃ e1 e2 e3 v3
    iterate 5 walk_at "m go"
    refine split_dec ?_ ?_ <;> intro hp
    · have hp' : 0 < p := by omega
      iterate 6 walk_at "m go"
      iterate 2 walk_at "m go"
      refine' wpAny_rshift1_int ?a ?_
      (case a => omega)
      walk_at "m store"
      intro h₄ H₄
      have hpp : ((p : Int) - 1) / 2 = (((p - 1) / 2 : Nat) : Int) := by omega
      rw [hpp] at H₄
      iterate 5 walk_at "m go"
      walk_at "m item"
      intro t5
      rw [Int.toNat_natCast] 
      walk_at "m store"
      intro h₅ H₅
      iterate 6 walk_at "m go"
      walk_at "m go"
      refine split_dec ?_ ?_ <;> intro hx
      · iterate 5 walk_at "m go"
        refine' r_set H₅ hM (by walk_at "m ne") ?a ?b ?c ?_
        (case a => omega)
        (case b => omega)
        (case c => omega)
        intro h₆ H₆
        iterate 3 walk_at "m go"
        walk_at "m store"
        intro h₇ H₇
        iterate 2 walk_at "m go"
        rw [Int.toNat_natCast] at H₇
        refine ⟨(ns'.set p (ns'.getD ((p - 1) / 2) 0), (p - 1) / 2), by dsimp only; omega, hP _ _ ⟨h₇, _, _, _, rfl, H₇, by simpa using e1, by dsimp only; omega, ?_, v1, v2, rfl, v4⟩⟩
        rw [← e3, sdGo.eq_1 ns' p, dif_pos hp', if_pos hx]
      · walk_at "m go"
        iterate 2 walk_at "m go"
        refine hR _ ⟨ns', p, h₅, _, _, t₃, rfl, H₅, e1, e2, ?_, v1, v3, v4⟩
        rw [← e3, sdGo, dif_pos hp', if_neg hx]
    · refine hR _ ⟨ns', p, h₃, _, m₃, t₃, rfl, H₃, e1, e2, ?_, v1, v3, v4⟩
      rw [← e3, sdGo, dif_neg (by omega)]
  · rintro _ ⟨ns', p, h₃, tk₃, m₃, t₃, rfl, H₃, e1, e2, e3, v1, v3, v4⟩
    iterate 5 walk_at "m go"
    refine r_set H₃ hM (by walk_at "m ne") (by omega) (by omega) (by omega) fun h' H' => ?_
    walk_at "m go"
    refine hQ h' _ H'.kp ?_
    have := H'.li (.head _)
    rw [Int.toNat_natCast, e3] at this
    exact this
end
section
def suGo (ns : List Int) (pos : Nat) : List Int × Nat :=
  if h : 2 * pos + 1 < ns.length then
    (if 2 * pos + 2 < ns.length ∧ ¬ ns.getD (2 * pos + 1) 0 < ns.getD (2 * pos + 2) 0 then suGo (ns.set pos (ns.getD (2 * pos + 2) 0)) (2 * pos + 2)
    else suGo (ns.set pos (ns.getD (2 * pos + 1) 0)) (2 * pos + 1))
  else (ns, pos)
termination_by ns.length - pos
decreasing_by all_goals (simp only [List.length_set]; omega)

variable {w : World} {mean : ExcName → Option Value} {mg mb : Str → Option Value} {base : Heap} {A : Around} {envs : List Env} {n : Nat} {s : Shared} {E Q : Value → Shared → Prop}
theorem one_led {l : Addr} {ns : List Int} (G : Gd base s.heap envs) (hl : LI s.heap l ns) : ∀ p ∈ [(l, isI ns)], (∃ o, s.heap.get? p.1 = some o ∧ p.2 o) ∧ p.1 ∉ frs envs := fun p hp => by
  rw [List.mem_singleton.mp hp]; exact ⟨hl, hl.frs G.ff⟩

theorem heappush_spec {l : Addr} {ns : List Int} {x : Int} {tx : Tok} (C : Cx w mean mg mb base A envs (n + 2)) (G : Gd base s.heap envs) (hl : LI s.heap l ns) (hb : base.get? l = none) (hlen : ns.length < 900)
   (hQ : ∀ (h' : Heap) (tk' : Nat), Kp (frs envs) [l] s.heap h' → LI h' l (sdGo (ns ++ [x]) ns.length x) → Q .none { s with heap := h', toks := tk' }) :
   wpAny (Md w) A (call (.ref 35) [.ref l, .int x tx]) Q E s := by
  refine' enter [l] _ C G (one_led G hl) ?ho ?hcd ?hb ?hl ?h ?c ?d ?e ?f
  walk_at "m enter"
  intro L h₁ H C'
  have hM : Mu base s.heap [l] l := ⟨hb, .inl (.head _)⟩
  generalize (fun e s' => wpAny (Md w) _ (leaving _ e) (fun _ s'' => E e s'') (fun e' s'' => E e' s'') s') = E'
  iterate 4 walk_at "m go"
  walk_at "m append"
  iterate 4 walk_at "m go"
  refine r_append H hM (by walk_at "m ne") (by rw [sizeLine]; omega) fun h₂ H₂ => ?_
  repeat walk_at "m go"
  refine siftdown_spec (j := ns.length) ?_ C' H₂.gd (H₂.li (.head _)) hb ?_ ?_ fun h' tk' hk hl' => ?_
  · walk_at "m om"
  · walk_at "m om"
  · walk_at "m om"
  have H₃ := H₂.call (ls' := []) hk (fun a ha => by rw [List.mem_singleton.mp ha]; exact hb) (fun a ha => .inl ha) (fun p hp => nomatch hp)
  repeat walk_at "m go"
  refine hQ h' tk' H₃.kp ?_
  have e : (ns ++ [x]).getD ns.length 0 = x := by simp [List.getD]
  rw [e] at hl'
  exact hl'

theorem siftup_spec {l : Addr} {ns : List Int} {ti : Tok} (C : Cx w mean mg mb base A envs (n + 2)) (G : Gd base s.heap envs) (hl : LI s.heap l ns) (hb : base.get? l = none) (h0 : 0 < ns.length) (hlen : ns.length < 1000)
   (hQ : ∀ (h' : Heap) (tk' : Nat), Kp (frs envs) [l] s.heap h' → LI h' l (sdGo ((suGo ns 0).1.set (suGo ns 0).2 (ns.getD 0 0)) (suGo ns 0).2 (ns.getD 0 0)) → Q .none { s with heap := h', toks := tk' }) :
   wpAny (Md w) A (call (.ref 56) [.ref l, .int 0 ti]) Q E s := by
  refine' enter [l] _ C G (one_led G hl) ?ho ?hcd ?hb ?hl ?h ?c ?d ?e ?f
  walk_at "m enter"
  intro L h₁ H C'
  have hM : Mu base s.heap [l] l := ⟨hb, .inl (.head _)⟩
  generalize (fun e s' => wpAny (Md w) _ (leaving _ e) (fun _ s'' => E e s'') (fun e' s'' => E e' s'') s') = E'
  repeat walk_at "m go"
  walk_at "m store"; intro h₂ H₂
  repeat walk_at "m go"
  walk_at "m store"; intro h₃ H₃
  repeat walk_at "m go"
  walk_at "m item"; intro t
  walk_at "m store"; intro h₄ H₄
  repeat walk_at "m go"
  walk_at "m store"; intro h₅ H₅
  walk_at "m go"
  refine r_whileA (fun (x : List Int × Nat) s' => ∃ h' tk' m' t1 t2 t3 c, s' = { s with heap := h', toks := tk' } ∧ Stx H m' [(l, isI x.1)] h' ∧ x.1.length = ns.length ∧ x.2 < ns.length ∧ suGo x.1 x.2 = suGo ns 0 ∧ c = ((2 * x.2 + 1 : Nat) : Int) ∧
     m' "heap" = some (.ref l) ∧ m' "startpos" = some (.int 0 ti) ∧ m' "pos" = some (.int x.2 t1) ∧ m' "newitem" = some (.int (ns.getD 0 0) t) ∧ m' "endpos" = some (.int ns.length t2) ∧ m' "childpos" = some (.int c t3)) (fun x => ns.length - x.2)
     (fun s' => ∃ ns' p h' tk' m' t', s' = { s with heap := h', toks := tk' } ∧ Stx H m' [(l, isI ns')] h' ∧ ns'.length = ns.length ∧ p < ns.length ∧ (ns', p) = suGo ns 0 ∧
     m' "heap" = some (.ref l) ∧ m' "startpos" = some (.int 0 ti) ∧ m' "pos" = some (.int p t') ∧ m' "newitem" = some (.int (ns.getD 0 0) t))
     (ns, 0) ⟨h₅, _, _, _, _, _, _, rfl, H₅, rfl, h0, rfl, ?_, rfl, rfl, rfl, rfl, rfl, rfl⟩ ?_ ?_
  · simp
  · rintro P R' hP hR ⟨ns', p⟩ _ ⟨h₆, tk₆, m₆, t1, t2, t3, c, rfl, H₆, e1, e2, e3, rfl, v1, v2, v3, v4, v5, v6⟩
    dsimp only at H₆ e1 e2 e3 v3 v6
    repeat walk_at "m go"
    refine split_dec ?_ ?_ <;> intro hp
    · repeat walk_at "m go"
      walk_at "m store"; intro h₇ H₇
      walk_at "m go"
      refine r_cutA (fun s' => ∃ (c' : Nat) (h' : Heap) (tk' : Nat) (m' : Str → Option Value) (t4 : Tok), s' = { s with heap := h', toks := tk' } ∧ Stx H m' [(l, isI ns')] h' ∧ p < c' ∧ c' < ns.length ∧ suGo ns' p = suGo (ns'.set p (ns'.getD c' 0)) c' ∧
         m' "heap" = some (.ref l) ∧ m' "startpos" = some (.int 0 ti) ∧ m' "pos" = some (.int p t1) ∧ m' "newitem" = some (.int (ns.getD 0 0) t) ∧ m' "endpos" = some (.int ns.length t2) ∧ m' "childpos" = some (.int c' t4)) ?_ ?_
      · intro Rc hC
        repeat walk_at "m go"
        refine split_dec ?_ ?_ <;> intro hr
        · repeat walk_at "m go"
          walk_at "m item"; intro t5
          repeat walk_at "m go"
          walk_at "m item"; intro t6
          repeat walk_at "m go"
          refine split_bool ?_ ?_ <;> intro hx
          · simp only [Bool.not_eq_true', decide_eq_false_iff_not] at hx
            repeat walk_at "m go"
            walk_at "m store"; intro h₈ H₈
            have c2 : (((2 * p + 1 : Nat) : Int) + 1) = ((2 * p + 2 : Nat) : Int) := by omega
            rw [c2] at H₈ hx
            rw [Int.toNat_natCast, Int.toNat_natCast] at hx
            repeat walk_at "m go"
            refine ⟨rfl, hC _ ⟨2 * p + 2, h₈, _, _, _, rfl, H₈, by omega, by omega, ?_, v1, v2, v3, v4, v5, rfl⟩⟩
            rw [suGo.eq_1 ns' p, dif_pos (by omega), if_pos ⟨by omega, hx⟩]
          · simp only [Bool.not_eq_false', decide_eq_true_eq] at hx
            have c2 : (((2 * p + 1 : Nat) : Int) + 1) = ((2 * p + 2 : Nat) : Int) := by omega
            rw [c2] at hx
            rw [Int.toNat_natCast, Int.toNat_natCast] at hx
            repeat walk_at "m go"
            refine ⟨rfl, hC _ ⟨2 * p + 1, h₇, _, _, _, rfl, H₇, by omega, by omega, ?_, v1, v2, v3, v4, v5, v6⟩⟩
            rw [suGo.eq_1 ns' p, dif_pos (by omega), if_neg (fun z => z.2 hx)]
        · repeat walk_at "m go"
          refine ⟨rfl, hC _ ⟨2 * p + 1, h₇, _, _, _, rfl, H₇, by omega, by omega, ?_, v1, v2, v3, v4, v5, v6⟩⟩
          rw [suGo.eq_1 ns' p, dif_pos (by omega), if_neg (fun z => by omega)]
      · rintro _ ⟨c', h₈, tk₈, m₈, t₈, rfl, H₈, d1, d2, d3, u1, u2, u3, u4, u5, u6⟩
        repeat walk_at "m go"
        walk_at "m item"; intro t5
        repeat walk_at "m go"
        refine' r_set H₈ hM (by walk_at "m ne") ?a ?b ?c ?_
        (case a => omega)
        (case b => omega)
        (case c => omega)
        intro h₉ H₉
        rw [Int.toNat_natCast, Int.toNat_natCast] at H₉
        repeat walk_at "m go"
        walk_at "m store"; intro h10 H10
        repeat walk_at "m go"
        walk_at "m store"; intro h11 H11
        repeat walk_at "m go"
        refine ⟨(ns'.set p (ns'.getD c' 0), c'), by dsimp only; omega, hP _ _ ⟨h11, _, _, _, _, _, _, rfl, H11, by simpa using e1, d2, by rw [← e3, d3], by dsimp only; omega, u1, u2, rfl, u4, u5, rfl⟩⟩
    · refine hR _ ⟨ns', p, h₆, _, m₆, t1, rfl, H₆, e1, e2, ?_, v1, v2, v3, v4⟩
      rw [← e3, suGo, dif_neg (by omega)]
  · rintro _ ⟨ns', p, h₆, tk₆, m₆, t₆, rfl, H₆, e1, e2, e3, v1, v2, v3, v4⟩
    repeat walk_at "m go"
    refine' r_set H₆ hM (by walk_at "m ne") ?a ?b ?c ?_
    (case a => omega)
    (case b => omega)
    (case c => omega)
    intro h₇ H₇
    repeat walk_at "m go"
    rw [Int.toNat_natCast] at H₇
    refine siftdown_spec (j := p) rfl C' H₇.gd (H₇.li (.head _)) hb ?_ ?_ fun h' tk' hk hl' => ?_
    · walk_at "m om"
    · walk_at "m om"
    have H₈ := H₇.call (ls' := []) hk (fun a ha => by rw [List.mem_singleton.mp ha]; exact hb) (fun a ha => .inl ha) (fun p hp => nomatch hp)
    repeat walk_at "m go"
    refine hQ h' tk' H₈.kp ?_
    have e : (ns'.set p (ns.getD 0 0)).getD p 0 = ns.getD 0 0 := by simp [List.getD, e1, e2]
    rw [e] at hl'
    rw [← e3]
    exact hl'
end
section
def suF (ns : List Int) : List Int := sdGo ((suGo ns 0).1.set (suGo ns 0).2 (ns.getD 0 0)) (suGo ns 0).2 (ns.getD 0 0)
def popV (ns : List Int) : Int := if ns.dropLast = [] then ns.getLastD 0 else ns.dropLast.getD 0 0
def popL (ns : List Int) : List Int := if ns.dropLast = [] then [] else suF (ns.dropLast.set 0 (ns.getLastD 0))
def pushL (ns : List Int) (x : Int) : List Int := sdGo (ns ++ [x]) ns.length x
theorem sdGo_length (ns : List Int) (p : Nat) (x : Int) : (sdGo ns p x).length = ns.length := by
  induction p using Nat.strongRecOn generalizing ns with
  | ind p ih =>
    rw [sdGo]
    split
    · split
      · rw [ih _ (by omega), List.length_set]
      · rw [List.length_set]
    · rw [List.length_set]
theorem suGo_length (ns : List Int) (p : Nat) : (suGo ns p).1.length = ns.length := by
  induction hk : ns.length - p using Nat.strongRecOn generalizing ns p with
  | ind k ih =>
    rw [suGo]
    split
    · split
      · rw [ih _ (by simp only [List.length_set]; omega) _ _ rfl, List.length_set]
      · rw [ih _ (by simp only [List.length_set]; omega) _ _ rfl, List.length_set]
    · rfl
theorem suF_length (ns : List Int) : (suF ns).length = ns.length := by rw [suF, sdGo_length, List.length_set, suGo_length]
theorem popL_length (ns : List Int) : (popL ns).length = ns.length - 1 := by
  rw [popL]; split
  · rename_i h; have := congrArg List.length h; simp at this; simp; omega
  · rw [suF_length]; simp
theorem pushL_length (ns : List Int) (x : Int) : (pushL ns x).length = ns.length + 1 := by rw [pushL, sdGo_length]; simp

variable {w : World} {mean : ExcName → Option Value} {mg mb : Str → Option Value} {base : Heap} {A : Around} {envs : List Env} {n : Nat} {s : Shared} {E Q : Value → Shared → Prop}
theorem heappop_spec {l : Addr} {ns : List Int} (C : Cx w mean mg mb base A envs (n + 3)) (G : Gd base s.heap envs) (hl : LI s.heap l ns) (hb : base.get? l = none) (h0 : 0 < ns.length) (hlen : ns.length < 900)
   (hQ : ∀ (h' : Heap) (tk' : Nat) (t : Tok), Kp (frs envs) [l] s.heap h' → LI h' l (popL ns) → Q (.int (popV ns) t) { s with heap := h', toks := tk' }) :
   wpAny (Md w) A (call (.ref 42) [.ref l]) Q E s := by
  refine' enter [l] _ C G (one_led G hl) ?ho ?hcd ?hb ?hl ?h ?c ?d ?e ?f
  walk_at "m enter"
  intro L h₁ H C'
  have hM : Mu base s.heap [l] l := ⟨hb, .inl (.head _)⟩
  generalize (fun e s' => wpAny (Md w) _ (leaving _ e) (fun _ s'' => E e s'') (fun e' s'' => E e' s'') s') = E'
  repeat walk_at "m go"
  walk_at "m pop"
  repeat walk_at "m go"
  refine r_pop H hM (by walk_at "m ne") h0 (by rw [sizeLine]; omega) fun h₂ t H₂ => ?_
  walk_at "m store"; intro h₃ H₃
  repeat walk_at "m go"
  walk_at "m isName"
  repeat walk_at "m go"
  refine r_truthy (H₃.li (.head _)) (by walk_at "m om") ?_
  refine split_bool ?_ ?_ <;> intro hx
  · have hne : ns.dropLast ≠ [] := by intro e; rw [e] at hx; cases hx
    have hlen2 : 0 < ns.dropLast.length := List.length_pos_iff.mpr hne
    repeat walk_at "m go"
    walk_at "m item"; intro t2
    walk_at "m store"; intro h₄ H₄
    repeat walk_at "m go"
    refine' r_set H₄ hM (by walk_at "m ne") ?a ?b ?c ?_
    (case a => omega)
    (case b => omega)
    (case c => omega)
    intro h₅ H₅
    repeat walk_at "m go"
    refine siftup_spec C' H₅.gd (H₅.li (.head _)) hb ?_ ?_ fun h' tk' hk hl' => ?_
    · walk_at "m om"
    · walk_at "m om"
    have H₆ := H₅.call (ls' := []) hk (fun a ha => by rw [List.mem_singleton.mp ha]; exact hb) (fun a ha => .inl ha) (fun p hp => nomatch hp)
    repeat walk_at "m go"
    have e1 : popV ns = ns.dropLast.getD (Int.toNat 0) 0 := by rw [popV, if_neg hne]; rfl
    have e2 : popL ns = suF (ns.dropLast.set 0 (ns.getLastD 0)) := by rw [popL, if_neg hne]
    rw [← e1]
    refine hQ h' tk' t2 H₆.kp ?_
    rw [e2]
    exact hl'
  · have hne : ns.dropLast = [] := by simpa using hx
    repeat walk_at "m go"
    have e1 : popV ns = ns.getLastD 0 := by rw [popV, if_pos hne]
    have e2 : popL ns = [] := by rw [popL, if_pos hne]
    rw [← e1]
    refine hQ h₃ _ t H₃.kp ?_
    have := H₃.li (.head _)
    rw [hne] at this
    rw [e2]; exact this
end
section
def drain (ns : List Int) : List Int := if h : ns = [] then [] else popV ns :: drain (popL ns)
termination_by ns.length
decreasing_by rw [popL_length]; have := List.length_pos_iff.mpr h; omega
def inOrd (l r : List Int) : List Int := drain ((l ++ r).foldl pushL [])
theorem foldl_length (l : List Int) (a : List Int) : (l.foldl pushL a).length = a.length + l.length := by
  induction l generalizing a with
  | nil => rfl
  | cons x l ih => rw [List.foldl_cons, ih, pushL_length, List.length_cons]; omega

variable {w : World} {mean : ExcName → Option Value} {mg mb : Str → Option Value} {base : Heap} {A : Around} {envs : List Env} {n : Nat} {s : Shared} {E Q : Value → Shared → Prop}
theorem two_led {l k : Addr} {ns ms : List Int} (G : Gd base s.heap envs) (hl : LI s.heap l ns) (hk : LI s.heap k ms) : ∀ p ∈ [(l, isI ns), (k, isI ms)], (∃ o, s.heap.get? p.1 = some o ∧ p.2 o) ∧ p.1 ∉ frs envs := fun p hp => by
  rcases List.mem_cons.mp hp with rfl | hp
  · exact ⟨hl, hl.frs G.ff⟩
  · rw [List.mem_singleton.mp hp]; exact ⟨hk, hk.frs G.ff⟩

theorem inorder_spec {l k : Addr} {ns ms : List Int} (C : Cx w mean mg mb base A envs (n + 4)) (G : Gd base s.heap envs) (hl : LI s.heap l ns) (hk : LI s.heap k ms) (hlen : ns.length + ms.length < 800)
   (hQ : ∀ (h' : Heap) (tk' : Nat) (r : Addr), Kp (frs envs) [] s.heap h' → LI h' r (inOrd ns ms) → base.get? r = none → s.heap.get? r = none → Q (.ref r) { s with heap := h', toks := tk' }) :
   wpAny (Md w) A (call (.ref 84) [.ref l, .ref k]) Q E s := by
  refine' enter [] _ C G (two_led G hl hk) ?ho ?hcd ?hb ?hl ?h ?c ?d ?e ?f
  walk_at "m enter"
  intro L h₁ H C'
  generalize (fun e s' => wpAny (Md w) _ (leaving _ e) (fun _ s'' => E e s'') (fun e' s'' => E e' s'') s') = E'
  repeat walk_at "m go"
  refine r_newInts H .nil (by decide) fun D h₂ H₂ hD hM hDn => ?_
  walk_at "m store"; intro h₃ H₃
  repeat walk_at "m go"
  refine r_add H₃ (H₃.li (by walk_at "m mem")) (H₃.li (by walk_at "m mem")) (by rw [sizeLine]; omega) fun S h₄ H₄ hS hMS hSn => ?_
  obtain ⟨vs, hvs, H₅⟩ := (H₄.sub (ls' := [(S, isI (ns ++ ms)), (D, isI [])]) (fun p hp => by
    rcases List.mem_cons.mp hp with rfl | hp
    · exact .head _
    · rw [List.mem_singleton.mp hp]; exact .tail _ (.head _))).open
  have hSD : S ≠ D := (hS _ (.head _)).symm
  have hvl : vs.length = (ns ++ ms).length := hvs.length
  dsimp only at H₅
  refine r_for C'.hnd rfl rfl H₅ (fun i m' ls' => ls' = [(D, isI (((ns ++ ms).take i).foldl pushL []))] ∧ m' "heap" = some (.ref D)) (fun _ => False) ⟨rfl, rfl⟩ ?_ ?_ (fun _ h => h.elim)
  · rintro i v it h' tk' m' _ hitn hv ⟨rfl, hm⟩ hne hil H₆
    obtain ⟨hilt, t, rfl⟩ := ints_at hvs hv
    have hfl := foldl_length ((ns ++ ms).take i) []
    simp only [List.length_append, List.length_take, List.length_nil] at hfl hilt
    have H₇ := H₆.sub (ls' := [(D, isI (((ns ++ ms).take i).foldl pushL [])), (it, isIt S (i + 1)), (S, isV vs)]) (fun p hp => by simp only [List.mem_cons, List.not_mem_nil, or_false] at hp ⊢; rcases hp with rfl | rfl | rfl <;> simp)
    have hitD : it ≠ D := (hne _ (.head _)).symm
    repeat walk_at "m go"
    refine heappush_spec C' H₇.gd (H₇.li (.head _)) hM.1 ?_ fun h8 tk8 hk8 hl8 => ?_
    · omega
    have H₈ := H₇.callU hk8 hl8 hM (by simp [hitD, hSD])
    repeat walk_at "m go"
    refine' ⟨h8, tk8, _, _, rfl, ⟨rfl, ?hm⟩, ?hn, H₈.sub fun p hp => ?_⟩
    (case hm => exact hm)
    (case hn => exact fun p hp => by rw [List.mem_singleton.mp hp]; exact hitD.symm)
    rw [show (List.take (i + 1) (ns ++ ms)).foldl pushL [] = pushL ((List.take i (ns ++ ms)).foldl pushL []) ((ns ++ ms).getD i 0) by
      rw [List.take_add_one, List.foldl_append]
      have : (ns ++ ms)[i]? = some ((ns ++ ms).getD i 0) := by simp [List.getD, show i < ns.length + ms.length by omega]
      rw [this]; rfl] at hp
    simp only [List.mem_cons, List.not_mem_nil, or_false] at hp ⊢; rcases hp with rfl | rfl | rfl <;> simp [pushL]
  · rintro h' tk' m' _ ⟨rfl, hm⟩ H₆
    rw [hvl, List.take_length] at H₆
    have H₇ := H₆.sub (ls' := [(D, isI ((ns ++ ms).foldl pushL []))]) (fun p hp => .tail _ hp)
    have hfl := foldl_length (ns ++ ms) []
    simp only [List.length_append, List.length_nil] at hfl
    have hres : inOrd ns ms = drain ((ns ++ ms).foldl pushL []) := rfl
    generalize (ns ++ ms).foldl pushL [] = xs at *
    repeat walk_at "m go"
    refine r_newInts H₇ .nil (by decide) fun R h8 H₈ hR hMR hRn => ?_
    have hRD : R ≠ D := (hR _ (.head _)).symm
    walk_at "m store"; intro h9 H₉
    walk_at "m go"
    refine r_whileR (fun (x : List Int × List Int) s' => ∃ h' tk' m', s' = { s with heap := h', toks := tk' } ∧ Stx H m' [(R, isI x.2), (D, isI x.1)] h' ∧ x.2 ++ drain x.1 = inOrd ns ms ∧ x.1.length + x.2.length ≤ xs.length ∧
      m' "heap" = some (.ref D) ∧ m' "row" = some (.ref R)) (fun x => x.1.length)
      (fun s' => ∃ h' tk' m', s' = { s with heap := h', toks := tk' } ∧ Stx H m' [(R, isI (inOrd ns ms))] h' ∧ m' "row" = some (.ref R))
      (xs, []) ⟨h9, _, _, rfl, H₉, by rw [hres]; rfl, by simp, hm, rfl⟩ ?_ ?_
    · rintro ⟨ys, rs⟩ _ ⟨h10, tk10, m10, rfl, H10, e1, e2, v1, v2⟩
      dsimp only at H10 e1 e2
      repeat walk_at "m go"
      refine r_newInts H10 .nil (by decide) fun Z h11 H11 hZ hMZ hZn => ?_
      refine r_ne (ns := ys) (ms := []) (H11.li (by walk_at "m mem")) (H11.li (by walk_at "m mem")) (by have := C'.units; omega) ?_
      repeat walk_at "m go"
      refine split_bool ?_ ?_ <;> intro hx
      · have hne : ys ≠ [] := by simpa using hx
        have hpos := List.length_pos_iff.mpr hne
        repeat walk_at "m go"
        walk_at "m append"
        repeat walk_at "m go"
        have H12 := H11.sub (ls' := [(D, isI ys), (R, isI rs)]) (fun p hp => by simp only [List.mem_cons, List.not_mem_nil, or_false] at hp ⊢; rcases hp with rfl | rfl <;> simp)
        refine heappop_spec C' H12.gd (H12.li (.head _)) hM.1 hpos ?_ fun h13 tk13 t hk13 hl13 => ?_
        · omega
        have H13 := H12.callU hk13 hl13 hM (by simp [hRD])
        have H14 := H13.sub (ls' := [(R, isI rs), (D, isI (popL ys))]) (fun p hp => by simp only [List.mem_cons, List.not_mem_nil, or_false] at hp ⊢; rcases hp with rfl | rfl <;> simp)
        repeat walk_at "m go"
        refine r_append H14 hMR (by simp [hRD.symm]) (by rw [sizeLine]; omega) fun h15 H15 => ?_
        repeat walk_at "m go"
        refine ⟨(popL ys, rs ++ [popV ys]), by dsimp only; rw [popL_length]; omega, h15, tk13, _, rfl, H15, ?_, ?_, v1, v2⟩
        · rw [← e1, drain.eq_1 ys, dif_neg hne]; simp
        · simp only [popL_length, List.length_append, List.length_cons, List.length_nil]; omega
      · have hne : ys = [] := by simpa using hx
        subst hne
        refine ⟨h11, _, m10, rfl, ?_, v2⟩
        have e3 : inOrd ns ms = rs := by rw [← e1, drain, dif_pos rfl, List.append_nil]
        rw [e3]
        exact H11.sub (fun p hp => by rw [List.mem_singleton.mp hp]; simp)
    · rintro _ ⟨h10, tk10, m10, rfl, H10, v2⟩
      repeat walk_at "m go"
      exact hQ h10 tk10 R H10.kp (H10.li (.head _)) hMR.1 (hMR.2.elim (fun q => nomatch q) id)
end
section
def bh (sizes : List Int) (e0 : Bool) : Nat → Int → Nat → List Int → List Int
  | 0, _, _, marks => marks
  | k + 1, place, turn, marks =>
    if place ≤ 24 ∧ (turn < sizes.length ∨ e0 = true) then
      bh sizes e0 k (place + sizes.getD (min turn (sizes.length - 1)) 0) (turn + 1) (if place + sizes.getD (min turn (sizes.length - 1)) 0 ≤ 24 then marks ++ [place + sizes.getD (min turn (sizes.length - 1)) 0] else marks)
    else marks
def byHand (sizes : List Int) (ending : Int) : List Int := bh sizes (ending == 0) 30 0 0 []
theorem bh_stop {sizes : List Int} {e0 : Bool} {k : Nat} {place : Int} {turn : Nat} {marks : List Int} (h : ¬ (place ≤ 24 ∧ (turn < sizes.length ∨ e0 = true))) : bh sizes e0 k place turn marks = marks := by
  cases k with
  | zero => rfl
  | succ k => rw [bh, if_neg h]

variable {w : World} {mean : ExcName → Option Value} {mg mb : Str → Option Value} {base : Heap} {A : Around} {envs : List Env} {n : Nat} {s : Shared} {E Q : Value → Shared → Prop}
theorem byhand_spec {l : Addr} {ns : List Int} {en : Int} {te : Tok} (C : Cx w mean mg mb base A envs (n + 1)) (G : Gd base s.heap envs) (hl : LI s.heap l ns) (h1 : 0 < ns.length) (hlen : ns.length < 100) (hsz : ∀ x ∈ ns, 1 ≤ x)
   (hQ : ∀ (h' : Heap) (tk' : Nat) (r : Addr), Kp (frs envs) [] s.heap h' → LI h' r (byHand ns en) → base.get? r = none → s.heap.get? r = none → Q (.ref r) { s with heap := h', toks := tk' }) :
   wpAny (Md w) A (call (.ref 77) [.ref l, .int en te]) Q E s := by
  refine' enter [] _ C G (one_led G hl) ?ho ?hcd ?hb ?hl ?h ?c ?d ?e ?f
  walk_at "m enter"
  intro L h₁ H C'
  generalize (fun e s' => wpAny (Md w) _ (leaving _ e) (fun _ s'' => E e s'') (fun e' s'' => E e' s'') s') = E'
  repeat walk_at "m go"
  refine r_newInts H .nil (by decide) fun D h₂ H₂ hD hM hDn => ?_
  have hDl : l ≠ D := hD _ (.head _)
  walk_at "m store"; intro h₃ H₃
  repeat walk_at "m go"
  walk_at "m store"; intro h₄ H₄
  repeat walk_at "m go"
  walk_at "m store"; intro h₅ H₅
  walk_at "m go"
  refine r_whileA (fun (x : Int × Nat × List Int) s' => ∃ h' tk' m' t1 t2 k, s' = { s with heap := h', toks := tk' } ∧ Stx H m' [(D, isI x.2.2), (l, isI ns)] h' ∧ (25 - x.1).toNat ≤ k ∧ bh ns (en == 0) k x.1 x.2.1 x.2.2 = byHand ns en ∧ x.2.2.length ≤ x.2.1 ∧ (x.2.1 : Int) ≤ x.1 ∧
      m' "sizes" = some (.ref l) ∧ m' "ending" = some (.int en te) ∧ m' "marks" = some (.ref D) ∧ m' "place" = some (.int x.1 t1) ∧ m' "turn" = some (.int x.2.1 t2)) (fun x => (25 - x.1).toNat)
      (fun s' => ∃ h' tk' m', s' = { s with heap := h', toks := tk' } ∧ Stx H m' [(D, isI (byHand ns en))] h' ∧ m' "marks" = some (.ref D))
      (0, 0, []) ⟨h₅, _, _, _, _, 30, rfl, H₅, by decide, rfl, Nat.le_refl _, Int.le_refl _, rfl, rfl, rfl, rfl, rfl⟩ ?_ ?_
  · rintro P R' hP hR ⟨pl, tu, mk⟩ _ ⟨h6, tk6, m6, t1, t2, k, rfl, H6, e1, e2, e3, e4, v1, v2, v3, v4, v5⟩
    dsimp only at H6 e1 e2 e3 e4 v4 v5
    have stop : ¬ (pl ≤ 24 ∧ (tu < ns.length ∨ (en == 0) = true)) → Stx H m6 [(D, isI (byHand ns en))] h6 := fun hc => by
      rw [← e2, bh_stop hc]
      exact H6.sub fun p hp => by rw [List.mem_singleton.mp hp]; exact .head _
    refine r_test (pl ≤ 24 ∧ (tu < ns.length ∨ (en == 0) = true)) (fun s' => ∃ tk', s' = { s with heap := h6, toks := tk' }) ?_ ?_ ?_
    · repeat walk_at "m go"
      refine split_dec ?_ ?_ <;> intro hp
      · repeat walk_at "m go"
        refine split_dec ?_ ?_ <;> intro hq
        · repeat walk_at "m go"
          exact ⟨(decide_eq_true ⟨hp, .inl (by omega)⟩).symm, _, rfl⟩
        · repeat walk_at "m go"
          refine split_bool ?_ ?_ <;> intro hr
          · repeat walk_at "m go"
            exact ⟨(decide_eq_true ⟨hp, .inr hr⟩).symm, _, rfl⟩
          · repeat walk_at "m go"
            exact ⟨(decide_eq_false fun z => z.2.elim (fun y => hq (by omega)) fun y => by rw [hr] at y; cases y).symm, _, rfl⟩
      · exact ⟨(decide_eq_false fun z => hp z.1).symm, _, rfl⟩
    · rintro _ ⟨tk7, rfl⟩ hc
      have hk : 1 ≤ k := by omega
      obtain ⟨k, rfl⟩ : ∃ k', k = k' + 1 := ⟨k - 1, by omega⟩
      rw [bh, if_pos hc] at e2
      have hin : min tu (ns.length - 1) < ns.length := by omega
      have hge : 1 ≤ ns.getD (min tu (ns.length - 1)) 0 := hsz _ (getD_mem hin)
      have hmin : (if ((ns.length : Int) - 1) < (tu : Int) then ((ns.length : Int) - 1) else (tu : Int)) = ((min tu (ns.length - 1) : Nat) : Int) := by split <;> omega
      generalize min tu (ns.length - 1) = q at *
      repeat walk_at "m go"
      refine r_min C'.hnd H6 fun h8 tk8 t8 H8 => ?_
      rw [hmin]
      walk_at "m item"; intro t9
      rw [Int.toNat_natCast]
      generalize ns.getD q 0 = d at *
      repeat walk_at "m go"
      walk_at "m store"; intro h10 H10
      walk_at "m go"
      refine r_cutA (fun s' => ∃ h' tk' m', s' = { s with heap := h', toks := tk' } ∧ Stx H m' [(D, isI (if pl + d ≤ 24 then mk ++ [pl + d] else mk)), (l, isI ns)] h' ∧
        m' "sizes" = some (.ref l) ∧ m' "ending" = some (.int en te) ∧ m' "marks" = some (.ref D) ∧ (∃ t1, m' "place" = some (.int (pl + d) t1)) ∧ m' "turn" = some (.int tu t2)) ?_ ?_
      · intro Rc hC
        repeat walk_at "m go"
        refine split_dec ?_ ?_ <;> intro hp
        · repeat walk_at "m go"
          walk_at "m append"
          repeat walk_at "m go"
          refine r_append H10 hM (by simp [hDl]) (by rw [sizeLine]; omega) fun h11 H11 => ?_
          repeat walk_at "m go"
          refine ⟨rfl, hC _ ?_⟩
          rw [if_pos hp]
          exact ⟨h11, _, _, rfl, H11, v1, v2, v3, ⟨_, rfl⟩, v5⟩
        · repeat walk_at "m go"
          refine ⟨rfl, hC _ ?_⟩
          rw [if_neg hp]
          exact ⟨h10, _, _, rfl, H10, v1, v2, v3, ⟨_, rfl⟩, v5⟩
      · rintro _ ⟨h11, tk11, m11, rfl, H11, u1, u2, u3, ⟨t11, u4⟩, u5⟩
        repeat walk_at "m go"
        walk_at "m store"; intro h12 H12
        repeat walk_at "m go"
        refine ⟨(pl + d, tu + 1, if pl + d ≤ 24 then mk ++ [pl + d] else mk), by dsimp only; omega, hP _ _ ⟨h12, _, _, t11, _, k, rfl, H12, by dsimp only; omega, e2, ?_, by dsimp only; omega, u1, u2, u3, u4, rfl⟩⟩
        dsimp only
        split
        · simp; omega
        · omega
    · rintro _ ⟨tk7, rfl⟩ hc
      exact hR _ ⟨h6, _, m6, rfl, stop hc, v3⟩
  · rintro _ ⟨h6, tk6, m6, rfl, H6, v3⟩
    repeat walk_at "m go"
    exact hQ h6 tk6 D H6.kp (H6.li (.head _)) hM.1 (hM.2.elim (fun q => nomatch q) id)
end
section
def uldF (es as : List Int) (miss : List Int) : List Int × List Int := es.reverse.foldl (fun p x => if x ∈ p.2 then (p.1, p.2.erase x) else (p.1 ++ [x], p.2)) (miss, as)
theorem uldF_step {es as miss : List Int} (h : 0 < es.length) : uldF es as miss = (if es.getLastD 0 ∈ as then uldF es.dropLast (as.erase (es.getLastD 0)) miss else uldF es.dropLast as (miss ++ [es.getLastD 0])) := by
  have hne : es ≠ [] := List.length_pos_iff.mp h
  have e : es = es.dropLast ++ [es.getLastD 0] := by
    conv => lhs; rw [← List.dropLast_concat_getLast hne]
    rw [show es.getLastD 0 = es.getLast hne by cases es with | nil => exact absurd rfl hne | cons a r => rw [List.getLast_eq_getLastD, List.getLastD_cons]]
  have e2 : es.reverse = es.getLastD 0 :: es.dropLast.reverse := by
    conv => lhs; rw [e]
    simp
  unfold uldF
  rw [e2, List.foldl_cons]
  split <;> rfl

variable {w : World} {mean : ExcName → Option Value} {mg mb : Str → Option Value} {base : Heap} {A : Around} {envs : List Env} {n : Nat} {s : Shared} {E Q : Value → Shared → Prop}
theorem uld_spec {l k : Addr} {ns ms : List Int} (C : Cx w mean mg mb base A envs (n + 1)) (G : Gd base s.heap envs) (hl : LI s.heap l ns) (hk : LI s.heap k ms) (hlk : l ≠ k) (hbl : base.get? l = none) (hbk : base.get? k = none) (hlen : ns.length < 1000) (hlem : ms.length < 1000)
   (hQ : ∀ (h' : Heap) (tk' : Nat) (T r : Addr), Kp (frs envs) [l, k] s.heap h' → h'.get? T = some { cls := .type "tuple", data := .seq [.ref r, .ref k].toArray } → LI h' r (uldF ns ms []).1 → LI h' k (uldF ns ms []).2 → base.get? r = none → s.heap.get? r = none → s.heap.get? T = none → Q (.ref T) { s with heap := h', toks := tk' }) :
   wpAny (Md w) A (call (.ref 28) [.ref l, .ref k]) Q E s := by
  refine' enter [l, k] _ C G (two_led G hl hk) ?ho ?hcd ?hb ?hl ?h ?c ?d ?e ?f
  walk_at "m enter"
  intro L h₁ H C'
  generalize (fun e s' => wpAny (Md w) _ (leaving _ e) (fun _ s'' => E e s'') (fun e' s'' => E e' s'') s') = E'
  have hMl : Mu base s.heap [l, k] l := ⟨hbl, .inl (.head _)⟩
  have hMk : Mu base s.heap [l, k] k := ⟨hbk, .inl (.tail _ (.head _))⟩
  repeat walk_at "m go"
  refine r_newInts H .nil (by decide) fun D h₂ H₂ hD hM hDn => ?_
  have hlD : l ≠ D := hD _ (.head _)
  have hkD : k ≠ D := hD _ (.tail _ (.head _))
  walk_at "m store"; intro h₃ H₃
  walk_at "m go"
  refine r_whileR (fun (x : List Int × List Int × List Int) s' => ∃ h' tk' m', s' = { s with heap := h', toks := tk' } ∧ Stx H m' [(l, isI x.1), (k, isI x.2.1), (D, isI x.2.2)] h' ∧ uldF x.1 x.2.1 x.2.2 = uldF ns ms [] ∧ x.1.length < 1000 ∧ x.2.1.length < 1000 ∧ x.2.2.length + x.1.length < 1000 ∧
      m' "expected" = some (.ref l) ∧ m' "actual" = some (.ref k) ∧ m' "missing" = some (.ref D)) (fun x => x.1.length)
      (fun s' => ∃ h' tk' m', s' = { s with heap := h', toks := tk' } ∧ Stx H m' [(l, isI []), (k, isI (uldF ns ms []).2), (D, isI (uldF ns ms []).1)] h' ∧ m' "actual" = some (.ref k) ∧ m' "missing" = some (.ref D))
      (ns, ms, []) ⟨h₃, _, _, rfl, H₃.sub (fun p hp => by simp only [List.mem_cons, List.not_mem_nil, or_false] at hp ⊢; rcases hp with rfl | rfl | rfl <;> simp), rfl, hlen, hlem, by simpa using hlen, rfl, rfl, rfl⟩ ?_ ?_
  · rintro ⟨es, as, mi⟩ _ ⟨h4, tk4, m4, rfl, H4, e1, e2, e3, e4, v1, v2, v3⟩
    dsimp only at H4 e1 e2 e3 e4
    walk_at "m isName"
    repeat walk_at "m go"
    refine r_truthy (H4.li (.head _)) (by walk_at "m om") ?_
    refine split_bool ?_ ?_ <;> intro hx
    · have hpos : 0 < es.length := by
        cases es with
        | nil => cases hx
        | cons a r => simp
      rw [uldF_step hpos] at e1
      repeat walk_at "m go"
      walk_at "m pop"
      repeat walk_at "m go"
      refine r_pop H4 hMl (by simp [hlk.symm, hlD.symm]) hpos (by rw [sizeLine]; omega) fun h5 t H5 => ?_
      walk_at "m store"; intro h6 H6
      generalize es.getLastD 0 = z at *
      repeat walk_at "m go"
      walk_at "m remove"
      repeat walk_at "m go"
      by_cases hz : z ∈ as
      · rw [if_pos hz] at e1
        have H7 := H6.sub (ls' := [(k, isI as), (l, isI es.dropLast), (D, isI mi)]) (fun p hp => by simp only [List.mem_cons, List.not_mem_nil, or_false] at hp ⊢; rcases hp with rfl | rfl | rfl <;> simp)
        refine r_removeIn H7 hMk (by simp [hlk, hkD.symm]) hz (by rw [sizeLine]; omega) fun h8 H8 => ?_
        repeat walk_at "m go"
        refine ⟨(es.dropLast, as.erase z, mi), by simp; omega, h8, _, _, rfl, H8.sub (fun p hp => by simp only [List.mem_cons, List.not_mem_nil, or_false] at hp ⊢; rcases hp with rfl | rfl | rfl <;> simp), e1, by simp; omega, ?_, by simp; omega, v1, v2, v3⟩
        have := List.length_erase_le (a := z) (l := as)
        dsimp only
        omega
      · rw [if_neg hz] at e1
        refine r_removeOut C'.hnd H6 (H6.li (by walk_at "m mem")) hz fun h7 tk7 e H7 y => ?_
        refine r_caught C.X C.T C'.stack H7 (by walk_at "m norec") (.inl y) ?q1 PyProof.Rows.Boot.«ValueError» (by decide) rfl rfl (by decide) PySem.F.isExc_ValueError PySem.F.notTuple_ValueError (by rw [isSubtype_type]; kernel_rfl) fun h8 H8 => ?_
        (case q1 => k_dflt k_is)
        repeat walk_at "m go"
        walk_at "m append"
        repeat walk_at "m go"
        have H9 := H8.sub (ls' := [(D, isI mi), (l, isI es.dropLast), (k, isI as)]) (fun p hp => by simp only [List.mem_cons, List.not_mem_nil, or_false] at hp ⊢; rcases hp with rfl | rfl | rfl <;> simp)
        refine r_append H9 hM (by simp [hlD, hkD]) (by rw [sizeLine]; omega) fun h10 H10 => ?_
        repeat walk_at "m go"
        refine ⟨(es.dropLast, as, mi ++ [z]), by simp; omega, h10, _, _, rfl, H10.sub (fun p hp => by simp only [List.mem_cons, List.not_mem_nil, or_false] at hp ⊢; rcases hp with rfl | rfl | rfl <;> simp), e1, by simp; omega, e3, by simp; omega, v1, v2, v3⟩
    · have hnil : es = [] := by simpa using hx
      subst hnil
      have e5 : uldF ns ms [] = (mi, as) := e1.symm
      refine ⟨h4, _, m4, rfl, ?_, v2, v3⟩
      rw [e5]
      exact H4
  · rintro _ ⟨h4, tk4, m4, rfl, H4, v2, v3⟩
    repeat walk_at "m go"
    refine r_newTup H4 (by rw [sizeLine]; simp) fun T h5 H5 hT hMT hTn => ?_
    repeat walk_at "m go"
    obtain ⟨⟨o, ho, rfl⟩, _⟩ := H5.own _ (.head _)
    exact hQ h5 tk4 T D H5.kp ho (H5.li (by walk_at "m mem")) (H5.li (by walk_at "m mem")) hM.1
      (hM.2.elim (fun q => by simp only [List.mem_cons, List.not_mem_nil, or_false] at q; rcases q with q | q; exact absurd q.symm hlD; exact absurd q.symm hkD) id)
      (hMT.2.elim (fun q => by simp only [List.mem_cons, List.not_mem_nil, or_false] at q; rcases q with q | q; exact absurd q.symm (hT _ (.head _)); exact absurd q.symm (hT _ (.tail _ (.head _)))) id)
end
section
def sldP : List Int → List Int → List Int × List Int
  | [], ms => ([], ms)
  | e :: ns, [] => (e :: ns, [])
  | e :: ns, a :: ms => if e < a then (e :: (sldP ns (a :: ms)).1, (sldP ns (a :: ms)).2) else if a < e then ((sldP (e :: ns) ms).1, a :: (sldP (e :: ns) ms).2) else sldP ns ms
termination_by a b => a.length + b.length
theorem sldP_nil (ns : List Int) : sldP ns [] = (ns, []) := by cases ns <;> simp [sldP]
theorem drop_getD {ns : List Int} {i : Nat} (h : i < ns.length) : ns.drop i = ns.getD i 0 :: ns.drop (i + 1) := by
  rw [List.drop_eq_getElem_cons h]; simp [List.getD, h]
theorem incr_ne {ns : List Int} (hs : ns.Pairwise (· < ·)) {i : Nat} (h : i + 1 < ns.length) : ¬ ns.getD (i + 1) 0 = ns.getD i 0 := by
  have := List.pairwise_iff_getElem.mp hs i (i + 1) (by omega) h (by omega)
  have e1 : ns.getD (i + 1) 0 = ns[i + 1] := by simp [List.getD, h]
  have e2 : ns.getD i 0 = ns[i] := by simp [List.getD, show i < ns.length by omega]
  rw [e1, e2]; omega

theorem step_lt {ns ms : List Int} {i j : Nat} (hi : i < ns.length) (hj : j < ms.length) (h : ns.getD i 0 < ms.getD j 0) : sldP (ns.drop i) (ms.drop j) = (ns.getD i 0 :: (sldP (ns.drop (i + 1)) (ms.drop j)).1, (sldP (ns.drop (i + 1)) (ms.drop j)).2) := by
  rw [drop_getD hi, drop_getD hj, sldP, if_pos h]
theorem step_gt {ns ms : List Int} {i j : Nat} (hi : i < ns.length) (hj : j < ms.length) (h : ms.getD j 0 < ns.getD i 0) : sldP (ns.drop i) (ms.drop j) = ((sldP (ns.drop i) (ms.drop (j + 1))).1, ms.getD j 0 :: (sldP (ns.drop i) (ms.drop (j + 1))).2) := by
  rw [drop_getD hi, drop_getD hj, sldP, if_neg (by omega), if_pos h]
theorem step_eq {ns ms : List Int} {i j : Nat} (hi : i < ns.length) (hj : j < ms.length) (h : ns.getD i 0 = ms.getD j 0) : sldP (ns.drop i) (ms.drop j) = sldP (ns.drop (i + 1)) (ms.drop (j + 1)) := by
  rw [drop_getD hi, drop_getD hj, sldP, if_neg (by omega), if_neg (by omega)]
def SldV (l k D1 D2 : Addr) (ns ms : List Int) (i j : Nat) (mi un : List Int) (m' : Str → Option Value) : Prop :=
  i ≤ ns.length ∧ j ≤ ms.length ∧ mi ++ (sldP (ns.drop i) (ms.drop j)).1 = (sldP ns ms).1 ∧ un ++ (sldP (ns.drop i) (ms.drop j)).2 = (sldP ns ms).2 ∧ mi.length ≤ i ∧ un.length ≤ j ∧
  m' "expected" = some (.ref l) ∧ m' "actual" = some (.ref k) ∧ (∃ t, m' "i" = some (.int i t)) ∧ (∃ t, m' "j" = some (.int j t)) ∧ m' "missing" = some (.ref D1) ∧ m' "unexpected" = some (.ref D2)

def SldQ {base hI h : Heap} {mu : List Addr} {outer : List Env} {env : Env} {L : Addr} {m : Str → Option Value} {ls : Led} (H : St base hI mu outer env L m ls h) (s : Shared) (l k D1 D2 : Addr) (ns ms : List Int) (i j : Nat) (f : Flow) (s' : Shared) : Prop :=
  f = .next ∧ ∃ i' j' mi' un', i' + j' > i + j ∧ ∃ h' tk' m', s' = { s with heap := h', toks := tk' } ∧ Stx H m' [(D1, isI mi'), (D2, isI un'), (l, isI ns), (k, isI ms)] h' ∧ SldV l k D1 D2 ns ms i' j' mi' un' m'
def SldE {base hI h : Heap} {mu : List Addr} {outer : List Env} {env : Env} {L : Addr} {m : Str → Option Value} {ls : Led} (H : St base hI mu outer env L m ls h) (s : Shared) (l k D1 D2 : Addr) (ns ms : List Int) (v : Value) (s' : Shared) : Prop :=
  ∃ e c h' tk' m' i' j' mi' un', v = .ref e ∧ s' = { s with heap := h', toks := tk' } ∧ Stx H m' [(D1, isI mi'), (D2, isI un'), (l, isI ns), (k, isI ms)] h' ∧ (Fx base s.heap e "IndexError" c h' ∨ Ex base s.heap e "IndexError" c (rawInt L) h') ∧ SldV l k D1 D2 ns ms i' j' mi' un' m' ∧ (i' = ns.length ∨ j' = ms.length)
variable {w : World} {mean : ExcName → Option Value} {mg mb : Str → Option Value} {base : Heap} {A : Around} {envs : List Env} {n : Nat} {s : Shared} {E Q : Value → Shared → Prop}
theorem sld_spec {l k : Addr} {ns ms : List Int} (C : Cx w mean mg mb base A envs (n + 1)) (G : Gd base s.heap envs) (hl : LI s.heap l ns) (hk : LI s.heap k ms) (hlen : ns.length < 1000) (hlem : ms.length < 1000) (hsn : ns.Pairwise (· < ·)) (hsm : ms.Pairwise (· < ·))
   (hQ : ∀ (h' : Heap) (tk' : Nat) (T r q : Addr), Kp (frs envs) [] s.heap h' → h'.get? T = some { cls := .type "tuple", data := .seq [.ref r, .ref q].toArray } → LI h' r (sldP ns ms).1 → LI h' q (sldP ns ms).2 → r ≠ q → base.get? r = none → base.get? q = none → s.heap.get? r = none → s.heap.get? q = none → s.heap.get? T = none → Q (.ref T) { s with heap := h', toks := tk' }) :
   wpAny (Md w) A (call (.ref 21) [.ref l, .ref k]) Q E s := by
  refine' enter [] _ C G (two_led G hl hk) ?ho ?hcd ?hb ?hl ?h ?c ?d ?e ?f
  walk_at "m enter"
  intro L h₁ H C'
  generalize (fun e s' => wpAny (Md w) _ (leaving _ e) (fun _ s'' => E e s'') (fun e' s'' => E e' s'') s') = E'
  repeat walk_at "m go"
  walk_at "m store"; intro h2 H2
  repeat walk_at "m go"
  walk_at "m store"; intro h3 H3
  repeat walk_at "m go"
  refine r_newInts H3 .nil (by decide) fun D1 h4 H4 hD1 hM1 _ => ?_
  walk_at "m store"; intro h5 H5
  repeat walk_at "m go"
  refine r_newInts H5 .nil (by decide) fun D2 h6 H6 hD2 hM2 _ => ?_
  walk_at "m store"; intro h7 H7
  have n1 : l ≠ D1 := hD1 _ (.head _)
  have n2 : k ≠ D1 := hD1 _ (.tail _ (.head _))
  have n3 : D1 ≠ D2 := hD2 _ (.head _)
  have n4 : l ≠ D2 := hD2 _ (.tail _ (.head _))
  have n5 : k ≠ D2 := hD2 _ (.tail _ (.tail _ (.head _)))
  walk_at "m go"
  refine r_whileR (fun (x : Nat × Nat × List Int × List Int) s' => ∃ h' tk' m', s' = { s with heap := h', toks := tk' } ∧ Stx H m' [(D1, isI x.2.2.1), (D2, isI x.2.2.2), (l, isI ns), (k, isI ms)] h' ∧ SldV l k D1 D2 ns ms x.1 x.2.1 x.2.2.1 x.2.2.2 m') (fun x => ns.length + ms.length - x.1 - x.2.1)
      (fun s' => ∃ h' tk' m', s' = { s with heap := h', toks := tk' } ∧ Stx H m' [(D1, isI (sldP ns ms).1), (D2, isI (sldP ns ms).2)] h' ∧ m' "missing" = some (.ref D1) ∧ m' "unexpected" = some (.ref D2))
      (0, 0, [], []) ⟨h7, _, _, rfl, H7.sub (fun p hp => by simp only [List.mem_cons, List.not_mem_nil, or_false] at hp ⊢; rcases hp with rfl | rfl | rfl | rfl <;> simp), Nat.zero_le _, Nat.zero_le _, by simp, by simp, Nat.le_refl _, Nat.le_refl _, rfl, rfl, ⟨_, rfl⟩, ⟨_, rfl⟩, rfl, rfl⟩ ?_ ?_
  · rintro ⟨i, j, mi, un⟩ _ ⟨h8, tk8, m8, rfl, H8, hv⟩
    dsimp only at H8 hv
    walk_at "m isName"
    iterate 4 walk_at "m go"
    refine wpAny_Try_except ?_
    refine wpAny_mono (Q := SldQ H s l k D1 D2 ns ms i j) (E := SldE H s l k D1 D2 ns ms) ?_ ?_ ?_
    · obtain ⟨a1, a2, a3, a4, a5, a6, v1, v2, ⟨ti, v3⟩, ⟨tj, v4⟩, v5, v6⟩ := id hv
      repeat walk_at "m go"
      by_cases hi : i < ns.length
      rotate_left
      · refine r_out C'.hnd H8 (H8.li (by walk_at "m mem")) (by omega) (by omega) (by omega) (by with_unfolding_all rfl) fun h9 tk9 e H9 y => ?_
        unfold SldE
        exact ⟨e, .none, h9, tk9, m8, i, j, mi, un, rfl, rfl, H9, .inl y, hv, .inl (by omega)⟩
      walk_at "m item"; intro t1
      rw [Int.toNat_natCast]
      walk_at "m store"; intro h9 H9
      repeat walk_at "m go"
      by_cases hj : j < ms.length
      rotate_left
      · refine r_out C'.hnd H9 (H9.li (by walk_at "m mem")) (by omega) (by omega) (by omega) (by with_unfolding_all rfl) fun h10 tk10 e H10 y => ?_
        unfold SldE
        exact ⟨e, .none, h10, tk10, _, i, j, mi, un, rfl, rfl, H10, .inl y, ⟨a1, a2, a3, a4, a5, a6, v1, v2, ⟨ti, v3⟩, ⟨tj, v4⟩, v5, v6⟩, .inr (by omega)⟩
      walk_at "m item"; intro t2
      rw [Int.toNat_natCast]
      walk_at "m store"; intro h10 H10
      have ci : (i : Int) + 1 = ((i + 1 : Nat) : Int) := by omega
      have cj : (j : Int) + 1 = ((j + 1 : Nat) : Int) := by omega
      repeat walk_at "m go"
      refine split_dec ?_ ?_ <;> intro hlt
      · repeat walk_at "m go"
        walk_at "m append"
        repeat walk_at "m go"
        refine r_append H10 hM1 (by simp [n3.symm, n1, n2]) (by rw [sizeLine]; omega) fun h11 H11 => ?_
        repeat walk_at "m go"
        walk_at "m store"; intro h12 H12
        rw [ci] at H12
        have b3 := step_lt hi hj hlt
        rw [b3] at a3 a4
        have hv2 : SldV l k D1 D2 ns ms (i + 1) j (mi ++ [ns.getD i 0]) un (mOf H12) := ⟨hi, a2, by rw [← a3]; simp, a4, by simp; omega, a6, v1, v2, ⟨_, rfl⟩, ⟨tj, v4⟩, v5, v6⟩
        walk_at "m go"
        refine r_whileR (fun (_ : Unit) s' => ∃ tk', s' = { s with heap := h12, toks := tk' }) (fun _ => 0) (fun s' => ∃ tk', s' = { s with heap := h12, toks := tk' }) () ⟨_, rfl⟩ ?_ ?_
        · rintro _ _ ⟨tk13, rfl⟩
          repeat walk_at "m go"
          by_cases hi1 : i + 1 < ns.length
          · walk_at "m item"; intro t3
            rw [Int.toNat_natCast]
            repeat walk_at "m go"
            rw [if_neg (by simpa using incr_ne hsn hi1)]
            exact ⟨_, rfl⟩
          · refine r_out C'.hnd H12 (H12.li (by walk_at "m mem")) (by omega) (by omega) (by omega) (by with_unfolding_all rfl) fun h13 tk13 e H13 y => ?_
            refine r_noted (s := { s with heap := h13, toks := tk13 }) C'.stack H13 (by walk_at "m norec") (.inl y) fun h14 H14 y14 => ?_
            unfold SldE
            exact ⟨e, .none, h14, tk13, _, i + 1, j, _, un, rfl, rfl, H14, .inr y14, hv2, .inl (by omega)⟩
        · rintro _ ⟨tk13, rfl⟩
          repeat walk_at "m go"
          unfold SldQ
          exact ⟨rfl, i + 1, j, _, un, by omega, h12, tk13, _, rfl, H12, hv2⟩
      · repeat walk_at "m go"
        refine split_dec ?_ ?_ <;> intro hgt
        · repeat walk_at "m go"
          walk_at "m append"
          repeat walk_at "m go"
          have H10' := H10.sub (ls' := [(D2, isI un), (D1, isI mi), (l, isI ns), (k, isI ms)]) (fun p hp => by simp only [List.mem_cons, List.not_mem_nil, or_false] at hp ⊢; rcases hp with rfl | rfl | rfl | rfl <;> simp)
          refine r_append H10' hM2 (by simp [n3, n4, n5]) (by rw [sizeLine]; omega) fun h11 H11 => ?_
          repeat walk_at "m go"
          walk_at "m store"; intro h12 H12'
          rw [cj] at H12'
          have H12 := H12'.sub (ls' := [(D1, isI mi), (D2, isI (un ++ [ms.getD j 0])), (l, isI ns), (k, isI ms)]) (fun p hp => by simp only [List.mem_cons, List.not_mem_nil, or_false] at hp ⊢; rcases hp with rfl | rfl | rfl | rfl <;> simp)
          have b3 := step_gt hi hj hgt
          rw [b3] at a3 a4
          have hv2 : SldV l k D1 D2 ns ms i (j + 1) mi (un ++ [ms.getD j 0]) (mOf H12) := ⟨a1, hj, a3, by rw [← a4]; simp, a5, by simp; omega, v1, v2, ⟨ti, v3⟩, ⟨_, rfl⟩, v5, v6⟩
          walk_at "m go"
          refine r_whileR (fun (_ : Unit) s' => ∃ tk', s' = { s with heap := h12, toks := tk' }) (fun _ => 0) (fun s' => ∃ tk', s' = { s with heap := h12, toks := tk' }) () ⟨_, rfl⟩ ?_ ?_
          · rintro _ _ ⟨tk13, rfl⟩
            repeat walk_at "m go"
            by_cases hj1 : j + 1 < ms.length
            · walk_at "m item"; intro t3
              rw [Int.toNat_natCast]
              repeat walk_at "m go"
              rw [if_neg (by simpa using incr_ne hsm hj1)]
              exact ⟨_, rfl⟩
            · refine r_out C'.hnd H12 (H12.li (by walk_at "m mem")) (by omega) (by omega) (by omega) (by with_unfolding_all rfl) fun h13 tk13 e H13 y => ?_
              refine r_noted (s := { s with heap := h13, toks := tk13 }) C'.stack H13 (by walk_at "m norec") (.inl y) fun h14 H14 y14 => ?_
              unfold SldE
              exact ⟨e, .none, h14, tk13, _, i, j + 1, mi, _, rfl, rfl, H14, .inr y14, hv2, .inr (by omega)⟩
          · rintro _ ⟨tk13, rfl⟩
            repeat walk_at "m go"
            unfold SldQ
            exact ⟨rfl, i, j + 1, mi, _, by omega, h12, tk13, _, rfl, H12, hv2⟩
        · have heq : ns.getD i 0 = ms.getD j 0 := by omega
          have b3 := step_eq hi hj heq
          rw [b3] at a3 a4
          repeat walk_at "m go"
          walk_at "m store"; intro h12 H12
          rw [ci] at H12
          walk_at "m go"
          refine wpAny_Try_finally ?_
          refine wpAny_mono (Q := fun f s' => f = .next ∧ ∃ tk', s' = { s with heap := h12, toks := tk' })
            (E := fun v s' => ∃ e h' tk', v = .ref e ∧ s' = { s with heap := h', toks := tk' } ∧ Stx H (mOf H12) [(D1, isI mi), (D2, isI un), (l, isI ns), (k, isI ms)] h' ∧ Ex base s.heap e "IndexError" .none (rawInt L) h' ∧ i + 1 = ns.length) ?_ ?_ ?_
          · walk_at "m go"
            refine r_whileR (fun (_ : Unit) s' => ∃ tk', s' = { s with heap := h12, toks := tk' }) (fun _ => 0) (fun s' => ∃ tk', s' = { s with heap := h12, toks := tk' }) () ⟨_, rfl⟩ ?_ ?_
            · rintro _ _ ⟨tk13, rfl⟩
              repeat walk_at "m go"
              by_cases hi1 : i + 1 < ns.length
              · walk_at "m item"; intro t3
                rw [Int.toNat_natCast]
                repeat walk_at "m go"
                rw [if_neg (by simpa using incr_ne hsn hi1)]
                exact ⟨_, rfl⟩
              · refine r_out C'.hnd H12 (H12.li (by walk_at "m mem")) (by omega) (by omega) (by omega) (by with_unfolding_all rfl) fun h13 tk13 e H13 y => ?_
                refine r_noted (s := { s with heap := h13, toks := tk13 }) C'.stack H13 (by walk_at "m norec") (.inl y) fun h14 H14 y14 => ?_
                exact ⟨e, h14, tk13, rfl, rfl, H14, y14, by omega⟩
            · rintro _ ⟨tk13, rfl⟩
              repeat walk_at "m go"
              exact ⟨rfl, tk13, rfl⟩
          · rintro f s' ⟨rfl, tk13, rfl⟩
            repeat walk_at "m go"
            walk_at "m store"; intro h14 H14
            rw [cj] at H14
            have hv2 : SldV l k D1 D2 ns ms (i + 1) (j + 1) mi un (mOf H14) := ⟨hi, hj, a3, a4, by omega, by omega, v1, v2, ⟨_, rfl⟩, ⟨_, rfl⟩, v5, v6⟩
            walk_at "m go"
            refine r_whileR (fun (_ : Unit) s' => ∃ tk', s' = { s with heap := h14, toks := tk' }) (fun _ => 0) (fun s' => ∃ tk', s' = { s with heap := h14, toks := tk' }) () ⟨_, rfl⟩ ?_ ?_
            · rintro _ _ ⟨tk15, rfl⟩
              repeat walk_at "m go"
              by_cases hj1 : j + 1 < ms.length
              · walk_at "m item"; intro t3
                rw [Int.toNat_natCast]
                repeat walk_at "m go"
                rw [if_neg (by simpa using incr_ne hsm hj1)]
                exact ⟨_, rfl⟩
              · refine r_out C'.hnd H14 (H14.li (by walk_at "m mem")) (by omega) (by omega) (by omega) (by with_unfolding_all rfl) fun h16 tk16 e H16 y => ?_
                refine r_noted (s := { s with heap := h16, toks := tk16 }) C'.stack H16 (by walk_at "m norec") (.inl y) fun h17 H17 y17 => ?_
                refine r_noted (s := { s with heap := h17, toks := tk16 }) C'.stack H17 (by walk_at "m norec") (.inr y17) fun h18 H18 y18 => ?_
                unfold SldE
                exact ⟨e, .none, h18, tk16, _, i + 1, j + 1, mi, un, rfl, rfl, H18, .inr y18, hv2, .inr (by omega)⟩
            · rintro _ ⟨tk15, rfl⟩
              repeat walk_at "m go"
              unfold SldQ
              exact ⟨rfl, i + 1, j + 1, mi, un, by omega, h14, tk15, _, rfl, H14, hv2⟩
          · rintro _ _ ⟨e, h13, tk13, rfl, rfl, H13, y13, hin⟩
            refine r_note2 rfl y13 ⟨ref_ne_byPass _, r_note2 rfl y13 (r_flight (s := { s with heap := h13, toks := tk13 }) H13 (by walk_at "m norec") y13 fun h14 H14 y14 => ?_)⟩
            obtain ⟨P1, T, P2, H15, back⟩ := Ex.led H14 y14
            repeat walk_at "m go"
            walk_at "m store"; intro h16 H16
            rw [cj] at H16
            have hv2 : SldV l k D1 D2 ns ms (i + 1) (j + 1) mi un (mOf H16) := ⟨hi, hj, a3, a4, by omega, by omega, v1, v2, ⟨_, rfl⟩, ⟨_, rfl⟩, v5, v6⟩
            have H17 := H16.sub (ls' := [(D1, isI mi), (D2, isI un), (l, isI ns), (k, isI ms)]) (fun p hp => .tail _ (.tail _ hp))
            have y17 := back _ _ _ H16
            walk_at "m go"
            refine r_whileR (fun (_ : Unit) s' => ∃ tk', s' = { s with heap := h16, toks := tk' }) (fun _ => 0) (fun s' => ∃ tk', s' = { s with heap := h16, toks := tk' }) () ⟨_, rfl⟩ ?_ ?_
            · rintro _ _ ⟨tk18, rfl⟩
              repeat walk_at "m go"
              by_cases hj1 : j + 1 < ms.length
              · walk_at "m item"; intro t3
                rw [Int.toNat_natCast]
                repeat walk_at "m go"
                rw [if_neg (by simpa using incr_ne hsm hj1)]
                exact ⟨_, rfl⟩
              · refine r_out2 rfl y17 H17 (H17.li (by walk_at "m mem")) (by omega) (by omega) (by omega) (by with_unfolding_all rfl) fun h18 tk18 e2 H18 y18 => ?_
                refine r_noted (s := { s with heap := h18, toks := tk18 }) (by exact C'.stack) H18 (by walk_at "m norec") (.inl y18) fun h19 H19 y19 => ?_
                refine r_noted (s := { s with heap := h19, toks := tk18 }) (by exact C'.stack) H19 (by walk_at "m norec") (.inr y19) fun h20 H20 y20 => ?_
                unfold SldE
                exact ⟨e2, .ref e, h20, tk18, _, i + 1, j + 1, mi, un, rfl, rfl, H20, .inr y20, hv2, .inr (by omega)⟩
            · rintro _ ⟨tk18, rfl⟩
              repeat walk_at "m go"
              refine r_passOn (s := { s with heap := h16, toks := tk18 }) H17 (by walk_at "m norec") y17 fun h19 H19 y19 => ?_
              unfold SldE
              exact ⟨e, .none, h19, tk18, _, i + 1, j + 1, mi, un, rfl, rfl, H19, .inr y19, hv2, .inl hin⟩
    · rintro f s' ⟨rfl, i', j', mi', un', hlt, h9, tk9, m9, rfl, H9, hv9⟩
      repeat walk_at "m go"
      refine ⟨(i', j', mi', un'), ?_, h9, tk9, m9, rfl, H9, hv9⟩
      have h1 := hv9.1
      have h2 := hv9.2.1
      dsimp only
      omega
    · rintro _ _ ⟨e, c, h9, tk9, m9, i', j', mi', un', rfl, rfl, H9, y, hv9, hend⟩
      obtain ⟨a1, a2, a3, a4, a5, a6, v1, v2, ⟨ti, v3⟩, ⟨tj, v4⟩, v5, v6⟩ := hv9
      refine r_caught C.X C.T C'.stack H9 (by walk_at "m norec") y ?q1 PyProof.Rows.Boot.«IndexError» (by decide) rfl rfl (by decide) PySem.F.isExc_IndexError PySem.F.notTuple_IndexError (by rw [isSubtype_type]; kernel_rfl) fun h10 H10 => ?_
      (case q1 => k_dflt k_is)
      have e1 : (sldP ns ms).1 = mi' ++ ns.drop i' := by
        rw [← a3]; congr 1
        rcases hend with q | q
        · rw [q, List.drop_length]; simp [sldP]
        · rw [q, List.drop_length, sldP_nil]
      have e2 : (sldP ns ms).2 = un' ++ ms.drop j' := by
        rw [← a4]; congr 1
        rcases hend with q | q
        · rw [q, List.drop_length]; simp [sldP]
        · rw [q, List.drop_length, sldP_nil]
      repeat walk_at "m go"
      walk_at "m extend"
      repeat walk_at "m go"
      refine' r_from (s := { s with heap := h10, toks := _ }) H10 (H10.li (by walk_at "m mem")) (by omega) ?z ?hs ?ht ?_
      (case z => rw [sizeLine]; omega)
      (case hs => with_unfolding_all rfl)
      (case ht => intro _; with_unfolding_all rfl)
      intro Z1 h11 H11 hZ1 hMZ1 _
      rw [Int.toNat_natCast] at H11
      repeat walk_at "m go"
      have hl1 : (ns.drop i').length ≤ ns.length := by simp
      have hl2 : (ms.drop j').length ≤ ms.length := by simp
      have H12 := H11.sub (ls' := [(D1, isI mi'), (Z1, isI (ns.drop i')), (D2, isI un'), (l, isI ns), (k, isI ms)]) (fun p hp => by simp only [List.mem_cons, List.not_mem_nil, or_false] at hp ⊢; rcases hp with rfl | rfl | rfl | rfl | rfl <;> simp)
      have n6 : Z1 ≠ D1 := (hZ1 _ (.head _)).symm
      refine r_extend H12 hM1 (by simp [n6, n3.symm, n1, n2]) (.head _) hMZ1.1 (by omega) fun h13 H13 => ?_
      repeat walk_at "m go"
      walk_at "m extend"
      repeat walk_at "m go"
      refine' r_from (s := { s with heap := h13, toks := _ }) H13 (H13.li (by exact .tail _ (.tail _ (.tail _ (.tail _ (.head _)))))) (by omega) ?z ?hs ?ht ?_
      (case z => rw [sizeLine]; omega)
      (case hs => with_unfolding_all rfl)
      (case ht => intro _; with_unfolding_all rfl)
      intro Z2 h14 H14 hZ2 hMZ2 _
      rw [Int.toNat_natCast] at H14
      repeat walk_at "m go"
      have H15 := H14.sub (ls' := [(D2, isI un'), (Z2, isI (ms.drop j')), (D1, isI (mi' ++ ns.drop i'))]) (fun p hp => by simp only [List.mem_cons, List.not_mem_nil, or_false] at hp ⊢; rcases hp with rfl | rfl | rfl <;> simp)
      have n7 : Z2 ≠ D2 := (hZ2 _ (.tail _ (.tail _ (.head _)))).symm
      refine r_extend H15 hM2 (by simp [n7, n3]) (.head _) hMZ2.1 (by omega) fun h16 H16 => ?_
      repeat walk_at "m go"
      refine ⟨h16, _, _, rfl, ?_, v5, v6⟩
      rw [e1, e2]
      exact H16.sub (fun p hp => by simp only [List.mem_cons, List.not_mem_nil, or_false] at hp ⊢; rcases hp with rfl | rfl <;> simp)
  · rintro _ ⟨h4, tk4, m4, rfl, H4, v2, v3⟩
    repeat walk_at "m go"
    refine r_newTup H4 (by rw [sizeLine]; simp) fun T h5 H5 hT hMT hTn => ?_
    repeat walk_at "m go"
    obtain ⟨⟨o, ho, rfl⟩, _⟩ := H5.own _ (.head _)
    exact hQ h5 tk4 T D1 D2 H5.kp ho (H5.li (by walk_at "m mem")) (H5.li (by walk_at "m mem")) n3 hM1.1 hM2.1 (hM1.2.elim (fun q => nomatch q) id) (hM2.2.elim (fun q => nomatch q) id) (hMT.2.elim (fun q => nomatch q) id)
end
section
variable {w : World} {mean : ExcName → Option Value} {mg mb : Str → Option Value} {base : Heap} {A : Around} {envs : List Env} {n : Nat} {s : Shared} {E Q : Value → Shared → Prop}
theorem sldP_length (ns ms : List Int) : (sldP ns ms).1.length ≤ ns.length ∧ (sldP ns ms).2.length ≤ ms.length := by
  induction hk : ns.length + ms.length using Nat.strongRecOn generalizing ns ms with
  | ind k ih =>
    cases ns with
    | nil => simp [sldP]
    | cons e ns =>
      cases ms with
      | nil => simp [sldP]
      | cons a ms =>
        simp only [List.length_cons] at hk
        rw [sldP]
        split
        · have := ih _ (by simp only [List.length_cons]; omega) ns (a :: ms) rfl
          simp only [List.length_cons] at this ⊢; omega
        · split
          · have := ih _ (by simp only [List.length_cons]; omega) (e :: ns) ms rfl
            simp only [List.length_cons] at this ⊢; omega
          · have := ih _ (by omega) ns ms rfl
            simp only [List.length_cons] at this ⊢; omega
theorem apart_spec {l k : Addr} {ns ms : List Int} (C : Cx w mean mg mb base A envs (n + 5)) (G : Gd base s.heap envs) (hl : LI s.heap l ns) (hk : LI s.heap k ms) (hlen : ns.length < 300) (hlem : ms.length < 300) (hsn : ns.Pairwise (· < ·)) (hsm : ms.Pairwise (· < ·))
   (hQ : ∀ (h' : Heap) (tk' : Nat) (r : Addr), Kp (frs envs) [] s.heap h' → LI h' r (inOrd (sldP ns ms).1 (sldP ns ms).2) → base.get? r = none → s.heap.get? r = none → Q (.ref r) { s with heap := h', toks := tk' }) :
   wpAny (Md w) A (call (.ref 91) [.ref l, .ref k]) Q E s := by
  refine' enter [] _ C G (two_led G hl hk) ?ho ?hcd ?hb ?hl ?h ?c ?d ?e ?f
  walk_at "m enter"
  intro L h₁ H C'
  generalize (fun e s' => wpAny (Md w) _ (leaving _ e) (fun _ s'' => E e s'') (fun e' s'' => E e' s'') s') = E'
  repeat walk_at "m go"
  have hls := sldP_length ns ms
  refine sld_spec C' H.gd (H.li (by walk_at "m mem")) (H.li (by walk_at "m mem")) (by omega) (by omega) hsn hsm fun h2 tk2 T r q hk2 hT hr hq hrq hbr hbq hnr hnq hnT => ?_
  obtain ⟨H2, hne2, hM2⟩ := H.callR hk2 hr hbr hnr
  obtain ⟨oq, hoq, hPq⟩ := hq
  have H3 := H2.more hoq hPq (LI.frs ⟨oq, hoq, hPq⟩ H2.ff)
  refine r_unpack2 (s := { s with heap := h2, toks := tk2 }) C'.hnd H3 hT fun h4 H4 => ?_
  repeat walk_at "m go"
  walk_at "m store"; intro h5 H5
  repeat walk_at "m go"
  walk_at "m store"; intro h6 H6
  repeat walk_at "m go"
  refine inorder_spec C' H6.gd (H6.li (by walk_at "m mem")) (H6.li (by walk_at "m mem")) (by omega) fun h7 tk7 r7 hk7 hl7 hb7 hn7 => ?_
  obtain ⟨H7, hne7, hM7⟩ := H6.callR hk7 hl7 hb7 hn7
  exact hQ h7 tk7 r7 H7.kp hl7 hb7 (hM7.2.elim (fun q => nomatch q) id)
end
section
abbrev KF (c : Code) : Flow → Sem PySem.Fin := fun f => match f with
  | .next | .cont => .pure (.again c)
  | .brk => .pure (.done .next)
  | .ret v => .pure (.done (.ret v))
abbrev HF (env : Env) : Value → Sem PySem.Fin := fun e => (do noteFrame e env; theTreesLotGoes e : Sem Unit).wrap (fun _ => .raise e) .raise id id
/-- what waits behind a loop -/
abbrev FrR (env : Env) (K : Flow → Sem PySem.Fin) (H : Value → Sem PySem.Fin) (gd : Bool → Bool) (lv : List Value → List Value) (c : Code) (p : Pos) : Frame :=
  .ret (fun r => ((match r with | .ok f => (.pure f : Sem Flow) | .error e => .raise e).onRaise fun (x : Value) => do
        if (← field x 1) == Value.none then unsupported "frame.own-activation:exception-without-traceback"
        setFlight x env.frame).wrap K H gd lv) none (gd false) (lv []) c p []
section
variable {w : World} {A : Around} {R : GenEnd} {Y : Protocol} {n : Nat} {s₀ : Shared} {c : Code} {fs : List Frame} {s : Shared} {env : Env} {K : Flow → Sem PySem.Fin} {H : Value → Sem PySem.Fin} {gd : Bool → Bool} {lv : List Value → List Value}

theorem seg_If {test : Expr} {body orelse : List Stmt} {pos : Pos}
    (h : wpAny (Md w) (A.over c fs) (isTrue test env (eval test env)) (fun b s' => if b = true then Seg (Md w) A R Y n s₀ c ((execs body env).wrap K H gd lv) fs s' else Seg (Md w) A R Y n s₀ c ((execs orelse env).wrap K H gd lv) fs s')
      (fun x s' => Seg (Md w) A R Y n s₀ c (H x) fs s') s) : Seg (Md w) A R Y n s₀ c ((exec (.If test body orelse pos) env).wrap K H gd lv) fs s := by
  rw [exec_If]
  show Seg _ A R Y n s₀ c (.at pos fun _ => (isTrue test env (eval test env) >>= fun b => if b = true then execs body env else execs orelse env).wrap K H gd lv) fs s
  refine seg_at ?_
  rw [Sem.bind_eq_wrap', Sem.wrap_wrap]
  refine seg_wrap (wpAny_mono h (fun b s' hb => ?_) fun _ _ e => e)
  cases b
  · exact hb
  · exact hb

theorem seg_For {target iter : Expr} {body orelse : List Stmt} {pos : Pos} (hs : ∀ x, foldedSetIterable iter env x = pure x)
    (h : wpAny (Md w) (A.over c fs) (eval iter env) (fun x s₁ => wpAny (Md w) (A.over c fs) (pyIter x) (fun it s₂ => ∀ p, Seg (Md w) A R Y n s₀ (.forLoop target it body orelse env) ((Md w).den (.forLoop target it body orelse env)) (FrR env K H gd lv c p :: fs) s₂)
      (fun x s' => Seg (Md w) A R Y n s₀ c (H x) fs s') s₁) (fun x s' => Seg (Md w) A R Y n s₀ c (H x) fs s') s) : Seg (Md w) A R Y n s₀ c ((exec (.For target iter body orelse pos) env).wrap K H gd lv) fs s := by
  rw [exec_For]
  show Seg _ A R Y n s₀ c (.at pos fun _ => (eval iter env >>= fun v => foldedSetIterable iter env v >>= fun x => (standAt iter.pos >>= fun _ => holding [x] (pyIter x) >>= fun it => runOwn (.forLoop target it body orelse env) env)).wrap K H gd lv) fs s
  refine seg_at ?_
  rw [Sem.bind_eq_wrap', Sem.wrap_wrap]
  refine seg_wrap (wpAny_mono h (fun x s₁ h₁ => ?_) fun _ _ e => e)
  rw [hs]
  show Seg _ A R Y n s₀ c (.at iter.pos fun _ => (holding [x] (pyIter x) >>= fun it => runOwn (.forLoop target it body orelse env) env).wrap K H _ _) fs s₁
  refine seg_at ?_
  rw [Sem.bind_eq_wrap', Sem.wrap_wrap]
  exact seg_wrap (wpAny_holding (wpAny_mono h₁ (fun it s₂ h₂ => seg_call h₂) fun _ _ e => e))

theorem seg_forLoop {x : Str} {px : Pos} {it : Value} {body orelse : List Stmt}
    (h : wpAny (Md w) (A.over (.forLoop (.Name x px) it body orelse env) fs) (pyNext it) (fun r s₁ => match r with
      | none => Seg (Md w) A R Y n s₀ (.block orelse env) ((Md w).den (.block orelse env)) fs s₁
      | some v => wpAny (Md w) (A.over (.forLoop (.Name x px) it body orelse env) fs) (assign (.Name x px) env v) (fun _ s₂ => Seg (Md w) A R Y n s₀ (.forLoop (.Name x px) it body orelse env) ((execs body env).wrap (KF (.forLoop (.Name x px) it body orelse env)) (HF env) id id) fs s₂)
        (fun e s' => Seg (Md w) A R Y n s₀ (.forLoop (.Name x px) it body orelse env) (HF env e) fs s') s₁) (fun e s' => Seg (Md w) A R Y n s₀ (.forLoop (.Name x px) it body orelse env) (HF env e) fs s') s) :
    Seg (Md w) A R Y n s₀ (.forLoop (.Name x px) it body orelse env) ((Md w).den (.forLoop (.Name x px) it body orelse env)) fs s := by
  show Seg _ A R Y n s₀ _ ((forTurn (.Name x px) it body orelse env).onRaise (fun x => do noteFrame x env; theTreesLotGoes x)) fs s
  unfold forTurn
  rw [Sem.onRaise_eq_wrap, Sem.wrap_congr _ _ _ (fun _ => rfl) (H' := HF env) (fun e => Sem.bind_eq_wrap _ _)]
  show Seg _ A R Y n s₀ _ (.at px fun _ => ((pyNext it).onRaise (fun _ => standAt { px with line := 0 }) >>= fun r => match r with
    | none => again (.block orelse env)
    | some v => letOwnedTupleGo (.Name x px) it v >>= fun _ => assign (.Name x px) env v >>= fun _ => execs body env >>= fun f => match f with
      | .next | .cont => again (.forLoop (.Name x px) it body orelse env)
      | .brk => pure (.done .next)
      | .ret v => pure (.done (.ret v))).wrap .pure (HF env) id id) fs s
  refine seg_at ?_
  rw [Sem.bind_eq_wrap', Sem.wrap_wrap]
  refine seg_wrap (wpAny_onRaise (wpAny_mono h (fun r s₁ h₁ => ?_) fun e s' he => wpAny_standAt he))
  cases r with
  | none => exact seg_again rfl h₁
  | some v =>
    show Seg _ A R Y n s₀ _ ((assign (.Name x px) env v >>= fun _ => execs body env >>= fun f => match f with
      | .next | .cont => again (.forLoop (.Name x px) it body orelse env)
      | .brk => pure (.done .next)
      | .ret v => pure (.done (.ret v))).wrap .pure (HF env) id id) fs s₁
    rw [Sem.bind_eq_wrap', Sem.wrap_wrap]
    refine seg_wrap (wpAny_mono h₁ (fun _ s₂ h₂ => ?_) fun _ _ e => e)
    rw [Sem.bind_eq_wrap', Sem.wrap_wrap]
    have e : ∀ (t t' : Sem PySem.Fin), t = t' → Seg (Md w) A R Y n s₀ (.forLoop (.Name x px) it body orelse env) t' fs s₂ → Seg (Md w) A R Y n s₀ (.forLoop (.Name x px) it body orelse env) t fs s₂ := fun t t' q z => q ▸ z
    exact e _ _ (Sem.wrap_congr _ _ _ (fun f => by cases f <;> rfl) (fun _ => rfl)) h₂
theorem seg_block0 (h : Seg (Md w) A R Y n s₀ (.block [] env) (.pure (.done .next)) fs s) : Seg (Md w) A R Y n s₀ (.block [] env) ((Md w).den (.block [] env)) fs s := h
theorem seg_pop {c' : Code} {p : Pos} {f : Flow} (h : Seg (Md w) A R Y n s₀ c (K f) fs s) : Seg (Md w) A R Y n s₀ c' (.pure (.done f)) (FrR env K H gd lv c p :: fs) s := seg_leaf (.ok f) h
end
end
section
section
variable {w : World} {mean : ExcName → Option Value} {mg mb : Str → Option Value} {base hI : Heap} {A : Around} {envs outer : List Env} {n : Nat} {s : Shared} {E : Value → Shared → Prop}
/-- a generator is made -/
theorem enterG {f : Addr} {vals : List Value} {Q : Value → Shared → Prop} {name qual : Str} {params : Arguments} {body : List Stmt} {scope : Scope} {dV kV doc pm cdv ct oc : Value} {an od : Option Addr} {osl : Array (Option Value)} {binds : List (Str × Value)}
    (C : Cx w mean mg mb base A envs (n + 1)) (G : Gd base s.heap envs)
    (ho : (hd.heap_39 w.params).lookup f = some ⟨oc, od, .func (fnOf name qual params body scope dV kV doc pm an cdv ct), osl⟩) (hcd : codeIn (hd.heap_39 w.params) cdv qual = true)
    (hbind : bindArgs (fnOf name qual params body scope dV kV doc pm an cdv ct) ⟨vals, []⟩ = pure binds) (hloc : ∀ y ∈ binds, scope.names.lookup y.1 = some .local)
    (h : ∀ Lg ga oG nm qn h' tk, (∀ b o, s.heap.get? b = some o → h'.get? b = some o) → s.heap.get? Lg = none → s.heap.get? ga = none → h'.Ns Lg (fun y => binds.reverse.lookup y) →
      h'.get? ga = some oG → oG.cls = .type "generator" → oG.data = .fields #[.int s.gens.size 0, nm, qn] → oG.slots = #[] → Lg ≠ ga → base.objs.size ≤ Lg →
      Q (.ref ga) { s with heap := h', toks := tk, gens := s.gens.push (.fresh (.func body (envX qual scope Lg f cdv []))) })
    (hcell : ∀ x ∈ scope.names, x.2 ≠ .cell) (hco : scope.isCoroutine = false) (hgen : scope.isGenerator = true) (hk : scope.kind = .function) :
    wpAny (Md w) A (call (.ref f) vals) Q E s := by
  have X := C.X.keeps G.stays
  have hlim := C.T.nolimit.keeps G.stays
  refine wpAny_call (codeAny_call_generator (fd := fnOf name qual params body scope dV kV doc pm an cdv ct) (body := body) (by have := C.depth; omega) (X _ _ ho) rfl hco hgen rfl (codeRec_of X hcd) ((BindsTo.of_eq (s := s) hbind) _ _ _ _ ?_))
  refine wpAny_newFunctionEnv hcell hloc (fun h₀ hns₀ hsb₀ => ⟨hlim.fresh _ hsb₀, ?_⟩) hk
  have hk0 : ∀ b o, s.heap.get? b = some o → h₀.get? b = some o := fun b o e => hsb₀.extBut b o (Nat.ne_of_lt (Heap.lt_size e)) (Heap.get?_push_of_some _ e)
  have hz : h₀.objs.size = s.heap.objs.size + 1 := by rw [hsb₀.1, Heap.size_push]
  refine h s.heap.objs.size h₀.objs.size _ _ _ _ _ (fun b o e => Heap.get?_push_of_some _ (hk0 b o e)) (Heap.get?_none_of_le (Nat.le_refl _)) (Heap.get?_none_of_le (by omega)) (hns₀.push _) (Heap.get?_push_size _ rfl) rfl rfl rfl (Nat.ne_of_lt (by rw [hz]; exact Nat.lt_succ_self _)) G.size
end

/-- a heap without some of its things -/
def hide (as : List Addr) (h : Heap) : Heap := ⟨h.objs.mapIdx fun i o => if i ∈ as then { o with data := .freed } else o, h.life⟩
theorem hide_in {as : List Addr} {h : Heap} {a : Addr} (ha : a ∈ as) : (hide as h).get? a = none := by
  unfold hide Heap.get?
  simp only [Array.getElem?_mapIdx]
  cases h.objs[a]? with
  | none => rfl
  | some o => simp [ha]
theorem hide_out {as : List Addr} {h : Heap} {a : Addr} (ha : a ∉ as) : (hide as h).get? a = h.get? a := by
  unfold hide Heap.get?
  simp only [Array.getElem?_mapIdx]
  cases h.objs[a]? with
  | none => rfl
  | some o => simp [ha]
theorem hide_get {as : List Addr} {h : Heap} {a : Addr} {o : Obj} (e : (hide as h).get? a = some o) : a ∉ as ∧ h.get? a = some o := by
  by_cases q : a ∈ as
  · rw [hide_in q] at e; cases e
  · exact ⟨q, (hide_out q).symm.trans e⟩
/-- from the hidden heap back -/
theorem Kp.unhide {fs as mu : List Addr} {h h' : Heap} (x : Kp fs mu (hide as h) h') (hd : ∀ a ∈ as, a ∉ fs ∧ ∃ o, h'.get? a = some o) : Kp fs (as ++ mu) h h' where
  keep b o e hb hf := x.keep b o ((hide_out fun q => hb (List.mem_append_left _ q)).trans e) (fun q => hb (List.mem_append_right _ q)) hf
  slot b o e hf := x.slot b o ((hide_out fun q => (hd b q).1 hf).trans e) hf
  dom b o e := by
    by_cases q : b ∈ as
    · exact (hd b q).2
    · exact x.dom b o ((hide_out q).trans e)

/-- a frame that lies there, taken up again -/
theorem St.resume {base h : Heap} {outer : List Env} {env : Env} {Lg it : Addr} {m : Str → Option Value} {ls : Led} (G : Gd base h outer) (hf : env.frame = some Lg) (hk : env.scope.kind ≠ .module) (hns : h.Ns Lg m) (hab : base.objs.size ≤ Lg)
    (hLo : Lg ∉ frs outer) (hio : it ∉ frs outer) (hls : ∀ p ∈ ls, (∃ o, h.get? p.1 = some o ∧ p.2 o) ∧ p.1 ∉ frs outer ∧ p.1 ≠ Lg) : St base (hide [Lg, it] h) [] outer env Lg m ls h where
  fr := ⟨hns, G.stays, hab⟩
  ff := fun e he => by
    rcases List.mem_cons.mp he with rfl | he
    · obtain ⟨o, es, ep, ho, hd, _⟩ := hns
      exact ⟨hk, _, o, es, ep, hf, Heap.get?_none_of_le hab, ho, hd⟩
    · exact G.ff e he
  kp := .ext fun b o e => (hide_get e).2
  newL := hide_in (.head _)
  hf := hf
  hff := fun e he => by
    obtain ⟨hk', L', o, es, ep, hL', hn', ho, hd⟩ := G.ff e he
    refine ⟨hk', L', o, es, ep, hL', hn', (hide_out fun q => ?_).trans ho, hd⟩
    have hm : L' ∈ frs outer := List.mem_filterMap.mpr ⟨e, he, hL'⟩
    simp only [List.mem_cons, List.not_mem_nil, or_false] at q
    rcases q with rfl | rfl
    · exact hLo hm
    · exact hio hm
  own := fun p hp => let ⟨a, b, c⟩ := hls p hp; ⟨a, fun q => by
    obtain ⟨e, he, hf'⟩ := List.mem_filterMap.mp q
    rcases List.mem_cons.mp he with rfl | he
    · rw [hf] at hf'; exact c (Option.some.inj hf').symm
    · exact b (List.mem_filterMap.mpr ⟨e, he, hf'⟩)⟩
end
section
section
variable {w : World} {mean : ExcName → Option Value} {mg mb : Str → Option Value} {base hI : Heap} {A : Around} {envs outer : List Env} {n : Nat} {s : Shared} {genv : Env} {body : List Stmt}
  {K K' : Flow → Sem PySem.Fin} {H H' : Value → Sem PySem.Fin} {gd gd' : Bool → Bool} {lv lv' : List Value → List Value} {p p' : Pos}
theorem cx_func (C : Cx w mean mg mb base A envs (n + 1)) : Cx w mean mg mb base (A.in1.over (.func body genv) []) (genv :: envs) n :=
  ⟨by show pushEnvs [genv] (pushEnvs [] A.frames) = _; rw [C.stack]; rfl, C.hnd, by have := C.depth; show A.depth + 0 + 1 + n < _; omega, by have := C.units; show A.units + 1 + 0 + 3 + 10 * n + 50 < _; omega, C.X, C.T⟩
theorem cx_for {t : Expr} {i : Value} {b o : List Stmt} (C : Cx w mean mg mb base A envs (n + 1)) : Cx w mean mg mb base (A.in1.over (.forLoop t i b o genv) [FrR genv K H gd lv (.func body genv) p]) (genv :: envs) n :=
  ⟨by show pushEnvs [] (pushEnvs [genv] A.frames) = _; rw [C.stack]; rfl, C.hnd, by have := C.depth; show A.depth + 1 + 0 + n < _; omega, by have := C.units; show A.units + 1 + 3 + 0 + 10 * n + 50 < _; omega, C.X, C.T⟩
theorem cx_while {t t' : Expr} {i : Value} {b o b' o' : List Stmt} (C : Cx w mean mg mb base A envs (n + 1)) : Cx w mean mg mb base (A.in1.over (.whileLoop t' b' o' genv) [FrR genv K' H' gd' lv' (.forLoop t i b o genv) p', FrR genv K H gd lv (.func body genv) p]) (genv :: envs) n :=
  ⟨by show pushEnvs [] (pushEnvs [genv] A.frames) = _; rw [C.stack]; rfl, C.hnd, by have := C.depth; show A.depth + 1 + 0 + n < _; omega, by have := C.units; show A.units + 1 + 3 + 0 + 10 * n + 50 < _; omega, C.X, C.T⟩
end

/-- where the generator stands -/
inductive GS where
  | main (i : Nat) (last : Option Int)
  | ever (y : Int)
def gnext (ns : List Int) : GS → Option (Int × GS)
  | .ever y => some (y, .ever y)
  | .main i last => match ns[i]? with
    | none => none
    | some x => if x = 127 then none else if x = 0 then last.map fun y => (y, .ever y) else some (x, .main (i + 1) (some x))
def orb (ns : List Int) : Nat → Option GS
  | 0 => some (.main 0 none)
  | k + 1 => (orb ns k).bind fun σ => (gnext ns σ).map (·.2)
theorem orb_succ {ns : List Int} {k : Nat} {σ σ' : GS} {x : Int} (h : orb ns k = some σ) (g : gnext ns σ = some (x, σ')) : orb ns (k + 1) = some σ' := by
  show (orb ns k).bind _ = _
  rw [h]
  show (gnext ns σ).map _ = _
  rw [g]; rfl
abbrev lastV (t : Tok) : Option Int → Value
  | none => .none
  | some y => .int y t

section
variable {w : World} {base hI : Heap} {A : Around} {outer : List Env} {s : Shared} {env : Env} {L : Addr} {m : Str → Option Value} {ls : Led} {mu : List Addr}
theorem St.hIeq {hI' h : Heap} (H : St base hI mu outer env L m ls h) (e : ∀ b, hI'.get? b = hI.get? b) : St base hI' mu outer env L m ls h :=
  ⟨H.fr, H.ff, ⟨fun b o q => H.kp.keep b o ((e b).symm.trans q), fun b o q => H.kp.slot b o ((e b).symm.trans q), fun b o q => H.kp.dom b o ((e b).symm.trans q)⟩, (e L).trans H.newL, H.hf, fun v hv => let ⟨a, L', o, es, ep, h1, h2, h3, h4⟩ := H.hff v hv; ⟨a, L', o, es, ep, h1, h2, (e L').trans h3, h4⟩, H.own⟩
theorem r_next {it l : Addr} {i : Nat} {vs : List Value} {Q : Option Value → Shared → Prop} {E : Value → Shared → Prop} (hnd : A.handled = none) (H : St base hI mu outer env L m ((it, isIt l i) :: (l, isV vs) :: ls) s.heap) (itb : base.get? it = none) (itI : hI.get? it = none) (hil : l ≠ it) (hne : ∀ p ∈ ls, p.1 ≠ it)
    (h1 : ∀ v h', vs[i]? = some v → St base hI mu outer env L m ((it, isIt l (i + 1)) :: (l, isV vs) :: ls) h' → Q (some v) { s with heap := h' })
    (h2 : vs[i]? = none → ∀ h', Heap.ExtBut it s.heap h' → Q none { s with heap := h' }) : wpAny (Md w) A (pyNext (.ref it)) Q E s := by
  obtain ⟨⟨oi, hoi, hc, hd⟩, hif⟩ := H.own _ (.head _)
  obtain ⟨⟨ol, hol, n', el⟩, hlf⟩ := H.own _ (.tail _ (.head _))
  have hl' : s.heap.IsList l vs.toArray := ⟨ol, hol, by rw [el], n', by rw [el]⟩
  have hne' : ∀ p ∈ ((l, isV vs) :: ls : Led), p.1 ≠ it := fun p hp => by
    rcases List.mem_cons.mp hp with rfl | hp
    · exact hil
    · exact hne p hp
  cases q : vs[i]? with
  | some v =>
    refine wpAny_pyNext_list_item (i := i) (x := v) ⟨oi, hoi, hc, hd⟩ hl' (by simpa using q) fun h'' hit hs => ?_
    obtain ⟨oi', hoi', hc', hd'⟩ := hit
    exact h1 v h'' q (H.put hs hoi' ⟨hc', hd'⟩ itb (.inr itI) hne')
  | none => exact wpAny_pyNext_list_end hnd ⟨oi, hoi, hc, hd⟩ hl' (by simpa using q) fun h'' hext => h2 q h'' hext
end

/-- how the generator ends -/
def GP (ns : List Int) (N : Nat) (fs : List Addr) (Lg : Addr) (hT : Heap) : Nat → Shared → Shared → Prop := fun n s0 s1 =>
  ∃ h1 h' tk' it σ, s1 = { s0 with heap := h', toks := tk' } ∧ orb ns (N - n) = some σ ∧ gnext ns σ = none ∧ hT.get? it = none ∧ it ∉ fs ∧ (∀ o, s0.heap.get? it = some o → o.cls = .type "list_iterator") ∧ Kp fs [Lg, it] s0.heap h1 ∧ Heap.ExtBut it h1 h'
abbrev GR (ns : List Int) (N : Nat) (fs : List Addr) (Lg : Addr) (hT : Heap) : GenEnd := fun n s0 r s1 => r = .ok (.ret .none) ∧ GP ns N fs Lg hT n s0 s1
/-- how it yields -/
def GY (ns : List Int) (vs : List Value) (N : Nat) (base : Heap) (outer : List Env) (Lg l : Addr) (hT : Heap) : Protocol := fun n s0 v s1 kap =>
  ∃ h' tk' it σ x t σ' oL oi fi, s1 = { s0 with heap := h', toks := tk' } ∧ orb ns (N - 1 - n) = some σ ∧ gnext ns σ = some (x, σ') ∧ v = .int x t ∧ hT.get? it = none ∧ (∀ o, s0.heap.get? it = some o → o.cls = .type "list_iterator") ∧ Kp (frs outer) [Lg, it] s0.heap h' ∧
    h'.get? Lg = some oL ∧ h'.get? it = some oi ∧ oi.data = .fields fi ∧ it ∉ frs outer ∧
    (1 ≤ n → ∀ s'' : Shared, s''.heap.get? Lg = some oL → s''.heap.get? it = some oi → (∃ o, s''.heap.get? l = some o ∧ isV vs o) → Gd base s''.heap outer → kap (.send .none) s'')

section
variable {base hT : Heap} {outer : List Env} {s0 : Shared} {genv : Env} {Lg it l : Addr} {m : Str → Option Value} {ns : List Int} {vs : List Value} {N n i : Nat} {kap : Resume → Shared → Prop} {h : Heap} {tk : Nat}
theorem gy_of {σ σ' : GS} {x : Int} {t : Tok} (H : St base (hide [Lg, it] s0.heap) [] outer genv Lg m [(it, isIt l i), (l, isV vs)] h) (e1 : orb ns (N - 1 - n) = some σ) (e2 : gnext ns σ = some (x, σ')) (hTi : hT.get? it = none) (hc0 : ∀ o, s0.heap.get? it = some o → o.cls = .type "list_iterator")
    (k : 1 ≤ n → ∀ s'' : Shared, St base (hide [Lg, it] s''.heap) [] outer genv Lg m [(it, isIt l i), (l, isV vs)] s''.heap → (∀ o, s''.heap.get? it = some o → o.cls = .type "list_iterator") → kap (.send .none) s'') :
    GY ns vs N base outer Lg l hT n s0 (.int x t) { s0 with heap := h, toks := tk } kap := by
  obtain ⟨⟨oi, hoi, hc, hd⟩, hif⟩ := H.own _ (.head _)
  obtain ⟨⟨ol, hol, hPl⟩, hlf⟩ := H.own _ (.tail _ (.head _))
  obtain ⟨oL, es, ep, hoL, hdL, hr⟩ := id H.fr.ns
  have up : ∀ a, a ∈ frs outer → a ∈ frs (genv :: outer) := fun a q => by
    obtain ⟨e, he, hf⟩ := List.mem_filterMap.mp q
    exact List.mem_filterMap.mpr ⟨e, .tail _ he, hf⟩
  have hLo := H.outerL
  have kk : Kp (frs outer) [Lg, it] s0.heap h := by
    have := H.kp.unhide (fun a ha => by
      simp only [List.mem_cons, List.not_mem_nil, or_false] at ha
      rcases ha with rfl | rfl
      · exact ⟨hLo, _, hoL⟩
      · exact ⟨fun q => hif (up _ q), _, hoi⟩)
    rwa [List.append_nil] at this
  refine ⟨h, tk, it, σ, x, t, σ', oL, oi, _, rfl, e1, e2, rfl, hTi, hc0, kk, hoL, hoi, hd, fun q => hif (up _ q), fun hn s'' g1 g2 g3 G => k hn s'' ?_ fun o ho => by rw [g2] at ho; cases ho; exact hc⟩
  have hkm : genv.scope.kind ≠ .module := (H.ff genv (.head _)).1
  refine St.resume G H.hf hkm ⟨oL, es, ep, g1, hdL, hr⟩ H.fr.above hLo (G.ff.not_fields g2 hd) fun p hp => ?_
  simp only [List.mem_cons, List.not_mem_nil, or_false] at hp
  rcases hp with rfl | rfl
  · exact ⟨⟨oi, g2, hc, hd⟩, G.ff.not_fields g2 hd, H.notL (.head _)⟩
  · obtain ⟨o, ho, no, rfl⟩ := g3
    exact ⟨⟨_, ho, no, rfl⟩, G.ff.not_list ho, H.notL (.tail _ (.head _))⟩
theorem gp_of {σ : GS} {h' : Heap} (H : St base (hide [Lg, it] s0.heap) [] outer genv Lg m [(it, isIt l i), (l, isV vs)] h) (e1 : orb ns (N - n) = some σ) (e2 : gnext ns σ = none) (hTi : hT.get? it = none) (hc0 : ∀ o, s0.heap.get? it = some o → o.cls = .type "list_iterator") (hx : Heap.ExtBut it h h') :
    GP ns N (frs outer) Lg hT n s0 { s0 with heap := h', toks := tk } := by
  obtain ⟨⟨oi, hoi, hc, hd⟩, hif⟩ := H.own _ (.head _)
  obtain ⟨oL, es, ep, hoL, hdL, hr⟩ := id H.fr.ns
  have up : ∀ a, a ∈ frs outer → a ∈ frs (genv :: outer) := fun a q => by
    obtain ⟨e, he, hf⟩ := List.mem_filterMap.mp q
    exact List.mem_filterMap.mpr ⟨e, .tail _ he, hf⟩
  refine ⟨h, h', tk, it, σ, rfl, e1, e2, hTi, fun q => hif (up _ q), hc0, ?_, hx⟩
  have := H.kp.unhide (fun a ha => by
      simp only [List.mem_cons, List.not_mem_nil, or_false] at ha
      rcases ha with rfl | rfl
      · exact ⟨H.outerL, _, hoL⟩
      · exact ⟨fun q => hif (up _ q), _, hoi⟩)
  rwa [List.append_nil] at this
end
/-- by the count of yields -/
theorem seg_ind {β : Type} {w : World} {A : Around} {R : GenEnd} {Y : Protocol} {c : Code} {fs : List Frame} (I : Nat → β → Shared → Shared → Prop)
    (step : ∀ n, (∀ k, k < n → ∀ x s0 s, I k x s0 s → Seg (Md w) A R Y k s0 c ((Md w).den c) fs s) → ∀ x s0 s, I n x s0 s → Seg (Md w) A R Y n s0 c ((Md w).den c) fs s) :
    ∀ n x s0 s, I n x s0 s → Seg (Md w) A R Y n s0 c ((Md w).den c) fs s := fun n => by
  induction n using Nat.strongRecOn with
  | ind n ih => exact step n fun k hk => ih k hk
end
section
theorem sub_valueStop : isSubtype (.type "ValueError") (.type "StopIteration") = pure false := by first | rfl | decide | (simp only [isSubtype]; rfl)
section
variable {w : World} {A : Around} {E : Value → Shared → Prop} {s : Shared}
theorem r_nextG {a : Addr} {g n : Nat} {gs : GenState} {R : GenEnd} {Y : Protocol} {Q : Option Value → Shared → Prop} (hh : A.handled = none) (hl : s.heap.NoLimit) (hroom : A.depth < recursionLimit)
    (hg : s.heap.IsGen a g) (hgs : s.gens[g]? = some gs) (hgo : gs.Goes (Md w) A.in1 R Y n (.send .none) (s.setGen g .running))
    (hY : ∀ v s₁ gs', gs'.bare = true → Y (n - 1) (s.setGen g .running) v s₁ (fun r' s'' => match n with
        | 0 => False
        | m + 1 => gs'.Goes (Md w) A.in1 R Y m r' s'') → Q (some v) (s₁.setGen g gs'))
    (hR : ∀ r s₁, R n (s.setGen g .running) r s₁ → (r = .ok (.ret .none) ∧ ∀ h', (∀ b o, s₁.heap.get? b = some o → h'.get? b = some o) → Q none { s₁.setGen g .finished with heap := h' }) ∨
      (∃ e ob, r = .error (.ref e) ∧ s₁.heap.get? e = some ob ∧ ob.cls = .type "ValueError" ∧ s₁.heap.IsGen a g ∧ E (.ref e) (s₁.setGen g .finished))) :
    wpAny (Md w) A (pyNext (.ref a)) Q E s := by
  unfold pyNext
  refine wpAny_bind (wpAny_attempt (wpAny_callSpecial?_slot (name := Str.ofString "__next__") hg.typeIs slot_gen_next
    (wpAny_call_entry slot_gen_next hg.typeIs entry_gen_next ?_ (args_gen_next _))))
  show wpAny _ A.in1 (Builtin.Generator.genWake (.ref a) (.send .none)) _ _ s
  unfold Builtin.Generator.genWake
  refine wpAny_bind (wpAny_holding (wpAny_genNumber hg (wpAny_bind (wpAny_genState hgs ?_))))
  cases gs with
  | running => exact hgo.elim
  | finished => exact hgo.elim
  | _ =>
    refine wpAny_bind (wpAny_roomToWake hl hroom ?_)
    show wpAny _ A.in1 (.resume g (.send .none) [] _) _ _ s
    refine wpAny_resumeQ hgs hgo (fun x s₁ hx => ?_) (fun v s₁ gs' hb hv => ?_)
    · rcases hR x s₁ hx with ⟨rfl, hp⟩ | ⟨e, ob, rfl, he, hc, hgen, hE⟩
      · show wpAny _ A.in1 (newExc (.type "StopIteration") [] >>= _) _ _ _
        refine wpAny_bind ?_
        simp only [newExc, newTuple]
        refine wpAny_bind (wpAny_newObj_type ?_ (by size_fits))
        refine wpAny_bind (m := firstArgMember _ _) (wpAny_of_eq (a := Value.none) (by first | rfl | (simp only [firstArgMember]; rfl)) ?_)
        refine wpAny_newObj_type ?_ (by size_fits)
        simp only [raiseNew]
        refine wpAny_bind (wpAny_bind (wpAny_handled ?_))
        first | rw [show A.in1.handled = none from hh] | rw [hh]
        refine wpAny_throw ?_
        refine wpAny_bind (wpAny_isInstance (T := "StopIteration") (b := true) ⟨_, Heap.get?_push_size _ rfl, rfl⟩ isSubtype_stop ?_)
        exact wpAny_pure (hp _ fun b o hb => Heap.get?_push_of_some _ (Heap.get?_push_of_some _ hb))
      · obtain ⟨og, nm, qn, hog, hgc, hgd, hgs'⟩ := hgen
        show wpAny _ A.in1 (Builtin.Generator.genLeft (.ref a) (.ref e)) _ _ _
        unfold Builtin.Generator.genLeft Builtin.Generator.madeByALambda Builtin.Generator.genEscaped
        refine wpAny_bind (wpAny_bind (wpAny_load hog ?_))
        rw [hgd]
        refine wpAny_pure ?_
        refine wpAny_bind (wpAny_isInstance (T := "ValueError") (b := false) ⟨_, he, hc⟩ sub_valueStop ?_)
        simp only [Bool.and_false, Bool.false_eq_true, if_false]
        refine wpAny_bind (wpAny_isInstance (T := "ValueError") (b := false) ⟨_, he, hc⟩ sub_valueStop ?_)
        simp only [Bool.not_false, if_true]
        refine wpAny_bind (wpAny_throw ?_)
        refine wpAny_bind (wpAny_isInstance (T := "ValueError") (b := false) ⟨_, he, hc⟩ sub_valueStop ?_)
        exact wpAny_throw hE
    · exact wpAny_pure ⟨v, rfl, wpAny_pure (hY v s₁ gs' hb hv)⟩
end
end
section
theorem allBare_set {a : Array GenState} {x : GenState} (h : AllBare a) (hx : x.bare = true) (g : Nat) : AllBare (a.setIfInBounds g x) := fun y hy => by
  obtain ⟨i, hi, e⟩ := Array.mem_iff_getElem.mp hy
  rw [Array.getElem_setIfInBounds (by simpa using hi)] at e
  split at e
  · rw [← e]; exact hx
  · rw [← e]; exact h _ (Array.getElem_mem _)
section
variable {w : World} {A : Around} {E : Value → Shared → Prop} {s : Shared} {name : Str} {scope : Scope} {a : Addr} {cd : Value} {cl : List (Str × Addr)} {mean : ExcName → Option Value} {mg mb : Str → Option Value}
  {base hI : Heap} {mu : List Addr} {outer : List Env} {L : Addr} {m : Str → Option Value} {n : Nat}
/-- what a waiting generator needs -/
def GoOn (w : World) (A : Around) (base hI : Heap) (envs : List Env) (Lg l : Addr) (ns : List Int) (vs : List Value) (N k : Nat) (gs : GenState) (xs : Led) : Prop :=
  ∀ s'' : Shared, (∀ p ∈ xs, ∃ o, s''.heap.get? p.1 = some o ∧ p.2 o) → (∃ o, s''.heap.get? l = some o ∧ isV vs o) → Gd base s''.heap envs → (∀ b, s''.heap.get? b = none → hI.get? b = none) →
    gs.Goes (Md w) A.in1 (GR ns N (frs envs) Lg hI) (GY ns vs N base envs Lg l hI) (N - k) (.send .none) s''

theorem r_forG {β : Type} {x : Str} {px : Pos} {body : List Stmt} {ga Lg l D : Addr} {oG : Obj} {nm qn : Value} {g N : Nat} {ns : List Int} {vs : List Value} {Q : Flow → Shared → Prop} {gs0 : GenState} {xs0 : Led}
    (C : Cx w mean mg mb base A (envX name scope L a cd cl :: outer) (n + 1)) (hk : scope.kind = .function) (hx : (envX name scope L a cd cl).kindOf x = some .local)
    (hG : oG.cls = .type "generator" ∧ oG.data = .fields #[.int g 0, nm, qn] ∧ oG.slots = #[]) (PD : β → Obj → Prop) (J : Nat → GS → β → Prop) (mOK : β → (Str → Option Value) → Prop) (Fi : β → Prop) (b0 : β)
    (hD : ∀ b, ∀ o, PD b o → ∃ us k, o = lst us k)
    (H : St base hI mu outer (envX name scope L a cd cl) L m ((D, PD b0) :: (ga, (· = oG)) :: (l, isV vs) :: xs0) s.heap) (hne : ∀ p ∈ (((ga, (· = oG)) :: (l, isV vs) :: xs0) : Led), p.1 ≠ D)
    (hgs : s.gens[g]? = some gs0) (hgo : GoOn w A base hI (envX name scope L a cd cl :: outer) Lg l ns vs N 0 gs0 xs0) (hLI : hI.get? Lg = none) (hLb : base.get? Lg = none) (hLD : Lg ≠ D) (hLga : Lg ≠ ga) (hLl : Lg ≠ l) (hLf : Lg ∉ frs (envX name scope L a cd cl :: outer)) (hbI : ∀ b o, base.get? b = some o → hI.get? b = some o) (hDI : Mu base hI mu D)
    (h0 : J 0 (.main 0 none) b0) (hm0 : mOK b0 m) (hJN : ∀ k σ b, J k σ b → k < N) (hJE : ∀ k σ b, J k σ b → gnext ns σ = none → Fi b)
    (turn : ∀ k σ b xv t σ' m' h' tk' gn' rest, J k σ b → mOK b m' → gnext ns σ = some (xv, σ') → (∀ p ∈ rest, p.1 ≠ D) →
      St base hI mu outer (envX name scope L a cd cl) L (fun y => if y = x then some (.int xv t) else m' y) ((D, PD b) :: rest) h' →
      wpAny (Md w) A (execs body (envX name scope L a cd cl)) (fun f s₃ => match f with
        | .next | .cont => ∃ b' h'' tk'' m'', s₃ = { s with heap := h'', toks := tk'', gens := gn' } ∧ J (k + 1) σ' b' ∧ mOK b' m'' ∧ St base hI mu outer (envX name scope L a cd cl) L m'' ((D, PD b') :: rest) h''
        | .brk => ∃ b' h'' tk'' m'', s₃ = { s with heap := h'', toks := tk'', gens := gn' } ∧ Fi b' ∧ mOK b' m'' ∧ St base hI mu outer (envX name scope L a cd cl) L m'' ((D, PD b') :: rest) h''
        | .ret v => False) (notedBy (Md w) A (envX name scope L a cd cl) (cameBackBy (Md w) A (envX name scope L a cd cl) E)) { s with heap := h', toks := tk', gens := gn' })
    (fin : ∀ b h' tk' gn' m', Fi b → mOK b m' → (AllBare s.gens → AllBare gn') → St base hI mu outer (envX name scope L a cd cl) L m' [(D, PD b)] h' → Q .next { s with heap := h', toks := tk', gens := gn' }) :
    wpAny (Md w) A (pyIter (.ref ga)) (fun it s₂ => codeAny (Md w) A (.forLoop (.Name x px) it body [] (envX name scope L a cd cl)) (fun r s' => match r with | .ok f => Q f s' | .error e => cameBackBy (Md w) A (envX name scope L a cd cl) E e s') s₂) E s := by
  have isG : ∀ {h : Heap} {P : Obj → Prop} {rest : Led} {m' : Str → Option Value}, St base hI mu outer (envX name scope L a cd cl) L m' ((D, P) :: (ga, (· = oG)) :: rest) h → h.IsGen ga g := fun {h P rest m'} H' => by
    obtain ⟨⟨o, ho, rfl⟩, _⟩ := H'.own _ (.tail _ (.head _))
    exact ⟨_, nm, qn, ho, hG⟩
  refine wpAny_pyIter_gen (isG H) ?_
  refine codeAny_forLoop (fun k' s' => ∃ k b h' tk' gn' m' gs σ xs, k' = N - k ∧ s' = { s with heap := h', toks := tk', gens := gn' } ∧ (AllBare s.gens → AllBare gn') ∧ gn'[g]? = some gs ∧ orb ns k = some σ ∧ J k σ b ∧ mOK b m' ∧
      St base hI mu outer (envX name scope L a cd cl) L m' ((D, PD b) :: (ga, (· = oG)) :: (l, isV vs) :: xs) h' ∧ (∀ p ∈ (((ga, (· = oG)) :: (l, isV vs) :: xs) : Led), p.1 ≠ D) ∧
      GoOn w A base hI (envX name scope L a cd cl :: outer) Lg l ns vs N k gs xs) ?_ N ⟨0, b0, _, _, _, m, gs0, _, xs0, rfl, rfl, id, hgs, rfl, h0, hm0, H, hne, hgo⟩
  rintro k' _ ⟨k, b, h', tk', gn', m', gs, σ, xs, rfl, rfl, hB, hg, hor, hJ, hm, H', hne', hgo'⟩
  have hkN := hJN _ _ _ hJ
  have hgsz : g < gn'.size := (Array.getElem?_eq_some_iff.mp hg).1
  obtain ⟨⟨oD, hoD, hPD⟩, hDf⟩ := H'.own _ (.head _)
  obtain ⟨us, uk, rfl⟩ := hD _ _ hPD
  obtain ⟨⟨oG', hoG, hoGe⟩, hGf⟩ := H'.own _ (.tail _ (.head _))
  obtain ⟨⟨ol, hol, hPl⟩, hlf⟩ := H'.own _ (.tail _ (.tail _ (.head _)))
  dsimp only at hoGe
  subst hoGe
  have dI : ∀ b, h'.get? b = none → hI.get? b = none := fun b q => H'.kp.none q
  have bI : ∀ b, hI.get? b = none → base.get? b = none := fun b q => by
    cases z : base.get? b with
    | none => rfl
    | some o => rw [hbI b o z] at q; cases q
  obtain ⟨q, hq⟩ : ∃ q, N - k = q + 1 := ⟨N - k - 1, by omega⟩
  have hcD : (lst us uk).cls = .type "list" := rfl
  have hcl : ol.cls = .type "list" := by obtain ⟨no, rfl⟩ := hPl; rfl
  have hls3 : ∀ {it : Addr}, (∀ o, h'.get? it = some o → o.cls = .type "list_iterator") → ∀ p ∈ ([(D, PD b), (ga, (· = oG')), (l, isV vs)] : Led), p ∈ (((D, PD b) :: (ga, (· = oG')) :: (l, isV vs) :: xs) : Led) ∧ p.1 ∉ [Lg, it] := fun {it} hc p hp => by
    have ne : ∀ (b : Addr) (o : Obj) (T : String), h'.get? b = some o → o.cls = .type T → T ≠ "list_iterator" → b ≠ it := fun b o T ho hT hne q => by
      subst q
      have := hc o ho
      rw [hT] at this
      exact hne (Value.type.inj this)
    simp only [List.mem_cons, List.not_mem_nil, or_false] at hp
    rcases hp with rfl | rfl | rfl
    · refine ⟨.head _, fun z => ?_⟩
      simp only [List.mem_cons, List.not_mem_nil, or_false] at z
      exact z.elim (fun z => hLD z.symm) (ne D _ _ hoD hcD (by decide))
    · refine ⟨.tail _ (.head _), fun z => ?_⟩
      simp only [List.mem_cons, List.not_mem_nil, or_false] at z
      exact z.elim (fun z => hLga z.symm) (ne ga _ _ hoG hG.1 (by decide))
    · refine ⟨.tail _ (.tail _ (.head _)), fun z => ?_⟩
      simp only [List.mem_cons, List.not_mem_nil, or_false] at z
      exact z.elim (fun z => hLl z.symm) (ne l _ _ hol hcl (by decide))
  have goes := hgo' ({ s with heap := h', toks := tk', gens := gn' }.setGen g .running) (fun p hp => (H'.own p (.tail _ (.tail _ (.tail _ hp)))).1) ⟨ol, hol, hPl⟩ H'.gd dI
  rw [hq] at goes
  refine r_nextG (A := A) (n := q + 1) (g := g) (gs := gs) C.hnd (C.T.nolimit.keeps H'.fr.keep) (by have := C.depth; omega) (isG H') hg goes ?_ ?_
  · intro v s₁ gs' hbare hy
    obtain ⟨h1, tk1, it, σ1, xv, t, σ', oL, oi, fi, rfl, ho1, hg1, rfl, hTi, hc0, kk, gL, gi, hfi, hif, hcont⟩ := hy
    have e1 : N - 1 - (q + 1 - 1) = k := by omega
    rw [e1, hor] at ho1
    cases ho1
    have H1 := H'.call kk (fun b hb => by
      simp only [List.mem_cons, List.not_mem_nil, or_false] at hb
      rcases hb with rfl | rfl
      · exact hLb
      · exact bI _ hTi) (fun b hb => by
      simp only [List.mem_cons, List.not_mem_nil, or_false] at hb
      rcases hb with rfl | rfl
      · exact .inr hLI
      · exact .inr hTi) (hls3 hc0)
    have itD : it ≠ D := fun z => (hls3 hc0 _ (.head _)).2 (by rw [z]; simp)
    have H2 := ((H1.more (P := (· = oi)) gi rfl hif).more (P := (· = oL)) gL rfl hLf).sub (ls' := ((D, PD b) :: [(ga, (· = oG')), (l, isV vs), (Lg, (· = oL)), (it, (· = oi))])) (fun p hp => by
      simp only [List.mem_cons, List.not_mem_nil, or_false] at hp ⊢
      rcases hp with rfl | rfl | rfl | rfl | rfl <;> simp)
    have hne2 : ∀ p ∈ ([(ga, (· = oG')), (l, isV vs), (Lg, (· = oL)), (it, (· = oi))] : Led), p.1 ≠ D := fun p hp => by
      simp only [List.mem_cons, List.not_mem_nil, or_false] at hp
      rcases hp with rfl | rfl | rfl | rfl
      · exact hne' _ (.head _)
      · exact hne' _ (.tail _ (.head _))
      · exact hLD
      · exact itD
    dsimp only
    have hB' : AllBare s.gens → AllBare ((gn'.setIfInBounds g .running).setIfInBounds g gs') := fun z => allBare_set (allBare_set (hB z) rfl g) hbare g
    have hg' : ((gn'.setIfInBounds g .running).setIfInBounds g gs')[g]? = some gs' := by simp [hgsz]
    refine wpAny_assign_Name (r_store H2 hk hx fun h3 H3 => ?_)
    refine wpAny_mono (turn k σ b xv t σ' m' h3 _ ((gn'.setIfInBounds g .running).setIfInBounds g gs') _ hJ hm hg1 hne2 H3) (fun f s₃ h₃ => ?_) fun _ _ e => e
    have go2 : ∀ b' , J (k + 1) σ' b' → GoOn w A base hI (envX name scope L a cd cl :: outer) Lg l ns vs N (k + 1) gs' [(Lg, (· = oL)), (it, (· = oi))] := fun b' hJ' s'' hx1 hx2 G dd => by
      have hk1 := hJN _ _ _ hJ'
      obtain ⟨o1, ho1, rfl⟩ := hx1 _ (.head _)
      obtain ⟨o2, ho2, rfl⟩ := hx1 _ (.tail _ (.head _))
      have := hcont (by omega) s'' ho1 ho2 hx2 G
      have e3 : N - (k + 1) = q := by omega
      rw [e3]
      exact this
    cases f with
    | next => obtain ⟨b', h4, tk4, m4, e1, e2, e3, e4⟩ := h₃; exact ⟨N - (k + 1), by omega, k + 1, b', h4, tk4, _, m4, gs', σ', _, rfl, e1, hB', hg', orb_succ hor hg1, e2, e3, e4, hne2, go2 b' e2⟩
    | cont => obtain ⟨b', h4, tk4, m4, e1, e2, e3, e4⟩ := h₃; exact ⟨N - (k + 1), by omega, k + 1, b', h4, tk4, _, m4, gs', σ', _, rfl, e1, hB', hg', orb_succ hor hg1, e2, e3, e4, hne2, go2 b' e2⟩
    | brk =>
      obtain ⟨b', h4, tk4, m4, rfl, e2, e3, e4⟩ := h₃
      exact fin b' h4 tk4 _ m4 e2 e3 hB' (e4.sub fun p hp => by rw [List.mem_singleton.mp hp]; exact .head _)
    | ret v => exact h₃.elim
  · rintro r s₁ ⟨rfl, h1, h2, tk2, it, σ1, rfl, ho1, hg1, hTi, hif, hc0, kk, hext⟩
    refine .inl ⟨rfl, fun h3 hk3 => ?_⟩
    have e1 : N - (q + 1) = k := by omega
    rw [e1, hor] at ho1
    cases ho1
    have H1 := H'.call kk (fun b hb => by
      simp only [List.mem_cons, List.not_mem_nil, or_false] at hb
      rcases hb with rfl | rfl
      · exact hLb
      · exact bI _ hTi) (fun b hb => by
      simp only [List.mem_cons, List.not_mem_nil, or_false] at hb
      rcases hb with rfl | rfl
      · exact .inr hLI
      · exact .inr hTi) (hls3 hc0)
    have itD : it ≠ D := fun z => (hls3 hc0 _ (.head _)).2 (by rw [z]; simp)
    have H2 := (H1.extBut (ls' := [(D, PD b)]) hext hif (bI _ hTi) hTi fun p hp => by rw [List.mem_singleton.mp hp]; exact ⟨.head _, itD.symm⟩).ext hk3
    dsimp only
    refine wpAny_execs_nil (fin b h3 _ ((gn'.setIfInBounds g .running).setIfInBounds g .finished) m' (hJE _ _ _ hJ hg1) hm (fun z => allBare_set (allBare_set (hB z) rfl g) rfl g) H2)
end

section
variable {w : World} {mean : ExcName → Option Value} {mg mb : Str → Option Value} {base hI : Heap} {A : Around} {envs : List Env} {n k : Nat} {s s0 : Shared} {genv : Env} {body : List Stmt} {R : GenEnd} {Y : Protocol} {T : Sem PySem.Fin}
  {K K' : Flow → Sem PySem.Fin} {H H' : Value → Sem PySem.Fin} {gd gd' : Bool → Bool} {lv lv' : List Value → List Value} {p p' : Pos}
theorem seg_start {Lg l : Addr} {m : Str → Option Value} {vs : List Value} (C : Cx w mean mg mb base A envs (n + 1)) (G : Gd base s.heap envs) (hf : genv.frame = some Lg) (hk : genv.scope.kind ≠ .module) (hns : s.heap.Ns Lg m) (hab : base.objs.size ≤ Lg)
    (hLo : Lg ∉ frs envs) (hl : ∃ o, s.heap.get? l = some o ∧ isV vs o) (hlL : l ≠ Lg)
    (h : St base (hide [Lg, Lg] s.heap) [] envs genv Lg m [(l, isV vs)] s.heap → Cx w mean mg mb base (A.in1.over (.func body genv) []) (genv :: envs) n → Seg (Md w) A.in1 R Y k s0 (.func body genv) T [] s) : Seg (Md w) A.in1 R Y k s0 (.func body genv) T [] s :=
  h (St.resume G hf hk hns hab hLo hLo fun p hp => by
    rw [List.mem_singleton.mp hp]
    refine ⟨hl, ?_, hlL⟩
    obtain ⟨o, ho, no, rfl⟩ := hl
    exact G.ff.not_list ho) (cx_func C)
theorem seg_cx_for {t : Expr} {i : Value} {b o : List Stmt} (C : Cx w mean mg mb base A envs (n + 1))
    (h : Cx w mean mg mb base (A.in1.over (.forLoop t i b o genv) [FrR genv K H gd lv (.func body genv) p]) (genv :: envs) n → Seg (Md w) A.in1 R Y k s0 (.forLoop t i b o genv) T [FrR genv K H gd lv (.func body genv) p] s) :
    Seg (Md w) A.in1 R Y k s0 (.forLoop t i b o genv) T [FrR genv K H gd lv (.func body genv) p] s := h (cx_for C)
theorem seg_cx_while {t t' : Expr} {i : Value} {b o b' o' : List Stmt} (C : Cx w mean mg mb base A envs (n + 1))
    (h : Cx w mean mg mb base (A.in1.over (.whileLoop t' b' o' genv) [FrR genv K' H' gd' lv' (.forLoop t i b o genv) p', FrR genv K H gd lv (.func body genv) p]) (genv :: envs) n → Seg (Md w) A.in1 R Y k s0 (.whileLoop t' b' o' genv) T [FrR genv K' H' gd' lv' (.forLoop t i b o genv) p', FrR genv K H gd lv (.func body genv) p] s) :
    Seg (Md w) A.in1 R Y k s0 (.whileLoop t' b' o' genv) T [FrR genv K' H' gd' lv' (.forLoop t i b o genv) p', FrR genv K H gd lv (.func body genv) p] s := h (cx_while C)
end

theorem hide_eq {Lg it : Addr} {h : Heap} (e : h.get? it = none) (b : Addr) : (hide [Lg, it] h).get? b = (hide [Lg, Lg] h).get? b := by
  by_cases q : b = Lg
  · subst q; rw [hide_in (.head _), hide_in (.head _)]
  · rw [hide_out (as := [Lg, Lg]) (by simp [q])]
    by_cases z : b = it
    · subst z; rw [hide_in (.tail _ (.head _)), e]
    · rw [hide_out (by simp [q, z])]
abbrev Sty {base hI h : Heap} {mu : List Addr} {outer : List Env} {env : Env} {L : Addr} {m : Str → Option Value} {ls : Led} (H : St base hI mu outer env L m ls h) (hI' : Heap) (m' : Str → Option Value) (ls' : Led) (h' : Heap) : Prop := St base hI' mu outer env L m' ls' h'
theorem gn_stop {ns : List Int} {i : Nat} {last : Option Int} (h : ns[i]? = none) : gnext ns (.main i last) = none := by simp only [gnext, h]
theorem gn_max {ns : List Int} {i : Nat} {last : Option Int} (h : ns[i]? = some 127) : gnext ns (.main i last) = none := by simp only [gnext, h]; rfl
theorem gn_zero {ns : List Int} {i : Nat} {y : Int} (h : ns[i]? = some 0) : gnext ns (.main i (some y)) = some (y, .ever y) := by simp only [gnext, h]; rfl
theorem gn_one {ns : List Int} {i : Nat} {last : Option Int} {x : Int} (h : ns[i]? = some x) (h1 : x ≠ 127) (h2 : x ≠ 0) : gnext ns (.main i last) = some (x, .main (i + 1) (some x)) := by simp only [gnext, h, if_neg h1, if_neg h2]
end
section
def toldG (ns : List Int) : Nat → GS → Int → List Int → List Int
  | 0, _, _, r => r
  | f + 1, σ, p, r => match gnext ns σ with
    | none => r
    | some (x, σ') => if p + x > 24 then r else toldG ns f σ' (p + x) (r ++ [p + x])
def toldF (ns : List Int) : List Int := toldG ns 30 (.main 0 none) 0 []
def posS : GS → Prop
  | .main _ last => ∀ y, last = some y → 1 ≤ y
  | .ever y => 1 ≤ y
theorem gnext_pos {ns : List Int} (hpos : ∀ x ∈ ns, 0 ≤ x) {σ σ' : GS} {x : Int} (h : posS σ) (g : gnext ns σ = some (x, σ')) : 1 ≤ x ∧ posS σ' := by
  cases σ with
  | ever y => simp only [gnext] at g; cases g; exact ⟨h, h⟩
  | main i last =>
    simp only [gnext] at g
    cases q : ns[i]? with
    | none => rw [q] at g; cases g
    | some z =>
      rw [q] at g
      dsimp only at g
      have hz : 0 ≤ z := hpos z (List.mem_of_getElem? q)
      split at g
      · cases g
      · split at g
        · cases last with
          | none => cases g
          | some y => cases g; exact ⟨h _ rfl, h _ rfl⟩
        · cases g
          rename_i h1 h2
          have : 1 ≤ x := by omega
          exact ⟨this, fun y hy => by cases hy; exact this⟩
variable {w : World} {mean : ExcName → Option Value} {mg mb : Str → Option Value} {base : Heap} {A : Around} {envs : List Env} {n : Nat} {s : Shared} {E Q : Value → Shared → Prop}
theorem told_spec {l : Addr} {ns : List Int} (C : Cx w mean mg mb base A envs (n + 4)) (G : Gd base s.heap envs) (hl : LI s.heap l ns) (h0 : ns[0]? ≠ some 0) (hpos : ∀ x ∈ ns, 0 ≤ x) (hlen : ns.length < 100)
   (hQ : ∀ (h' : Heap) (tk' : Nat) (gn' : Array GenState) (r : Addr), Kp (frs envs) [] s.heap h' → LI h' r (toldF ns) → base.get? r = none → s.heap.get? r = none → (AllBare s.gens → AllBare gn') → Q (.ref r) { s with heap := h', toks := tk', gens := gn' }) :
   wpAny (Md w) A (call (.ref 70) [.ref l]) Q E s := by
  refine' enter [] [(l, isI ns)] C G (fun p hp => by rw [List.mem_singleton.mp hp]; exact ⟨hl, hl.frs G.ff⟩) ?ho ?hcd ?hb ?hl ?h ?c ?d ?e ?f
  walk_at "m enter"
  intro L h₁ H C'
  generalize (fun e s' => wpAny (Md w) _ (leaving _ e) (fun _ s'' => E e s'') (fun e' s'' => E e' s'') s') = E'
  repeat walk_at "m go"
  refine r_newInts H .nil (by decide) fun D h₂ H₂ hD hM hDn => ?_
  walk_at "m store"; intro h₃ H₃
  repeat walk_at "m go"
  walk_at "m store"; intro h₄ H₄
  repeat walk_at "m go"
  refine' enterG C' H₄.gd ?gho ?ghcd ?ghb ?ghl ?gh ?gc ?gd ?ge ?gf
  (case gho => k_dflt k_is)
  (case ghcd => k_dflt k_is)
  (case ghb => exact rfl)
  (case ghl => exact locs rfl)
  (case gc => decide)
  (case gd => exact rfl)
  (case ge => exact rfl)
  (case gf => exact rfl)
  intro Lg ga oG nm qn h₅ tk₅ hk5 hLn hgn hNs hoG hGc hGd hGs hLg hab
  have H₅ := H₄.ext hk5
  have hDI : s.heap.get? D = none := hM.2.elim (fun q => nomatch q) id
  have dI : ∀ b, h₄.get? b = none → s.heap.get? b = none := fun b q => H₄.kp.none q
  have hfr : ∀ a ∈ frs (envX (Str.ofString "_law_told") _ L 70 _ [] :: envs), ∃ o, h₄.get? a = some o := fun a ha => by
    obtain ⟨e, he, hf⟩ := List.mem_filterMap.mp ha
    obtain ⟨_, L', o, _, _, hL', _, ho, _⟩ := H₄.ff e he
    rw [hf] at hL'; cases hL'
    exact ⟨o, ho⟩
  have hne45 : ∀ a, h₄.get? a = none → a ∉ frs (envX (Str.ofString "_law_told") _ L 70 _ [] :: envs) := fun a q ha => by
    obtain ⟨o, ho⟩ := hfr a ha
    rw [q] at ho; cases ho
  obtain ⟨oL, es, ep, hoL, hdL, hrL⟩ := id hNs
  obtain ⟨vs, hvs, H₆⟩ := (H₅.sub (ls' := [(l, isI ns), (D, isI [])]) (fun p hp => by
    simp only [List.mem_cons, List.not_mem_nil, or_false] at hp ⊢; rcases hp with rfl | rfl <;> simp)).open
  have hDl : D ≠ l := (hD _ (.head _)).symm
  have hin : ∀ p ∈ ([(D, isI []), (l, isI ns)] : Led), ∃ o, h₄.get? p.1 = some o := fun p hp => let ⟨⟨o, ho, _⟩, _⟩ := H₄.own p hp; ⟨o, ho⟩
  have nin : ∀ a b : Addr, h₄.get? a = none → (∃ o, h₄.get? b = some o) → a ≠ b := fun a b ha ⟨o, ho⟩ q => by rw [q, ho] at ha; cases ha
  have H₇ := ((H₆.more (P := (· = oG)) hoG rfl (hne45 ga hgn)).more (P := (· = oL)) hoL rfl (hne45 Lg hLn)).sub (ls' := ((D, isI []) :: [(ga, (· = oG)), (l, isV vs), (Lg, (· = oL))])) (fun p hp => by
    simp only [List.mem_cons, List.not_mem_nil, or_false] at hp ⊢; rcases hp with rfl | rfl | rfl | rfl <;> simp)
  refine' r_forG (N := 30) (g := s.gens.size) (Lg := Lg) (ns := ns) C' rfl rfl ⟨hGc, hGd, hGs⟩ (fun (b : Int × List Int) => isI b.2)
    (fun k σ b => k < 30 ∧ (k : Int) ≤ b.1 ∧ b.1 ≤ 24 ∧ b.2.length ≤ k ∧ toldG ns (30 - k) σ b.1 b.2 = toldF ns ∧ posS σ)
    (fun b m' => m' "marks" = some (.ref D) ∧ ∃ t, m' "place" = some (.int b.1 t)) (fun b => b.2 = toldF ns) (0, []) ?hD H₇ ?hne Array.getElem?_push_size ?go ?hLI ?hLb ?hLD hLg ?hLl ?hLf ?hbI hM ?h0 ?hm0 ?hJN ?hJE ?turn ?fin
  (case hD => rintro b o ⟨us, k, rfl, _⟩; exact ⟨_, _, rfl⟩)
  (case hne =>
    intro p hp
    simp only [List.mem_cons, List.not_mem_nil, or_false] at hp
    rcases hp with rfl | rfl | rfl
    · exact nin _ _ hgn (hin _ (.head _))
    · exact hDl.symm
    · exact nin _ _ hLn (hin _ (.head _)))
  (case hLI => exact dI _ hLn)
  (case hLb => exact Heap.get?_none_of_le hab)
  (case hLD => exact nin _ _ hLn (hin _ (.head _)))
  (case hLl => exact nin _ _ hLn (hin _ (.tail _ (.head _))))
  (case hLf => exact hne45 Lg hLn)
  (case hbI => exact G.stays)
  (case h0 => exact ⟨by omega, by simp, by simp, by simp, rfl, fun y hy => by cases hy⟩)
  (case hm0 => exact ⟨rfl, _, rfl⟩)
  (case hJN => exact fun k σ b h => h.1)
  (case hJE =>
    rintro k σ b ⟨h1, h2, h3, h4, h5, h6⟩ hg
    obtain ⟨q, hq⟩ : ∃ q, 30 - k = q + 1 := ⟨30 - k - 1, by omega⟩
    rw [hq, toldG, hg] at h5
    exact h5)
  (case fin =>
    rintro ⟨p, r⟩ h' tk' gn' m' hF ⟨hm1, tp, hm2⟩ hB H'
    dsimp only at hF H'
    subst hF
    repeat walk_at "m go"
    refine hQ h' tk' gn' D H'.kp (H'.li (.head _)) hM.1 hDI fun z => hB (z.push rfl))
  (case turn =>
    rintro k σ ⟨p, r⟩ x t σ' m' h' tk' gn' rest ⟨j1, j2, j3, j4, j5, j6⟩ ⟨hm1, tp, hm2⟩ hg hne H'
    dsimp only at j2 j3 j4 j5 hm2 H'
    obtain ⟨hx1, hx2⟩ := gnext_pos hpos j6 hg
    obtain ⟨q, hq⟩ : ∃ q, 30 - k = q + 1 := ⟨30 - k - 1, by omega⟩
    rw [hq, toldG, hg] at j5
    dsimp only at j5
    repeat walk_at "m go"
    walk_at "m store"; intro h8 H₈
    repeat walk_at "m go"
    refine split_bool ?_ ?_ <;> intro hx
    · have hx' : p + x > 24 := by simpa using hx
      repeat walk_at "m go"
      rw [if_pos hx'] at j5
      exact ⟨(p + x, r), h8, _, mOf H₈, rfl, j5, ⟨hm1, _, rfl⟩, H₈⟩
    · have hx' : ¬ (p + x > 24) := by simpa using hx
      rw [if_neg hx'] at j5
      repeat walk_at "m go"
      walk_at "m append"
      repeat walk_at "m go"
      refine r_append H₈ hM hne (by rw [sizeLine]; omega) fun h9 H₉ => ?_
      repeat walk_at "m go"
      have e3 : 30 - (k + 1) = q := by omega
      refine ⟨(p + x, r ++ [p + x]), h9, _, mOf H₉, rfl, ⟨?_, ?_, ?_, ?_, ?_, hx2⟩, ⟨hm1, _, rfl⟩, H₉⟩
      · omega
      · dsimp only; omega
      · dsimp only; omega
      · simp only [List.length_append, List.length_cons, List.length_nil]; omega
      · rw [e3]; exact j5)
  (case go =>
    intro s'' hx1 hx2 G'' dd
    obtain ⟨o1, ho1, rfl⟩ := hx1 _ (.head _)
    obtain ⟨o2, ho2, no2, rfl⟩ := hx2
    have hlL : l ≠ Lg := (nin _ _ hLn (hin _ (.tail _ (.head _)))).symm
    refine ⟨rfl, seg_func (seg_execs_cons (seg_start C' G'' rfl (by show ScopeKind.function ≠ .module; decide) ⟨o1, es, ep, ho1, hdL, hrL⟩ hab (hne45 Lg hLn) ⟨_, ho2, no2, rfl⟩ hlL fun S0 C'' => seg_wrap ?_))⟩
    walk_at "m go"
    refine wpAny_Constant_none ?_
    repeat walk_at "m go"
    walk_at "m store"; intro g1 S1
    refine seg_execs_cons (seg_For (fun _ => rfl) ?_)
    repeat walk_at "m go"
    obtain ⟨⟨ol1, hol1, nl1, rfl⟩, _⟩ := S1.own _ (.head _)
    refine wpAny_pyIter_list (items := vs.toArray) ⟨_, hol1, rfl, nl1, rfl⟩ ?_
    have itn := S1.hI_fresh
    have itb := S1.base_fresh
    have hlt := S1.lt _ (.head _)
    have S2 := S1.push (P := isIt l 0) { cls := .type "list_iterator", data := .fields #[.ref l, .int 0 0] } ⟨rfl, rfl⟩
    have hitL := S2.notL (.head _)
    have hil : l ≠ g1.objs.size := Nat.ne_of_lt hlt
    intro pz
    dsimp only
    generalize g1.objs.size = it at *
    rw [hide_out (by simp [hitL])] at itn
    have S3 := S2.hIeq (hide_eq itn)
    have itI : s.heap.get? it = none := dd _ itn
    refine seg_ind (β := Nat × Option Int) (fun k x s0 s => ∃ h tk m t, s = { s0 with heap := h, toks := tk } ∧ Sty S3 (hide [Lg, it] s0.heap) m [(it, isIt l x.1), (l, isV vs)] h ∧ m "last_interval" = some (lastV t x.2) ∧ orb ns (30 - k) = some (.main x.1 x.2) ∧ k ≤ 30 ∧ 1 ≤ k ∧ (x.2 = none → x.1 = 0) ∧
      (∀ o, s0.heap.get? it = some o → o.cls = .type "list_iterator")) ?_ (30 - 0) (0, none) _ _ ⟨_, _, _, 0, rfl, S3, rfl, rfl, by omega, by omega, fun _ => rfl, fun o ho => by rw [itn] at ho; cases ho⟩
    rintro k ih ⟨i, last⟩ s0 _ ⟨h, tk, m, t, rfl, S, hm, ho, hk, hk1, hl0, hc0⟩
    dsimp only at S hm ho hl0
    refine seg_cx_for C' fun C3 => seg_forLoop (r_next C3.hnd S itb (hide_in (.tail _ (.head _))) hil (fun p hp => nomatch hp) ?_ ?_)
    · intro v h6 hv S4
      obtain ⟨hilt, tt, rfl⟩ := ints_at hvs hv
      have hx : ns[i]? = some (ns.getD i 0) := by simp [List.getD, hilt]
      generalize ns.getD i 0 = x at hx
      dsimp only
      refine wpAny_assign_Name ?_
      walk_at "m store"; intro h7 S5
      refine seg_execs_cons (seg_If ?_)
      repeat walk_at "m go"
      by_cases h127 : x = 127
      · rw [if_pos (beq_iff_eq.mpr h127)]
        subst h127
        refine seg_execs_cons (seg_wrap ?_)
        repeat walk_at "m go"
        refine seg_pop (f := .ret .none) ?_
        refine seg_end (.ok (.ret .none)) ⟨rfl, ?_⟩
        exact gp_of S5 ho (gn_max hx) itI hc0 (fun _ _ _ e => e)
      · rw [if_neg (by simpa using h127)]
        refine seg_execs_nil ?_
        refine seg_execs_cons (seg_If ?_)
        repeat walk_at "m go"
        obtain ⟨k, rfl⟩ : ∃ q, k = q + 1 := ⟨k - 1, by omega⟩
        have ek : 30 - 1 - k = 30 - (k + 1) := by omega
        by_cases hz : x = 0
        · rw [if_pos (beq_iff_eq.mpr hz)]
          subst hz
          cases last with
          | none => rw [hl0 rfl] at hx; exact absurd hx h0
          | some y =>
            refine seg_execs_cons (seg_If ?_)
            repeat walk_at "m go"
            refine wpAny_Constant_none ?_
            refine is_int_none ?_
            repeat walk_at "m go"
            refine seg_execs_nil ?_
            refine seg_execs_cons (seg_While fun pw => ?_)
            refine seg_ind (β := Unit) (fun k _ s0 s => ∃ h tk σ, s = { s0 with heap := h, toks := tk } ∧ Sty S3 (hide [Lg, it] s0.heap) (mOf S5) [(it, isIt l (i + 1)), (l, isV vs)] h ∧ orb ns (30 - k) = some σ ∧ gnext ns σ = some (y, .ever y) ∧ k ≤ 30 ∧ 1 ≤ k ∧
              (∀ o, s0.heap.get? it = some o → o.cls = .type "list_iterator")) ?_ (k + 1) () _ _ ⟨_, _, _, rfl, S5, ho, gn_zero hx, hk, by omega, hc0⟩
            rintro k' ih' _ s0' _ ⟨h8, tk8, σ8, rfl, S8, ho8, hg8, hk8, hk8', hc8⟩
            obtain ⟨k', rfl⟩ : ∃ q, k' = q + 1 := ⟨k' - 1, by omega⟩
            have ek' : 30 - 1 - k' = 30 - (k' + 1) := by omega
            refine seg_cx_while C' fun C4 => seg_whileLoop ?_
            walk_at "m isName"
            repeat walk_at "m go"
            refine seg_execs_cons (seg_Expr_Yield rfl rfl rfl ?_)
            repeat walk_at "m go"
            intro kap hkap
            refine gy_of S8 (ek' ▸ ho8) hg8 itI hc8 fun hk2 s2 S9 hc2 => hkap _ _ ?_
            dsimp only
            refine seg_execs_nil (seg_again rfl (ih' k' (by omega) () _ _ ⟨_, _, .ever y, rfl, S9, ?_, rfl, by omega, hk2, hc2⟩))
            have := orb_succ ho8 hg8
            rwa [show 30 - (k' + 1) + 1 = 30 - k' by omega] at this
        · rw [if_neg (by simpa using hz)]
          refine seg_execs_nil ?_
          refine seg_execs_cons (seg_Expr_Yield rfl rfl rfl ?_)
          repeat walk_at "m go"
          intro kap hkap
          refine gy_of S5 (ek ▸ ho) (gn_one hx h127 hz) itI hc0 fun hk2 s2 S6 hc2 => hkap _ _ ?_
          dsimp only
          refine seg_execs_cons (seg_wrap ?_)
          repeat walk_at "m go"
          walk_at "m store"; intro h8 S8
          refine seg_execs_nil (seg_again rfl (ih k (by omega) (i + 1, some x) _ _ ⟨_, _, _, _, rfl, S8, rfl, ?_, by omega, hk2, (fun q => by cases q), hc2⟩))
          have := orb_succ ho (gn_one hx h127 hz)
          rwa [show 30 - (k + 1) + 1 = 30 - k by omega] at this
    · intro hn h6 hext
      dsimp only
      refine seg_block0 (seg_pop (f := .next) ?_)
      refine seg_execs_nil (seg_end (.ok (.ret .none)) ⟨rfl, ?_⟩)
      refine gp_of S ho (gn_stop ?_) itI hc0 hext
      have : vs.length = ns.length := hvs.length
      rw [List.getElem?_eq_none_iff] at hn ⊢
      omega)
end
section
section
variable {w : World} {M : Model} {A : Around} {E : Value → Shared → Prop} {s : Shared} {base hI : Heap} {mu : List Addr} {outer : List Env} {env : Env} {L : Addr} {m : Str → Option Value} {ls : Led} {e : Addr} {X : String} {c fl : Value}
/-- noted by the next frame -/
theorem r_note3 {Q : Unit → Shared → Prop} (hfr : A.frames = some (env :: outer)) (H : St base hI mu outer env L m ls s.heap) (hn : noRec ls) (x : Ex base hI e X c .none s.heap)
    (h : ∀ h', St base hI mu outer env L m ls h' → Ex base hI e X c (rawInt L) h' → Q () { s with heap := h' }) : wpAny M A (noteFrame (.ref e) env) Q E s := by
  have x0 := x
  obtain ⟨⟨oe, vs, T, oT, ts, he, hcls, hd, h1, h2, hT, hdT, h3, hTe, hTb, hTI⟩, nb, nI⟩ := x
  unfold noteFrame
  simp only [H.hf]
  refine wpAny_bind (wpAny_field he hd h1 ?_)
  rw [if_pos (show (Value.ref T != Value.none) = true from by simp)]
  refine wpAny_bind (wpAny_field hT hdT h3 ?_)
  rw [if_neg (show ¬ (Value.none == rawInt L) = true from by simp [rawInt])]
  have hsz : 3 < ts.size := (Array.getElem?_eq_some_iff.mp h3).1
  refine wpAny_bind (wpAny_setField hT hdT hsz ?_)
  have H0 := H.fields (i := 3) (v := .none) hn hT hdT hTb hTI
  have he0 := (Heap.get?_update_other s.heap (Obj.mapFields (·.setIfInBounds 3 Value.none)) hTe).trans he
  have hene := H0.ff.not_fields he0 hd
  generalize hh0 : s.heap.update T (Obj.mapFields (·.setIfInBounds 3 Value.none)) = h0 at *
  refine wpAny_bind (wpAny_frameOf_fun hfr (H0.ff.funFrames (B := base) fun a ha => H0.ff.frs_none ha) H0.hf fun h₁ hs₁ => ?_)
  refine wpAny_bind (wpAny_entryPlaceOf fun pl hpl => ?_)
  unfold EntryCells.newEntry newFields
  refine wpAny_bind (wpAny_newObj_type ?_ (hpl.sizeOk5 _ _ _ _ _))
  have H1 := H0.callN (Kp.slots hs₁)
  have he₁ : h₁.get? e = some oe := (hs₁.2.1 e hene).trans he0
  have hT3 : ([Value.ref T, .ref L, .none, rawInt L, .none] ++ (if pl.isEmpty then List.replicate 6 Value.none else pl)).toArray[3]? = some (rawInt L) := by simp
  generalize hq : ([Value.ref T, .ref L, .none, rawInt L, .none] ++ (if pl.isEmpty then List.replicate 6 Value.none else pl)).toArray = ts' at *
  have he₂ := Heap.get?_push_of_some (h := h₁) { cls := .type "traceback", dict := none, data := .fields ts' } he₁
  have hvsz : 1 < vs.size := (Array.getElem?_eq_some_iff.mp h1).1
  refine wpAny_setField he₂ hd hvsz ?_
  have H2 := H1.push0 { cls := .type "traceback", dict := none, data := .fields ts' }
  have H3 := H2.fields (i := 1) (v := .ref h₁.objs.size) hn he₂ hd nb nI
  have hTe' : h₁.objs.size ≠ e := Nat.ne_of_gt (Heap.lt_size he₁)
  have hd₃ := Obj.data_mapFields hd (·.setIfInBounds 1 (Value.ref h₁.objs.size))
  have h22 : (vs.setIfInBounds 1 (Value.ref h₁.objs.size))[2]? = some c := by rw [Array.getElem?_setIfInBounds_ne (by decide)]; exact h2
  refine h _ H3 ⟨⟨_, _, h₁.objs.size, _, ts', Heap.get?_update_self _ he₂ (Obj.isFreed_of_fields hd₃), (Obj.cls_mapFields _ _).trans hcls, hd₃, by simp [hvsz], h22, (Heap.get?_update_other _ _ (Ne.symm hTe')).trans (Heap.get?_push_size h₁ rfl), rfl, hT3, hTe', H1.base_fresh, H1.hI_fresh⟩, nb, nI⟩
theorem r_noteAny {Q : Unit → Shared → Prop} (hfr : A.frames = some (env :: outer)) (H : St base hI mu outer env L m ls s.heap) (hn : noRec ls) (y : Fx base hI e X c s.heap ∨ Ex base hI e X c (rawInt L) s.heap ∨ Ex base hI e X c .none s.heap)
    (h : ∀ h', St base hI mu outer env L m ls h' → Ex base hI e X c (rawInt L) h' → Q () { s with heap := h' }) : wpAny M A (noteFrame (.ref e) env) Q E s := by
  rcases y with y | y | y
  · exact r_note hfr H hn y h
  · exact r_note2 H.hf y (h _ H y)
  · exact r_note3 hfr H hn y h
theorem r_leave {Q : Unit → Shared → Prop} (hfr : A.frames = some (env :: outer)) (H : St base hI mu outer env L m ls s.heap) (hn : noRec ls) (y : Fx base hI e X c s.heap ∨ Ex base hI e X c (rawInt L) s.heap ∨ Ex base hI e X c .none s.heap)
    (h : ∀ h', St base hI mu outer env L m ls h' → Ex base hI e X c .none h' → Q () { s with heap := h' }) : wpAny M A (leaving env (.ref e)) Q E s := by
  unfold leaving
  exact wpAny_bind (r_noteAny hfr H hn y fun h' H' y' => r_flight (s := { s with heap := h' }) (fr := none) H' hn y' fun h2 H2 y2 => h h2 H2 y2)
theorem r_noted3 (hfr : A.frames = some (env :: outer)) (H : St base hI mu outer env L m ls s.heap) (hn : noRec ls) (y : Fx base hI e X c s.heap ∨ Ex base hI e X c (rawInt L) s.heap ∨ Ex base hI e X c .none s.heap) {A' : Around}
    (h : ∀ h', St base hI mu outer env L m ls h' → Ex base hI e X c (rawInt L) h' → E (.ref e) { s with heap := h' }) : notedBy M A env (cameBackBy M A' env E) (.ref e) s := by
  unfold notedBy
  exact r_noteAny hfr H hn y fun h' H' y' => r_came (s := { s with heap := h' }) H' hn y' h
theorem Ex.mono {hI' h : Heap} (y : Ex base hI e X c fl h) (k : ∀ b, hI.get? b = none → (∃ o vs, h.get? b = some o ∧ o.data = .fields vs) → hI'.get? b = none) : Ex base hI' e X c fl h := by
  obtain ⟨⟨oe, vs, T, oT, ts, he, hcls, hd, h1, h2, hT, hdT, h3, hTe, hTb, hTI⟩, nb, nI⟩ := y
  exact ⟨⟨oe, vs, T, oT, ts, he, hcls, hd, h1, h2, hT, hdT, h3, hTe, hTb, k _ hTI ⟨_, _, hT, hdT⟩⟩, nb, k _ nI ⟨_, _, he, hd⟩⟩
end
section
variable {w : World} {A : Around} {R : GenEnd} {Y : Protocol} {n : Nat} {s₀ : Shared} {c : Code} {fs : List Frame} {s : Shared} {env : Env} {K : Flow → Sem PySem.Fin} {H : Value → Sem PySem.Fin} {gd : Bool → Bool} {lv : List Value → List Value}
theorem seg_popE {c' : Code} {p : Pos} {x : Value} (h : cameBackBy (Md w) (A.over c fs) env (fun x s' => Seg (Md w) A R Y n s₀ c (H x) fs s') x s) : Seg (Md w) A R Y n s₀ c' (.raise x) (FrR env K H gd lv c p :: fs) s := by
  refine seg_leaf (.error x) ?_
  dsimp only
  rw [Sem.onRaise_eq_wrap, Sem.wrap_wrap]
  refine seg_wrap ?_
  unfold cameBackBy at h
  refine wpAny_throw ?_
  rw [Sem.bind_eq_wrap, Sem.wrap_wrap]
  exact seg_wrap h
theorem seg_HF {x : Value} (h : wpAny (Md w) (A.over c fs) (noteFrame x env) (fun _ s' => Seg (Md w) A R Y n s₀ c (.raise x) fs s') (fun x s' => Seg (Md w) A R Y n s₀ c (.raise x) fs s') s) : Seg (Md w) A R Y n s₀ c (HF env x) fs s := by
  refine seg_wrap ?_
  refine wpAny_bind (wpAny_mono h (fun _ s' h' => ?_) fun _ _ e => e)
  exact wpAny_theTreesLotGoes h'
end
end
section
variable {w : World} {mean : ExcName → Option Value} {mg mb : Str → Option Value} {base : Heap} {A : Around} {envs : List Env} {n : Nat} {s : Shared} {E Q : Value → Shared → Prop}
def RE (base : Heap) (fs : List Addr) (Lg : Addr) : GenEnd := fun _ s0 r s1 => ∃ h' tk' e, r = .error (.ref e) ∧ s1 = { s0 with heap := h', toks := tk' } ∧ Kp fs [Lg] s0.heap h' ∧ Ex base s0.heap e "ValueError" .none .none h'
abbrev RE' (C : Cx w mean mg mb base A envs n) (Lg : Addr) : GenEnd := RE base (frs envs) Lg
theorem told_raise {l : Addr} {ns : List Int} (C : Cx w mean mg mb base A envs (n + 4)) (G : Gd base s.heap envs) (hl : LI s.heap l ns) (h0 : ns[0]? = some 0)
   (hE : ∀ (h' : Heap) (tk' : Nat) (gn' : Array GenState) (e : Addr), Kp (frs envs) [] s.heap h' → Ex base s.heap e "ValueError" .none .none h' → (AllBare s.gens → AllBare gn') → E (.ref e) { s with heap := h', toks := tk', gens := gn' }) :
   wpAny (Md w) A (call (.ref 70) [.ref l]) Q E s := by
  refine' enter [] [(l, isI ns)] C G (fun p hp => by rw [List.mem_singleton.mp hp]; exact ⟨hl, hl.frs G.ff⟩) ?ho ?hcd ?hb ?hl ?h ?c ?d ?e ?f
  walk_at "m enter"
  intro L h₁ H C'
  repeat walk_at "m go"
  refine r_newInts H .nil (by decide) fun D h₂ H₂ hD hM hDn => ?_
  walk_at "m store"; intro h₃ H₃
  repeat walk_at "m go"
  walk_at "m store"; intro h₄ H₄
  repeat walk_at "m go"
  refine' enterG C' H₄.gd ?gho ?ghcd ?ghb ?ghl ?gh ?gc ?gd ?ge ?gf
  (case gho => k_dflt k_is)
  (case ghcd => k_dflt k_is)
  (case ghb => exact rfl)
  (case ghl => exact locs rfl)
  (case gc => decide)
  (case gd => exact rfl)
  (case ge => exact rfl)
  (case gf => exact rfl)
  intro Lg ga oG nm qn h₅ tk₅ hk5 hLn hgn hNs hoG hGc hGd hGs hLg hab
  have H₅ := H₄.ext hk5
  have hDI : s.heap.get? D = none := hM.2.elim (fun q => nomatch q) id
  have dI : ∀ b, h₄.get? b = none → s.heap.get? b = none := fun b q => H₄.kp.none q
  have hfr : ∀ a ∈ frs (envX (Str.ofString "_law_told") _ L 70 _ [] :: envs), ∃ o, h₄.get? a = some o := fun a ha => by
    obtain ⟨e, he, hf⟩ := List.mem_filterMap.mp ha
    obtain ⟨_, L', o, _, _, hL', _, ho, _⟩ := H₄.ff e he
    rw [hf] at hL'; cases hL'
    exact ⟨o, ho⟩
  have hne45 : ∀ a, h₄.get? a = none → a ∉ frs (envX (Str.ofString "_law_told") _ L 70 _ [] :: envs) := fun a q ha => by
    obtain ⟨o, ho⟩ := hfr a ha
    rw [q] at ho; cases ho
  obtain ⟨oL, es, ep, hoL, hdL, hrL⟩ := id hNs
  obtain ⟨vs, hvs, H₆⟩ := (H₅.sub (ls' := [(l, isI ns), (D, isI [])]) (fun p hp => by
    simp only [List.mem_cons, List.not_mem_nil, or_false] at hp ⊢; rcases hp with rfl | rfl <;> simp)).open
  have hin : ∀ p ∈ ([(D, isI []), (l, isI ns)] : Led), ∃ o, h₄.get? p.1 = some o := fun p hp => let ⟨⟨o, ho, _⟩, _⟩ := H₄.own p hp; ⟨o, ho⟩
  have nin : ∀ a b : Addr, h₄.get? a = none → (∃ o, h₄.get? b = some o) → a ≠ b := fun a b ha ⟨o, ho⟩ q => by rw [q, ho] at ha; cases ha
  have hlL : l ≠ Lg := (nin _ _ hLn (hin _ (.tail _ (.head _)))).symm
  obtain ⟨⟨o2, ho2, no2, rfl⟩, _⟩ := H₆.own _ (.head _)
  refine wpAny_pyIter_gen ⟨_, _, _, hoG, hGc, hGd, hGs⟩ ?_
  refine codeAny_forLoop (fun k s' => s' = _) ?_ 0 rfl
  rintro k _ rfl
  dsimp only
  refine r_nextG (n := 1) (g := s.gens.size) (R := RE' C' Lg) (Y := fun _ _ _ _ _ => False) C'.hnd (C'.T.nolimit.keeps H₅.fr.keep) (by have := C'.depth; omega) ⟨_, _, _, hoG, hGc, hGd, hGs⟩ Array.getElem?_push_size ?_ (fun _ _ _ _ q => q.elim) ?_
  · refine ⟨rfl, seg_func (seg_execs_cons (seg_start C' H₅.gd rfl (by show ScopeKind.function ≠ .module; decide) hNs hab (hne45 Lg hLn) ⟨_, ho2, no2, rfl⟩ hlL fun S0 C'' => seg_wrap ?_))⟩
    walk_at "m go"
    refine wpAny_Constant_none ?_
    repeat walk_at "m go"
    walk_at "m store"; intro g1 S1
    refine seg_execs_cons (seg_For (fun _ => rfl) ?_)
    repeat walk_at "m go"
    obtain ⟨⟨ol1, hol1, nl1, rfl⟩, _⟩ := S1.own _ (.head _)
    refine wpAny_pyIter_list (items := vs.toArray) ⟨_, hol1, rfl, nl1, rfl⟩ ?_
    have itn := S1.hI_fresh
    have itb := S1.base_fresh
    have hlt := S1.lt _ (.head _)
    have S2 := S1.push (P := isIt l 0) { cls := .type "list_iterator", data := .fields #[.ref l, .int 0 0] } ⟨rfl, rfl⟩
    have hitL := S2.notL (.head _)
    have hil : l ≠ g1.objs.size := Nat.ne_of_lt hlt
    intro pz
    dsimp only
    generalize g1.objs.size = it at *
    refine seg_cx_for C' fun C3 => seg_forLoop (r_next C3.hnd S2 itb itn hil (fun p hp => nomatch hp) ?_ ?_)
    · intro v h6 hv S4
      obtain ⟨hilt, tt, rfl⟩ := ints_at hvs hv
      have hx : ns[0]? = some (ns.getD 0 0) := by simp [List.getD, hilt]
      have hx0 : ns.getD 0 0 = 0 := by rw [h0] at hx; exact (Option.some.inj hx).symm
      rw [hx0]
      dsimp only
      refine wpAny_assign_Name ?_
      walk_at "m store"; intro h7 S5
      refine seg_execs_cons (seg_If ?_)
      repeat walk_at "m go"
      rw [if_neg (by decide)]
      refine seg_execs_nil ?_
      refine seg_execs_cons (seg_If ?_)
      repeat walk_at "m go"
      refine seg_execs_cons (seg_If ?_)
      repeat walk_at "m go"
      refine wpAny_Constant_none ?_
      refine is_none_none ?_
      repeat walk_at "m go"
      refine seg_execs_cons (seg_wrap (Raise_madeB PySem.F.excCall_ValueError PySem.F.excRaise_ValueError C3.hnd ?_))
      repeat walk_at "m go"
      refine ⟨rfl, ?_⟩
      repeat walk_at "m go"
      refine wpAny_Constant_str ?_
      repeat walk_at "m go"
      refine ⟨(by show 1 ≤ sizeLine; decide), fun h8 e hmade => ?_⟩
      obtain ⟨S6, y6⟩ := (S5.sub (ls' := []) (fun p hp => nomatch hp)).exc hmade.newExc
      refine seg_HF (r_noteAny C3.stack S6 noRec_nil (.inl y6) fun h9 S9 y9 => ?_)
      refine seg_popE (r_came (s := { s with heap := h9, toks := _, gens := _ }) S9 noRec_nil y9 fun h10 S10 y10 => ?_)
      refine seg_wrap (r_leave C''.stack S10 noRec_nil (.inr (.inl y10)) fun h11 S11 y11 => ?_)
      refine seg_end (.error (.ref e)) ⟨h11, _, e, rfl, rfl, ?_, ?_⟩
      · obtain ⟨oL', es', ep', hoL', hdL', _⟩ := S11.fr.ns
        refine (S11.kp.unhide (fun b hb => ?_)).less fun b hb => .inl ?_
        · have : b = Lg := by simpa using hb
          subst this
          exact ⟨S11.outerL, _, hoL'⟩
        · simpa using hb
      · refine y11.mono fun b q ⟨o, vs', ho, hdo⟩ => ?_
        obtain ⟨oL', es', ep', hoL', hdL', _⟩ := S11.fr.ns
        rw [hide_out] at q
        · exact q
        · intro hb
          have : b = Lg := by simpa using hb
          subst this
          rw [hoL'] at ho; cases ho
          rw [hdL'] at hdo; cases hdo
    · intro hn
      have : vs.length = ns.length := hvs.length
      rw [List.getElem?_eq_none_iff] at hn
      have h1 : 0 < ns.length := (List.getElem?_eq_some_iff.mp h0).1
      omega
  · rintro r s₁ ⟨h', tk', e, rfl, rfl, kk, y⟩
    right
    have hLD := nin _ _ hLn (hin _ (.head _))
    have H8 := (H₅.sub (ls' := []) (fun p hp => nomatch hp)).call (ls' := []) kk (fun b hb => by rw [List.mem_singleton.mp hb]; exact Heap.get?_none_of_le hab) (fun b hb => by rw [List.mem_singleton.mp hb]; exact .inr (dI _ hLn)) (fun p hp => nomatch hp)
    have dI5 : ∀ b, h₅.get? b = none → s.heap.get? b = none := fun b q => H₅.kp.none q
    have y' := y.mono (hI' := s.heap) fun b q _ => dI5 b q
    obtain ⟨⟨oe, ves, T, oT, ts, he, hcls, r'⟩, _⟩ := id y'
    refine ⟨e, oe, rfl, he, hcls, ⟨_, _, _, kk.keep ga _ hoG (by simp [hLg.symm]) (hne45 ga hgn), hGc, hGd, hGs⟩, ?_⟩
    refine r_noted3 C'.stack H8 noRec_nil (.inr (.inr y')) fun h9 H9 y9 => ?_
    refine r_leave C'.stack H9 noRec_nil (.inr (.inl y9)) fun h10 H10 y10 => ?_
    exact hE h10 _ _ e H10.kp y10 fun z => allBare_set (allBare_set (z.push rfl) rfl _) rfl _
end
section
theorem paired_eq {l₁ l₂ : List Value} (h : Paired (fun v y => y = v) l₁ l₂) : l₂ = l₁ := by
  induction h with
  | nil => rfl
  | cons e _ ih => rw [e, ih]
section
variable {w : World} {A : Around} {E : Value → Shared → Prop} {s : Shared} {base hI : Heap} {mu : List Addr} {outer : List Env} {env : Env} {L : Addr} {m : Str → Option Value} {ls : Led}
abbrev testsOf (ifs : List Expr) (cenv : Env) : Sem Bool := forIn ifs true fun c r => if r = true then do let ok ← isTrue c cenv (eval c cenv); pure (ForInStep.yield ok) else pure (ForInStep.yield r)
theorem r_compV {elt iter : Expr} {x : Str} {px : Pos} {ifs : List Expr} {scope : Scope} {cl : List (Str × Addr)} {pos : Pos} {Q : Value → Shared → Prop} (p : Value → Bool)
    (hh : A.handled = none) (hclos : closureFor scope env = pure cl) (hcell : ∀ y ∈ scope.names, y.2 ≠ .cell) (hkind : scope.kind = .function)
    (hnames : ∀ y ∈ scope.names, y.2 = .local → scope.names.lookup y.1 = some .local) (hx : scope.names.lookup x = some .local)
    (h : wpAny (Md w) A (eval iter env) (fun xv s₁ => ∃ (ax : Addr) (vs : List Value), xv = .ref ax ∧ s₁.heap.IsList ax vs.toArray ∧ vs.length ≤ sizeLine ∧ St base hI mu outer env L m ls s₁.heap ∧
      (∀ C v s₂ m₂ E', v ∈ vs → s₂.heap.Ns C m₂ → m₂ x = some v → (∀ b o, s₁.heap.get? b = some o → s₂.heap.get? b = some o) → wpAny (Md w) A (testsOf ifs (compEnvC scope cl C env)) (fun ok s₃ => ok = p v ∧ Keeps s₂ s₃) E' s₂) ∧
      (∀ C v s₂ m₂ E', v ∈ vs → s₂.heap.Ns C m₂ → m₂ x = some v → wpAny (Md w) A (eval elt (compEnvC scope cl C env)) (fun y s₃ => y = v ∧ Keeps s₂ s₃) E' s₂) ∧
      (∀ D h' tk, St base hI mu outer env L m ((D, isV (vs.filter p)) :: ls) h' → (∀ q ∈ ls, q.1 ≠ D) → Mu base hI mu D → s₁.heap.get? D = none → Q (.ref D) { s₁ with heap := h', toks := tk })) E s)
    (hs : ∀ x, foldedSetIterable iter env x = pure x) :
    wpAny (Md w) A (eval (.ListComp elt [⟨.Name x px, iter, ifs, 0⟩] scope pos) env) Q E s := by
  refine wpAny_ListComp_free p (fun v y => y = v) hclos hcell hkind hnames hx (wpAny_mono h (fun xv s₁ h₁ => ?_) fun _ _ e => e) hs
  obtain ⟨ax, vs, rfl, hl, hsz, H, htests, helt, hQ⟩ := h₁
  have hlt : ax < s₁.heap.objs.size := by obtain ⟨_, e, _⟩ := hl; exact Heap.lt_size e
  have up : ∀ (s₃ : Shared), (∀ b o, b ∉ [s₁.heap.objs.size] → (s₁.heap.push { cls := .type "list_iterator", data := .fields #[.ref ax, .int 0 0] }).get? b = some o → s₃.heap.get? b = some o) → ∀ b o, s₁.heap.get? b = some o → s₃.heap.get? b = some o :=
    fun s₃ hk b o e => hk b o (fun hm => by rcases List.mem_cons.mp hm with rfl | hm; exact Nat.lt_irrefl _ (Heap.lt_size e); cases hm) (Heap.get?_push_of_some _ e)
  refine wpAny_pyIter_list hl ⟨s₁.heap.objs.size, [s₁.heap.objs.size, ax], [s₁.heap.objs.size], vs.toArray.size, _, _, rfl, Walks.list hh _ _ (Nat.ne_of_lt hlt) vs.toArray, (by rw [List.size_toArray]; exact hsz), ⟨⟨_, Heap.get?_push_size _ rfl, rfl, rfl⟩, hl.push _⟩, ?_, ⟨?_, ?_⟩, ?_⟩
  · intro b hb
    show b < (s₁.heap.push _).objs.size
    rw [Heap.size_push]
    rcases List.mem_cons.mp hb with rfl | hb
    · exact Nat.lt_succ_self _
    · rcases List.mem_cons.mp hb with rfl | hb
      · exact Nat.lt_succ_of_lt hlt
      · cases hb
  · intro C i v s₃ m₃ E' _ hP hn hm hk _
    exact htests C v s₃ m₃ E' (by simpa using Array.mem_of_getElem? hP) hn hm (up s₃ hk)
  · intro C i v s₃ m₃ E' _ hP hp hn hm hk _
    exact helt C v s₃ m₃ E' (by simpa using Array.mem_of_getElem? hP) hn hm
  · intro D h' tk ys vs' hnew hlD hpl hlen hP hF hk
    have e : vs' = vs := by simpa using list_of_places hlen hP
    subst e
    have keep : ∀ b o, s₁.heap.get? b = some o → h'.get? b = some o := up { s₁ with heap := h' } hk
    have hy := paired_eq hF
    obtain ⟨k, hD⟩ := hpl
    have hn1 : s₁.heap.get? D = none := by
      cases q : s₁.heap.get? D with
      | none => rfl
      | some o => have := Heap.get?_push_of_some (h := s₁.heap) { cls := .type "list_iterator", data := .fields #[.ref ax, .int 0 0] } q; rw [hnew] at this; cases this
    have hys : ys = (vs'.filter p).toArray := by rw [← hy]
    obtain ⟨a1, a2, a3⟩ := H.callR (P := isV (vs'.filter p)) (.ext keep) ⟨_, hD, k, by rw [hys]⟩ (by
      cases q : base.get? D with
      | none => rfl
      | some o => have := H.fr.keep _ _ q; rw [hn1] at this; cases this) hn1
    exact hQ D h' tk a1 a2 a3 hn1
theorem r_compR {elt iter : Expr} {x : Str} {px : Pos} {ifs : List Expr} {scope : Scope} {cl : List (Str × Addr)} {pos : Pos} {Q : Value → Shared → Prop} (p : Int → Bool)
    (hh : A.handled = none) (hclos : closureFor scope env = pure cl) (hcell : ∀ y ∈ scope.names, y.2 ≠ .cell) (hkind : scope.kind = .function)
    (hnames : ∀ y ∈ scope.names, y.2 = .local → scope.names.lookup y.1 = some .local) (hx : scope.names.lookup x = some .local)
    (h : wpAny (Md w) A (eval iter env) (fun xv s₁ => ∃ (r : Addr), ∃ a₀ b₀ c₀ t₀ u₀ v₀, ∃ n : Nat, xv = .ref r ∧ IsRange s₁.heap r a₀ b₀ c₀ t₀ u₀ v₀ ∧ Builtin.Range.small a₀ b₀ c₀ = true ∧ Builtin.Range.rangeSize a₀ b₀ c₀ = (n : Int) ∧ n ≤ sizeLine ∧ St base hI mu outer env L m ls s₁.heap ∧
      (∀ C a t s₂ m₂ E', a ∈ rangeInts a₀ c₀ n → s₂.heap.Ns C m₂ → m₂ x = some (.int a t) → (∀ b o, s₁.heap.get? b = some o → s₂.heap.get? b = some o) → wpAny (Md w) A (testsOf ifs (compEnvC scope cl C env)) (fun ok s₃ => ok = p a ∧ Keeps s₂ s₃) E' s₂) ∧
      (∀ C a t s₂ m₂ E', s₂.heap.Ns C m₂ → m₂ x = some (.int a t) → wpAny (Md w) A (eval elt (compEnvC scope cl C env)) (fun y s₃ => y = .int a t ∧ Keeps s₂ s₃) E' s₂) ∧
      (∀ D h' tk, St base hI mu outer env L m ((D, isI ((rangeInts a₀ c₀ n).filter p)) :: ls) h' → (∀ q ∈ ls, q.1 ≠ D) → Mu base hI mu D → s₁.heap.get? D = none → Q (.ref D) { s₁ with heap := h', toks := tk })) E s)
    (hs : ∀ x, foldedSetIterable iter env x = pure x) :
    wpAny (Md w) A (eval (.ListComp elt [⟨.Name x px, iter, ifs, 0⟩] scope pos) env) Q E s := by
  refine wpAny_ListComp_free (ItemKind.int.lift p) (fun v y => y = v) hclos hcell hkind hnames hx (wpAny_mono h (fun xv s₁ h₁ => ?_) fun _ _ e => e) hs
  obtain ⟨r, a₀, b₀, c₀, t₀, u₀, v₀, n, rfl, hr, hsmall, hn, hsz, H, htests, helt, hQ⟩ := h₁
  have up : ∀ (s₃ : Shared), (∀ b o, b ∉ [s₁.heap.objs.size] → (s₁.heap.push { cls := .type "range_iterator", data := .fields #[rawInt a₀, rawInt (Builtin.Range.rangeSize a₀ b₀ c₀), rawInt c₀] }).get? b = some o → s₃.heap.get? b = some o) → ∀ b o, s₁.heap.get? b = some o → s₃.heap.get? b = some o :=
    fun s₃ hk b o e => hk b o (fun hm => by rcases List.mem_cons.mp hm with rfl | hm; exact Nat.lt_irrefl _ (Heap.lt_size e); cases hm) (Heap.get?_push_of_some _ e)
  refine wpAny_pyIter_range hr hsmall ⟨s₁.heap.objs.size, [s₁.heap.objs.size], [s₁.heap.objs.size], n, _, _, rfl, (Walks.range hh _ a₀ c₀ n).bound, hsz, (by show IsRangeIter _ _ _ _ _; rw [hn]; simpa using Heap.get?_push_size _ rfl), ?_, ⟨?_, ?_⟩, ?_⟩
  · intro b hb
    show b < (s₁.heap.push _).objs.size
    rw [Heap.size_push]
    rcases List.mem_cons.mp hb with rfl | hb
    · exact Nat.lt_succ_self _
    · cases hb
  · intro C i v s₃ m₃ E' hC hP hn' hm hk _
    have ha : ItemKind.int.is (a₀ + (i : Nat) * c₀) v := hP.2
    rw [ItemKind.lift_is ha]
    obtain ⟨t, rfl⟩ := ItemKind.int_is ha
    exact htests C _ t s₃ m₃ E' (List.mem_of_getElem? (rangeInts_get hP.1)) hn' hm (up s₃ hk)
  · intro C i v s₃ m₃ E' hC hP hp hn' hm hk _
    have ha : ItemKind.int.is (a₀ + (i : Nat) * c₀) v := hP.2
    obtain ⟨t, rfl⟩ := ItemKind.int_is ha
    exact helt C _ t s₃ m₃ E' hn' hm
  · intro D h' tk ys vs' hnew hlD hpl hlen hP hF hk
    have keep : ∀ b o, s₁.heap.get? b = some o → h'.get? b = some o := up { s₁ with heap := h' } hk
    have hy := paired_eq hF
    obtain ⟨k, hD⟩ := hpl
    have hn1 : s₁.heap.get? D = none := by
      cases q : s₁.heap.get? D with
      | none => rfl
      | some o => have := Heap.get?_push_of_some (h := s₁.heap) { cls := .type "range_iterator", data := .fields #[rawInt a₀, rawInt (Builtin.Range.rangeSize a₀ b₀ c₀), rawInt c₀] } q; rw [hnew] at this; cases this
    have key : ∀ (us : List Value) (as : List Int), AreOf .int us as → IntsAre (us.filter (ItemKind.int.lift p)) (as.filter p) := by
      intro us as hi
      induction hi with
      | nil => exact .nil
      | cons ha _ ih =>
        rename_i a v _ _ _
        have e : ItemKind.int.lift p v = p a := ItemKind.lift_is ha
        obtain ⟨t, rfl⟩ := ItemKind.int_is ha
        cases q : p a with
        | true => rw [List.filter_cons_of_pos (by rw [e]; exact q), List.filter_cons_of_pos q]; exact .cons a t ih
        | false => rw [List.filter_cons_of_neg (by rw [e, q]; simp), List.filter_cons_of_neg (by rw [q]; simp)]; exact ih
    have hi : AreOf .int vs' (rangeInts a₀ c₀ n) := AreOf.of_get (hlen.trans (rangeInts_length _ _ _).symm) fun j v hv => ⟨_, rangeInts_get (hP j v hv).1, (hP j v hv).2⟩
    have hys : ys = (vs'.filter (ItemKind.int.lift p)).toArray := by rw [← hy]
    obtain ⟨a1, a2, a3⟩ := H.callR (P := isI ((rangeInts a₀ c₀ n).filter p)) (.ext keep) ⟨_, hD, vs'.filter (ItemKind.int.lift p), k, by rw [hys], key _ _ hi⟩ (by
      cases q : base.get? D with
      | none => rfl
      | some o => have := H.fr.keep _ _ q; rw [hn1] at this; cases this) hn1
    exact hQ D h' tk a1 a2 a3 hn1
end
end
section
abbrev isCell (v : Value) : Obj → Prop := fun o => o.data = .cell (some v)
abbrev isCell0 : Obj → Prop := fun o => ∃ v, o.data = .cell v
section
variable {w : World} {M : Model} {A : Around} {E : Value → Shared → Prop} {s : Shared} {name : Str} {scope : Scope} {a : Addr} {cd : Value} {cl : List (Str × Addr)} {base hI : Heap} {mu : List Addr} {outer envs : List Env} {env : Env} {L : Addr} {m : Str → Option Value} {ls : Led}
  {mean : ExcName → Option Value} {mg mb : Str → Option Value} {n : Nat}
theorem r_nameC {x : Str} {pos : Pos} {c : Addr} {v : Value} {Q : Value → Shared → Prop} (H : St base hI mu outer (envX name scope L a cd cl) L m ls s.heap) (hm : (c, isCell v) ∈ ls) (hc : cl.lookup x = some c)
    (hk : scope.kind = .function) (hl : (envX name scope L a cd cl).kindOf x = some .cell) (hd : (x == ("__debug__" : Str)) = false) (h : Q v s) : wpAny M A (eval (.Name x pos) (envX name scope L a cd cl)) Q E s :=
  let ⟨o, ho, hP⟩ := H.get hm
  wpAny_Name (wpAny_loadName_cell hk hl hc ⟨o, ho, hP⟩ h) hd
theorem St.cell_ff {h : Heap} {c : Addr} {o : Obj} {v : Option Value} (H : St base hI mu outer env L m ls h) (ho : h.get? c = some o) (hd : o.data = .cell v) : c ∉ frs (env :: outer) := fun q => by
  obtain ⟨e, he, hf⟩ := List.mem_filterMap.mp q
  obtain ⟨_, L', o', _, _, hL', _, ho', hd'⟩ := H.ff e he
  rw [hf] at hL'; cases hL'
  rw [ho] at ho'; cases ho'
  rw [hd] at hd'; cases hd'
theorem r_storeC {x : Str} {c : Addr} {v : Value} {P : Obj → Prop} {Q : Unit → Shared → Prop} (H : St base hI mu outer (envX name scope L a cd cl) L m ((c, P) :: ls) s.heap) (hP : ∀ o, P o → isCell0 o) (hM : Mu base hI mu c) (hs : ∀ p ∈ ls, p.1 ≠ c) (hc : cl.lookup x = some c)
    (hk : scope.kind = .function) (hl : (envX name scope L a cd cl).kindOf x = some .cell)
    (h : ∀ h', St base hI mu outer (envX name scope L a cd cl) L m ((c, isCell v) :: ls) h' → Q () { s with heap := h' }) : wpAny M A (storeName (envX name scope L a cd cl) x v) Q E s := by
  obtain ⟨o, ho, hPo⟩ := H.get (.head _)
  obtain ⟨v0, hd⟩ := hP o hPo
  refine wpAny_storeName_cell hk hl hc ⟨o, ho, hd⟩ fun h' hv hsb => ?_
  obtain ⟨o', ho', hd'⟩ := hv
  exact h h' (H.put hsb ho' hd' hM.1 hM.2 hs)
theorem enterC {f : Addr} {vals : List Value} {Q : Value → Shared → Prop} {name qual : Str} {params : Arguments} {body : List Stmt} {scope : Scope} {dV kV doc pm cdv ct oc : Value} {an od : Option Addr} {osl : Array (Option Value)} {binds : List (Str × Value)}
    (mu : List Addr) (ls : Led) (cl : Addr → List (Str × Addr)) (hcl : ∀ L, cellsFrom (L + 1) scope.names [] = cl L)
    (C : Cx w mean mg mb base A envs (n + 1)) (G : Gd base s.heap envs) (hls : ∀ p ∈ ls, (∃ o, s.heap.get? p.1 = some o ∧ p.2 o) ∧ p.1 ∉ frs envs)
    (ho : (hd.heap_39 w.params).lookup f = some ⟨oc, od, .func (fnOf name qual params body scope dV kV doc pm an cdv ct), osl⟩) (hcd : codeIn (hd.heap_39 w.params) cdv qual = true)
    (hbind : bindArgs (fnOf name qual params body scope dV kV doc pm an cdv ct) ⟨vals, []⟩ = pure binds) (hloc : ∀ y ∈ binds, scope.names.lookup y.1 = some .local)
    (h : ∀ L h₁ tk, s.heap.objs.size = L → St base s.heap mu envs (envX qual scope L f cdv (cl L)) L (bindL (envX qual scope L f cdv (cl L)).kindOf binds fun _ => none) ls h₁ →
      (∀ nm c, (cl L).lookup nm = some c → ∃ o, h₁.get? c = some o ∧ isCell0 o) →
      Cx w mean mg mb base (A.deeper (envX qual scope L f cdv (cl L))) (envX qual scope L f cdv (cl L) :: envs) n →
      wpAny (Md w) (A.deeper (envX qual scope L f cdv (cl L))) (execs body (envX qual scope L f cdv (cl L))) (fun fl s' => Q (match fl with | .ret v => v | _ => .none) s')
        (fun e s' => wpAny (Md w) (A.deeper (envX qual scope L f cdv (cl L))) (leaving (envX qual scope L f cdv (cl L)) e) (fun _ s'' => E e s'') (fun e' s'' => E e' s'') s')
        { s with heap := h₁, toks := tk })
    (hco : scope.isCoroutine = false) (hgen : scope.isGenerator = false) (hk : scope.kind = .function) :
    wpAny (Md w) A (call (.ref f) vals) Q E s := by
  have X := C.X.keeps G.stays
  refine wpAny_call (codeAny_call_cells (fd := fnOf name qual params body scope dV kV doc pm an cdv ct) (body := body) (binds := binds) (by have := C.depth; omega) (X _ _ ho) rfl (C.T.nolimit.keeps G.stays) (codeRec_of X hcd) rfl hbind rfl (fun y hy => .inl (hloc y hy)) (fun s₁ x => ?_) hco hgen hk)
  have hee : callEnvC (fnOf name qual params body scope dV kV doc pm an cdv ct) s.heap.objs.size f = envX qual scope s.heap.objs.size f cdv (cl s.heap.objs.size) := by rw [← hcl]; rfl
  rw [hee] at x ⊢
  obtain ⟨⟨⟨h₁, tk, rfl⟩, hns, hkeep, habove⟩, hcell, _, _⟩ := x
  refine h s.heap.objs.size h₁ tk rfl (St.start (env := envX qual scope s.heap.objs.size f cdv (cl s.heap.objs.size)) G hls rfl (by show scope.kind ≠ _; rw [hk]; decide) hns hkeep) (fun nm c hc => ?_) (C.deeper _)
  obtain ⟨o, ho, hd⟩ := hcell nm c hc
  exact ⟨o, ho, _, hd⟩
end
end
section
abbrev isRI (x left : Int) : Obj → Prop := fun o => o = { cls := .type "range_iterator", dict := none, data := .fields #[rawInt x, rawInt left, rawInt 1], slots := #[] }
section
variable {w : World} {M : Model} {A : Around} {E : Value → Shared → Prop} {s : Shared} {name : Str} {scope : Scope} {a : Addr} {cd : Value} {cl : List (Str × Addr)}
  {base hI : Heap} {mu : List Addr} {outer : List Env} {env : Env} {L : Addr} {m : Str → Option Value} {ls : Led}
theorem r_forR {x : Str} {px : Pos} {body : List Stmt} {N : Nat} {r : Addr} {t₀ u₀ v₀ : Tok} {Q : Flow → Shared → Prop} (hnd : A.handled = none) (hk : scope.kind = .function) (hx : (envX name scope L a cd cl).kindOf x = some .local)
    (H : St base hI mu outer (envX name scope L a cd cl) L m ls s.heap) (hr : IsRange s.heap r 0 N 1 t₀ u₀ v₀) (hsm : Builtin.Range.small 0 N 1 = true) (hsz : Builtin.Range.rangeSize 0 N 1 = N) (J : Nat → (Str → Option Value) → Led → Prop) (h0 : J 0 m ls)
    (turn : ∀ (Nx : Shared → Prop) i t it h' tk' gn' m' ls', (∀ h' tk' gn' m' ls', (AllBare s.gens → AllBare gn') → J (i + 1) m' ls' → (∀ p ∈ ls', p.1 ≠ it) → St base hI mu outer (envX name scope L a cd cl) L m' ((it, isRI (i + 1) (N - i - 1)) :: ls') h' → Nx { s with heap := h', toks := tk', gens := gn' }) →
      i < N → s.heap.get? it = none → (AllBare s.gens → AllBare gn') → J i m' ls' → (∀ p ∈ ls', p.1 ≠ it) →
      St base hI mu outer (envX name scope L a cd cl) L (fun y => if y = x then some (.int i t) else m' y) ((it, isRI (i + 1) (N - i - 1)) :: ls') h' →
      wpAny (Md w) A (execs body (envX name scope L a cd cl)) (fun f s₃ => match f with
        | .next | .cont => Nx s₃
        | .brk => False
        | .ret v => Q (.ret v) s₃) (notedBy (Md w) A (envX name scope L a cd cl) (cameBackBy (Md w) A (envX name scope L a cd cl) E)) { s with heap := h', toks := tk', gens := gn' })
    (fin : ∀ h' tk' gn' m' ls', (AllBare s.gens → AllBare gn') → J N m' ls' → St base hI mu outer (envX name scope L a cd cl) L m' ls' h' → Q .next { s with heap := h', toks := tk', gens := gn' }) :
    wpAny (Md w) A (pyIter (.ref r)) (fun it s₂ => codeAny (Md w) A (.forLoop (.Name x px) it body [] (envX name scope L a cd cl)) (fun r s' => match r with | .ok f => Q f s' | .error e => cameBackBy (Md w) A (envX name scope L a cd cl) E e s') s₂) E s := by
  refine wpAny_pyIter_range hr hsm ?_
  rw [hsz]
  have itn : s.heap.get? s.heap.objs.size = none := Heap.get?_none_of_le (Nat.le_refl _)
  have itb := H.base_fresh
  have itI := H.hI_fresh
  have H1 := H.push (P := isRI 0 N) { cls := .type "range_iterator", data := .fields #[rawInt 0, rawInt N, rawInt 1] } rfl
  have hne1 : ∀ p ∈ ls, p.1 ≠ s.heap.objs.size := fun p hp => Nat.ne_of_lt (H.lt p hp)
  generalize s.heap.objs.size = it at *
  refine codeAny_forLoop (fun k s' => ∃ i h' tk' gn' m' ls', k = N - i ∧ i ≤ N ∧ s' = { s with heap := h', toks := tk', gens := gn' } ∧ (AllBare s.gens → AllBare gn') ∧ J i m' ls' ∧ (∀ p ∈ ls', p.1 ≠ it) ∧ St base hI mu outer (envX name scope L a cd cl) L m' ((it, isRI i (N - i)) :: ls') h') ?_ N ⟨0, _, _, _, m, ls, rfl, Nat.zero_le _, rfl, id, h0, hne1, by simpa using H1⟩
  rintro k _ ⟨i, h', tk', gn', m', ls', rfl, hi, rfl, hB, hJ, hne, H'⟩
  obtain ⟨⟨oi, hoi, hoe⟩, hif⟩ := H'.own _ (.head _)
  subst hoe
  by_cases q : i < N
  · refine wpAny_pyNext_range_item (x := i) (left := N - i) (step := 1) hoi (by omega) fun h'' hit hs => ?_
    have H2 : St base hI mu outer (envX name scope L a cd cl) L m' ((it, isRI (i + 1) (N - i - 1)) :: ls') h'' := H'.put hs hit rfl itb (.inr itI) hne
    dsimp only
    refine wpAny_assign_Name (r_store H2 hk hx fun h3 H3 => ?_)
    have ee : (isRI (i + 1) (N - i - 1)) = isRI ((i + 1 : Nat) : Int) ((N : Int) - (i + 1 : Nat)) := by
      have e1 : ((N : Int) - (i + 1 : Nat)) = N - i - 1 := by omega
      rw [e1]; rfl
    refine wpAny_mono (turn (fun s₃ => ∃ h' tk' gn' m' ls', s₃ = { s with heap := h', toks := tk', gens := gn' } ∧ (AllBare s.gens → AllBare gn') ∧ J (i + 1) m' ls' ∧ (∀ p ∈ ls', p.1 ≠ it) ∧ St base hI mu outer (envX name scope L a cd cl) L m' ((it, isRI (i + 1) (N - i - 1)) :: ls') h')
      i _ it h3 _ gn' m' ls' (fun h' tk' gn' m' ls' e0 e2 e3 e4 => ⟨h', tk', gn', m', ls', rfl, e0, e2, e3, e4⟩) q itn hB hJ hne H3) (fun f s₃ h₃ => ?_) fun _ _ e => e
    cases f with
    | next => obtain ⟨h4, tk4, gn4, m4, ls4, e1, e0, e2, e3, e4⟩ := h₃; exact ⟨N - (i + 1), by omega, i + 1, h4, tk4, gn4, m4, ls4, rfl, q, e1, e0, e2, e3, ee ▸ e4⟩
    | cont => obtain ⟨h4, tk4, gn4, m4, ls4, e1, e0, e2, e3, e4⟩ := h₃; exact ⟨N - (i + 1), by omega, i + 1, h4, tk4, gn4, m4, ls4, rfl, q, e1, e0, e2, e3, ee ▸ e4⟩
    | brk => exact h₃.elim
    | ret v => exact h₃
  · have hil' : i = N := by omega
    subst hil'
    refine wpAny_pyNext_range_end hnd hoi (by omega) fun h'' hext => ?_
    dsimp only
    refine wpAny_execs_nil (fin h'' _ gn' m' ls' hB hJ ?_)
    exact H'.extBut hext hif itb itI fun p hp => ⟨.tail _ hp, hne p hp⟩

/-- for over a list, the target in a cell -/
theorem r_forC {x : Str} {px : Pos} {body : List Stmt} {vs : List Value} {l c : Addr} {Q : Flow → Shared → Prop} (hnd : A.handled = none) (hk : scope.kind = .function) (hx : (envX name scope L a cd cl).kindOf x = some .cell) (hc : cl.lookup x = some c) (hM : Mu base hI mu c) (hcl : l ≠ c)
    (H : St base hI mu outer (envX name scope L a cd cl) L m ((l, isV vs) :: (c, isCell0) :: ls) s.heap) (hcne : ∀ p ∈ ls, p.1 ≠ c) (J : Nat → (Str → Option Value) → Led → Prop) (h0 : J 0 m ls)
    (turn : ∀ (Nx : Shared → Prop) i v it h' tk' m' ls', (∀ h' tk' m' ls', J (i + 1) m' ls' → (∀ p ∈ ls', p.1 ≠ it ∧ p.1 ≠ c) → St base hI mu outer (envX name scope L a cd cl) L m' ((it, isIt l (i + 1)) :: (l, isV vs) :: (c, isCell v) :: ls') h' → Nx { s with heap := h', toks := tk' }) →
      s.heap.get? it = none → vs[i]? = some v → J i m' ls' → (∀ p ∈ ls', p.1 ≠ it ∧ p.1 ≠ c) → it ≠ l → it ≠ c →
      St base hI mu outer (envX name scope L a cd cl) L m' ((it, isIt l (i + 1)) :: (l, isV vs) :: (c, isCell v) :: ls') h' →
      wpAny (Md w) A (execs body (envX name scope L a cd cl)) (fun f s₃ => match f with
        | .next | .cont => Nx s₃
        | .brk => False
        | .ret v => Q (.ret v) s₃) (notedBy (Md w) A (envX name scope L a cd cl) (cameBackBy (Md w) A (envX name scope L a cd cl) E)) { s with heap := h', toks := tk' })
    (fin : ∀ h' tk' m' ls', J vs.length m' ls' → (∀ p ∈ ls', p.1 ≠ c) → St base hI mu outer (envX name scope L a cd cl) L m' ((l, isV vs) :: (c, isCell0) :: ls') h' → Q .next { s with heap := h', toks := tk' }) :
    wpAny (Md w) A (pyIter (.ref l)) (fun it s₂ => codeAny (Md w) A (.forLoop (.Name x px) it body [] (envX name scope L a cd cl)) (fun r s' => match r with | .ok f => Q f s' | .error e => cameBackBy (Md w) A (envX name scope L a cd cl) E e s') s₂) E s := by
  obtain ⟨⟨o, ho, n, rfl⟩, hf⟩ := H.own _ (.head _)
  refine wpAny_pyIter_list (items := vs.toArray) ⟨_, ho, rfl, n, rfl⟩ ?_
  have itn : s.heap.get? s.heap.objs.size = none := Heap.get?_none_of_le (Nat.le_refl _)
  have itb := H.base_fresh
  have itI := H.hI_fresh
  have H1 := H.push (P := isIt l 0) { cls := .type "list_iterator", data := .fields #[.ref l, .int 0 0] } ⟨rfl, rfl⟩
  have hne1 : ∀ p ∈ ((l, isV vs) :: (c, isCell0) :: ls : Led), p.1 ≠ s.heap.objs.size := fun p hp => Nat.ne_of_lt (H.lt p hp)
  generalize s.heap.objs.size = it at *
  have hil : it ≠ l := (hne1 _ (.head _)).symm
  have hic : it ≠ c := (hne1 _ (.tail _ (.head _))).symm
  refine codeAny_forLoop (fun k s' => ∃ i h' tk' m' ls', k = vs.length - i ∧ i ≤ vs.length ∧ s' = { s with heap := h', toks := tk' } ∧ J i m' ls' ∧ (∀ p ∈ ls', p.1 ≠ it ∧ p.1 ≠ c) ∧ St base hI mu outer (envX name scope L a cd cl) L m' ((it, isIt l i) :: (l, isV vs) :: (c, isCell0) :: ls') h') ?_ vs.length
    ⟨0, _, _, m, ls, rfl, Nat.zero_le _, rfl, h0, fun p hp => ⟨hne1 p (.tail _ (.tail _ hp)), hcne p hp⟩, H1⟩
  rintro k _ ⟨i, h', tk', m', ls', rfl, hi, rfl, hJ, hne, H'⟩
  refine r_next hnd H' itb itI hil.symm (fun p hp => ?_) (fun v h2 hv H2 => ?_) fun hv h2 hext => ?_
  · rcases List.mem_cons.mp hp with rfl | hp
    · exact hic.symm
    · exact (hne p hp).1
  · have hil2 : i < vs.length := (List.getElem?_eq_some_iff.mp hv).1
    dsimp only
    have H3 := H2.sub (ls' := ((c, isCell0) :: (it, isIt l (i + 1)) :: (l, isV vs) :: ls')) (fun p hp => by
      simp only [List.mem_cons] at hp ⊢
      rcases hp with rfl | rfl | rfl | hp <;> simp [*])
    refine wpAny_assign_Name (r_storeC H3 (fun o z => z) hM (fun p hp => ?_) hc hk hx fun h3 H4 => ?_)
    · simp only [List.mem_cons] at hp
      rcases hp with rfl | rfl | hp
      · exact hic
      · exact hcl
      · exact (hne p hp).2
    have H5 := H4.sub (ls' := ((it, isIt l (i + 1)) :: (l, isV vs) :: (c, isCell v) :: ls')) (fun p hp => by
      simp only [List.mem_cons] at hp ⊢
      rcases hp with rfl | rfl | rfl | hp <;> simp [*])
    have back : ∀ {m4 : Str → Option Value} {ls4 : Led} {h4 : Heap}, St base hI mu outer (envX name scope L a cd cl) L m4 ((it, isIt l (i + 1)) :: (l, isV vs) :: (c, isCell v) :: ls4) h4 → St base hI mu outer (envX name scope L a cd cl) L m4 ((it, isIt l (i + 1)) :: (l, isV vs) :: (c, isCell0) :: ls4) h4 := fun {m4 ls4 h4} Z => by
      obtain ⟨⟨oc, hoc, hPc⟩, hcf⟩ := Z.own (c, isCell v) (.tail _ (.tail _ (.head _)))
      exact (Z.more (P := isCell0) hoc ⟨_, hPc⟩ hcf).sub (fun p hp => by
        simp only [List.mem_cons] at hp ⊢
        rcases hp with rfl | rfl | rfl | hp <;> simp [*])
    refine wpAny_mono (turn (fun s₃ => ∃ h' tk' m' ls', s₃ = { s with heap := h', toks := tk' } ∧ J (i + 1) m' ls' ∧ (∀ p ∈ ls', p.1 ≠ it ∧ p.1 ≠ c) ∧ St base hI mu outer (envX name scope L a cd cl) L m' ((it, isIt l (i + 1)) :: (l, isV vs) :: (c, isCell v) :: ls') h')
      i v it h3 _ m' ls' (fun h' tk' m' ls' e2 e3 e4 => ⟨h', tk', m', ls', rfl, e2, e3, e4⟩) itn hv hJ hne hil hic H5) (fun f s₃ h₃ => ?_) fun _ _ e => e
    cases f with
    | next => obtain ⟨h4, tk4, m4, ls4, e1, e2, e3, e4⟩ := h₃; exact ⟨vs.length - (i + 1), by omega, i + 1, h4, tk4, m4, ls4, rfl, hil2, e1, e2, e3, back e4⟩
    | cont => obtain ⟨h4, tk4, m4, ls4, e1, e2, e3, e4⟩ := h₃; exact ⟨vs.length - (i + 1), by omega, i + 1, h4, tk4, m4, ls4, rfl, hil2, e1, e2, e3, back e4⟩
    | brk => exact h₃.elim
    | ret v => exact h₃
  · have hi2 : i = vs.length := by
      have := List.getElem?_eq_none_iff.mp hv
      omega
    subst hi2
    dsimp only
    refine wpAny_execs_nil (fin h2 _ m' ls' hJ (fun p hp => (hne p hp).2) ?_)
    exact H'.extBut hext (H'.own _ (.head _)).2 itb itI fun p hp => ⟨.tail _ hp, by
      simp only [List.mem_cons] at hp
      rcases hp with rfl | rfl | hp
      · exact hil.symm
      · exact hic.symm
      · exact (hne p hp).1⟩
end
end
section
section
variable {w : World} {M : Model} {A : Around} {E : Value → Shared → Prop} {s : Shared} {base hI : Heap} {mu : List Addr} {outer : List Env} {env : Env} {L : Addr} {m : Str → Option Value} {ls : Led}
theorem r_sum {l : Addr} {ns : List Int} {Q : Value → Shared → Prop} (hh : A.handled = none) (H : St base hI mu outer env L m ls s.heap) (x : LI s.heap l ns)
    (h : ∀ h' tk t', St base hI mu outer env L m ls h' → Q (.int ns.sum t') { s with heap := h', toks := tk }) : wpAny (Md w) A (call (.builtin "sum") [.ref l]) Q E s := by
  obtain ⟨vs, hl, hi⟩ := x.isList
  obtain ⟨xs, e⟩ := hi.allInts.items
  have e2 := hi.numsOf
  rw [e] at hl
  have e3 : vs = (intItems xs).toList := by rw [← e]
  rw [e3, nums_intItems] at e2
  refine sum_intListG hh hl fun h' tk t' hk => ?_
  have e4 : preSum (numAt xs) xs.size = ns.sum := by rw [preSum_eq, List.take_of_length_le (by simp), e2]
  rw [e4]
  exact h h' tk t' (H.ext hk)
theorem r_slice3 {value : Expr} {lo st : Expr} {sp : Pos} {l : Addr} {ns : List Int} {k j : Int} {u v : Tok} {ops : List Value} {Q : Value → Shared → Prop} (H : St base hI mu outer env L m ls s.heap) (x : LI s.heap l ns) (hj : j ≠ 0) (hz : ns.length ≤ sizeLine)
    (hs : subscripted (.Slice (some lo) none (some st) sp) false (.ref l) (.ref s.heap.objs.size) = operate ops (getItem (.ref l) (.ref s.heap.objs.size))) (ht : ∀ r, letTemporaryGo value (.ref l) r = pure ())
    (h : ∀ d h', St base hI mu outer env L m ((d, isI (pickNums ns (some k) none (some j))) :: ls) h' → (∀ p ∈ ls, p.1 ≠ d) → Mu base hI mu d → s.heap.get? d = none → Q (.ref d) { s with heap := h' }) :
    wpAny (Md w) A (subscriptTail value (.Slice (some lo) none (some st) sp) (.ref l) (.ref s.heap.objs.size)) Q E { s with heap := s.heap.push { cls := .type "slice", data := .fields #[.int k u, .none, .int j v] } } := by
  obtain ⟨vs, hl, hi⟩ := x.isList
  exact kmk_slice3_lit H.fr H.news hl (IsPart.int _ _) IsPart.none (IsPart.int _ _) (fun q => hj (Option.some.inj q)) rfl (fun d h' F' N' hlt => let ⟨a, b, c, d', e⟩ := H.backN F' N' (P := isI (pickNums ns (some k) none (some j))) ⟨_, _, rfl, hi.pick (some k) none (some j)⟩ hlt; h d h' a b ⟨c, .inr d'⟩ e) hs ht (by rw [List.size_toArray, hi.length]; exact hz)
theorem r_rev {value : Expr} {st : Expr} {sp : Pos} {l : Addr} {ns : List Int} {v : Tok} {ops : List Value} {Q : Value → Shared → Prop} (H : St base hI mu outer env L m ls s.heap) (x : LI s.heap l ns) (hz : ns.length ≤ sizeLine)
    (hs : subscripted (.Slice none none (some st) sp) false (.ref l) (.ref s.heap.objs.size) = operate ops (getItem (.ref l) (.ref s.heap.objs.size))) (ht : ∀ r, letTemporaryGo value (.ref l) r = pure ())
    (h : ∀ d h', St base hI mu outer env L m ((d, isI ns.reverse) :: ls) h' → (∀ p ∈ ls, p.1 ≠ d) → Mu base hI mu d → s.heap.get? d = none → Q (.ref d) { s with heap := h' }) :
    wpAny (Md w) A (subscriptTail value (.Slice none none (some st) sp) (.ref l) (.ref s.heap.objs.size)) Q E { s with heap := s.heap.push { cls := .type "slice", data := .fields #[.none, .none, .int (-1) v] } } := by
  obtain ⟨vs, hl, hi⟩ := x.isList
  exact krv_ints H.fr H.news hl (IsPart.int _ _) hi (fun d ws h' F' N' hlt hw _ => let ⟨a, b, c, d', e⟩ := H.backN F' N' (P := isI ns.reverse) ⟨_, _, rfl, hw⟩ hlt; h d h' a b ⟨c, .inr d'⟩ e) hs ht (by rw [List.size_toArray, hi.length]; exact hz)
theorem r_upto {value : Expr} {hiE : Expr} {sp : Pos} {l : Addr} {ns : List Int} {k : Int} {u : Tok} {Q : Value → Shared → Prop} (H : St base hI mu outer env L m ls s.heap) (x : LI s.heap l ns) (h0 : 0 ≤ k) (hz : ns.length ≤ sizeLine)
    (hs : subscripted (.Slice none (some hiE) none sp) false (.ref l) (.ref s.heap.objs.size) = operate [.ref s.heap.objs.size, .ref l] (getItem (.ref l) (.ref s.heap.objs.size))) (ht : ∀ r, letTemporaryGo value (.ref l) r = pure ())
    (h : ∀ d h', St base hI mu outer env L m ((d, isI (ns.take k.toNat)) :: ls) h' → (∀ p ∈ ls, p.1 ≠ d) → Mu base hI mu d → s.heap.get? d = none → Q (.ref d) { s with heap := h' }) :
    wpAny (Md w) A (subscriptTail value (.Slice none (some hiE) none sp) (.ref l) (.ref s.heap.objs.size)) Q E { s with heap := s.heap.push { cls := .type "slice", data := .fields #[.none, .int k u, .none] } } := by
  obtain ⟨vs, hl, hi⟩ := x.isList
  exact kmk_slice_ints H.fr H.news hl IsPart.none (IsPart.int _ _) hi (kmk_upto hi h0) rfl (fun d ws h' F' N' hlt hw _ _ => let ⟨a, b, c, d', e⟩ := H.backN F' N' (P := isI (ns.take k.toNat)) ⟨_, _, rfl, hw⟩ hlt; h d h' a b ⟨c, .inr d'⟩ e) hs ht (kmk_sz hi hz)
theorem r_all {value : Expr} {sp : Pos} {l : Addr} {ns : List Int} {Q : Value → Shared → Prop} (H : St base hI mu outer env L m ls s.heap) (x : LI s.heap l ns) (hz : ns.length ≤ sizeLine)
    (hs : subscripted (.Slice none none none sp) false (.ref l) (.ref s.heap.objs.size) = operate [.ref s.heap.objs.size, .ref l] (getItem (.ref l) (.ref s.heap.objs.size))) (ht : ∀ r, letTemporaryGo value (.ref l) r = pure ())
    (h : ∀ d h', St base hI mu outer env L m ((d, isI ns) :: ls) h' → (∀ p ∈ ls, p.1 ≠ d) → Mu base hI mu d → s.heap.get? d = none → Q (.ref d) { s with heap := h' }) :
    wpAny (Md w) A (subscriptTail value (.Slice none none none sp) (.ref l) (.ref s.heap.objs.size)) Q E { s with heap := s.heap.push { cls := .type "slice", data := .fields #[.none, .none, .none] } } := by
  obtain ⟨vs, hl, hi⟩ := x.isList
  exact kmk_slice_ints H.fr H.news hl IsPart.none IsPart.none hi (kmk_all hi) rfl (fun d ws h' F' N' hlt hw _ _ => let ⟨a, b, c, d', e⟩ := H.backN F' N' (P := isI ns) ⟨_, _, rfl, hw⟩ hlt; h d h' a b ⟨c, .inr d'⟩ e) hs ht (kmk_sz hi hz)
end
end
section
def szN (a b k : Nat) : List Int := [(a : Int) + 2, (b : Int) + 2].take (k + 1)
def endN (e : Nat) : List Int := ([[0], [127], []] : List (List Int)).getD e []
def goodB (ms : List Int) : Bool := decide (ms.Pairwise (· < ·)) && ms.all (fun x => decide (1 ≤ x) && decide (x ≤ 24)) && decide (ms.length ≤ 24)
theorem told_cells : ∀ a : Fin 5, ∀ b : Fin 5, ∀ k : Fin 2, ∀ e : Fin 3, toldF (szN a b k ++ endN e) = byHand (szN a b k) (e.val : Int) ∧ goodB (byHand (szN a b k) (e.val : Int)) = true := by decide +kernel
theorem cell_side : ∀ a : Fin 5, ∀ b : Fin 5, ∀ k : Fin 2, ∀ e : Fin 3, (szN a b k ++ endN e)[0]? ≠ some 0 ∧ (∀ x ∈ szN a b k ++ endN e, 0 ≤ x) ∧ (szN a b k ++ endN e).length < 100 ∧ (szN a b k).length + (endN e).length < 100 ∧ 0 < (szN a b k).length ∧ (szN a b k).length < 100 ∧ (∀ x ∈ szN a b k, 1 ≤ x) := by decide +kernel
theorem cells (c : Int) : ∃ a : Fin 5, ∃ b : Fin 5, ∃ k : Fin 2, ∃ e : Fin 3, [c.fmod 5 + 2, (c.fdiv 5).fmod 5 + 2].take ((c.fdiv 25).fmod 2 + 1).toNat = szN a b k ∧ (c.fdiv 50).fmod 3 = (e.val : Int) ∧ 0 ≤ (c.fdiv 25).fmod 2 + 1 := by
  have fm : ∀ (x : Int) (n : Nat), 0 < n → ∃ k : Fin n, x.fmod n = (k.val : Int) := fun x n hn => by
    have h1 := Int.fmod_nonneg_of_pos x (b := n) (by omega)
    have h2 := Int.fmod_lt_of_pos x (b := n) (by omega)
    exact ⟨⟨(x.fmod n).toNat, by omega⟩, by show x.fmod n = ((x.fmod n).toNat : Int); omega⟩
  obtain ⟨a, ha⟩ := fm c 5 (by decide)
  obtain ⟨b, hb⟩ := fm (c.fdiv 5) 5 (by decide)
  obtain ⟨k, hk⟩ := fm (c.fdiv 25) 2 (by decide)
  obtain ⟨e, he⟩ := fm (c.fdiv 50) 3 (by decide)
  have ha' : c.fmod 5 = (a.val : Int) := ha
  have hb' : (c.fdiv 5).fmod 5 = (b.val : Int) := hb
  have hk' : (c.fdiv 25).fmod 2 = (k.val : Int) := hk
  refine ⟨a, b, k, e, ?_, he, by rw [hk']; omega⟩
  rw [ha', hb', hk']
  rfl
end
section
section
variable {w : World} {M : Model} {A : Around} {E : Value → Shared → Prop} {s : Shared} {base hI : Heap} {mu : List Addr} {outer : List Env} {env : Env} {L : Addr} {m : Str → Option Value} {ls : Led}
theorem r_newVals {vs : List Value} {Q : Value → Shared → Prop} (H : St base hI mu outer env L m ls s.heap) (hz : vs.length ≤ sizeLine)
    (h : ∀ l h', St base hI mu outer env L m ((l, isV vs) :: ls) h' → (∀ p ∈ ls, p.1 ≠ l) → Mu base hI mu l → s.heap.get? l = none → Q (.ref l) { s with heap := h' }) : wpAny M A (newList vs) Q E s :=
  newList_K H.fr H.news (fun l h' F' N' hl => let ⟨a, b, c, d, e⟩ := H.backN F' N' (P := isV vs) ⟨_, rfl⟩ hl; h l h' a b ⟨c, .inr d⟩ e) hz
theorem r_appendV {D : Addr} {vs : List Value} {v : Value} {Q : Value → Shared → Prop} (H : St base hI mu outer env L m ((D, isV vs) :: ls) s.heap) (hm : Mu base hI mu D) (hs : ∀ p ∈ ls, p.1 ≠ D) (hz : vs.length ≤ sizeLine)
    (h : ∀ h', St base hI mu outer env L m ((D, isV (vs ++ [v])) :: ls) h' → Q .none { s with heap := h' }) : wpAny (Md w) A (call (.builtin "list.append") [.ref D, v]) Q E s := by
  obtain ⟨o, ho, n, rfl⟩ := H.get (.head _)
  refine append_K H.fr (H.newsD (.head _) ho hm.1) oth_upd (fun h' F' N' => h h' (H.backU F' N' ⟨n + 1, by simp⟩ hm hs)) ?_
  rw [List.size_toArray]; exact hz
end
end
section
section
variable {w : World} {M : Model} {A : Around} {E : Value → Shared → Prop} {s : Shared} {base hI : Heap} {mu : List Addr} {outer : List Env} {env : Env} {L : Addr} {m : Str → Option Value} {ls : Led}
theorem subT {α : Type _} {l : List α} (is : List Nat) (n : Nat) : ∀ p ∈ is.filterMap (fun i => l[i]?) ++ l.drop n, p ∈ l := fun p hp => by
  rcases List.mem_append.mp hp with hp | hp
  · obtain ⟨i, _, e⟩ := List.mem_filterMap.mp hp
    exact List.mem_of_getElem? e
  · exact List.mem_of_mem_drop hp
theorem St.pickAs {h : Heap} (H : St base hI mu outer env L m ls h) (is : List Nat) (n : Nat) (ls' : Led) (e : is.filterMap (fun i => ls[i]?) ++ ls.drop n = ls') : St base hI mu outer env L m ls' h := e ▸ H.sub (subT is n)
theorem ac {α : Type _} {P : α → Prop} {a : α} {l : List α} (h : P a) (t : ∀ p ∈ l, P p) : ∀ p ∈ a :: l, P p := List.forall_mem_cons.mpr ⟨h, t⟩
theorem r_sumO {l : Addr} {ns : List Int} {Q : Value → Shared → Prop} (hh : A.handled = none) (H : St base hI mu outer env L m ls s.heap) (x : LI s.heap l ns)
    (h : ∀ z h' tk t', St base hI mu outer env L m ls h' → Q (.int z t') { s with heap := h', toks := tk }) : wpAny (Md w) A (call (.builtin "sum") [.ref l]) Q E s := r_sum hh H x fun h' tk t' H' => h _ h' tk t' H'
theorem r_itemO {value slice : Expr} {l : Addr} {ns : List Int} {k : Int} {u : Tok} {Q : Value → Shared → Prop} (x : LI s.heap l ns) (h0 : 0 ≤ k) (h1 : k < ns.length) (hfit : k < 2 ^ 63)
    (hs : subscripted slice false (.ref l) (.int k u) = operate [.ref l, .int k u] (getItem (.ref l) (.int k u))) (h : ∀ z t, Q (.int z t) s) :
    wpAny (Md w) A (subscriptTail value slice (.ref l) (.int k u)) Q E s := r_item x h0 h1 hfit hs fun t => h _ t
theorem add_intO {a b : Int} {t u : Tok} {Q : Value → Shared → Prop} (h : ∀ z, Q (.int z s.toks) { s with toks := s.toks + 1 }) : wpAny (Md w) A (binaryOp .Add (.int a t) (.int b u)) Q E s := PyProof.Rows.add_int (h _)
theorem r_uptoE {value : Expr} {hiE : Expr} {sp : Pos} {l : Addr} {ns : List Int} {k : Int} {u : Tok} {Q : Value → Shared → Prop} (zs : List Int) (e : ns.take k.toNat = zs) (H : St base hI mu outer env L m ls s.heap) (x : LI s.heap l ns) (h0 : 0 ≤ k) (hz : ns.length ≤ sizeLine)
    (hs : subscripted (.Slice none (some hiE) none sp) false (.ref l) (.ref s.heap.objs.size) = operate [.ref s.heap.objs.size, .ref l] (getItem (.ref l) (.ref s.heap.objs.size))) (ht : ∀ r, letTemporaryGo value (.ref l) r = pure ())
    (h : ∀ d h', St base hI mu outer env L m ((d, isI zs) :: ls) h' → (∀ p ∈ ls, p.1 ≠ d) → Mu base hI mu d → s.heap.get? d = none → Q (.ref d) { s with heap := h' }) :
    wpAny (Md w) A (subscriptTail value (.Slice none (some hiE) none sp) (.ref l) (.ref s.heap.objs.size)) Q E { s with heap := s.heap.push { cls := .type "slice", data := .fields #[.none, .int k u, .none] } } := by
  subst e
  exact r_upto H x h0 hz hs ht h
def LV (h : Heap) (a : Addr) (vs : List Value) : Prop := ∃ o, h.get? a = some o ∧ isV vs o
theorem St.lv {h : Heap} {a : Addr} {vs : List Value} (H : St base hI mu outer env L m ls h) (hm : (a, isV vs) ∈ ls) : LV h a vs := H.get hm
theorem LV.isList {h : Heap} {a : Addr} {vs : List Value} (x : LV h a vs) : h.IsList a vs.toArray := let ⟨_, ho, n, e⟩ := x; ⟨_, ho, by rw [e], n, by rw [e]⟩
theorem r_getMV {nm : Str} {id : String} {pl : Sem Bool} {l : Addr} {vs : List Value} {Q : Value × List Value → Shared → Prop} (x : LV s.heap l vs) (slot : Slot "list" nm id) (hty : typeOf (.builtin id) = pure (.type "method_descriptor"))
    (h : Q (.builtin id, [.ref l]) s) : wpAny (Md w) A (getMethod (.ref l) nm pl) Q E s := by
  obtain ⟨o, ho, n, rfl⟩ := x
  exact getMethod_builtin ⟨_, ho, rfl⟩ PySem.F.plainAttrs_list slot hty (fun a e => by cases e; exact ⟨_, ho, rfl⟩) h
end
end
section
section
variable {w : World} {M : Model} {A : Around} {E : Value → Shared → Prop} {s : Shared} {base hI : Heap} {mu : List Addr} {outer : List Env} {env : Env} {L : Addr} {m : Str → Option Value} {ls : Led}
  {hp : Heap} {g : Array GenState} {d : Drawn} {k : Nat} {o : OsState} {name : Str} {scope : Scope} {a : Addr} {cd : Value} {cl : List (Str × Addr)}
theorem flat {α : Type} {t : Sem α} {Q : α → Shared → Prop} (hp : Heap) (g : Array GenState) (s0 : Shared) (e1 : s.heap = hp) (e2 : s.gens = g) (e3 : s.drawn = s0.drawn) (e4 : s.os = s0.os) (H : ∀ k, wpAny M A t Q E ⟨hp, g, s0.drawn, k, s0.os⟩) : wpAny M A t Q E s := by
  have := H s.toks
  rw [← e1, ← e2, ← e3, ← e4] at this
  exact this
theorem constF {i kk pos} {Q : Value → Shared → Prop} (h : ∀ t k', Q (.int i t) ⟨hp, g, d, k', o⟩) : wpAny M A (eval (.Constant (.int i) kk pos) env) Q E ⟨hp, g, d, k, o⟩ := wpAny_Constant_int (h _ _)
theorem addF {x y : Int} {t u : Tok} {Q : Value → Shared → Prop} (h : ∀ t k', Q (.int (x + y) t) ⟨hp, g, d, k', o⟩) : wpAny (Md w) A (binaryOp .Add (.int x t) (.int y u)) Q E ⟨hp, g, d, k, o⟩ := PyProof.Rows.add_int (h _ _)
theorem modF {x y : Int} {t u : Tok} {Q : Value → Shared → Prop} (hb : y ≠ 0) (h : ∀ t k', Q (.int (x.fmod y) t) ⟨hp, g, d, k', o⟩) : wpAny (Md w) A (binaryOp .Mod (.int x t) (.int y u)) Q E ⟨hp, g, d, k, o⟩ := PyProof.Rows.mod_int hb (h _ _)
theorem fdivF {x y : Int} {t u : Tok} {Q : Value → Shared → Prop} (hb : y ≠ 0) (hp' : Builtin.divisionGoesByPylong x y = false) (h : ∀ t k', Q (.int (x.fdiv y) t) ⟨hp, g, d, k', o⟩) : wpAny (Md w) A (binaryOp .FloorDiv (.int x t) (.int y u)) Q E ⟨hp, g, d, k, o⟩ := PyProof.Rows.floordiv_int hb (h _ _) (.inl hp')
theorem storeF {x : Str} {v : Value} {Q : Unit → Shared → Prop} (H : St base hI mu outer (envX name scope L a cd cl) L m ls hp)
    (hk : scope.kind = .function) (hl : (envX name scope L a cd cl).kindOf x = some .local)
    (h : ∀ h' k', St base hI mu outer (envX name scope L a cd cl) L (fun y => if y = x then some v else m y) ls h' → Q () ⟨h', g, d, k', o⟩) :
    wpAny M A (storeName (envX name scope L a cd cl) x v) Q E ⟨hp, g, d, k, o⟩ := r_store (s := ⟨hp, g, d, k, o⟩) H hk hl fun h' H' => h h' _ H'
theorem r_neE {l k : Addr} {ns ms : List Int} {Q : Value → Shared → Prop} (x : LI s.heap l ns) (y : LI s.heap k ms) (e : ns = ms) (hu : A.units + 64 < cLine) (h : Q (.bool false) s) : wpAny (Md w) A (compareOp .NotEq (.ref l) (.ref k)) Q E s := by
  refine r_ne x y hu ?_
  rw [decide_eq_true e]
  exact h
end
end
section
def hasI (ns : List Int) (k : Int) : Bool := ns.any (· == k)
section
variable {w : World} {A : Around} {E : Value → Shared → Prop} {s : Shared} {base hI : Heap} {mu : List Addr} {outer : List Env} {env : Env} {L : Addr} {m : Str → Option Value} {ls : Led}
theorem keeps_rfl (s : Shared) : Keeps s s := ⟨s.heap, s.toks, rfl, fun _ _ e => e⟩
theorem LI.ext {h h' : Heap} {a : Addr} {ns : List Int} (x : LI h a ns) (k : ∀ b o, h.get? b = some o → h'.get? b = some o) : LI h' a ns := let ⟨o, ho, r⟩ := x; ⟨o, k _ _ ho, r⟩
def CV (h : Heap) (c : Addr) (v : Value) : Prop := ∃ o, h.get? c = some o ∧ isCell v o
theorem CV.ext {h h' : Heap} {c : Addr} {v : Value} (x : CV h c v) (k : ∀ b o, h.get? b = some o → h'.get? b = some o) : CV h' c v := let ⟨o, ho, r⟩ := x; ⟨o, k _ _ ho, r⟩
theorem n_loc {x : Str} {pos : Pos} {v : Value} {Q : Value → Shared → Prop} (hk : env.scope.kind = .function) (hx : env.kindOf x = some .local) (hn : s.heap.Ns env.locals m) (hm : m x = some v) (hd : (x == ("__debug__" : Str)) = false) (h : Q v s) :
    wpAny (Md w) A (eval (.Name x pos) env) Q E s := wpAny_Name (wpAny_loadName_local hk hx hn hm h) hd
theorem n_cel {x : Str} {pos : Pos} {c : Addr} {v : Value} {Q : Value → Shared → Prop} (hk : env.scope.kind = .function) (hx : env.kindOf x = some .cell) (hc : env.cells.lookup x = some c) (hm : CV s.heap c v) (hd : (x == ("__debug__" : Str)) = false) (h : Q v s) :
    wpAny (Md w) A (eval (.Name x pos) env) Q E s := let ⟨o, ho, hP⟩ := hm; wpAny_Name (wpAny_loadName_cell hk hx hc ⟨o, ho, hP⟩ h) hd
theorem r_in {l : Addr} {ns : List Int} {k : Int} {t : Tok} {Q : Value → Shared → Prop} (x : LI s.heap l ns) (h : Q (.bool (hasI ns k)) s) : wpAny (Md w) A (compareOp .In (.int k t) (.ref l)) Q E s :=
  let ⟨_, hl, hi⟩ := x.isList; in_list_ints hl hi h
theorem r_notin {l : Addr} {ns : List Int} {k : Int} {t : Tok} {Q : Value → Shared → Prop} (x : LI s.heap l ns) (h : Q (.bool (!hasI ns k)) s) : wpAny (Md w) A (compareOp .NotIn (.int k t) (.ref l)) Q E s :=
  let ⟨_, hl, hi⟩ := x.isList; notin_list_ints hl hi h
theorem t_notin {x y : Str} {p1 p2 p3 : Pos} {c l : Addr} {ns : List Int} {k : Int} {t : Tok} (hk : env.scope.kind = .function) (hx : env.kindOf x = some .local) (hy : env.kindOf y = some .cell) (hc : env.cells.lookup y = some c) (hd1 : (x == ("__debug__" : Str)) = false) (hd2 : (y == ("__debug__" : Str)) = false)
    (hn : s.heap.Ns env.locals m) (hm : m x = some (.int k t)) (hcv : CV s.heap c (.ref l)) (hl : LI s.heap l ns) :
    wpAny (Md w) A (testsOf [.Compare (.Name x p1) [.NotIn] [.Name y p2] p3] env) (fun ok s₃ => ok = !hasI ns k ∧ Keeps s s₃) E s := by
  refine wpAny_tests_one (wpAny_isTrue_Compare1 (n_loc hk hx hn hm hd1 (n_cel hk hy hc hcv hd2 (r_notin hl (wpAny_truthy_bool ⟨rfl, keeps_rfl s⟩)))) ?_)
  with_unfolding_all rfl
theorem t_xor {x y z : Str} {p1 p2 p3 p4 p5 p6 p7 : Pos} {c c' l l' : Addr} {ns ns' : List Int} {k : Int} {t : Tok} (hk : env.scope.kind = .function) (hx : env.kindOf x = some .local) (hy : env.kindOf y = some .cell) (hc : env.cells.lookup y = some c) (hz : env.kindOf z = some .cell) (hc' : env.cells.lookup z = some c')
    (hd1 : (x == ("__debug__" : Str)) = false) (hd2 : (y == ("__debug__" : Str)) = false) (hd3 : (z == ("__debug__" : Str)) = false)
    (hn : s.heap.Ns env.locals m) (hm : m x = some (.int k t)) (hcv : CV s.heap c (.ref l)) (hl : LI s.heap l ns) (hcv' : CV s.heap c' (.ref l')) (hl' : LI s.heap l' ns') :
    wpAny (Md w) A (testsOf [.Compare (.Compare (.Name x p1) [.In] [.Name y p2] p3) [.NotEq] [.Compare (.Name x p4) [.In] [.Name z p5] p6] p7] env) (fun ok s₃ => ok = (hasI ns k != hasI ns' k) ∧ Keeps s s₃) E s := by
  refine wpAny_tests_one (wpAny_isTrue_Compare1 (wpAny_Compare1 (n_loc hk hx hn hm hd1 (n_cel hk hy hc hcv hd2 (r_in hl (wpAny_Compare1 (n_loc hk hx hn hm hd1 (n_cel hk hz hc' hcv' hd3 (r_in hl' (ne_bool (wpAny_truthy_bool ⟨rfl, keeps_rfl s⟩))))) ?_)))) ?_) ?_)
  all_goals with_unfolding_all rfl
theorem t_in {x y : Str} {p1 p2 p3 : Pos} {c l : Addr} {ns : List Int} {k : Int} {t : Tok} (hk : env.scope.kind = .function) (hx : env.kindOf x = some .cell) (hc : env.cells.lookup x = some c) (hy : env.kindOf y = some .local) (hd1 : (x == ("__debug__" : Str)) = false) (hd2 : (y == ("__debug__" : Str)) = false)
    (hn : s.heap.Ns env.locals m) (hm : m y = some (.ref l)) (hcv : CV s.heap c (.int k t)) (hl : LI s.heap l ns) :
    wpAny (Md w) A (testsOf [.Compare (.Name x p1) [.In] [.Name y p2] p3] env) (fun ok s₃ => ok = hasI ns k ∧ Keeps s s₃) E s := by
  refine wpAny_tests_one (wpAny_isTrue_Compare1 (n_cel hk hx hc hcv hd1 (n_loc hk hy hn hm hd2 (r_in hl (wpAny_truthy_bool ⟨rfl, keeps_rfl s⟩)))) ?_)
  with_unfolding_all rfl
theorem t_elt {x : Str} {pos : Pos} {v : Value} (hk : env.scope.kind = .function) (hx : env.kindOf x = some .local) (hd : (x == ("__debug__" : Str)) = false) (hn : s.heap.Ns env.locals m) (hm : m x = some v) :
    wpAny (Md w) A (eval (.Name x pos) env) (fun y s₃ => y = v ∧ Keeps s s₃) E s := n_loc hk hx hn hm hd ⟨rfl, keeps_rfl s⟩
def onInt (p : Int → Bool) : Value → Bool
  | .int k _ => p k
  | _ => false
theorem ints_filter (p : Int → Bool) {vs : List Value} {ns : List Int} (h : IntsAre vs ns) : IntsAre (vs.filter (onInt p)) (ns.filter p) := by
  induction h with
  | nil => exact .nil
  | cons k t h ih =>
    cases q : p k with
    | true => rw [List.filter_cons_of_pos (by exact q), List.filter_cons_of_pos q]; exact .cons k t ih
    | false => rw [List.filter_cons_of_neg (by show ¬ p k = true; rw [q]; decide), List.filter_cons_of_neg (by rw [q]; decide)]; exact ih
theorem ints_mem {vs : List Value} {ns : List Int} (h : IntsAre vs ns) {v : Value} (hv : v ∈ vs) : ∃ k t, v = .int k t ∧ k ∈ ns := by
  induction h with
  | nil => cases hv
  | cons k t h ih =>
    rcases List.mem_cons.mp hv with rfl | hv
    · exact ⟨k, t, rfl, .head _⟩
    · obtain ⟨k', t', e, hm⟩ := ih hv; exact ⟨k', t', e, .tail _ hm⟩
/-- a block over a list of ints at hand -/
theorem r_compI {elt iter : Expr} {x : Str} {px : Pos} {ifs : List Expr} {scope : Scope} {cl : List (Str × Addr)} {pos : Pos} {ax : Addr} {ns : List Int} {Q : Value → Shared → Prop} (p : Int → Bool)
    (hh : A.handled = none) (hclos : closureFor scope env = pure cl) (hcell : ∀ y ∈ scope.names, y.2 ≠ .cell) (hkind : scope.kind = .function)
    (hnames : ∀ y ∈ scope.names, y.2 = .local → scope.names.lookup y.1 = some .local) (hx : scope.names.lookup x = some .local) (hs : ∀ x, foldedSetIterable iter env x = pure x)
    (H : St base hI mu outer env L m ls s.heap) (hl : LI s.heap ax ns) (hz : ns.length ≤ sizeLine)
    (hit : ∀ (Q' : Value → Shared → Prop), Q' (.ref ax) s → wpAny (Md w) A (eval iter env) Q' E s)
    (ht : ∀ C k t s₂ m₂ E', s₂.heap.Ns C m₂ → m₂ x = some (.int k t) → (∀ b o, s.heap.get? b = some o → s₂.heap.get? b = some o) → wpAny (Md w) A (testsOf ifs (compEnvC scope cl C env)) (fun ok s₃ => ok = p k ∧ Keeps s₂ s₃) E' s₂)
    (he : ∀ C v s₂ m₂ E', s₂.heap.Ns C m₂ → m₂ x = some v → wpAny (Md w) A (eval elt (compEnvC scope cl C env)) (fun y s₃ => y = v ∧ Keeps s₂ s₃) E' s₂)
    (h : ∀ D h' tk, St base hI mu outer env L m ((D, isI (ns.filter p)) :: ls) h' → (∀ q ∈ ls, q.1 ≠ D) → Mu base hI mu D → s.heap.get? D = none → Q (.ref D) { s with heap := h', toks := tk }) :
    wpAny (Md w) A (eval (.ListComp elt [⟨.Name x px, iter, ifs, 0⟩] scope pos) env) Q E s := by
  obtain ⟨vs, hl', hi⟩ := hl.isList
  refine r_compV (onInt p) hh hclos hcell hkind hnames hx (hit _ ⟨ax, vs, rfl, hl', by rw [hi.length]; exact hz, H, fun C v s₂ m₂ E' hv hn hm hk => ?_, fun C v s₂ m₂ E' hv hn hm => he C v s₂ m₂ E' hn hm, fun D h' tk H' h1 h2 h3 => h D h' tk (H'.close (ints_filter p hi)) h1 h2 h3⟩) hs
  obtain ⟨k, t, rfl, _⟩ := ints_mem hi hv
  exact ht C k t s₂ m₂ E' hn hm hk
/-- a block over a range -/
theorem r_compN {elt iter : Expr} {x : Str} {px : Pos} {ifs : List Expr} {scope : Scope} {cl : List (Str × Addr)} {pos : Pos} {Q : Value → Shared → Prop} (N : Nat) (p : Int → Bool)
    (hh : A.handled = none) (hclos : closureFor scope env = pure cl) (hcell : ∀ y ∈ scope.names, y.2 ≠ .cell) (hkind : scope.kind = .function)
    (hnames : ∀ y ∈ scope.names, y.2 = .local → scope.names.lookup y.1 = some .local) (hx : scope.names.lookup x = some .local) (hs : ∀ x, foldedSetIterable iter env x = pure x)
    (H : St base hI mu outer env L m ls s.heap) (hsm : Builtin.Range.small 0 N 1 = true) (hsz : Builtin.Range.rangeSize 0 N 1 = N) (hN : N ≤ sizeLine)
    (hit : ∀ (Q' : Value → Shared → Prop), (∀ r h' tk t u v, (∀ b o, s.heap.get? b = some o → h'.get? b = some o) → IsRange h' r 0 N 1 t u v → Q' (.ref r) { s with heap := h', toks := tk }) → wpAny (Md w) A (eval iter env) Q' E s)
    (ht : ∀ C k t s₂ m₂ E', s₂.heap.Ns C m₂ → m₂ x = some (.int k t) → (∀ b o, s.heap.get? b = some o → s₂.heap.get? b = some o) → wpAny (Md w) A (testsOf ifs (compEnvC scope cl C env)) (fun ok s₃ => ok = p k ∧ Keeps s₂ s₃) E' s₂)
    (he : ∀ C v s₂ m₂ E', s₂.heap.Ns C m₂ → m₂ x = some v → wpAny (Md w) A (eval elt (compEnvC scope cl C env)) (fun y s₃ => y = v ∧ Keeps s₂ s₃) E' s₂)
    (h : ∀ D h' tk, St base hI mu outer env L m ((D, isI ((rangeInts 0 1 N).filter p)) :: ls) h' → (∀ q ∈ ls, q.1 ≠ D) → Mu base hI mu D → Q (.ref D) { s with heap := h', toks := tk }) :
    wpAny (Md w) A (eval (.ListComp elt [⟨.Name x px, iter, ifs, 0⟩] scope pos) env) Q E s := by
  refine r_compR (base := base) (hI := hI) (mu := mu) (outer := outer) (L := L) (m := m) (ls := ls) p hh hclos hcell hkind hnames hx (hit _ fun r h' tk t u v hext hr => ?_) hs
  exact ⟨r, 0, N, 1, t, u, v, N, rfl, hr, hsm, hsz, hN, H.ext hext, fun C a t s₂ m₂ E' _ hn hm hk => ht C a t s₂ m₂ E' hn hm (fun b o e => hk b o (hext b o e)), fun C a t s₂ m₂ E' hn hm => he C _ s₂ m₂ E' hn hm, fun D h2 tk2 H' h1 h2' h3 => h D h2 tk2 H' h1 h2'⟩
end
end
section
section
variable {w : World} {A : Around} {E : Value → Shared → Prop} {s : Shared}
theorem newEnvA {scope : Scope} {globals : Addr} {cl : List (Str × Addr)} {qual : Str} {func : Option Addr} {code : Value} {outer : Env} {builtins : Addr} {Q : Env → Shared → Prop}
    (hQ : Q (newEnv scope s.heap.objs.size globals (cellsFrom (s.heap.objs.size + 1) scope.names cl) qual func code (some outer) builtins) { s with heap := pushCells (s.heap.push { cls := .type "dict", data := .dict #[] }) scope.names }) :
    wpAny (Md w) A (newFunctionEnv scope globals cl [] qual func code (some outer) builtins) Q E s := by
  simp only [newFunctionEnv, Option.isSome_some, if_true]
  refine wpAny_bind (wpAny_alloc ?_)
  refine wpAny_bind (wpAny_layCells _ (fun name kind cells => by cases hkc : kind == NameKind.cell <;> simp [hkc]) _ _ _ _ ?_)
  rw [show ({ s with heap := s.heap.push { cls := .type "dict", data := .dict #[] } } : Shared).heap.objs.size = s.heap.objs.size + 1 from Heap.size_push ..]
  exact wpAny_bind (by rw [List.forIn_nil]; exact wpAny_pure (wpAny_pure hQ))

theorem compLoop_cell {iter : Expr} {x : Str} {pe px : Pos} {ifs : List Expr} {scope : Scope} {pos : Pos} {I D c : Addr} {fp wr : List Addr} {n : Nat} {P : Nat → Value → Prop} {St : Nat → Heap → Prop} {R : Result → Shared → Prop}
    {cenv : Env} (W : Walks PySem.Challenge.rw_of0016_01.row.prog w A I fp wr n P St) (p : Value → Bool) (hk : cenv.scope.kind = .function) (hx : cenv.kindOf x = some .cell) (hc : cenv.cells.lookup x = some c) (hd : (x == ("__debug__" : Str)) = false)
    (hDc : D ≠ c) (hDf : D ∉ fp) (hcf : c ∉ fp) (hst : St 0 s.heap) (hacc : s.heap.PlainList D #[]) (hcell : ∃ v, s.heap.IsCell c v)
    (htests : ∀ i v s₂ E', P i v → CV s₂.heap c v → (∀ b o, b ∉ wr → b ≠ D → b ≠ c → s.heap.get? b = some o → s₂.heap.get? b = some o) → wpAny (Md w) A (testsOf ifs cenv) (fun ok s₃ => ok = p v ∧ Keeps s₂ s₃) E' s₂)
    (hsz : n ≤ sizeLine)
    (hR : ∀ h' tk ys (vs : List Value), h'.PlainList D ys → vs.length = n → (∀ j v, vs[j]? = some v → P j v) → ys.toList = vs.filter p →
      (∀ b o, b ∉ wr → b ≠ D → b ≠ c → s.heap.get? b = some o → h'.get? b = some o) → R (.ok .next) { s with heap := h', toks := tk }) :
    codeAny (Md w) A (.compLoop (.ListComp (.Name x pe) [⟨.Name x px, iter, ifs, 0⟩] scope pos) 0 (.ref I) (.ref D) cenv) R s := by
  refine codeAny_compLoop_tests
    (fun k s' => ∃ h' tk ys, ∃ vs : List Value, s' = { s with heap := h', toks := tk } ∧ St vs.length h' ∧ h'.PlainList D ys ∧ (∃ v, h'.IsCell c v) ∧ (∀ j v, vs[j]? = some v → P j v) ∧
      ys.toList = vs.filter p ∧ vs.length ≤ n ∧ k = n + 1 - vs.length ∧
      (∀ b o, b ∉ wr → b ≠ D → b ≠ c → s.heap.get? b = some o → h'.get? b = some o)) ?_ (n + 1)
    ⟨s.heap, s.toks, #[], [], rfl, hst, hacc, hcell, by simp, by simp, Nat.zero_le _, rfl, fun _ _ _ _ _ e => e⟩
  rintro k s' ⟨H, tk, ys, vs, rfl, hst', hacc', ⟨v0, hcell'⟩, hP, hF, hi, rfl, hkp⟩
  have hDw : D ∉ wr := fun h => hDf (W.sub _ h)
  have hcw : c ∉ wr := fun h => hcf (W.sub _ h)
  by_cases hlt : vs.length < n
  · refine W.item vs.length _ _ _ hlt hst' fun v h₁ tk₁ hPv hst₁ hk₁ => ?_
    obtain ⟨oc, hoc, hdc⟩ := hcell'
    refine wpAny_assign_Name (wpAny_storeName_cell hk hx hc ⟨oc, hk₁ c oc hcw hoc, hdc⟩ fun h₂ hv₂ hs₂ => ?_)
    have up₂ : ∀ b o, b ∉ wr → b ≠ c → H.get? b = some o → h₂.get? b = some o := fun b o hbf hbc e => hs₂.extBut b o hbc (hk₁ b o hbf e)
    have hst₂ : St (vs.length + 1) h₂ := W.frame _ _ _ hst₁ fun b hb o e => hs₂.extBut b o (fun h => hcf (h ▸ hb)) e
    obtain ⟨oc2, hoc2, hdc2⟩ := hv₂
    refine wpAny_mono (htests vs.length v _ _ hPv ⟨oc2, hoc2, hdc2⟩ (fun b o hbf hbD hbc e => up₂ b o hbf hbc (hkp b o hbf hbD hbc e))) (fun ok s₃ h₃ => ?_) fun _ _ e => e
    obtain ⟨rfl, h₃, tk₃, rfl, hk₃⟩ := h₃
    have hst₃ : St (vs.length + 1) h₃ := W.frame _ _ _ hst₂ fun b _ o e => hk₃ b o e
    have hacc₃ : h₃.PlainList D ys := hacc'.at fun o e => hk₃ _ o (up₂ D o hDw hDc e)
    have hP' : ∀ j u, (vs ++ [v])[j]? = some u → P j u := fun j u hj => by
      rcases Nat.lt_trichotomy j vs.length with h | h | h
      · exact hP j u (by rwa [List.getElem?_append_left h] at hj)
      · subst h; simp at hj; subst hj; exact hPv
      · have hnone : (vs ++ [v])[j]? = none := List.getElem?_eq_none (by rw [List.length_append, List.length_singleton]; omega)
        rw [hnone] at hj; cases hj
    cases hpv : p v with
    | false =>
      simp only [Bool.false_eq_true, if_false]
      refine ⟨n + 1 - (vs.length + 1), by omega, h₃, tk₃, ys, vs ++ [v], rfl, by simpa using hst₃, hacc₃, ⟨_, oc2, hk₃ _ _ hoc2, hdc2⟩, hP', ?_, (by rw [List.length_append, List.length_singleton]; exact hlt), (by rw [List.length_append, List.length_singleton]), fun b o hbf hbD hbc e => hk₃ b o (up₂ b o hbf hbc (hkp b o hbf hbD hbc e))⟩
      rw [List.filter_append]; simpa [hpv] using hF
    | true =>
      simp only [if_true]
      refine n_cel hk hx hc ⟨oc2, hk₃ _ _ hoc2, hdc2⟩ hd ?_
      have hys : ys.size ≤ sizeLine := by
        have e1 : ys.size = (vs.filter p).length := by rw [← hF]; simp
        have e2 : (vs.filter p).length ≤ vs.length := List.length_filter_le _ _
        omega
      refine wpAny_list_append_plain (hsz := hys) hacc₃ fun h₅ hl₅ hs₅ => ?_
      refine ⟨n + 1 - (vs.length + 1), by omega, h₅, tk₃, ys.push v, vs ++ [v], rfl, ?_, hl₅, ⟨_, oc2, hs₅.extBut _ _ (Ne.symm hDc) (hk₃ _ _ hoc2), hdc2⟩, hP', ?_, (by rw [List.length_append, List.length_singleton]; exact hlt), (by rw [List.length_append, List.length_singleton]),
        fun b o hbf hbD hbc e => hs₅.extBut b o hbD (hk₃ b o (up₂ b o hbf hbc (hkp b o hbf hbD hbc e)))⟩
      · have := W.frame _ _ h₅ hst₃ fun b hb o e => hs₅.extBut b o (fun h => hDf (h ▸ hb)) e
        simpa using this
      · rw [List.filter_append]; simp [hpv, hF]
  · have hin : vs.length = n := by omega
    refine W.done _ _ _ (hin ▸ hst') fun h₁ tk₁ hk₁ => ?_
    exact hR h₁ tk₁ ys vs (hacc'.at fun o e => hk₁ _ o hDw e) hin hP hF fun b o hbf hbD hbc e => hk₁ b o hbf (hkp b o hbf hbD hbc e)
end
theorem ints_places {vs : List Value} {ns : List Int} (hl : vs.length = ns.length) (h : ∀ (j : Nat) (v : Value), vs[j]? = some v → ∃ t, v = .int (ns.getD j 0) t) : IntsAre vs ns := by
  induction vs generalizing ns with
  | nil => cases ns with
    | nil => exact .nil
    | cons _ _ => cases hl
  | cons v vs ih =>
    cases ns with
    | nil => cases hl
    | cons k ns =>
      obtain ⟨t, rfl⟩ := h 0 v rfl
      exact .cons k t (ih (by simpa using hl) fun j u hu => h (j + 1) u hu)
section
variable {w : World} {A : Around} {E : Value → Shared → Prop} {s : Shared} {base hI : Heap} {mu : List Addr} {outer : List Env} {env : Env} {L : Addr} {m : Str → Option Value} {ls : Led}
  {name : Str} {sc : Scope} {a : Addr} {cd : Value} {cl0 : List (Str × Addr)}
theorem St.fresh {h : Heap} {b : Addr} (H : St base hI mu outer env L m ls h) (hn : h.get? b = none) : base.get? b = none ∧ hI.get? b = none ∧ b ∉ frs (env :: outer) ∧ ∀ p ∈ ls, p.1 ≠ b := by
  refine ⟨?_, H.kp.none hn, fun q => ?_, fun p hp q => ?_⟩
  · cases q : base.get? b with
    | none => rfl
    | some o => have := H.fr.keep _ _ q; rw [hn] at this; cases this
  · obtain ⟨e, he, hf⟩ := List.mem_filterMap.mp q
    obtain ⟨_, L', o', _, _, hL', _, ho', _⟩ := H.ff e he
    rw [hf] at hL'; cases hL'
    rw [hn] at ho'; cases ho'
  · obtain ⟨⟨o', ho', _⟩, _⟩ := H.own p hp
    rw [q, hn] at ho'; cases ho'
theorem r_assignN {iter : Expr} {x y : Str} {pe px py : Pos} {ifs : List Expr} {scope : Scope} {cl : List (Str × Addr)} {pos spos : Pos} {Q : Flow → Shared → Prop} (N : Nat) (p : Int → Bool) (hh : A.handled = none)
    (hsw : swapsWith (.ListComp (.Name x pe) [⟨.Name x px, iter, ifs, 0⟩] scope pos) (some (.Name y py)) spos.line (envX name sc L a cd cl0) = pure true)
    (hclos : closureFor scope (envX name sc L a cd cl0) = pure cl) (hkind : scope.kind = .function) (hnames : ∀ z ∈ scope.names, z.2 = .local → scope.names.lookup z.1 = some .local)
    (hcf : ∀ n, cellsFrom n scope.names cl = (x, n) :: cl) (hpc : ∀ h, pushCells h scope.names = h.push { cls := .type "cell", data := .cell none })
    (hx : (relabel scope (envX name sc L a cd cl0)).names.lookup x = some .cell) (hd : (x == ("__debug__" : Str)) = false)
    (hk : sc.kind = .function) (hy : (envX name sc L a cd cl0).kindOf y = some .local) (hs : ∀ x, foldedSetIterable iter (envX name sc L a cd cl0) x = pure x)
    (H : St base hI mu outer (envX name sc L a cd cl0) L m ls s.heap) (hsm : Builtin.Range.small 0 N 1 = true) (hsz : Builtin.Range.rangeSize 0 N 1 = N) (hN : N ≤ sizeLine)
    (hit : ∀ (Q' : Value → Shared → Prop), (∀ r h' tk t u v, (∀ b o, s.heap.get? b = some o → h'.get? b = some o) → IsRange h' r 0 N 1 t u v → Q' (.ref r) { s with heap := h', toks := tk }) → wpAny (Md w) A (eval iter (envX name sc L a cd cl0)) Q' E s)
    (ht : ∀ C c k t s₂ E', CV s₂.heap c (.int k t) → (∀ b o, s.heap.get? b = some o → s₂.heap.get? b = some o) → wpAny (Md w) A (testsOf ifs (compEnvC scope ((x, c) :: cl) C (envX name sc L a cd cl0))) (fun ok s₃ => ok = p k ∧ Keeps s₂ s₃) E' s₂)
    (h : ∀ D h' tk, St base hI mu outer (envX name sc L a cd cl0) L (fun z => if z = y then some (.ref D) else m z) ((D, isI ((rangeInts 0 1 N).filter p)) :: ls) h' → Q .next { s with heap := h', toks := tk }) :
    wpAny (Md w) A (exec (.Assign [.Name y py] (.ListComp (.Name x pe) [⟨.Name x px, iter, ifs, 0⟩] scope pos) spos) (envX name sc L a cd cl0)) Q E s := by
  rw [exec_Assign_Name_used _ _ _ _ hsw]
  refine wpAny_bind (wpAny_standAt (wpAny_bind ?_))
  show wpAny _ A (do let _ ← comprehension (.ListComp (.Name x pe) [⟨.Name x px, iter, ifs, 0⟩] scope pos) scope (envX name sc L a cd cl0) _ (newList []) false (eval iter (envX name sc L a cd cl0)) (some (assign (.Name y py) (envX name sc L a cd cl0)))) _ _ s
  refine wpAny_bind (wpAny_mono (wpAny_comprehension_free (use := some (assign (.Name y py) (envX name sc L a cd cl0))) (Q := fun _ s' => Q .next s') rfl hs hclos hkind hnames (hit _ fun r h0 tk0 t u v hext hr => ?_)) (fun _ s' hq => wpAny_pure (wpAny_pure hq)) fun _ _ e => e)
  refine wpAny_pyIter_range hr hsm ?_
  refine wpAny_newObj_type (newEnvA ?_)
  rw [hpc, hcf, hsz]
  dsimp only
  have Hx := H.ext hext
  generalize e1 : h0.push { cls := .type "range_iterator", data := .fields #[rawInt 0, rawInt N, rawInt 1] } = h1
  generalize e2 : h1.push { cls := .type "list", data := .seq ([] : List Value).toArray } = h2
  generalize e3 : h2.push { cls := .type "dict", data := .dict #[] } = h3
  generalize e4 : h3.push { cls := .type "cell", data := .cell none } = h4
  have z1 : h1.objs.size = h0.objs.size + 1 := by rw [← e1, Heap.size_push]
  have z2 : h2.objs.size = h0.objs.size + 2 := by rw [← e2, Heap.size_push, z1]
  have z3 : h3.objs.size = h0.objs.size + 3 := by rw [← e3, Heap.size_push, z2]
  have g1 : h1.get? h0.objs.size = some { cls := .type "range_iterator", data := .fields #[rawInt 0, rawInt N, rawInt 1] } := by rw [← e1]; exact Heap.get?_push_size _ rfl
  have g2 : h2.get? h1.objs.size = some { cls := .type "list", data := .seq ([] : List Value).toArray } := by rw [← e2]; exact Heap.get?_push_size _ rfl
  have g3 : h3.get? h2.objs.size = some { cls := .type "dict", data := .dict #[] } := by rw [← e3]; exact Heap.get?_push_size _ rfl
  have g4 : h4.get? h3.objs.size = some { cls := .type "cell", data := .cell none } := by rw [← e4]; exact Heap.get?_push_size _ rfl
  have k1 : ∀ b o, h0.get? b = some o → h1.get? b = some o := fun b o e => e1 ▸ Heap.get?_push_of_some _ e
  have k2 : ∀ b o, h1.get? b = some o → h2.get? b = some o := fun b o e => e2 ▸ Heap.get?_push_of_some _ e
  have k3 : ∀ b o, h2.get? b = some o → h3.get? b = some o := fun b o e => e3 ▸ Heap.get?_push_of_some _ e
  have k4 : ∀ b o, h3.get? b = some o → h4.get? b = some o := fun b o e => e4 ▸ Heap.get?_push_of_some _ e
  have fr0 : ∀ b, h0.objs.size ≤ b → h0.get? b = none := fun b hb => Heap.get?_none_of_le hb
  have z3' : h3.objs.size = h2.objs.size + 1 := by rw [← e3, Heap.size_push]
  show codeAny (Md w) A (.compStart (.ListComp (.Name x pe) [⟨.Name x px, iter, ifs, 0⟩] scope pos) 0 (.ref h0.objs.size) (.ref h1.objs.size) (compEnvC scope ((x, h2.objs.size + 1) :: cl) h2.objs.size (envX name sc L a cd cl0)))
    (compPost (Md w) A E (some (assign (.Name y py) (envX name sc L a cd cl0))) (fun _ s' => Q .next s') (.ref h1.objs.size) h2.objs.size) { s with heap := h4, toks := tk0 }
  rw [← z3']
  have W := Walks.range (prog := PySem.Challenge.rw_of0016_01.row.prog) (w := w) hh h0.objs.size 0 1 N
  have hst : IsRangeIter h4 h0.objs.size (0 + (0 : Nat) * 1) ((N : Int) - (0 : Nat)) 1 := by
    have := k4 _ _ (k3 _ _ (k2 _ _ g1))
    simpa using this
  have up : ∀ b o, s.heap.get? b = some o → h4.get? b = some o ∧ b < h0.objs.size := fun b o e => ⟨k4 _ _ (k3 _ _ (k2 _ _ (k1 _ _ (hext b o e)))), Heap.lt_size (hext b o e)⟩
  have apt : ∀ b : Nat, b < h0.objs.size → b ∉ [h0.objs.size] ∧ b ≠ h1.objs.size ∧ b ≠ h3.objs.size := fun b hb => ⟨by simp only [List.mem_singleton]; omega, by omega, by omega⟩
  have aD : (h1.objs.size : Nat) ≠ h3.objs.size ∧ (h1.objs.size : Nat) ∉ [h0.objs.size] ∧ (h3.objs.size : Nat) ∉ [h0.objs.size] := ⟨by omega, by simp only [List.mem_singleton]; omega, by simp only [List.mem_singleton]; omega⟩
  have aC : (h2.objs.size : Nat) ∉ [h0.objs.size] ∧ (h2.objs.size : Nat) ≠ h1.objs.size ∧ (h2.objs.size : Nat) ≠ h3.objs.size := ⟨by simp only [List.mem_singleton]; omega, by omega, by omega⟩
  have loop : codeAny (Md w) A (.compLoop (.ListComp (.Name x pe) [⟨.Name x px, iter, ifs, 0⟩] scope pos) 0 (.ref h0.objs.size) (.ref h1.objs.size) (compEnvC scope ((x, h3.objs.size) :: cl) h2.objs.size (envX name sc L a cd cl0)))
    (compPost (Md w) A E (some (assign (.Name y py) (envX name sc L a cd cl0))) (fun _ s' => Q .next s') (.ref h1.objs.size) h2.objs.size) { s with heap := h4, toks := tk0 } := by
    refine compLoop_cell (c := h3.objs.size) W (onInt p) (by show (relabel scope _).kind = _; exact hkind) hx (by simp [compEnvC]) hd aD.1 aD.2.1 aD.2.2 hst ⟨_, k4 _ _ (k3 _ _ g2)⟩ ⟨_, _, g4, rfl⟩ ?_ hN ?_
    · rintro i v s₂ E' ⟨t, rfl⟩ hcv hkp
      refine ht _ _ _ t s₂ E' hcv fun b o e => ?_
      obtain ⟨u1, u2⟩ := up b o e
      exact hkp b o (apt b u2).1 (apt b u2).2.1 (apt b u2).2.2 u1
    · intro h' tk ys vs hpl hlen hP hF hkp
      have up' : ∀ b o, s.heap.get? b = some o → h'.get? b = some o := fun b o e => by
        obtain ⟨u1, u2⟩ := up b o e
        exact hkp b o (apt b u2).1 (apt b u2).2.1 (apt b u2).2.2 u1
      have ups : ∀ b o, h0.get? b = some o → h'.get? b = some o := fun b o e => by
        have u1 := k4 _ _ (k3 _ _ (k2 _ _ (k1 _ _ e)))
        have u2 := Heap.lt_size e
        exact hkp b o (apt b u2).1 (apt b u2).2.1 (apt b u2).2.2 u1
      have hi : IntsAre vs (rangeInts 0 1 N) := ints_places (by rw [hlen, rangeInts_length]) fun j v hv => by
        obtain ⟨t, rfl⟩ := hP j v hv
        have hj : j < N := by rw [← hlen]; exact (List.getElem?_eq_some_iff.mp hv).1
        refine ⟨t, ?_⟩
        have := rangeInts_get (a := 0) (c := 1) hj
        simp [List.getD, this]
      obtain ⟨kk, hD⟩ := hpl
      have hys : ys = (vs.filter (onInt p)).toArray := by rw [← hF]
      have hDn : h0.get? h1.objs.size = none := fr0 _ (by omega)
      have hCn : h0.get? h2.objs.size = none := fr0 _ (by omega)
      obtain ⟨HD, hDne, _⟩ := Hx.callR (P := isI ((rangeInts 0 1 N).filter p)) (.ext ups) ⟨_, hD, vs.filter (onInt p), kk, by rw [hys], ints_filter p hi⟩ (Hx.fresh hDn).1 hDn
      obtain ⟨c1, c2, c3, c4⟩ := Hx.fresh hCn
      have hCh : h'.get? h2.objs.size = some { cls := .type "dict", data := .dict #[] } := hkp _ _ aC.1 aC.2.1 aC.2.2 (k4 _ _ g3)
      show wpAny (Md w) A (assign (.Name y py) (envX name sc L a cd cl0) (.ref h1.objs.size)) _ _ _
      have HC := HD.more (P := fun o => o = { cls := .type "dict", data := .dict #[] }) hCh rfl c3
      refine wpAny_assign_Name (r_store (s := { s with heap := h', toks := tk }) HC hk hy fun h5 H5 => ?_)
      obtain ⟨oC, hoC, eC⟩ := H5.get (.head _)
      subst eC
      refine ⟨fun _ => none, ⟨_, #[], 0, hoC, rfl, fun _ he => by simp at he, fun _ => rfl⟩, fun h6 hs6 => ?_⟩
      refine h h1.objs.size h6 _ (H5.extBut hs6.extBut c3 c1 c2 fun q hq => ⟨.tail _ hq, fun z => ?_⟩)
      rcases List.mem_cons.mp hq with rfl | hq
      · exact aC.2.1 z.symm
      · exact c4 q hq z
  exact codeAny_compStart_list loop (W.self 0 _ _ _ hst loop)
end
end
section
theorem ints_uniq {vs : List Value} {ns ms : List Int} (h : IntsAre vs ns) (h' : IntsAre vs ms) : ns = ms := by
  induction h generalizing ms with
  | nil => cases h'; rfl
  | cons k t h ih =>
    cases h' with
    | cons _ _ h' => rw [ih h']
theorem LI.uniq {h : Heap} {a : Addr} {ns ms : List Int} (x : LI h a ns) (y : LI h a ms) : ns = ms := by
  obtain ⟨o, ho, vs, n, rfl, hi⟩ := x
  obtain ⟨o', ho', vs', n', e', hi'⟩ := y
  rw [ho] at ho'
  cases ho'
  have : vs = vs' := by
    have e2 : (Data.seq vs.toArray n) = Data.seq vs'.toArray n' := congrArg Obj.data e'
    injection e2 with e3
    simpa using e3
  subst this
  exact ints_uniq hi hi'
open Classical in
noncomputable def hasV (h : Heap) (k : Int) (v : Value) : Bool := decide (∃ a ns, v = .ref a ∧ LI h a ns ∧ hasI ns k = true)
open Classical in
theorem hasV_of {h : Heap} {k : Int} {a : Addr} {ns : List Int} (x : LI h a ns) : hasV h k (.ref a) = hasI ns k := by
  unfold hasV
  cases q : hasI ns k with
  | true => exact decide_eq_true ⟨a, ns, rfl, x, q⟩
  | false =>
    refine decide_eq_false fun ⟨a', ns', e, y, z⟩ => ?_
    cases e
    rw [x.uniq y, z] at q
    cases q
theorem LV.ext {h h' : Heap} {a : Addr} {vs : List Value} (x : LV h a vs) (k : ∀ b o, h.get? b = some o → h'.get? b = some o) : LV h' a vs := let ⟨o, ho, r⟩ := x; ⟨o, k _ _ ho, r⟩
theorem filter_refs {h : Heap} {k : Int} {rs : List (Addr × List Int)} (H : ∀ r ∈ rs, LI h r.1 r.2) : ((rs.map fun r => Value.ref r.1).filter (hasV h k)).length = (rs.filter fun r => hasI r.2 k).length := by
  rw [List.filter_map, List.length_map]
  congr 1
  apply List.filter_congr
  intro r hr
  exact hasV_of (H r hr)
section
variable {w : World} {A : Around} {E : Value → Shared → Prop} {s : Shared} {base : Heap} {env : Env} {mean : ExcName → Option Value} {mg mb : Str → Option Value} {envs : List Env} {n : Nat}
theorem n_boot {x : Str} {pos : Pos} {v : Value} {Q : Value → Shared → Prop} (C : Cx w mean mg mb base A envs n) (hb : base.StaysIn s.heap) (e : nsIn (hd.heap_39 w.params) mainGlobals x = some none) (hv : bootBuiltins x = some v) (hn : x ≠ "__name__")
    (hk : env.scope.kind = .function) (hx : env.kindOf x = some .globalImplicit) (hg : env.globals = mainGlobals) (hbu : env.builtins = builtinsNs) (hd : (x == ("__debug__" : Str)) = false) (h : Q v s) : wpAny (Md w) A (eval (.Name x pos) env) Q E s :=
  Name_function_global hk hx (loadGlobal_builtin (show s.heap.Ns env.globals mg from hg ▸ (C.T.keeps hb).g) (mg_none_of C.X C.T.g e) (show s.heap.Ns env.builtins mb from hbu ▸ (C.T.keeps hb).b) ((C.T.builtins x hn).trans hv) h) hd
theorem r_compK {elt iter : Expr} {x : Str} {px : Pos} {ifs : List Expr} {scope : Scope} {cl : List (Str × Addr)} {pos : Pos} {ax : Addr} {vs : List Value} {Q : Value → Shared → Prop} (p : Value → Bool)
    (hh : A.handled = none) (hclos : closureFor scope env = pure cl) (hcell : ∀ y ∈ scope.names, y.2 ≠ .cell) (hkind : scope.kind = .function)
    (hnames : ∀ y ∈ scope.names, y.2 = .local → scope.names.lookup y.1 = some .local) (hx : scope.names.lookup x = some .local) (hs : ∀ x, foldedSetIterable iter env x = pure x)
    (hl : s.heap.IsList ax vs.toArray) (hsz : vs.length ≤ sizeLine)
    (hit : ∀ (Q' : Value → Shared → Prop), Q' (.ref ax) s → wpAny (Md w) A (eval iter env) Q' E s)
    (htests : ∀ C v s₂ m₂ E', v ∈ vs → s₂.heap.Ns C m₂ → m₂ x = some v → (∀ b o, s.heap.get? b = some o → s₂.heap.get? b = some o) → wpAny (Md w) A (testsOf ifs (compEnvC scope cl C env)) (fun ok s₃ => ok = p v ∧ Keeps s₂ s₃) E' s₂)
    (helt : ∀ C v s₂ m₂ E', s₂.heap.Ns C m₂ → m₂ x = some v → wpAny (Md w) A (eval elt (compEnvC scope cl C env)) (fun y s₃ => y = v ∧ Keeps s₂ s₃) E' s₂)
    (hQ : ∀ D h' tk, (∀ b o, s.heap.get? b = some o → h'.get? b = some o) → h'.IsList D (vs.filter p).toArray → Q (.ref D) { s with heap := h', toks := tk }) :
    wpAny (Md w) A (eval (.ListComp elt [⟨.Name x px, iter, ifs, 0⟩] scope pos) env) Q E s := by
  refine wpAny_ListComp_free p (fun v y => y = v) hclos hcell hkind hnames hx (hit _ ?_) hs
  have hlt : ax < s.heap.objs.size := by obtain ⟨_, e, _⟩ := hl; exact Heap.lt_size e
  have up : ∀ (s₃ : Shared), (∀ b o, b ∉ [s.heap.objs.size] → (s.heap.push { cls := .type "list_iterator", data := .fields #[.ref ax, .int 0 0] }).get? b = some o → s₃.heap.get? b = some o) → ∀ b o, s.heap.get? b = some o → s₃.heap.get? b = some o :=
    fun s₃ hk b o e => hk b o (fun hm => by rcases List.mem_cons.mp hm with rfl | hm; exact Nat.lt_irrefl _ (Heap.lt_size e); cases hm) (Heap.get?_push_of_some _ e)
  refine wpAny_pyIter_list hl ⟨s.heap.objs.size, [s.heap.objs.size, ax], [s.heap.objs.size], vs.toArray.size, _, _, rfl, Walks.list hh _ _ (Nat.ne_of_lt hlt) vs.toArray, (by rw [List.size_toArray]; exact hsz), ⟨⟨_, Heap.get?_push_size _ rfl, rfl, rfl⟩, hl.push _⟩, ?_, ⟨?_, ?_⟩, ?_⟩
  · intro b hb
    show b < (s.heap.push _).objs.size
    rw [Heap.size_push]
    rcases List.mem_cons.mp hb with rfl | hb
    · exact Nat.lt_succ_self _
    · rcases List.mem_cons.mp hb with rfl | hb
      · exact Nat.lt_succ_of_lt hlt
      · cases hb
  · intro C i v s₃ m₃ E' _ hP hn hm hk _
    exact htests C v s₃ m₃ E' (by simpa using Array.mem_of_getElem? hP) hn hm (up s₃ hk)
  · intro C i v s₃ m₃ E' _ hP hp hn hm hk _
    exact helt C v s₃ m₃ E' hn hm
  · intro D h' tk ys vs' hnew hlD hpl hlen hP hF hk
    have e : vs' = vs := by simpa using list_of_places hlen hP
    subst e
    have hy := paired_eq hF
    have hys : ys = (vs'.filter p).toArray := by rw [← hy]
    exact hQ D h' tk (up { s with heap := h' } hk) (hys ▸ hlD)
end
end
section
section
variable {w : World} {A : Around} {E : Value → Shared → Prop} {s : Shared} {name : Str} {scope : Scope} {a : Addr} {cd : Value} {cl : List (Str × Addr)} {base hI : Heap} {mu : List Addr} {outer : List Env} {env : Env} {L : Addr} {m : Str → Option Value} {ls : Led} {e : Addr} {X : String} {c fl : Value}
  {mean : ExcName → Option Value} {mg mb : Str → Option Value}
theorem r_caught3 {x : Str} {np pos : Pos} {b₀ : Stmt} {suite : List Stmt} {rest : List ExceptHandler} {Q : Flow → Shared → Prop} (KX : (hd.heap_39 w.params).In base) (KT : Top hd.view_39 (looseW hd.view_39 []) mean mg mb base) (hfr : A.frames = some (envX name scope L a cd cl :: outer))
    (H : St base hI mu outer (envX name scope L a cd cl) L m ls s.heap) (hn : noRec ls) (y : Fx base hI e X c s.heap ∨ Ex base hI e X c (rawInt L) s.heap ∨ Ex base hI e X c .none s.heap)
    (e1 : nsIn (hd.heap_39 w.params) mainGlobals x = some none) (hv : bootBuiltins x = some (.type X)) (hnn : x ≠ "__name__") (hk : scope.kind = .function) (hx : (envX name scope L a cd cl).kindOf x = some .globalImplicit) (hdb : (x == ("__debug__" : Str)) = false)
    (hexc : isSubtype (.type X) (.type "BaseException") = pure true) (hnt : isSubtype (.type ((Manifest.find? X).elim "type" fun x => x.metatype)) (.type "tuple") = pure false) (hsub : isSubtype (.type X) (.type X) = pure true)
    (h : ∀ h', St base hI mu outer (envX name scope L a cd cl) L m ls h' → wpAny (Md w) (A.mark (some (.ref e))) (execs (b₀ :: suite) (envX name scope L a cd cl)) Q (notedBy (Md w) (A.mark (some (.ref e))) (envX name scope L a cd cl) (cameBackBy (Md w) A (envX name scope L a cd cl) E)) { s with heap := h' }) :
    wpAny (Md w) A (noteFrame (.ref e) (envX name scope L a cd cl)) (fun _ s₂ => wpAny (Md w) A (setFlight (.ref e) none) (fun _ s₃ => wpAny (Md w) A (handleBy (.ref e) (envX name scope L a cd cl) (.ExceptHandler (some (.Name x np)) none (b₀ :: suite) pos :: rest)) Q E s₃) E s₂) E s :=
  r_noteAny hfr H hn y fun h' H' y' => r_flight (s := { s with heap := h' }) H' hn y' fun h2 H2 y2 => r_except (s := { s with heap := h2 }) KX KT H2 hn y2 e1 hv hnn hk hx hdb hexc hnt hsub fun h3 H3 => h h3 H3
theorem r_lenE {l : Addr} {its : Array Value} {k : Nat} {Q : Value → Shared → Prop} (hl : s.heap.IsList l its) (e : its.size = k) (hfit : (k : Int) < 2 ^ 63) (h : ∀ t tk, Q (.int k t) { s with toks := tk }) : wpAny (Md w) A (call (.builtin "len") [.ref l]) Q E s := by
  subst e
  exact len_list hl hfit (h _ _)
end
end
section
theorem getD_set_eq {l : List Int} {i : Nat} {x : Int} (h : i < l.length) : (l.set i x).getD i 0 = x := by simp [List.getD, h]
theorem getD_set_ne {l : List Int} {i j : Nat} {x : Int} (h : i ≠ j) : (l.set i x).getD j 0 = l.getD j 0 := by simp [List.getD, List.getElem?_set, h]
/-- each is at most what hangs under it -/
def Hp (l : List Int) : Prop := ∀ k, 0 < k → k < l.length → l.getD ((k - 1) / 2) 0 ≤ l.getD k 0
/-- but for a hole -/
def Hw (l : List Int) (p : Nat) : Prop :=
  (∀ k, 0 < k → k < l.length → k ≠ p → (k - 1) / 2 ≠ p → l.getD ((k - 1) / 2) 0 ≤ l.getD k 0) ∧
  (∀ k, 0 < k → k < l.length → (k - 1) / 2 = p → 0 < p → l.getD ((p - 1) / 2) 0 ≤ l.getD k 0)
theorem sd_heap {p : Nat} : ∀ {l : List Int} {x : Int}, p < l.length → Hw l p → (∀ k, 0 < k → k < l.length → (k - 1) / 2 = p → x ≤ l.getD k 0) → Hp (sdGo l p x) := by
  induction p using Nat.strongRecOn with
  | ind p ih =>
    intro l x hp ⟨h1, h2⟩ h3
    rw [sdGo]
    split
    · rename_i hpos
      split
      · rename_i hlt
        have hq : (p - 1) / 2 < p := by omega
        refine ih _ hq (by rw [List.length_set]; omega) ⟨fun k k0 kl kq pq => ?_, fun k k0 kl pq q0 => ?_⟩ fun k k0 kl pq => ?_
        · rw [List.length_set] at kl
          have kp : k ≠ p := fun z => pq (by rw [z])
          rw [getD_set_ne (Ne.symm kp)]
          by_cases z : (k - 1) / 2 = p
          · rw [z, getD_set_eq hp]; exact h2 k k0 kl z hpos
          · rw [getD_set_ne (Ne.symm z)]; exact h1 k k0 kl kp z
        · rw [List.length_set] at kl
          rw [getD_set_ne (by omega)]
          have e1 := h1 ((p - 1) / 2) q0 (by omega) (by omega) (by omega)
          by_cases z : k = p
          · rw [z, getD_set_eq hp]; exact e1
          · rw [getD_set_ne (Ne.symm z)]
            have e2 := h1 k k0 kl z (by omega)
            rw [pq] at e2
            omega
        · rw [List.length_set] at kl
          by_cases z : k = p
          · rw [z, getD_set_eq hp]; omega
          · rw [getD_set_ne (Ne.symm z)]
            have e2 := h1 k k0 kl z (by omega)
            rw [pq] at e2
            omega
      · rename_i hge
        intro k k0 kl
        rw [List.length_set] at kl
        by_cases z : k = p
        · subst z; rw [getD_set_eq hp, getD_set_ne (by omega)]; omega
        · rw [getD_set_ne (Ne.symm z)]
          by_cases y : (k - 1) / 2 = p
          · rw [y, getD_set_eq hp]; exact h3 k k0 kl y
          · rw [getD_set_ne (Ne.symm y)]; exact h1 k k0 kl z y
    · have hp0 : p = 0 := by omega
      subst hp0
      intro k k0 kl
      rw [List.length_set] at kl
      rw [getD_set_ne (i := 0) (j := k) (by omega)]
      by_cases y : (k - 1) / 2 = 0
      · rw [y, getD_set_eq hp]; exact h3 k k0 kl y
      · rw [getD_set_ne (Ne.symm y)]; exact h1 k k0 kl (by omega) y
theorem push_heap {l : List Int} {x : Int} (h : Hp l) : Hp (pushL l x) := by
  refine sd_heap (by simp) ⟨fun k k0 kl kp pq => ?_, fun k k0 kl pq q0 => ?_⟩ fun k k0 kl pq => ?_
  · rw [List.length_append, List.length_singleton] at kl
    have kl' : k < l.length := by omega
    have := h k k0 kl'
    have e1 : (l ++ [x]).getD k 0 = l.getD k 0 := by simp [List.getD, List.getElem?_append_left kl']
    have e2 : (l ++ [x]).getD ((k - 1) / 2) 0 = l.getD ((k - 1) / 2) 0 := by simp [List.getD, List.getElem?_append_left (show (k - 1) / 2 < l.length by omega)]
    rw [e1, e2]; exact this
  · rw [List.length_append, List.length_singleton] at kl; omega
  · rw [List.length_append, List.length_singleton] at kl; omega
theorem su_heap {p : Nat} {l : List Int} (hp : p < l.length) (h : Hw l p) : (suGo l p).2 < l.length ∧ Hw (suGo l p).1 (suGo l p).2 ∧ l.length ≤ 2 * (suGo l p).2 + 1 := by
  induction hk : l.length - p using Nat.strongRecOn generalizing l p with
  | ind n ih =>
    obtain ⟨h1, h2⟩ := h
    have step : ∀ c, (c - 1) / 2 = p → p < c → c < l.length → (∀ k, 0 < k → k < l.length → (k - 1) / 2 = p → l.getD c 0 ≤ l.getD k 0) → Hw (l.set p (l.getD c 0)) c := by
      intro c cp pc cl hc
      refine ⟨fun k k0 kl kc pk => ?_, fun k k0 kl pk c0 => ?_⟩
      · rw [List.length_set] at kl
        by_cases z : k = p
        · subst z
          rw [getD_set_eq hp, getD_set_ne (by omega)]
          exact h2 c (by omega) cl cp k0
        · rw [getD_set_ne (Ne.symm z)]
          by_cases y : (k - 1) / 2 = p
          · rw [y, getD_set_eq hp]; exact hc k k0 kl y
          · rw [getD_set_ne (Ne.symm y)]; exact h1 k k0 kl z y
      · rw [List.length_set] at kl
        rw [cp, getD_set_eq hp, getD_set_ne (by omega)]
        have := h1 k k0 kl (by omega) (by omega)
        rw [pk] at this
        exact this
    rw [suGo]
    split
    · rename_i hlt
      split
      · rename_i hc
        have := ih _ (by rw [List.length_set]; omega) (l := l.set p (l.getD (2 * p + 2) 0)) (p := 2 * p + 2) (by rw [List.length_set]; omega) (step _ (by omega) (by omega) (by omega) fun k k0 kl pk => by
          have : k = 2 * p + 1 ∨ k = 2 * p + 2 := by omega
          rcases this with rfl | rfl
          · omega
          · exact Int.le_refl _) rfl
        rw [List.length_set] at this
        exact this
      · rename_i hc
        have := ih _ (by rw [List.length_set]; omega) (l := l.set p (l.getD (2 * p + 1) 0)) (p := 2 * p + 1) (by rw [List.length_set]; omega) (step _ (by omega) (by omega) (by omega) fun k k0 kl pk => by
          have : k = 2 * p + 1 ∨ k = 2 * p + 2 := by omega
          rcases this with rfl | rfl
          · exact Int.le_refl _
          · have : ¬ (¬ l.getD (2 * p + 1) 0 < l.getD (2 * p + 2) 0) := fun z => hc ⟨kl, z⟩
            omega) rfl
        rw [List.length_set] at this
        exact this
    · rename_i hge
      exact ⟨hp, ⟨h1, h2⟩, by omega⟩
theorem suF_heap {l : List Int} (hp : 0 < l.length) (h : Hw l 0) : Hp (suF l) := by
  obtain ⟨a, ⟨b1, b2⟩, c⟩ := su_heap hp h
  have e := suGo_length l 0
  rw [suF]
  refine sd_heap (by rw [List.length_set, e]; exact a) ⟨fun k k0 kl kp pk => ?_, fun k k0 kl pk q0 => ?_⟩ fun k k0 kl pk => ?_
  · rw [List.length_set] at kl
    rw [getD_set_ne (Ne.symm kp), getD_set_ne (Ne.symm pk)]
    exact b1 k k0 kl kp pk
  · rw [List.length_set, e] at kl; omega
  · rw [List.length_set, e] at kl; omega
theorem pop_heap {l : List Int} (h : Hp l) : Hp (popL l) := by
  rw [popL]
  split
  · intro k k0 kl; simp at kl
  · rename_i hne
    have hl : 0 < l.dropLast.length := List.length_pos_iff.mpr hne
    refine suF_heap (by rw [List.length_set]; exact hl) ⟨fun k k0 kl kp pk => ?_, fun k k0 kl pk q0 => absurd q0 (by omega)⟩
    rw [List.length_set] at kl
    rw [getD_set_ne (Ne.symm kp), getD_set_ne (Ne.symm pk)]
    rw [List.length_dropLast] at kl
    have e1 : ∀ i, i < l.length - 1 → l.dropLast.getD i 0 = l.getD i 0 := fun i hi => by simp [List.getD, hi, show i < l.length by omega]
    rw [e1 k kl, e1 _ (by omega)]
    exact h k k0 (by omega)
-- the same things
theorem perm_swap {l : List Int} {i j : Nat} {x y : Int} (hi : i < l.length) (hj : j < l.length) (hij : i ≠ j) (hy : l.getD j 0 = y) : ((l.set i y).set j x).Perm (l.set i x) := by
  have h := List.set_set_perm (as := l.set i x) (i := i) (j := j) (by rw [List.length_set]; exact hi) (by rw [List.length_set]; exact hj)
  have e1 : (l.set i x)[i]'(by rw [List.length_set]; exact hi) = x := by simp
  have e2 : (l.set i x)[j]'(by rw [List.length_set]; exact hj) = y := by
    rw [List.getElem_set_ne hij, ← hy]; simp [List.getD, hj]
  rw [e1, e2, List.set_set] at h
  exact h
theorem sd_perm {p : Nat} : ∀ {l : List Int} {x : Int}, p < l.length → (sdGo l p x).Perm (l.set p x) := by
  induction p using Nat.strongRecOn with
  | ind p ih =>
    intro l x hp
    rw [sdGo]
    split
    · split
      · refine (ih _ (by omega) (by rw [List.length_set]; omega)).trans ?_
        exact perm_swap hp (by omega) (by omega) rfl
      · exact .refl _
    · exact .refl _
theorem su_perm {p : Nat} {l : List Int} {x : Int} (hp : p < l.length) : ((suGo l p).1.set (suGo l p).2 x).Perm (l.set p x) := by
  induction hk : l.length - p using Nat.strongRecOn generalizing l p with
  | ind n ih =>
    rw [suGo]
    split
    · rename_i hlt
      split
      · rename_i hc
        exact (ih _ (by rw [List.length_set]; omega) (by rw [List.length_set]; omega) rfl).trans (perm_swap hp (by omega) (by omega) rfl)
      · exact (ih _ (by rw [List.length_set]; omega) (by rw [List.length_set]; omega) rfl).trans (perm_swap hp (by omega) (by omega) rfl)
    · exact .refl _
theorem suF_perm {l : List Int} (hp : 0 < l.length) : (suF l).Perm l := by
  rw [suF]
  have a : (suGo l 0).2 < l.length := by
    have : ∀ {p : Nat} {l : List Int}, p < l.length → (suGo l p).2 < l.length := by
      intro p l hp
      induction hk : l.length - p using Nat.strongRecOn generalizing l p with
      | ind n ih =>
        rw [suGo]
        split
        · split
          · have := ih _ (by rw [List.length_set]; omega) (l := l.set p (l.getD (2 * p + 2) 0)) (p := 2 * p + 2) (by rw [List.length_set]; omega) rfl
            rw [List.length_set] at this; exact this
          · have := ih _ (by rw [List.length_set]; omega) (l := l.set p (l.getD (2 * p + 1) 0)) (p := 2 * p + 1) (by rw [List.length_set]; omega) rfl
            rw [List.length_set] at this; exact this
        · exact hp
    exact this hp
  refine (sd_perm (by rw [List.length_set, suGo_length]; exact a)).trans ?_
  rw [List.set_set]
  refine (su_perm hp).trans ?_
  have : l.set 0 (l.getD 0 0) = l := by
    cases l with
    | nil => cases hp
    | cons a r => rfl
  rw [this]
theorem push_perm (l : List Int) (x : Int) : (pushL l x).Perm (x :: l) := by
  rw [pushL]
  refine (sd_perm (by simp)).trans ?_
  have : (l ++ [x]).set l.length x = l ++ [x] := by simp [List.set_append]
  rw [this]
  exact List.perm_append_singleton x l
theorem fold_perm (xs : List Int) : ∀ l : List Int, (xs.foldl pushL l).Perm (xs ++ l) := by
  induction xs with
  | nil => intro l; exact .refl _
  | cons x xs ih =>
    intro l
    rw [List.foldl_cons]
    refine (ih _).trans ?_
    refine (List.Perm.append_left xs (push_perm l x)).trans ?_
    rw [List.cons_append]
    exact List.perm_middle
theorem fold_heap (xs : List Int) : ∀ l : List Int, Hp l → Hp (xs.foldl pushL l) := by
  induction xs with
  | nil => intro l h; exact h
  | cons x xs ih => intro l h; exact ih _ (push_heap h)
theorem pop_perm {l : List Int} (h : l ≠ []) : (popV l :: popL l).Perm l := by
  have e0 : l = l.dropLast ++ [l.getLast h] := (List.dropLast_concat_getLast h).symm
  have e1 : l.getLastD 0 = l.getLast h := by cases l with | nil => exact absurd rfl h | cons a r => rw [List.getLast_eq_getLastD, List.getLastD_cons]
  rw [popV, popL]
  split
  · rename_i hd
    rw [e1]
    conv => rhs; rw [e0, hd]
    exact .refl _
  · rename_i hd
    have hl : 0 < l.dropLast.length := List.length_pos_iff.mpr hd
    refine (List.Perm.cons _ (suF_perm (by rw [List.length_set]; exact hl))).trans ?_
    rw [e1]
    generalize l.getLast h = z at *
    generalize l.dropLast = d at *
    cases d with
    | nil => cases hl
    | cons a r =>
      rw [e0]
      show (a :: (z :: r)).Perm (a :: (r ++ [z]))
      exact .cons _ (List.perm_append_singleton z r).symm
theorem heap_min {l : List Int} (h : Hp l) : ∀ k, k < l.length → l.getD 0 0 ≤ l.getD k 0 := by
  intro k
  induction k using Nat.strongRecOn with
  | ind k ih =>
    intro kl
    by_cases z : k = 0
    · rw [z]; exact Int.le_refl _
    · exact Int.le_trans (ih ((k - 1) / 2) (by omega) (by omega)) (h k (by omega) kl)
theorem popV_eq {l : List Int} (h : l ≠ []) : popV l = l.getD 0 0 := by
  rw [popV]
  split
  · rename_i hd
    cases l with
    | nil => exact absurd rfl h
    | cons a r =>
      cases r with
      | nil => rfl
      | cons b r => simp at hd
  · rename_i hd
    cases l with
    | nil => exact absurd rfl h
    | cons a r =>
      cases r with
      | nil => exact absurd rfl hd
      | cons b r => rfl
theorem drain_spec (l : List Int) (h : Hp l) : (drain l).Perm l ∧ (drain l).Pairwise (· ≤ ·) := by
  induction hk : l.length using Nat.strongRecOn generalizing l with
  | ind n ih =>
    rw [drain]
    split
    · rename_i e; rw [e]; exact ⟨.refl _, .nil⟩
    · rename_i hne
      have hl := List.length_pos_iff.mpr hne
      obtain ⟨p1, p2⟩ := ih _ (by rw [popL_length]; omega) (popL l) (pop_heap h) rfl
      refine ⟨(List.Perm.cons _ p1).trans (pop_perm hne), List.pairwise_cons.mpr ⟨fun y hy => ?_, p2⟩⟩
      have hy' : y ∈ l := (pop_perm hne).mem_iff.mp (.tail _ (p1.mem_iff.mp hy))
      rw [popV_eq hne]
      obtain ⟨k, hk', rfl⟩ := List.mem_iff_getElem.mp hy'
      have := heap_min h k hk'
      simpa [List.getD, hk'] using this
theorem inOrd_spec (l r : List Int) : (inOrd l r).Perm (l ++ r) ∧ (inOrd l r).Pairwise (· ≤ ·) := by
  have h := drain_spec ((l ++ r).foldl pushL []) (fold_heap _ _ fun k _ kl => by simp at kl)
  refine ⟨h.1.trans ?_, h.2⟩
  have := fold_perm (l ++ r) []
  rw [List.append_nil] at this
  exact this
end
section
theorem good_pw {na : List Int} (h : goodB na = true) : na.Pairwise (· < ·) := by
  simp only [goodB, Bool.and_eq_true, decide_eq_true_eq] at h; exact h.1.1
theorem good_len {na : List Int} (h : goodB na = true) : na.length ≤ 24 := by
  simp only [goodB, Bool.and_eq_true, decide_eq_true_eq] at h; exact h.2
theorem good_rng {na : List Int} (h : goodB na = true) : ∀ x ∈ na, 1 ≤ x ∧ x ≤ 24 := by
  simp only [goodB, Bool.and_eq_true, decide_eq_true_eq, List.all_eq_true] at h
  exact h.1.2
/-- rising, within the ruler -/
structure OkL (na : List Int) : Prop where
  pw : na.Pairwise (· < ·)
  rng : ∀ x ∈ na, 0 ≤ x ∧ x ≤ 24
  len : na.length ≤ 25
abbrev rng25 : List Int := PyProof.Rows.rangeInts 0 1 25
theorem good_ok {na : List Int} (h : goodB na = true) : OkL na := ⟨good_pw h, fun x hx => ⟨by have := good_rng h x hx; omega, (good_rng h x hx).2⟩, by have := good_len h; omega⟩
theorem rng_mem (x : Int) : x ∈ rng25 ↔ 0 ≤ x ∧ x ≤ 24 := by
  simp only [rng25, PyProof.Rows.rangeInts, List.mem_map, List.mem_range]
  constructor
  · rintro ⟨i, hi, rfl⟩; omega
  · intro h; exact ⟨x.toNat, by omega, by omega⟩
theorem rng_pw : rng25.Pairwise (· < ·) := by decide +kernel
theorem ok_filter (p : Int → Bool) : OkL (rng25.filter p) :=
  ⟨rng_pw.filter p, fun x hx => (rng_mem x).mp (List.mem_filter.mp hx).1, Nat.le_trans (List.length_filter_le _ _) (by decide +kernel)⟩
theorem hasI_iff {ns : List Int} {k : Int} : hasI ns k = true ↔ k ∈ ns := by simp [hasI]
theorem hasI_not {ns : List Int} {k : Int} : hasI ns k = false ↔ k ∉ ns := by rw [← hasI_iff]; simp
theorem hasI_congr {ns ms : List Int} {k : Int} (h : k ∈ ns ↔ k ∈ ms) : hasI ns k = hasI ms k := by
  cases q : hasI ms k with
  | true => exact hasI_iff.mpr (h.mpr (hasI_iff.mp q))
  | false => exact hasI_not.mpr fun z => hasI_not.mp q (h.mp z)
theorem filter_nilI (l : List Int) : l.filter (fun k => !hasI [] k) = l := List.filter_eq_self.mpr fun _ _ => rfl
theorem pw_ext : ∀ {a b : List Int}, a.Pairwise (· < ·) → b.Pairwise (· < ·) → (∀ x, x ∈ a ↔ x ∈ b) → a = b
  | [], b, _, _, h => by
    cases b with
    | nil => rfl
    | cons y b => have := (h y).mpr (.head _); cases this
  | x :: a, b, ha, hb, h => by
    cases b with
    | nil => have := (h x).mp (.head _); cases this
    | cons y b =>
      obtain ⟨ha1, ha2⟩ := List.pairwise_cons.mp ha
      obtain ⟨hb1, hb2⟩ := List.pairwise_cons.mp hb
      have e : x = y := by
        rcases List.mem_cons.mp ((h x).mp (.head _)) with q | q
        · exact q
        rcases List.mem_cons.mp ((h y).mpr (.head _)) with r | r
        · exact r.symm
        have := hb1 x q
        have := ha1 y r
        omega
      subst e
      rw [pw_ext ha2 hb2 fun z => ⟨fun hz => ?_, fun hz => ?_⟩]
      · rcases List.mem_cons.mp ((h z).mp (.tail _ hz)) with q | q
        · have := ha1 z hz; omega
        · exact q
      · rcases List.mem_cons.mp ((h z).mpr (.tail _ hz)) with q | q
        · have := hb1 z hz; omega
        · exact q
theorem sld_both (na nb : List Int) (ha : na.Pairwise (· < ·)) (hb : nb.Pairwise (· < ·)) : (sldP na nb).1 = na.filter (fun k => !hasI nb k) ∧ (sldP na nb).2 = nb.filter (fun k => !hasI na k) := by
  induction hk : na.length + nb.length using Nat.strongRecOn generalizing na nb with
  | ind n ih =>
    cases na with
    | nil => rw [filter_nilI, sldP]; exact ⟨rfl, rfl⟩
    | cons e ns =>
      cases nb with
      | nil => rw [filter_nilI, sldP]; exact ⟨rfl, rfl⟩
      | cons a ms =>
        obtain ⟨ha1, ha2⟩ := List.pairwise_cons.mp ha
        obtain ⟨hb1, hb2⟩ := List.pairwise_cons.mp hb
        simp only [List.length_cons] at hk
        rw [sldP]
        split
        · rename_i hlt
          obtain ⟨i1, i2⟩ := ih _ (by simp only [List.length_cons]; omega) ns (a :: ms) ha2 hb rfl
          have ne : e ∉ a :: ms := fun q => by
            rcases List.mem_cons.mp q with q | q
            · omega
            · have := hb1 e q; omega
          refine ⟨?_, ?_⟩
          · rw [List.filter_cons_of_pos (by rw [hasI_not.mpr ne]; rfl)]
            show e :: _ = _
            rw [i1]
          · show (sldP ns (a :: ms)).2 = _
            rw [i2]
            refine List.filter_congr fun k hk' => ?_
            rw [hasI_congr (ns := ns) (ms := e :: ns) ⟨fun z => .tail _ z, fun z => ?_⟩]
            rcases List.mem_cons.mp z with z | z
            · exact absurd (z ▸ hk') ne
            · exact z
        · rename_i hge
          split
          · rename_i hlt
            obtain ⟨i1, i2⟩ := ih _ (by simp only [List.length_cons]; omega) (e :: ns) ms ha hb2 rfl
            have ne : a ∉ e :: ns := fun q => by
              rcases List.mem_cons.mp q with q | q
              · omega
              · have := ha1 a q; omega
            refine ⟨?_, ?_⟩
            · show (sldP (e :: ns) ms).1 = _
              rw [i1]
              refine List.filter_congr fun k hk' => ?_
              rw [hasI_congr (ns := ms) (ms := a :: ms) ⟨fun z => .tail _ z, fun z => ?_⟩]
              rcases List.mem_cons.mp z with z | z
              · exact absurd (z ▸ hk') ne
              · exact z
            · rw [List.filter_cons_of_pos (by rw [hasI_not.mpr ne]; rfl)]
              show a :: _ = _
              rw [i2]
          · rename_i hge2
            have e1 : e = a := by omega
            subst e1
            obtain ⟨i1, i2⟩ := ih _ (by omega) ns ms ha2 hb2 rfl
            rw [i1, i2]
            refine ⟨?_, ?_⟩
            · rw [List.filter_cons_of_neg (by rw [hasI_iff.mpr (.head _)]; decide)]
              refine List.filter_congr fun k hk' => ?_
              rw [hasI_congr (ns := ms) (ms := e :: ms) ⟨fun z => .tail _ z, fun z => ?_⟩]
              rcases List.mem_cons.mp z with z | z
              · have := ha1 k hk'; omega
              · exact z
            · rw [List.filter_cons_of_neg (by rw [hasI_iff.mpr (.head _)]; decide)]
              refine List.filter_congr fun k hk' => ?_
              rw [hasI_congr (ns := ns) (ms := e :: ns) ⟨fun z => .tail _ z, fun z => ?_⟩]
              rcases List.mem_cons.mp z with z | z
              · have := hb1 k hk'; omega
              · exact z
theorem sld_one {na nb : List Int} (ha : OkL na) (hb : OkL nb) : (sldP na nb).1 = na.filter (fun k => !hasI nb k) := (sld_both na nb ha.pw hb.pw).1
theorem sld_two {na nb : List Int} (ha : OkL na) (hb : OkL nb) : (sldP na nb).2 = nb.filter (fun k => !hasI na k) := (sld_both na nb ha.pw hb.pw).2
theorem uld_fold : ∀ (xs as miss : List Int), xs.Nodup → as.Nodup →
    xs.foldl (fun p x => if x ∈ p.2 then (p.1, p.2.erase x) else (p.1 ++ [x], p.2)) (miss, as) = (miss ++ xs.filter (fun k => !hasI as k), as.filter (fun k => !hasI xs k))
  | [], as, miss, _, _ => by rw [filter_nilI, List.filter_nil, List.append_nil]; rfl
  | x :: xs, as, miss, hx, hs => by
    obtain ⟨hx1, hx2⟩ := List.nodup_cons.mp hx
    rw [List.foldl_cons]
    split
    · rename_i hm
      have hm' : x ∈ as := hm
      rw [uld_fold xs (as.erase x) miss hx2 (hs.erase x), List.filter_cons_of_neg (by rw [hasI_iff.mpr hm']; decide)]
      congr 1
      · congr 1
        refine List.filter_congr fun k hk => ?_
        rw [hasI_congr (k := k) (List.mem_erase_of_ne (a := k) (b := x) fun z => hx1 (z ▸ hk))]
      · show (as.erase x).filter _ = _
        rw [hs.erase_eq_filter, List.filter_filter]
        refine List.filter_congr fun k hk => ?_
        have : hasI (x :: xs) k = (x == k || hasI xs k) := rfl
        rw [this]
        have e : (k != x) = !(x == k) := by
          rw [bne, Bool.beq_comm]
        rw [e]
        cases (x == k) <;> cases hasI xs k <;> rfl
    · rename_i hm
      have hm' : x ∉ as := hm
      rw [uld_fold xs as (miss ++ [x]) hx2 hs, List.filter_cons_of_pos (by rw [hasI_not.mpr hm']; rfl), List.append_assoc]
      congr 1
      refine List.filter_congr fun k hk => ?_
      rw [hasI_congr (ns := xs) (ms := x :: xs) ⟨fun z => .tail _ z, fun z => ?_⟩]
      rcases List.mem_cons.mp z with z | z
      · exact absurd (z ▸ hk) hm'
      · exact z
theorem pw_nodup {na : List Int} (h : na.Pairwise (· < ·)) : na.Nodup := h.imp fun z => by omega
theorem uld_both {na nb : List Int} (ha : OkL na) (hb : OkL nb) : uldF na nb [] = (na.reverse.filter (fun k => !hasI nb k), nb.filter (fun k => !hasI na k)) := by
  unfold uldF
  rw [uld_fold _ _ _ ((List.reverse_perm na).nodup_iff.mpr (pw_nodup ha.pw)) (pw_nodup hb.pw), List.nil_append]
  congr 1
  refine List.filter_congr fun k _ => ?_
  rw [hasI_congr (List.mem_reverse)]
theorem uld_one {na nb : List Int} (ha : OkL na) (hb : OkL nb) : (uldF na nb []).1.reverse = (sldP na nb).1 := by
  rw [uld_both ha hb, sld_one ha hb]
  show (na.reverse.filter _).reverse = _
  rw [← List.filter_reverse, List.reverse_reverse]
theorem uld_two {na nb : List Int} (ha : OkL na) (hb : OkL nb) : (uldF na nb []).2 = (sldP na nb).2 := by rw [uld_both ha hb, sld_two ha hb]
theorem ord_two {na nb : List Int} (ha : OkL na) (hb : OkL nb) : inOrd (sldP na nb).1 (sldP na nb).2 = rng25.filter (fun k => hasI na k != hasI nb k) := by
  obtain ⟨hp, hs⟩ := inOrd_spec (sldP na nb).1 (sldP na nb).2
  rw [sld_one ha hb, sld_two ha hb] at *
  have nd : (na.filter (fun k => !hasI nb k) ++ nb.filter (fun k => !hasI na k)).Nodup := by
    refine List.nodup_append.mpr ⟨(pw_nodup ha.pw).filter _, (pw_nodup hb.pw).filter _, fun x hx y hy e => ?_⟩
    subst e
    have h1 := (List.mem_filter.mp hx).2
    have h2 := (List.mem_filter.mp hy).1
    rw [hasI_iff.mpr h2] at h1
    cases h1
  have nd' := hp.nodup_iff.mpr nd
  have hs' : (inOrd (na.filter (fun k => !hasI nb k)) (nb.filter (fun k => !hasI na k))).Pairwise (· < ·) := (List.Pairwise.and hs nd').imp fun ⟨z1, z2⟩ => by omega
  refine pw_ext hs' (ok_filter _).pw fun x => ?_
  rw [hp.mem_iff, List.mem_append, List.mem_filter, List.mem_filter, List.mem_filter, rng_mem]
  have ra := ha.rng x
  have rb := hb.rng x
  rw [← hasI_iff (ns := na), ← hasI_iff (ns := nb)] at *
  cases q1 : hasI na x <;> cases q2 : hasI nb x <;> simp [q1, q2] at * <;> assumption
theorem apt_ok {na nb : List Int} (ha : OkL na) (hb : OkL nb) : OkL (inOrd (sldP na nb).1 (sldP na nb).2) := by rw [ord_two ha hb]; exact ok_filter _
theorem hasI_filter {p : Int → Bool} {k : Int} (hk : k ∈ rng25) : hasI (rng25.filter p) k = p k := by
  cases q : p k with
  | true => exact hasI_iff.mpr (List.mem_filter.mpr ⟨hk, q⟩)
  | false => exact hasI_not.mpr fun z => by rw [(List.mem_filter.mp z).2] at q; cases q
theorem odd_l {r0 r1 r2 : Nat × List Int} (h0 : OkL r0.2) (h1 : OkL r1.2) (h2 : OkL r2.2) : inOrd (sldP (inOrd (sldP r0.2 r1.2).1 (sldP r0.2 r1.2).2) r2.2).1 (sldP (inOrd (sldP r0.2 r1.2).1 (sldP r0.2 r1.2).2) r2.2).2 =
    rng25.filter (fun k => (((([r0, r1, r2].filter fun r => hasI r.2 k).length : Nat) : Int).fmod 2 == 1)) := by
  rw [ord_two (apt_ok h0 h1) h2, ord_two h0 h1]
  refine List.filter_congr fun k hk => ?_
  rw [hasI_filter hk]
  cases q0 : hasI r0.2 k <;> cases q1 : hasI r1.2 k <;> cases q2 : hasI r2.2 k <;> simp [List.filter, q0, q1, q2] <;> decide
theorem odd_r {r0 r1 r2 : Nat × List Int} (h0 : OkL r0.2) (h1 : OkL r1.2) (h2 : OkL r2.2) : inOrd (sldP r0.2 (inOrd (sldP r1.2 r2.2).1 (sldP r1.2 r2.2).2)).1 (sldP r0.2 (inOrd (sldP r1.2 r2.2).1 (sldP r1.2 r2.2).2)).2 =
    rng25.filter (fun k => (((([r0, r1, r2].filter fun r => hasI r.2 k).length : Nat) : Int).fmod 2 == 1)) := by
  rw [ord_two h0 (apt_ok h1 h2), ord_two h1 h2]
  refine List.filter_congr fun k hk => ?_
  rw [hasI_filter hk]
  cases q0 : hasI r0.2 k <;> cases q1 : hasI r1.2 k <;> cases q2 : hasI r2.2 k <;> simp [List.filter, q0, q1, q2] <;> decide
end
local macro_rules | `(tactic| walk_at "m store") => `(tactic| (refine' storeF ?H ?k ?l ?_; (case H => assumption); (case k => exact rfl); (case l => exact rfl)))
local macro_rules | `(tactic| walk_at "m go") => `(tactic| first
  | with_reducible refine constF fun _ _ => ?_
  | with_reducible refine addF fun _ _ => ?_
  | (with_reducible refine' modF ?hb fun _ _ => ?_; (case hb => decide))
  | (with_reducible refine' fdivF ?hb ?hp fun _ _ => ?_; (case hb => decide); (case hp => exact PyProof.noPylong_of_log2 (by decide +kernel))))

section
abbrev lawLed (L R l : Addr) (ns : List Int) (rs : List (Addr × List Int)) : Led :=
  (R, isV (rs.map fun r => .ref r.1)) :: (L + 1, isCell (.ref R)) :: (L + 2, isCell0) :: (L + 3, isCell0) :: (l, isI ns) :: rs.map fun r => (r.1, isI r.2)
theorem mI {α : Type _} {l : List α} {p : α} (n : Nat) (e : l[n]? = some p) : p ∈ l := List.mem_of_getElem? e
theorem mD {α : Type _} {l : List α} {p : α} (n : Nat) (h : p ∈ l.drop n) : p ∈ l := List.mem_of_mem_drop h
variable {w : World} {mean : ExcName → Option Value} {mg mb : Str → Option Value} {base : Heap} {A : Around} {envs : List Env} {n : Nat} {s : Shared} {E Q : Value → Shared → Prop}
theorem pick3 {h : Heap} {J0 J1 J2 : Addr} (e : Fin 3) (m0 : LI h J0 [0]) (m1 : LI h J1 [127]) (m2 : LI h J2 []) : ∃ Ke, ([.ref J0, .ref J1, .ref J2] : List Value)[e.val]? = some (.ref Ke) ∧ LI h Ke (endN e) := by
  match e with
  | ⟨0, _⟩ => exact ⟨J0, rfl, m0⟩
  | ⟨1, _⟩ => exact ⟨J1, rfl, m1⟩
  | ⟨2, _⟩ => exact ⟨J2, rfl, m2⟩
theorem law_spec {l : Addr} {ns : List Int} (C : Cx w mean mg mb base A envs (n + 8)) (G : Gd base s.heap envs) (hl : LI s.heap l ns) (hlen : ns.length ≤ sizeLine)
   (hQ : ∀ (h' : Heap) (tk' : Nat) (gn' : Array GenState), Kp (frs envs) [] s.heap h' → (AllBare s.gens → AllBare gn') → Q (.bool true) { s with heap := h', toks := tk', gens := gn' }) :
   wpAny (Md w) A (call (.ref 96) [.ref l]) Q E s := by
  refine' enterC [] [(l, isI ns)] (fun L => [("right", L + 3), ("left", L + 2), ("rulers", L + 1)]) ?hcl C G (fun p hp => by rw [List.mem_singleton.mp hp]; exact ⟨hl, hl.frs G.ff⟩) ?ho ?hcd ?hb ?hl ?h ?d ?e ?f
  (case ho => k_dflt k_is)
  (case hcd => k_dflt k_is)
  (case hb => exact rfl)
  (case hl => exact locs rfl)
  (case hcl => exact fun _ => rfl)
  (case d => exact rfl)
  (case e => exact rfl)
  (case f => exact rfl)
  intro L h₁ tk₁ hL H hcells C'
  generalize (fun e s' => wpAny (Md w) _ (leaving _ e) (fun _ s'' => E e s'') (fun e' s'' => E e' s'') s') = E'
  have c1 := hcells "rulers" (L + 1) rfl
  have c2 := hcells "left" (L + 2) rfl
  have c3 := hcells "right" (L + 3) rfl
  have cM : ∀ c, L < c → Mu base s.heap [] c := fun c hc => ⟨by
      cases q : base.get? c with
      | none => rfl
      | some o => have h1 := Heap.lt_size (G.stays _ _ q); rw [hL] at h1; exact absurd h1 (Nat.lt_asymm hc), .inr (Heap.get?_none_of_le (by rw [hL]; exact Nat.le_of_lt hc))⟩
  obtain ⟨o1, ho1, v1, hv1⟩ := c1
  obtain ⟨o2, ho2, v2, hv2⟩ := c2
  obtain ⟨o3, ho3, v3, hv3⟩ := c3
  have H := ((H.more (P := isCell0) ho3 ⟨_, hv3⟩ (H.cell_ff ho3 hv3)).more (P := isCell0) ho2 ⟨_, hv2⟩ (H.cell_ff ho2 hv2)).more (P := isCell0) ho1 ⟨_, hv1⟩ (H.cell_ff ho1 hv1)
  have hlL : l < L := by obtain ⟨o, ho, _⟩ := hl; rw [← hL]; exact Heap.lt_size ho
  repeat walk_at "m go"
  refine r_newInts H .nil (by decide) fun R h₂ H₂ hR hMR hRn => ?_
  have hR1 : R ≠ L + 1 := (hR _ (.head _)).symm
  have H₃ := H₂.pickAs [1, 0] 2 [(L + 1, isCell0), (R, isI []), (L + 2, isCell0), (L + 3, isCell0), (l, isI ns)] rfl
  have hll : l ≠ L + 1 ∧ l ≠ L + 2 ∧ l ≠ L + 3 := ⟨Nat.ne_of_lt (Nat.lt_of_lt_of_le hlL (by omega)), Nat.ne_of_lt (Nat.lt_of_lt_of_le hlL (by omega)), Nat.ne_of_lt (Nat.lt_of_lt_of_le hlL (by omega))⟩
  have l12 : (L + 2 : Addr) ≠ L + 1 ∧ (L + 3 : Addr) ≠ L + 1 ∧ (L + 3 : Addr) ≠ L + 2 := ⟨by simp, by simp, by simp⟩
  refine r_storeC H₃ (fun o z => z) (cM _ (by show L < L + 1; omega)) ?_ rfl rfl rfl fun h₄ H₄ => ?_
  · exact ac hR1 (ac l12.1 (ac l12.2.1 (ac hll.1 (List.forall_mem_nil _))))
  repeat walk_at "m go"
  refine call_range_1 ?_
  obtain ⟨vs0, hvs0, H₅⟩ := (H₄.pickAs [1, 0] 2 [(R, isI []), (L + 1, isCell (.ref R)), (L + 2, isCell0), (L + 3, isCell0), (l, isI ns)] rfl).open
  have hvs1 : vs0 = [] := by cases hvs0; rfl
  subst hvs1
  refine r_forR (N := 3) C'.hnd rfl rfl (H₅.push0 _) (Heap.get?_push_size _ rfl) (by decide) (by decide) (fun i m' ls' => ∃ rs : List (Addr × List Int), rs.length = i ∧ m' "script" = some (.ref l) ∧ ls' = lawLed L R l ns rs ∧ ∀ r ∈ rs, r.1 ≠ R ∧ goodB r.2 = true ∧ r.1 ≠ L + 2 ∧ r.1 ≠ L + 3) ⟨[], rfl, rfl, rfl, fun r hr => nomatch hr⟩ ?_ ?_
  · rintro Nx i t it h' tk' gn' m' _ hNx hi hitn hB ⟨rs, hrl, hms, rfl, hgood⟩ hne H₆
    repeat walk_at "m go"
    refine r_newInts H₆ (ns := [4, 29, 81]) (.cons 4 _ (.cons 29 _ (.cons 81 _ .nil))) (by decide) fun K1 h7 H₇ hK1 hMK1 hK1n => ?_
    repeat walk_at "m go"
    refine r_itemO (H₇.li (.head _)) (by omega) (by show (i : Int) < 3; omega) (by omega) (by with_unfolding_all rfl) fun x0 t1 => ?_
    repeat walk_at "m go"
    have H₈ := H₇.sub (ls' := (it, isRI (i + 1) (3 - i - 1)) :: lawLed L R l ns rs) (fun p hp => .tail _ hp)
    have hml : (l, isI ns) ∈ ((it, isRI (i + 1) (3 - i - 1)) :: lawLed L R l ns rs : Led) := .tail _ (.tail _ (.tail _ (.tail _ (.tail _ (.head _)))))
    refine r_slice3 H₈ (H₈.li hml) (by decide) hlen (by with_unfolding_all rfl) (by intro _; with_unfolding_all rfl) fun K2 h9 H₉ hK2 hMK2 hK2n => ?_
    repeat walk_at "m go"
    refine r_sumO C'.hnd H₉ (H₉.li (.head _)) fun x1 h10 tk10 t10 H10 => ?_
    refine add_intO fun c => ?_
    repeat walk_at "m go"
    have H11 := H10.sub (ls' := (it, isRI (i + 1) (3 - i - 1)) :: lawLed L R l ns rs) (fun p hp => .tail _ hp)
    walk_at "m store"; intro h12 _ H12
    repeat walk_at "m go"
    obtain ⟨ca, cb, ck, ce, hsz, hend, hk0⟩ := cells c
    obtain ⟨q1, q2, q3, q4, q5, q6, q7⟩ := cell_side ca cb ck ce
    obtain ⟨q8, q9⟩ := told_cells ca cb ck ce
    refine r_newInts H12 (ns := [c.fmod 5 + 2, (c.fdiv 5).fmod 5 + 2]) (.cons _ _ (.cons _ _ .nil)) (by show 2 ≤ sizeLine; decide) fun K3 h13 H13 hK3 hM3 hn3 => ?_
    repeat walk_at "m go"
    refine kba_turn (value' := Expr.Name (Str.ofString "_") ⟨0, 0, 0, 0⟩) (fun _ => rfl) ?_
    refine r_uptoE _ hsz H13 (H13.li (.head _)) hk0 (by show 2 ≤ sizeLine; decide) (by with_unfolding_all rfl) (fun _ => rfl) fun K4 h14 H14 hK4 hM4 hn4 => ?_
    walk_at "m store"; intro h15 _ H15
    repeat walk_at "m go"
    walk_at "m store"; intro h16 _ H16
    repeat walk_at "m go"
    refine r_newInts H16 (ns := [0]) (.cons _ _ .nil) (by decide) fun J0 h17 H17 _ _ _ => ?_
    repeat walk_at "m go"
    refine r_newInts H17 (ns := [127]) (.cons _ _ .nil) (by decide) fun J1 h18 H18 _ _ _ => ?_
    repeat walk_at "m go"
    refine r_newInts H18 .nil (by decide) fun J2 h19 H19 _ _ _ => ?_
    repeat walk_at "m go"
    refine r_newVals H19 (by show 3 ≤ sizeLine; decide) fun J3 h20 H20 _ _ _ => ?_
    repeat walk_at "m go"
    obtain ⟨Ke, hKe, hLe⟩ := pick3 ce (H20.li (.tail _ (.tail _ (.tail _ (.head _))))) (H20.li (.tail _ (.tail _ (.head _)))) (H20.li (.tail _ (.head _)))
    refine kba_turn (value' := Expr.Name (Str.ofString "_") ⟨0, 0, 0, 0⟩) (fun _ => rfl) ?_
    refine item_listL (H20.lv (.head _)).isList (by rw [hend]; omega) (by rw [hend]; omega) (by rw [hend]; exact hKe) ?_ (by with_unfolding_all rfl) (fun _ => rfl)
    have H20' := H20.pickAs [4] 6 ((K4, isI (szN ca cb ck)) :: (it, isRI (i + 1) (3 - i - 1)) :: lawLed L R l ns rs) rfl
    refine flat h20 gn' s rfl rfl rfl rfl fun k20 => ?_
    refine r_add H20' (H20'.li (.head _)) hLe (Nat.le_trans (Nat.le_of_lt q4) (by decide)) fun D h21 H21 hD _ _ => ?_
    repeat walk_at "m go"
    refine told_spec C' H21.gd (H21.li (.head _)) q1 q2 q3 fun h22 tk22 gn22 r k22 li22 b22 n22 bare22 => ?_
    rw [q8] at li22
    obtain ⟨H22, hr, hMr⟩ := (H21.sub (ls' := (K4, isI (szN ca cb ck)) :: (it, isRI (i + 1) (3 - i - 1)) :: lawLed L R l ns rs) (fun p hp => .tail _ hp)).callR (P := isI _) k22 li22 b22 n22
    refine flat h22 gn22 s rfl rfl rfl rfl fun k22 => ?_
    walk_at "m store"; intro h23 _ H23
    repeat walk_at "m go"
    refine byhand_spec C' H23.gd (H23.li (.tail _ (.head _))) q5 q6 q7 fun h24 tk24 r2 k24 li24 b24 n24 => ?_
    rw [hend] at li24
    obtain ⟨H24, hr2, _⟩ := H23.callR (P := isI _) k24 li24 b24 n24
    refine flat h24 gn22 s rfl rfl rfl rfl fun k24 => ?_
    refine r_neE (H24.li (.tail _ (.head _))) (H24.li (.head _)) rfl (by have := C'.units; omega) ?_
    repeat walk_at "m go"
    refine r_nameC H24 (c := L + 1) (v := .ref R) (.tail _ (.tail _ (.tail _ (.tail _ (.tail _ (.head _)))))) rfl rfl rfl (by decide) ?_
    refine r_getMV (H24.lv (.tail _ (.tail _ (.tail _ (.tail _ (.head _)))))) PySem.F.slot_list_append PySem.F.type_list_append ?_
    dsimp only
    repeat walk_at "m go"
    have H25 := H24.pickAs [4, 1, 3] 5 ((R, isV (rs.map fun r => .ref r.1)) :: (r, isI (byHand (szN ca cb ck) ce.val)) :: (it, isRI (i + 1) (3 - i - 1)) :: (L + 1, isCell (.ref R)) :: (L + 2, isCell0) :: (L + 3, isCell0) :: (l, isI ns) :: rs.map fun r => (r.1, isI r.2)) rfl
    have hrR : r ≠ R := (hr _ (.tail _ (.tail _ (.head _)))).symm
    have hitR : it ≠ R := (hne _ (.head _)).symm
    have hrn : ∀ p ∈ lawLed L R l ns rs, p.1 ≠ r := fun p hp => hr p (.tail _ (.tail _ hp))
    refine r_appendV H25 hMR (ac hrR (ac hitR (ac hR1.symm (ac (hR _ (.tail _ (.head _))) (ac (hR _ (.tail _ (.tail _ (.head _)))) (ac (hR _ (.tail _ (.tail _ (.tail _ (.head _))))) fun p hp => ?_)))))) (by rw [List.length_map, hrl, sizeLine]; omega) fun h26 H26 => ?_
    · obtain ⟨q, hq, rfl⟩ := List.mem_map.mp hp
      exact (hgood q hq).1
    repeat walk_at "m go"
    refine hNx h26 k24 gn22 (mOf H26) (lawLed L R l ns (rs ++ [(r, byHand (szN ca cb ck) ce.val)])) (fun z => bare22 (hB z)) ⟨_, by rw [List.length_append, hrl]; rfl, hms, rfl, fun q hq => ?_⟩
      (ac hitR.symm (ac (hne _ (mI 1 rfl)) (ac (hne _ (mI 2 rfl)) (ac (hne _ (mI 3 rfl)) (ac (hne _ (mI 4 rfl)) fun p hp => ?_))))) ?_
    · rcases List.mem_append.mp hq with hq | hq
      · exact hgood q hq
      · rw [List.mem_singleton.mp hq]; exact ⟨hrR, q9, (hrn _ (.tail _ (.tail _ (.head _)))).symm, (hrn _ (.tail _ (.tail _ (.tail _ (.head _))))).symm⟩
    · rw [List.map_append] at hp
      rcases List.mem_append.mp hp with hp | hp
      · exact hne _ (mD 5 hp)
      · rw [List.mem_singleton.mp hp]
        exact (hr _ (.tail _ (.head _))).symm
    · have e : (rs ++ [(r, byHand (szN ca cb ck) ce.val)]).map (fun r => Value.ref r.1) = (rs.map fun r => Value.ref r.1) ++ [.ref r] := by rw [List.map_append]; rfl
      refine H26.sub (ac (mI 2 rfl) (ac (by rw [e]; exact mI 0 rfl) (ac (mI 3 rfl) (ac (mI 4 rfl) (ac (mI 5 rfl) (ac (mI 6 rfl) fun p hp => ?_))))))
      rw [List.map_append] at hp
      rcases List.mem_append.mp hp with hp | hp
      · exact mD 7 hp
      · rw [List.mem_singleton.mp hp]
        exact mI 1 rfl
  · rintro h' tk' gn' m' _ hB ⟨rs, hrl, hms, rfl, hgood⟩ H6
    have hR2 : R ≠ L + 2 := (hR _ (.tail _ (.head _))).symm
    have hR3 : R ≠ L + 3 := (hR _ (.tail _ (.tail _ (.head _)))).symm
    have H7 := H6.pickAs [0, 2, 1, 3] 5 ((R, isV (rs.map fun r => .ref r.1)) :: (L + 2, isCell0) :: (L + 1, isCell (.ref R)) :: (L + 3, isCell0) :: rs.map fun r => (r.1, isI r.2)) rfl
    repeat walk_at "m go"
    refine flat h' gn' s rfl rfl rfl rfl fun k6 => ?_
    refine r_nameC H7 (c := L + 1) (v := .ref R) (.tail _ (.tail _ (.head _))) rfl rfl rfl (by decide) ?_
    have memR : ∀ r ∈ rs, ((r.1, isI r.2) : Addr × (Obj → Prop)) ∈ rs.map (fun r => ((r.1, isI r.2) : Addr × (Obj → Prop))) := fun r hr => List.mem_map.mpr ⟨r, hr, rfl⟩
    have valR : ∀ (i : Nat) v, (rs.map fun r => Value.ref r.1)[i]? = some v → ∃ r ∈ rs, v = .ref r.1 := fun i v hv => by
      obtain ⟨r, hr, e⟩ := List.mem_map.mp (List.mem_of_getElem? hv)
      exact ⟨r, hr, e.symm⟩
    have neR : ∀ p ∈ rs.map (fun r => ((r.1, isI r.2) : Addr × (Obj → Prop))), p.1 ≠ L + 2 ∧ p.1 ≠ L + 3 := fun p hp => by
      obtain ⟨r, hr, rfl⟩ := List.mem_map.mp hp
      exact (hgood r hr).2.2
    refine r_forC (c := L + 2) C'.hnd rfl rfl rfl (cM _ (by show L < L + 2; omega)) hR2 H7 ?_ (fun i m' ls' => ls' = (L + 1, isCell (.ref R)) :: (L + 3, isCell0) :: rs.map fun r => (r.1, isI r.2)) rfl ?_ ?_
    · exact ac l12.1.symm (ac l12.2.2 fun p hp => (neR p hp).1)
    · rintro Nx i v it h8 tk8 m8 _ hNx hitn hv rfl hne hitR hitc H8
      obtain ⟨⟨a, na⟩, hra, rfl⟩ := valR i v hv
      have H9 := H8.pickAs [1, 4, 0, 3, 2] 5 ((R, isV (rs.map fun r => .ref r.1)) :: (L + 3, isCell0) :: (it, isIt R (i + 1)) :: (L + 1, isCell (.ref R)) :: (L + 2, isCell (.ref a)) :: rs.map fun r => (r.1, isI r.2)) rfl
      repeat walk_at "m go"
      refine flat h8 gn' s rfl rfl rfl rfl fun k8 => ?_
      refine r_nameC H9 (c := L + 1) (v := .ref R) (mI 3 rfl) rfl rfl rfl (by decide) ?_
      refine r_forC (c := L + 3) C'.hnd rfl rfl rfl (cM _ (by show L < L + 3; omega)) hR3 H9 ?_ (fun i' m' ls' => ls' = (it, isIt R (i + 1)) :: (L + 1, isCell (.ref R)) :: (L + 2, isCell (.ref a)) :: rs.map fun r => (r.1, isI r.2)) rfl ?_ ?_
      · exact ac (hne _ (mI 1 rfl)).1.symm (ac l12.2.1.symm (ac l12.2.2.symm fun p hp => (neR p hp).2))
      · rintro Nx2 j v' it2 h10 tk10 m10 _ hNx2 hit2n hv' rfl hne2 hit2R hit2c H10
        obtain ⟨⟨b, nb⟩, hrb, rfl⟩ := valR j v' hv'
        have ga : goodB na = true := (hgood _ hra).2.1
        have gb : goodB nb = true := (hgood _ hrb).2.1
        have ma : (a, isI na) ∈ rs.map (fun r => ((r.1, isI r.2) : Addr × (Obj → Prop))) := memR _ hra
        have mb : (b, isI nb) ∈ rs.map (fun r => ((r.1, isI r.2) : Addr × (Obj → Prop))) := memR _ hrb
        have la := good_len ga
        have lb := good_len gb
        have hsz := sldP_length na nb
        refine flat h10 gn' s rfl rfl rfl rfl fun k10 => ?_
        repeat walk_at "m go"
        refine r_nameC H10 (c := L + 2) (v := .ref a) (mI 5 rfl) rfl rfl rfl (by decide) ?_
        repeat walk_at "m go"
        refine r_nameC H10 (c := L + 3) (v := .ref b) (mI 2 rfl) rfl rfl rfl (by decide) ?_
        repeat walk_at "m go"
        refine sld_spec C' H10.gd (H10.li (mD 6 ma)) (H10.li (mD 6 mb)) (by omega) (by omega) (good_pw ga) (good_pw gb) fun h11 tk11 T r q hk11 hT hr hq hrq hbr hbq hnr hnq hnT => ?_
        obtain ⟨H11, hne11, hM11⟩ := H10.callR hk11 hr hbr hnr
        obtain ⟨oq, hoq, hPq⟩ := hq
        have H12 := H11.more hoq hPq (LI.frs ⟨oq, hoq, hPq⟩ H11.ff)
        refine flat h11 gn' s rfl rfl rfl rfl fun k11 => ?_
        refine r_unpack2 (s := ⟨h11, gn', s.drawn, k11, s.os⟩) C'.hnd H12 hT fun h12 H12 => ?_
        repeat walk_at "m go"
        walk_at "m store"; intro h13 _ H13
        repeat walk_at "m go"
        walk_at "m store"; intro h14 _ H14
        repeat walk_at "m go"
        refine flat h14 gn' s rfl rfl rfl rfl fun k14 => ?_
        refine r_compI (ax := a) (ns := na) (fun k => !hasI nb k) C'.hnd (by with_unfolding_all rfl) (by decide) rfl (by decide) rfl (fun _ => rfl) H14 (H14.li (mD 8 ma)) (Nat.le_trans la (by decide))
          (fun Q' hq => r_nameC H14 (c := L + 2) (v := .ref a) (mI 7 rfl) rfl rfl rfl (by decide) hq)
          (fun C k t s₂ m₂ E' hn hm hk => t_notin rfl rfl rfl rfl (by decide) (by decide) hn hm (CV.ext (c := L + 3) (H14.get (mI 4 rfl)) hk) (LI.ext (H14.li (mD 8 mb)) hk))
          (fun C v s₂ m₂ E' hn hm => t_elt rfl rfl (by decide) hn hm) fun D1 h15 tk15 H15 hD1 _ _ => ?_
        refine flat h15 gn' s rfl rfl rfl rfl fun k15 => ?_
        refine r_neE (H15.li (mI 2 rfl)) (H15.li (mI 0 rfl)) (sld_one (good_ok ga) (good_ok gb)) (by have := C'.units; omega) ?_
        repeat walk_at "m go"
        have H15 := H15.sub (fun p hp => .tail _ hp)
        refine r_compI (ax := b) (ns := nb) (fun k => !hasI na k) C'.hnd (by with_unfolding_all rfl) (by decide) rfl (by decide) rfl (fun _ => rfl) H15 (H15.li (mD 8 mb)) (Nat.le_trans lb (by decide))
          (fun Q' hq => r_nameC H15 (c := L + 3) (v := .ref b) (mI 4 rfl) rfl rfl rfl (by decide) hq)
          (fun C k t s₂ m₂ E' hn hm hk => t_notin rfl rfl rfl rfl (by decide) (by decide) hn hm (CV.ext (c := L + 2) (H15.get (mI 7 rfl)) hk) (LI.ext (H15.li (mD 8 ma)) hk))
          (fun C v s₂ m₂ E' hn hm => t_elt rfl rfl (by decide) hn hm) fun D2 h16 tk16 H16 hD2 _ _ => ?_
        refine flat h16 gn' s rfl rfl rfl rfl fun k16 => ?_
        refine r_neE (H16.li (mI 1 rfl)) (H16.li (mI 0 rfl)) (sld_two (good_ok ga) (good_ok gb)) (by have := C'.units; omega) ?_
        repeat walk_at "m go"
        have H16 := H16.sub (fun p hp => .tail _ hp)
        refine r_nameC H16 (c := L + 2) (v := .ref a) (mI 7 rfl) rfl rfl rfl (by decide) ?_
        repeat walk_at "m go"
        refine r_all H16 (H16.li (mD 8 ma)) (Nat.le_trans la (by decide)) (by with_unfolding_all rfl) (fun _ => rfl) fun c1 h17 H17 hc1 hMc1 hnc1 => ?_
        repeat walk_at "m go"
        refine r_nameC H17 (c := L + 3) (v := .ref b) (mI 5 rfl) rfl rfl rfl (by decide) ?_
        repeat walk_at "m go"
        refine r_all H17 (H17.li (mD 9 mb)) (Nat.le_trans lb (by decide)) (by with_unfolding_all rfl) (fun _ => rfl) fun c2 h18 H18 hc2 hMc2 hnc2 => ?_
        refine flat h18 gn' s rfl rfl rfl rfl fun k18 => ?_
        repeat walk_at "m go"
        refine uld_spec C' H18.gd (H18.li (mI 1 rfl)) (H18.li (mI 0 rfl)) (hc2 _ (mI 0 rfl)) hMc1.1 hMc2.1 (by omega) (by omega) fun h19 tk19 T2 r2 hk19 hT2 hr2 hlc2 hbr2 hnr2 hnT2 => ?_
        have in2 : ∀ x ∈ [c1, c2], Mu base s.heap [] x := fun x hx => by
          rcases List.mem_cons.mp hx with rfl | hx
          · exact hMc1
          · rw [List.mem_singleton.mp hx]; exact hMc2
        have H19 := H18.call hk19 (fun x hx => (in2 x hx).1) (fun x hx => (in2 x hx).2) (fun p hp => ⟨.tail _ (.tail _ hp), fun z => by
          rcases List.mem_cons.mp z with z | z
          · exact hc1 p hp z
          · exact hc2 p (.tail _ hp) (List.mem_singleton.mp z)⟩)
        obtain ⟨or2, hor2, hPr2⟩ := hr2
        obtain ⟨oc2, hoc2, hPc2⟩ := hlc2
        have H20 := (H19.more hor2 hPr2 (LI.frs ⟨or2, hor2, hPr2⟩ H19.ff)).more hoc2 hPc2 (LI.frs ⟨oc2, hoc2, hPc2⟩ H19.ff)
        refine flat h19 gn' s rfl rfl rfl rfl fun k19 => ?_
        refine r_unpack2 (s := ⟨h19, gn', s.drawn, k19, s.os⟩) C'.hnd H20 hT2 fun h20 H20 => ?_
        repeat walk_at "m go"
        walk_at "m store"; intro h21 _ H21
        repeat walk_at "m go"
        walk_at "m store"; intro h22 _ H22
        repeat walk_at "m go"
        refine wpAny_UnaryOp ?_
        repeat walk_at "m go"
        refine PyProof.Rows.neg_int ?_
        have luld : (uldF na nb []).1.length ≤ 24 := by rw [← List.length_reverse, uld_one (good_ok ga) (good_ok gb)]; omega
        refine r_rev H22 (H22.li (mI 1 rfl)) (Nat.le_trans luld (by decide)) (by with_unfolding_all rfl) (fun _ => rfl) fun c3 h23 H23 hc3 _ _ => ?_
        refine flat h23 gn' s rfl rfl rfl rfl fun k23 => ?_
        repeat walk_at "m go"
        refine r_neE (H23.li (mI 0 rfl)) (H23.li (mI 4 rfl)) (uld_one (good_ok ga) (good_ok gb)) (by have := C'.units; omega) ?_
        repeat walk_at "m go"
        refine r_neE (H23.li (mI 1 rfl)) (H23.li (mI 3 rfl)) (uld_two (good_ok ga) (good_ok gb)) (by have := C'.units; omega) ?_
        repeat walk_at "m go"
        have H23 := H23.sub (fun p hp => .tail _ (.tail _ (.tail _ hp)))
        refine inorder_spec C' H23.gd (H23.li (mI 1 rfl)) (H23.li (mI 0 rfl)) (by omega) fun h24 tk24 r4 hk24 hl24 hb24 hn24 => ?_
        obtain ⟨H24, _, _⟩ := H23.callR (P := isI _) hk24 hl24 hb24 hn24
        refine flat h24 gn' s rfl rfl rfl rfl fun k24 => ?_
        repeat walk_at "m go"
        refine r_compN 25 (fun k => hasI na k != hasI nb k) C'.hnd (by with_unfolding_all rfl) (by decide) rfl (by decide) rfl (fun _ => rfl) H24 (by decide) (by decide) (by decide) (fun Q' hq => ?_)
          (fun C k t s₂ m₂ E' hn hm hk => t_xor rfl rfl rfl rfl rfl rfl (by decide) (by decide) (by decide) hn hm (CV.ext (c := L + 2) (H24.get (mI 8 rfl)) hk) (LI.ext (H24.li (mD 9 ma)) hk) (CV.ext (c := L + 3) (H24.get (mI 5 rfl)) hk) (LI.ext (H24.li (mD 9 mb)) hk))
          (fun C v s₂ m₂ E' hn hm => t_elt rfl rfl (by decide) hn hm) fun D3 h25 tk25 H25 hD3 _ => ?_
        · repeat walk_at "m go"
          exact call_range_1 (hq _ _ _ _ _ _ (fun b o e => Heap.get?_push_of_some _ e) (Heap.get?_push_size _ rfl))
        refine flat h25 gn' s rfl rfl rfl rfl fun k25 => ?_
        refine r_neE (H25.li (mI 1 rfl)) (H25.li (mI 0 rfl)) (ord_two (good_ok ga) (good_ok gb)) (by have := C'.units; omega) ?_
        repeat walk_at "m go"
        exact hNx2 h25 k25 (mOf H25) _ rfl hne2 (H25.sub fun p hp => mD 4 hp)
      · rintro h11 tk11 m11 _ rfl hc3 H11
        repeat walk_at "m go"
        exact hNx h11 tk11 m11 _ rfl hne (H11.pickAs [2, 0, 4, 3, 1] 5 _ rfl)
    · rintro h30 tk30 m30 _ rfl hc30 H30
      refine flat h30 gn' s rfl rfl rfl rfl fun k30 => ?_
      repeat walk_at "m go"
      have hli : ∀ r ∈ rs, LI h30 r.1 r.2 := fun r hr => H30.li (mD 4 (memR r hr))
      refine r_assignN 25 (fun k => ((((rs.filter fun r => hasI r.2 k).length : Nat) : Int).fmod 2 == 1)) C'.hnd (by with_unfolding_all rfl) (by with_unfolding_all rfl) rfl (by decide) (fun _ => rfl) (fun _ => rfl) rfl (by decide) rfl rfl (fun _ => rfl) H30 (by decide) (by decide) (by decide) (fun Q' hq => ?_) (fun Cc c k t s₂ E' hcv hext => ?_) fun D31 h31 tk31 H31 => ?_
      · repeat walk_at "m go"
        exact call_range_1 (hq _ _ _ _ _ _ (fun b o e => Heap.get?_push_of_some _ e) (Heap.get?_push_size _ rfl))
      · refine wpAny_tests_one ?_
        repeat walk_at "m go"
        refine n_boot C' (fun b o e => hext b o (H30.fr.keep b o e)) (by k_dflt k_is) (by boot_by_name) (by decide) rfl rfl rfl rfl (by decide) ?_
        repeat walk_at "m go"
        refine r_compK (ax := R) (vs := rs.map fun r => .ref r.1) (hasV h30 k) C'.hnd (by with_unfolding_all rfl) (by decide) rfl (by decide) rfl (fun _ => rfl) ((H30.lv (mI 0 rfl)).ext hext).isList (by rw [List.length_map, hrl]; decide)
          (fun Q' hq => n_cel (c := L + 1) rfl rfl rfl (CV.ext (H30.get (mI 2 rfl)) hext) (by decide) hq)
          (fun Ci v s₃ m₃ E₃ hv hn hm hext₃ => ?_)
          (fun Ci v s₃ m₃ E₃ hn hm => t_elt rfl rfl (by decide) hn hm) fun Di h' tki hexti hli' => ?_
        · obtain ⟨r, hr, rfl⟩ := List.mem_map.mp hv
          rw [hasV_of (hli r hr)]
          exact t_in rfl rfl rfl rfl (by decide) (by decide) hn hm (CV.ext hcv hext₃) (LI.ext (LI.ext (hli r hr) hext) hext₃)
        repeat walk_at "m go"
        refine r_lenE hli' (by rw [List.size_toArray, filter_refs hli]) (by have := List.length_filter_le (fun r : Addr × List Int => hasI r.2 k) rs; omega) fun t3 tk3 => ?_
        repeat walk_at "m go"
        exact ⟨rfl, h', _, rfl, hexti⟩
      · refine flat h31 gn' s rfl rfl rfl rfl fun k31 => ?_
        obtain ⟨x0, x1, x2, rfl⟩ : ∃ x0 x1 x2, rs = [x0, x1, x2] := by
          match rs, hrl with
          | [x0, x1, x2], _ => exact ⟨x0, x1, x2, rfl⟩
        have g0 := good_ok (hgood x0 (mI 0 rfl)).2.1
        have g1 := good_ok (hgood x1 (mI 1 rfl)).2.1
        have g2 := good_ok (hgood x2 (mI 2 rfl)).2.1
        have s0 := g0.len
        have s1 := g1.len
        have s2 := g2.len
        have g01 := apt_ok g0 g1
        have g12 := apt_ok g1 g2
        repeat walk_at "m go"
        refine r_nameC H31 (c := L + 1) (v := .ref R) (mI 3 rfl) rfl rfl rfl (by decide) ?_
        repeat walk_at "m go"
        refine item_listL (H31.lv (mI 1 rfl)).isList (by decide) (by decide) (x := .ref x0.1) rfl ?_ (by with_unfolding_all rfl) (fun _ => rfl)
        repeat walk_at "m go"
        refine r_nameC H31 (c := L + 1) (v := .ref R) (mI 3 rfl) rfl rfl rfl (by decide) ?_
        repeat walk_at "m go"
        refine item_listL (H31.lv (mI 1 rfl)).isList (by decide) (by decide) (x := .ref x1.1) rfl ?_ (by with_unfolding_all rfl) (fun _ => rfl)
        repeat walk_at "m go"
        refine apart_spec C' H31.gd (H31.li (a := x0.1) (ns := x0.2) (mI 5 rfl)) (H31.li (a := x1.1) (ns := x1.2) (mI 6 rfl)) (by omega) (by omega) g0.pw g1.pw fun h32 tk32 r32 k32 l32 b32 n32 => ?_
        obtain ⟨H32, _, _⟩ := H31.callR (P := isI _) k32 l32 b32 n32
        refine flat h32 gn' s rfl rfl rfl rfl fun k32 => ?_
        repeat walk_at "m go"
        refine r_nameC H32 (c := L + 1) (v := .ref R) (mI 4 rfl) rfl rfl rfl (by decide) ?_
        repeat walk_at "m go"
        refine item_listL (H32.lv (mI 2 rfl)).isList (by decide) (by decide) (x := .ref x2.1) rfl ?_ (by with_unfolding_all rfl) (fun _ => rfl)
        repeat walk_at "m go"
        refine ⟨Frag.In.keeps C'.X H32.fr.keep, ?_⟩
        refine apart_spec C' H32.gd (H32.li (mI 0 rfl)) (H32.li (a := x2.1) (ns := x2.2) (mI 8 rfl)) (by have := g01.len; omega) (by omega) g01.pw g2.pw fun h33 tk33 r33 k33 l33 b33 n33 => ?_
        obtain ⟨H33, _, _⟩ := H32.callR (P := isI _) k33 l33 b33 n33
        refine flat h33 gn' s rfl rfl rfl rfl fun k33 => ?_
        repeat walk_at "m go"
        refine r_neE (H33.li (mI 0 rfl)) (H33.li (mI 2 rfl)) (odd_l g0 g1 g2) (by have := C'.units; omega) ?_
        repeat walk_at "m go"
        refine r_nameC H33 (c := L + 1) (v := .ref R) (mI 5 rfl) rfl rfl rfl (by decide) ?_
        repeat walk_at "m go"
        refine item_listL (H33.lv (mI 3 rfl)).isList (by decide) (by decide) (x := .ref x0.1) rfl ?_ (by with_unfolding_all rfl) (fun _ => rfl)
        repeat walk_at "m go"
        refine r_nameC H33 (c := L + 1) (v := .ref R) (mI 5 rfl) rfl rfl rfl (by decide) ?_
        repeat walk_at "m go"
        refine item_listL (H33.lv (mI 3 rfl)).isList (by decide) (by decide) (x := .ref x1.1) rfl ?_ (by with_unfolding_all rfl) (fun _ => rfl)
        repeat walk_at "m go"
        refine r_nameC H33 (c := L + 1) (v := .ref R) (mI 5 rfl) rfl rfl rfl (by decide) ?_
        repeat walk_at "m go"
        refine item_listL (H33.lv (mI 3 rfl)).isList (by decide) (by decide) (x := .ref x2.1) rfl ?_ (by with_unfolding_all rfl) (fun _ => rfl)
        repeat walk_at "m go"
        refine apart_spec C' H33.gd (H33.li (a := x1.1) (ns := x1.2) (mI 8 rfl)) (H33.li (a := x2.1) (ns := x2.2) (mI 9 rfl)) (by omega) (by omega) g1.pw g2.pw fun h34 tk34 r34 k34 l34 b34 n34 => ?_
        obtain ⟨H34, _, _⟩ := H33.callR (P := isI _) k34 l34 b34 n34
        refine flat h34 gn' s rfl rfl rfl rfl fun k34 => ?_
        repeat walk_at "m go"
        try refine ⟨Frag.In.keeps C'.X H34.fr.keep, ?_⟩
        refine apart_spec C' H34.gd (H34.li (a := x0.1) (ns := x0.2) (mI 8 rfl)) (H34.li (mI 0 rfl)) (by omega) (by have := g12.len; omega) g0.pw g12.pw fun h35 tk35 r35 k35 l35 b35 n35 => ?_
        obtain ⟨H35, _, _⟩ := H34.callR (P := isI _) k35 l35 b35 n35
        refine flat h35 gn' s rfl rfl rfl rfl fun k35 => ?_
        repeat walk_at "m go"
        refine r_neE (H35.li (mI 0 rfl)) (H35.li (mI 4 rfl)) (odd_r g0 g1 g2) (by have := C'.units; omega) ?_
        repeat walk_at "m go"
        refine r_newInts H35 (ns := [0, 3]) (.cons _ _ (.cons _ _ .nil)) (by decide) fun K36 h36 H36 _ _ _ => ?_
        repeat walk_at "m go"
        try refine ⟨Frag.In.keeps C'.X H36.fr.keep, ?_⟩
        refine told_raise C' H36.gd (H36.li (mI 0 rfl)) rfl fun h37 tk37 gn37 e k37 y37 bare37 => ?_
        have H37 := (H36.sub (ls' := []) (fun p hp => nomatch hp)).callN k37
        have y37' := y37.mono (hI' := s.heap) fun b q _ => H36.kp.none q
        refine flat h37 gn37 s rfl rfl rfl rfl fun k37' => ?_
        refine r_caught3 C.X C.T C'.stack (s := ⟨h37, gn37, s.drawn, k37', s.os⟩) H37 noRec_nil (.inr (.inr y37')) ?q1 PyProof.Rows.Boot.«ValueError» (by decide) rfl rfl (by decide) PySem.F.isExc_ValueError PySem.F.notTuple_ValueError (by rw [isSubtype_type]; kernel_rfl) fun h38 H38 => ?_
        (case q1 => k_dflt k_is)
        repeat walk_at "m go"
        exact hQ h38 k37' gn37 H38.kp (fun z => bare37 (hB z))
end
section
theorem well_li {P : Params} {h : Heap} {l : Addr} {vs : List Value} {xs : List WData} {ns : List Int} (hw : Well P h (.ref l) (.list xs)) (hL : h.IsList l vs.toArray) (hI : IntsAre vs ns) : LI h l ns := by
  cases hw with
  | @list _ vs' _ ho _ =>
    obtain ⟨o, ho', _, n, hd⟩ := hL
    rw [ho] at ho'
    cases ho'
    have e : vs' = vs := by
      injection hd with e
      simpa using e
    exact ⟨_, ho, vs, 0, by rw [e], hI⟩
end
end Mine
open Mine
theorem PySem.Challenge.cw_of0016_01_holds : PySem.Challenge.rw_of0016_01.Holds := by
  refine Mine.hd ?_
  k_fill
  intro w s₀ s₁ mg mb G Y fa o pm cd doc dV kV ho hd' hcd hD hmg hg args vals as hpre hlay hrd hwl hlo
  have KX := kIn_of Y
  refine Ground.open G ?_
  intro T B D TE TW
  have hfa : mg (Str.ofString "law") = some (.ref 96) := mg_of KX T.g (by k_dflt k_is)
  have hfa2 : some (Value.ref fa) = some (.ref 96) := hmg.symm.trans hfa
  have hfa3 : fa = 96 := by injection hfa2 with q; injection q
  subst hfa3
  wrow_args hpre hlay hrd hwl hlo
  rename_i ns hs hlay0 hL1 hr1 hl2 as4 as3 l vs as0 hL ra hw r0 hI hr hc1 hc0
  have hli : LI s₁.heap l ns := well_li hw hL hI
  have hlen : ns.length ≤ sizeLine := by
    have : (63 : Nat) ≤ sizeLine := by decide
    omega
  show wpAny (Md w) callerA (call (.ref 96) [.ref l]) _ _ s₁
  refine law_spec (n := 0) (envs := []) (base := s₁.heap) ⟨rfl, rfl, by decide +kernel, by decide +kernel, KX, T⟩ ⟨fun _ _ e => e, (fun e he => nomatch he), Nat.le_refl _⟩ hli hlen fun h' tk' gn' hk hb => ?_
  refine ⟨.inl ⟨.bool true, .bool true, [], rfl, fun cls => ?_, .bool true, ?_, fun _ => ⟨.nil, fun _ q => nomatch q⟩⟩, .of_keep fun b o e => hk.keep b o e (fun q => nomatch q) (fun q => nomatch q), rfl, hb (by rw [hg]; exact .of_eq rfl)⟩
  · rfl
  · first | kernel_rfl | with_unfolding_all rfl
